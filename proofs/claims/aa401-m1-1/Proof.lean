import JvmDerived
import JvmDerived.Pilot.@@N@@Statement
import JvmDerived.Pilot.@@N@@Code
set_option linter.unusedVariables false
set_option linter.unusedSimpArgs false
namespace Jvm.RoadKit
open Sem ClassFile Op Lib Jvm.Stand Jvm.Free Jvm.LawKit
section New
variable {p : Program} {l : Launch} {e : Env} {R : Room} {s : State} {m : MethodId} {args : Array Value} {below : List Frame} {meth : Method} {c : Code} {T : State} {locs : List Loc} {cells slots : Nat}
theorem retI (X : Stand p l e R s m args below meth c T locs cells slots) (hx : p.tables.exec = Jvm.exec) {pc : Nat} {Ls : Array Slot} {z : Int32} {rest : List Value} (hret : meth.sig.returnType = some .int) (hd : decode c.code pc = .ok (.ireturn, 1)) {fs : List Frame}
    (hl : ∀ (f : JFrame) (acts : List Action), f.method = m → f.locked = none → f.entered = [] → (doReturn e (T.setTop f) acts (some (.int z))).1 = T.setFrames fs) : Steps p.tables e below (T.setTop (mkF m pc Ls (.int z :: rest))) (T.setFrames fs) := by
  have hm' : T.vm.method? m = some meth := X.method'
  have hn : narrow .int (.int z) = .int z := rfl
  show Steps p.tables e below (T.setTop { method := m, pc := pc, locals := Ls, stack := _ :: rest, locked := none }) _
  jvm_step X.here [X.here.top, hx, hd, hm', hret, hn]
  first | (intro acts; rw [hl _ acts rfl rfl rfl]) | rw [hl _ _ rfl rfl rfl]
  exact Steps.refl _
end New
/-- the run from the state A ends as asked: what is left of the goal while one walks -/
def own_End (p : Program) (e : Env) (below : List Frame) (s A : State) (W : Option Value → Heap → List Loc → Prop) (k n : Nat) : Prop :=
  ∃ s₂ o, Steps p.tables e below A s₂ ∧ s₂.status = .running ∧ Ended s₂ below o ∧ ∃ v L, o = .returned v ∧ W v s₂.heap L ∧ FrameEnd s o s₂ L k n
theorem own_pre {p : Program} {e : Env} {below : List Frame} {s A B : State} {W : Option Value → Heap → List Loc → Prop} {k n : Nat} (f : ∀ t, Steps p.tables e below A t → Steps p.tables e below B t) (h : own_End p e below s A W k n) : own_End p e below s B W k n := by
  obtain ⟨s₂, o, h1, h2⟩ := h; exact ⟨s₂, o, f _ h1, h2⟩
end Jvm.RoadKit
namespace Jvm.RoadKit
open Sem ClassFile Op Lib Jvm.Stand Jvm.Free Jvm.LawKit
/-- an array of n places, the i-th of which holds f i -/
def own_Arr (Z : State) (h : Heap) (a : Addr) (ty : FieldType) (n : Int32) (f : Nat → Value) : Prop := ∃ c : Cell, Arr Z h a c ty ∧ c.slots.size = n.toNatClampNeg ∧ ¬ n < 0 ∧ ∀ i, i < n.toNatClampNeg → c.slots[i]? = some (f i)
section Arrays
variable {Z : State} {h h' : Heap} {a b : Addr} {ty : FieldType} {n j : Int32} {f f' : Nat → Value} {sl : Nat} {v : Value} {ws : List Addr}
theorem own_Arr.lt (F : own_Arr Z h a ty n f) : a < h.size := by obtain ⟨c, A, -⟩ := F; exact A.lt
theorem own_Arr.ext (F : own_Arr Z h a ty n f) (E : Ext h h') : own_Arr Z h' a ty n f := by obtain ⟨c, A, r⟩ := F; exact ⟨c, A.ext E, r⟩
theorem own_Arr.other (F : own_Arr Z h b ty n f) (W : Wr h h' a sl v) (q : b ≠ a) : own_Arr Z h' b ty n f := by obtain ⟨c, A, r⟩ := F; exact ⟨c, A.other W q, r⟩
theorem own_Arr.keep (F : own_Arr Z h a ty n f) (K : Keep h h' ws) (q : a ∉ ws) : own_Arr Z h' a ty n f := by obtain ⟨c, A, r⟩ := F; exact ⟨c, ⟨K.2.1 a c A.1 q, A.2⟩, r⟩
theorem own_Arr.new {k : ClassId} (A : Arr Z h a (newA k ty n) ty) (q : ¬ n < 0) (hf : ∀ i, f i = defaultValue ty) : own_Arr Z h a ty n f :=
  ⟨_, A, sz_new _ _ _, q, fun i hi => by rw [hf]; simp [newA, hi]⟩
theorem own_Arr.set {α : Type} (w : α → Value) {g g' : Nat → α} {x : α} {q : Nat} (F : own_Arr Z h a ty n (fun i => w (g i))) (W : Wr h h' a j.toNatClampNeg (w x)) (hj : j.toNatClampNeg = q) (hg : ∀ i, g' i = if i = q then x else g i) : own_Arr Z h' a ty n (fun i => w (g' i)) := by
  obtain ⟨c, A, r1, r2, r3⟩ := F
  subst hj
  refine ⟨_, A.same W, by rw [sz_set]; exact r1, r2, fun i hi => ?_⟩
  show _ = some (w (g' i))
  rw [hg]
  by_cases e : i = j.toNatClampNeg
  · subst e
    rw [if_pos rfl]; simp [Cell.setSlot, r1, hi]
  · rw [if_neg e]
    rw [← r3 i hi]; exact Array.getElem?_setIfInBounds_ne (Ne.symm e)
theorem own_Arr.congr {α : Type} (w : α → Value) {g g' : Nat → α} (F : own_Arr Z h a ty n (fun i => w (g i))) (hg : ∀ i, i < n.toNatClampNeg → g' i = g i) : own_Arr Z h a ty n (fun i => w (g' i)) := by
  obtain ⟨c, A, r1, r2, r3⟩ := F
  exact ⟨c, A, r1, r2, fun i hi => by show _ = some (w (g' i)); rw [hg i hi]; exact r3 i hi⟩
theorem own_at {c : Cell} (S : c.slots.size = n.toNatClampNeg) (G : ∀ i, i < n.toNatClampNeg → c.slots[i]? = some (f i)) (hj : ¬ (j < 0 ∨ c.slots.size ≤ j.toNatClampNeg)) : c.slots[j.toNatClampNeg]? = some (f j.toNatClampNeg) := G _ (by rw [← S]; exact Nat.lt_of_not_le fun y => hj (Or.inr y))
theorem own_nn {n : Int32} (h : ¬ n < 0) : 0 ≤ n.toInt ∧ n.toInt = n.toNatClampNeg := by
  have e := nat_of h
  exact ⟨by omega, e⟩
theorem own_Arr.nn (F : own_Arr Z h a ty n f) : 0 ≤ n.toInt ∧ n.toInt = n.toNatClampNeg := by obtain ⟨c, A, r1, r2, r3⟩ := F; exact own_nn r2
theorem own_ge0 {i : Int32} (h : 0 ≤ i.toInt) : ¬ i < 0 := fun q => by
  have := Int32.lt_iff_toInt_lt.mp q
  have z : (0 : Int32).toInt = 0 := by decide
  omega
theorem own_inb {i n : Int32} (h0 : 0 ≤ i.toInt) (h : i < n) : ¬ i < 0 ∧ i < n := ⟨own_ge0 h0, h⟩
theorem own_inb2 {i n : Int32} (h0 : 0 ≤ i.toInt) (h : i.toInt < n.toInt) : ¬ i < 0 ∧ i < n := ⟨own_ge0 h0, Int32.lt_iff_toInt_lt.mpr h⟩
theorem own_next {i n : Int32} (h0 : 0 ≤ i.toInt) (h : i < n) : (i + 1).toInt = i.toInt + 1 ∧ i.toInt < n.toInt := by
  have q := Int32.lt_iff_toInt_lt.mp h
  have a := c_iadd i 1
  have z : (1 : Int32).toInt = 1 := by decide
  have r1 := rng32 (i + 1)
  have r2 := rng32 n
  omega
end Arrays
end Jvm.RoadKit
namespace Jvm.Pilot.@@N@@
open Jvm Jvm.ClassFile Sem Op Lib Jvm.Free Jvm.Stand Jvm.LawKit Jvm.RoadKit Bundle Jvm.Pilot.@@N@@.Jvm.D
def own_base_189 (p1 : Int32)  : Int32 := (0 : Int32)
def own_base_185 (p1 : Int32)  : Int32 := (1 : Int32)
def own_base_173 (p1 : Int32)  : Int32 := (if p1 < (65536 : Int32) then (own_base_189 p1 ) else (if (983039 : Int32) < p1 then (own_base_189 p1 ) else (own_base_185 p1 )))
def own_base_161 (p1 : Int32)  : Int32 := (if p1 < (65008 : Int32) then (own_base_173 p1 ) else (if (65533 : Int32) < p1 then (own_base_173 p1 ) else (own_base_185 p1 )))
def own_base_149 (p1 : Int32)  : Int32 := (if p1 < (63744 : Int32) then (own_base_161 p1 ) else (if (64975 : Int32) < p1 then (own_base_161 p1 ) else (own_base_185 p1 )))
def own_base_136 (p1 : Int32)  : Int32 := (if p1 < (12289 : Int32) then (own_base_149 p1 ) else (if (55295 : Int32) < p1 then (own_base_149 p1 ) else (own_base_185 p1 )))
def own_base_122 (p1 : Int32)  : Int32 := (if p1 < (11264 : Int32) then (own_base_136 p1 ) else (if (12271 : Int32) < p1 then (own_base_136 p1 ) else (own_base_185 p1 )))
def own_base_108 (p1 : Int32)  : Int32 := (if p1 < (8304 : Int32) then (own_base_122 p1 ) else (if (8591 : Int32) < p1 then (own_base_122 p1 ) else (own_base_185 p1 )))
def own_base_94 (p1 : Int32)  : Int32 := (if p1 < (8204 : Int32) then (own_base_108 p1 ) else (if (8205 : Int32) < p1 then (own_base_108 p1 ) else (own_base_185 p1 )))
def own_base_80 (p1 : Int32)  : Int32 := (if p1 < (895 : Int32) then (own_base_94 p1 ) else (if (8191 : Int32) < p1 then (own_base_94 p1 ) else (own_base_185 p1 )))
def own_base_66 (p1 : Int32)  : Int32 := (if p1 < (880 : Int32) then (own_base_80 p1 ) else (if (893 : Int32) < p1 then (own_base_80 p1 ) else (own_base_185 p1 )))
def own_base_52 (p1 : Int32)  : Int32 := (if p1 < (248 : Int32) then (own_base_66 p1 ) else (if (767 : Int32) < p1 then (own_base_66 p1 ) else (own_base_185 p1 )))
def own_base_38 (p1 : Int32)  : Int32 := (if p1 < (216 : Int32) then (own_base_52 p1 ) else (if (246 : Int32) < p1 then (own_base_52 p1 ) else (own_base_185 p1 )))
def own_base_24 (p1 : Int32)  : Int32 := (if p1 < (192 : Int32) then (own_base_38 p1 ) else (if (214 : Int32) < p1 then (own_base_38 p1 ) else (own_base_185 p1 )))
def own_base_12 (p1 : Int32)  : Int32 := (if p1 < (97 : Int32) then (own_base_24 p1 ) else (if (122 : Int32) < p1 then (own_base_24 p1 ) else (own_base_185 p1 )))
def own_base (p1 : Int32) : Int32 := (if p1 < (65 : Int32) then (own_base_12 p1 ) else (if (90 : Int32) < p1 then (own_base_12 p1 ) else (own_base_185 p1 )))
theorem d1_0 : decode prog_52_method_22_code 0 = .ok (.iload_n 0, 1) := by decide +kernel
theorem d1_1 : decode prog_52_method_22_code 1 = .ok (.bipush 65, 2) := by decide +kernel
theorem d1_3 : decode prog_52_method_22_code 3 = .ok (.if_icmp .lt 9, 3) := by decide +kernel
theorem d1_6 : decode prog_52_method_22_code 6 = .ok (.iload_n 0, 1) := by decide +kernel
theorem d1_7 : decode prog_52_method_22_code 7 = .ok (.bipush 90, 2) := by decide +kernel
theorem d1_9 : decode prog_52_method_22_code 9 = .ok (.if_icmp .le 176, 3) := by decide +kernel
theorem d1_12 : decode prog_52_method_22_code 12 = .ok (.iload_n 0, 1) := by decide +kernel
theorem d1_13 : decode prog_52_method_22_code 13 = .ok (.bipush 97, 2) := by decide +kernel
theorem d1_15 : decode prog_52_method_22_code 15 = .ok (.if_icmp .lt 9, 3) := by decide +kernel
theorem d1_18 : decode prog_52_method_22_code 18 = .ok (.iload_n 0, 1) := by decide +kernel
theorem d1_19 : decode prog_52_method_22_code 19 = .ok (.bipush 122, 2) := by decide +kernel
theorem d1_21 : decode prog_52_method_22_code 21 = .ok (.if_icmp .le 164, 3) := by decide +kernel
theorem d1_24 : decode prog_52_method_22_code 24 = .ok (.iload_n 0, 1) := by decide +kernel
theorem d1_25 : decode prog_52_method_22_code 25 = .ok (.sipush 192, 3) := by decide +kernel
theorem d1_28 : decode prog_52_method_22_code 28 = .ok (.if_icmp .lt 10, 3) := by decide +kernel
theorem d1_31 : decode prog_52_method_22_code 31 = .ok (.iload_n 0, 1) := by decide +kernel
theorem d1_32 : decode prog_52_method_22_code 32 = .ok (.sipush 214, 3) := by decide +kernel
theorem d1_35 : decode prog_52_method_22_code 35 = .ok (.if_icmp .le 150, 3) := by decide +kernel
theorem d1_38 : decode prog_52_method_22_code 38 = .ok (.iload_n 0, 1) := by decide +kernel
theorem d1_39 : decode prog_52_method_22_code 39 = .ok (.sipush 216, 3) := by decide +kernel
theorem d1_42 : decode prog_52_method_22_code 42 = .ok (.if_icmp .lt 10, 3) := by decide +kernel
theorem d1_45 : decode prog_52_method_22_code 45 = .ok (.iload_n 0, 1) := by decide +kernel
theorem d1_46 : decode prog_52_method_22_code 46 = .ok (.sipush 246, 3) := by decide +kernel
theorem d1_49 : decode prog_52_method_22_code 49 = .ok (.if_icmp .le 136, 3) := by decide +kernel
theorem d1_52 : decode prog_52_method_22_code 52 = .ok (.iload_n 0, 1) := by decide +kernel
theorem d1_53 : decode prog_52_method_22_code 53 = .ok (.sipush 248, 3) := by decide +kernel
theorem d1_56 : decode prog_52_method_22_code 56 = .ok (.if_icmp .lt 10, 3) := by decide +kernel
theorem d1_59 : decode prog_52_method_22_code 59 = .ok (.iload_n 0, 1) := by decide +kernel
theorem d1_60 : decode prog_52_method_22_code 60 = .ok (.sipush 767, 3) := by decide +kernel
theorem d1_63 : decode prog_52_method_22_code 63 = .ok (.if_icmp .le 122, 3) := by decide +kernel
theorem d1_66 : decode prog_52_method_22_code 66 = .ok (.iload_n 0, 1) := by decide +kernel
theorem d1_67 : decode prog_52_method_22_code 67 = .ok (.sipush 880, 3) := by decide +kernel
theorem d1_70 : decode prog_52_method_22_code 70 = .ok (.if_icmp .lt 10, 3) := by decide +kernel
theorem d1_73 : decode prog_52_method_22_code 73 = .ok (.iload_n 0, 1) := by decide +kernel
theorem d1_74 : decode prog_52_method_22_code 74 = .ok (.sipush 893, 3) := by decide +kernel
theorem d1_77 : decode prog_52_method_22_code 77 = .ok (.if_icmp .le 108, 3) := by decide +kernel
theorem d1_80 : decode prog_52_method_22_code 80 = .ok (.iload_n 0, 1) := by decide +kernel
theorem d1_81 : decode prog_52_method_22_code 81 = .ok (.sipush 895, 3) := by decide +kernel
theorem d1_84 : decode prog_52_method_22_code 84 = .ok (.if_icmp .lt 10, 3) := by decide +kernel
theorem d1_87 : decode prog_52_method_22_code 87 = .ok (.iload_n 0, 1) := by decide +kernel
theorem d1_88 : decode prog_52_method_22_code 88 = .ok (.sipush 8191, 3) := by decide +kernel
theorem d1_91 : decode prog_52_method_22_code 91 = .ok (.if_icmp .le 94, 3) := by decide +kernel
theorem d1_94 : decode prog_52_method_22_code 94 = .ok (.iload_n 0, 1) := by decide +kernel
theorem d1_95 : decode prog_52_method_22_code 95 = .ok (.sipush 8204, 3) := by decide +kernel
theorem d1_98 : decode prog_52_method_22_code 98 = .ok (.if_icmp .lt 10, 3) := by decide +kernel
theorem d1_101 : decode prog_52_method_22_code 101 = .ok (.iload_n 0, 1) := by decide +kernel
theorem d1_102 : decode prog_52_method_22_code 102 = .ok (.sipush 8205, 3) := by decide +kernel
theorem d1_105 : decode prog_52_method_22_code 105 = .ok (.if_icmp .le 80, 3) := by decide +kernel
theorem d1_108 : decode prog_52_method_22_code 108 = .ok (.iload_n 0, 1) := by decide +kernel
theorem d1_109 : decode prog_52_method_22_code 109 = .ok (.sipush 8304, 3) := by decide +kernel
theorem d1_112 : decode prog_52_method_22_code 112 = .ok (.if_icmp .lt 10, 3) := by decide +kernel
theorem d1_115 : decode prog_52_method_22_code 115 = .ok (.iload_n 0, 1) := by decide +kernel
theorem d1_116 : decode prog_52_method_22_code 116 = .ok (.sipush 8591, 3) := by decide +kernel
theorem d1_119 : decode prog_52_method_22_code 119 = .ok (.if_icmp .le 66, 3) := by decide +kernel
theorem d1_122 : decode prog_52_method_22_code 122 = .ok (.iload_n 0, 1) := by decide +kernel
theorem d1_123 : decode prog_52_method_22_code 123 = .ok (.sipush 11264, 3) := by decide +kernel
theorem d1_126 : decode prog_52_method_22_code 126 = .ok (.if_icmp .lt 10, 3) := by decide +kernel
theorem d1_129 : decode prog_52_method_22_code 129 = .ok (.iload_n 0, 1) := by decide +kernel
theorem d1_130 : decode prog_52_method_22_code 130 = .ok (.sipush 12271, 3) := by decide +kernel
theorem d1_133 : decode prog_52_method_22_code 133 = .ok (.if_icmp .le 52, 3) := by decide +kernel
theorem d1_136 : decode prog_52_method_22_code 136 = .ok (.iload_n 0, 1) := by decide +kernel
theorem d1_137 : decode prog_52_method_22_code 137 = .ok (.sipush 12289, 3) := by decide +kernel
theorem d1_140 : decode prog_52_method_22_code 140 = .ok (.if_icmp .lt 9, 3) := by decide +kernel
theorem d1_143 : decode prog_52_method_22_code 143 = .ok (.iload_n 0, 1) := by decide +kernel
theorem d1_144 : decode prog_52_method_22_code 144 = .ok (.ldc 177, 2) := by decide +kernel
theorem d1_146 : decode prog_52_method_22_code 146 = .ok (.if_icmp .le 39, 3) := by decide +kernel
theorem d1_149 : decode prog_52_method_22_code 149 = .ok (.iload_n 0, 1) := by decide +kernel
theorem d1_150 : decode prog_52_method_22_code 150 = .ok (.ldc 178, 2) := by decide +kernel
theorem d1_152 : decode prog_52_method_22_code 152 = .ok (.if_icmp .lt 9, 3) := by decide +kernel
theorem d1_155 : decode prog_52_method_22_code 155 = .ok (.iload_n 0, 1) := by decide +kernel
theorem d1_156 : decode prog_52_method_22_code 156 = .ok (.ldc 179, 2) := by decide +kernel
theorem d1_158 : decode prog_52_method_22_code 158 = .ok (.if_icmp .le 27, 3) := by decide +kernel
theorem d1_161 : decode prog_52_method_22_code 161 = .ok (.iload_n 0, 1) := by decide +kernel
theorem d1_162 : decode prog_52_method_22_code 162 = .ok (.ldc 180, 2) := by decide +kernel
theorem d1_164 : decode prog_52_method_22_code 164 = .ok (.if_icmp .lt 9, 3) := by decide +kernel
theorem d1_167 : decode prog_52_method_22_code 167 = .ok (.iload_n 0, 1) := by decide +kernel
theorem d1_168 : decode prog_52_method_22_code 168 = .ok (.ldc 181, 2) := by decide +kernel
theorem d1_170 : decode prog_52_method_22_code 170 = .ok (.if_icmp .le 15, 3) := by decide +kernel
theorem d1_173 : decode prog_52_method_22_code 173 = .ok (.iload_n 0, 1) := by decide +kernel
theorem d1_174 : decode prog_52_method_22_code 174 = .ok (.ldc 182, 2) := by decide +kernel
theorem d1_176 : decode prog_52_method_22_code 176 = .ok (.if_icmp .lt 13, 3) := by decide +kernel
theorem d1_179 : decode prog_52_method_22_code 179 = .ok (.iload_n 0, 1) := by decide +kernel
theorem d1_180 : decode prog_52_method_22_code 180 = .ok (.ldc 183, 2) := by decide +kernel
theorem d1_182 : decode prog_52_method_22_code 182 = .ok (.if_icmp .gt 7, 3) := by decide +kernel
theorem d1_185 : decode prog_52_method_22_code 185 = .ok (.iconst 1, 1) := by decide +kernel
theorem d1_186 : decode prog_52_method_22_code 186 = .ok (.goto 4, 3) := by decide +kernel
theorem d1_189 : decode prog_52_method_22_code 189 = .ok (.iconst 0, 1) := by decide +kernel
theorem d1_190 : decode prog_52_method_22_code 190 = .ok (.ireturn, 1) := by decide +kernel
theorem pn_1 : plainName "com/example/solmap/solmap/rdf/TermSyntax" = true := by first | (simp [plainName, overriddenIn]; done) | decide +kernel
theorem ef_1 (m : MethodId) (x0 : Int32) : entryFrame m #[(.int x0)] 1 = mkF m 0 #[.val (.int x0)] [] := by first | (simp [entryFrame, mkF, argsToLocals, Value.category]; done) | rfl
def Q1 (Z : State) (p1 : Int32) (h0 : Heap) (n0 : Nat) (v : Option Value) (h : Heap) (L : List Loc) : Prop := v = some (.int (own_base p1)) ∧ Fr n0 L ∧ h = h0
set_option maxRecDepth 65536 in
set_option maxHeartbeats 40000000 in
theorem rm1 (l : Launch) (Z : State) (a0 : Array Value) (hw : ∀ d ∈ tables_1, d.before a0 Z = true) (ws : List Jvm.Cond) (p1 : Int32) (h0 : Heap) (n0 : Nat) (Z0 : n0 ≤ h0.size) :
    MetFree l (⟨"com/example/solmap/solmap/rdf/TermSyntax", "isPnCharsBase", "(I)Z"⟩ : MethodName) (head1 (Jvm.Cond.code (⟨"com/example/solmap/solmap/rdf/TermSyntax", "isPnCharsBase", "(I)Z"⟩ : MethodName) prog_52_method_22_code 1 (some .boolean) :: ws) ({ frames := 0, cells := 0, slots := 0, locals := 0 } : Room)) (fun a U => a = #[(.int p1)] ∧ Z.Warmed39 U.vm ∧ U.heap = h0) (fun _ _ _ _ _ => True) (fun _ U o U' => ∃ v L, o = .returned v ∧ Q1 Z p1 h0 n0 v U'.heap L ∧ FrameEnd U o U' L ({ frames := 0, cells := 0, slots := 0, locals := 0 } : Room).cells ({ frames := 0, cells := 0, slots := 0, locals := 0 } : Room).slots) := by
  refine MetFree.of_bodySF (plainFor_of_name pn_1) hisR ?_
  intro p e s m args below meth c s₁ Bd hml0 hP hK
  obtain ⟨rfl, hZ, hh⟩ := hP
  have hx := Bd.exec
  have hby := Bd.bytes
  have hml : c.maxLocals = 1 := hml0
  have hown : s.vm.findClass "com/example/solmap/solmap/rdf/TermSyntax" = some m.cls := findClass_of_methodNamed Bd.named
  have hnm := (name_of_methodNamed Bd.named Bd.method).1
  have X0 : Stand p l e ({ frames := 0, cells := 0, slots := 0, locals := 0 } : Room) s m #[(.int p1)] below meth c s₁ [] 0 0 := Stand.of_body Bd
  have e0 : s₁.heap = h0 := by rw [← hh, Bd.state]; rfl
  have N0 := Fr.nil n0
  show own_End p e below s (s₁.setTop (entryFrame m #[(.int p1)] 1)) (Q1 Z p1 h0 n0) ({ frames := 0, cells := 0, slots := 0, locals := 0 } : Room).cells ({ frames := 0, cells := 0, slots := 0, locals := 0 } : Room).slots
  refine own_pre (A := s₁.setTop (mkF m 0 #[.val (.int p1)] [])) (fun tt kt => castTop (ef_1 m p1) kt) ?_
  show own_End p e below s (s₁.setTop (mkF m 0 #[.val (.int p1)] [])) (Q1 Z p1 h0 n0) ({ frames := 0, cells := 0, slots := 0, locals := 0 } : Room).cells ({ frames := 0, cells := 0, slots := 0, locals := 0 } : Room).slots
  have hj : own_base p1 = own_base p1 := rfl
  have j189 : ∀ (Tj189 : State) (Lj189 : List Loc) (Xj189 : Stand p l e ({ frames := 0, cells := 0, slots := 0, locals := 0 } : Room) s m #[(.int p1)] below meth c Tj189 Lj189 0 0) (ej189 : Tj189.heap = h0) (Nj189 : Fr n0 Lj189)  , own_base p1 = own_base_189 p1  → own_End p e below s (Tj189.setTop (mkF m 189 #[.val (.int p1)] [])) (Q1 Z p1 h0 n0) ({ frames := 0, cells := 0, slots := 0, locals := 0 } : Room).cells ({ frames := 0, cells := 0, slots := 0, locals := 0 } : Room).slots := by
    intro Tj189 Lj189 Xj189 ej189 Nj189   hj
    refine own_pre (A := Tj189.setTop (mkF m 190 #[.val (.int p1)] [(.int (0 : Int32))])) (fun tt kt => ?_) ?_
    · show Steps p.tables e below (Tj189.setTop (mkF m 189 #[.val (.int p1)] [])) _
      refine XS.iconst Xj189.here hx rfl (hb hby d1_189) ?_
      exact kt
    show own_End p e below s (Tj189.setTop (mkF m 190 #[.val (.int p1)] [(.int (0 : Int32))])) (Q1 Z p1 h0 n0) ({ frames := 0, cells := 0, slots := 0, locals := 0 } : Room).cells ({ frames := 0, cells := 0, slots := 0, locals := 0 } : Room).slots
    have hv : (own_base p1) = (0 : Int32) := hj.trans (by simp only [own_base_189])
    obtain ⟨fs, hr, hrun, hended, hW, hsame⟩ := Xj189.leave (v := some (.int (0 : Int32))) (fun h => by rw [Bd.returns] at h; cases h)
    refine ⟨_, _, ?_, hrun, hended, _, _, rfl, ?_, ⟨_, rfl⟩, hW, hsame.mono (by decide) (by decide)⟩
    · exact retN Xj189 hx (t := .boolean) Bd.returns (by simp) (hb hby d1_190) hr
    · show Q1 Z p1 h0 n0 _ Tj189.heap _
      rw [ej189]
      exact ⟨(congrArg (fun z => some (Value.int z)) hv.symm), Nj189, rfl⟩
  have j185 : ∀ (Tj185 : State) (Lj185 : List Loc) (Xj185 : Stand p l e ({ frames := 0, cells := 0, slots := 0, locals := 0 } : Room) s m #[(.int p1)] below meth c Tj185 Lj185 0 0) (ej185 : Tj185.heap = h0) (Nj185 : Fr n0 Lj185)  , own_base p1 = own_base_185 p1  → own_End p e below s (Tj185.setTop (mkF m 185 #[.val (.int p1)] [])) (Q1 Z p1 h0 n0) ({ frames := 0, cells := 0, slots := 0, locals := 0 } : Room).cells ({ frames := 0, cells := 0, slots := 0, locals := 0 } : Room).slots := by
    intro Tj185 Lj185 Xj185 ej185 Nj185   hj
    refine own_pre (A := Tj185.setTop (mkF m 190 #[.val (.int p1)] [(.int (1 : Int32))])) (fun tt kt => ?_) ?_
    · show Steps p.tables e below (Tj185.setTop (mkF m 185 #[.val (.int p1)] [])) _
      refine XS.iconst Xj185.here hx rfl (hb hby d1_185) ?_
      show Steps p.tables e below (Tj185.setTop (mkF m 186 #[.val (.int p1)] [(.int (1 : Int32))])) _
      refine XS.goto Xj185.here hx rfl (pc0 := 186) (pc' := 190) rfl (hb hby d1_186) (by decide) (by decide) ?_
      exact kt
    show own_End p e below s (Tj185.setTop (mkF m 190 #[.val (.int p1)] [(.int (1 : Int32))])) (Q1 Z p1 h0 n0) ({ frames := 0, cells := 0, slots := 0, locals := 0 } : Room).cells ({ frames := 0, cells := 0, slots := 0, locals := 0 } : Room).slots
    have hv : (own_base p1) = (1 : Int32) := hj.trans (by simp only [own_base_185])
    obtain ⟨fs, hr, hrun, hended, hW, hsame⟩ := Xj185.leave (v := some (.int (1 : Int32))) (fun h => by rw [Bd.returns] at h; cases h)
    refine ⟨_, _, ?_, hrun, hended, _, _, rfl, ?_, ⟨_, rfl⟩, hW, hsame.mono (by decide) (by decide)⟩
    · exact retN Xj185 hx (t := .boolean) Bd.returns (by simp) (hb hby d1_190) hr
    · show Q1 Z p1 h0 n0 _ Tj185.heap _
      rw [ej185]
      exact ⟨(congrArg (fun z => some (Value.int z)) hv.symm), Nj185, rfl⟩
  have j173 : ∀ (Tj173 : State) (Lj173 : List Loc) (Xj173 : Stand p l e ({ frames := 0, cells := 0, slots := 0, locals := 0 } : Room) s m #[(.int p1)] below meth c Tj173 Lj173 0 0) (ej173 : Tj173.heap = h0) (Nj173 : Fr n0 Lj173)  , own_base p1 = own_base_173 p1  → own_End p e below s (Tj173.setTop (mkF m 173 #[.val (.int p1)] [])) (Q1 Z p1 h0 n0) ({ frames := 0, cells := 0, slots := 0, locals := 0 } : Room).cells ({ frames := 0, cells := 0, slots := 0, locals := 0 } : Room).slots := by
    intro Tj173 Lj173 Xj173 ej173 Nj173   hj
    refine own_pre (A := Tj173.setTop (mkF m 176 #[.val (.int p1)] [(.int (65536 : Int32)), (.int p1)])) (fun tt kt => ?_) ?_
    · show Steps p.tables e below (Tj173.setTop (mkF m 173 #[.val (.int p1)] [])) _
      refine XS.iloadN Xj173.here hx rfl (hb hby d1_173) rfl ?_
      show Steps p.tables e below (Tj173.setTop (mkF m 174 #[.val (.int p1)] [(.int p1)])) _
      refine Xj173.ldcInt hx hown (mvT hZ (hw _ (List.mem_of_getElem? (i := 16) rfl))) (g := (mkF m 174 #[.val (.int p1)] [(.int p1)])) rfl (hb hby d1_174) _ ?_
      exact kt
    show own_End p e below s (Tj173.setTop (mkF m 176 #[.val (.int p1)] [(.int (65536 : Int32)), (.int p1)])) (Q1 Z p1 h0 n0) ({ frames := 0, cells := 0, slots := 0, locals := 0 } : Room).cells ({ frames := 0, cells := 0, slots := 0, locals := 0 } : Room).slots
    by_cases hc176_1 : p1 < (65536 : Int32)
    · refine own_pre (A := Tj173.setTop (mkF m 189 #[.val (.int p1)] [])) (fun tt kt => ?_) ?_
      · show Steps p.tables e below (Tj173.setTop (mkF m 176 #[.val (.int p1)] [(.int (65536 : Int32)), (.int p1)])) _
        refine XS.icmpYes Xj173.here hx rfl (pc0 := 176) (pc' := 189) rfl (hb hby d1_176) rfl (tlt hc176_1).1 (by decide) (by decide) ?_
        exact kt
      show own_End p e below s (Tj173.setTop (mkF m 189 #[.val (.int p1)] [])) (Q1 Z p1 h0 n0) ({ frames := 0, cells := 0, slots := 0, locals := 0 } : Room).cells ({ frames := 0, cells := 0, slots := 0, locals := 0 } : Room).slots
      exact j189 _ _ Xj173 ej173 Nj173   (hj.trans (by simp only [own_base_173, if_pos hc176_1]))
    · refine own_pre (A := Tj173.setTop (mkF m 182 #[.val (.int p1)] [(.int (983039 : Int32)), (.int p1)])) (fun tt kt => ?_) ?_
      · show Steps p.tables e below (Tj173.setTop (mkF m 176 #[.val (.int p1)] [(.int (65536 : Int32)), (.int p1)])) _
        refine XS.icmpNo Xj173.here hx rfl (hb hby d1_176) rfl (flt hc176_1).1 ?_
        show Steps p.tables e below (Tj173.setTop (mkF m 179 #[.val (.int p1)] [])) _
        refine XS.iloadN Xj173.here hx rfl (hb hby d1_179) rfl ?_
        show Steps p.tables e below (Tj173.setTop (mkF m 180 #[.val (.int p1)] [(.int p1)])) _
        refine Xj173.ldcInt hx hown (mvT hZ (hw _ (List.mem_of_getElem? (i := 33) rfl))) (g := (mkF m 180 #[.val (.int p1)] [(.int p1)])) rfl (hb hby d1_180) _ ?_
        exact kt
      show own_End p e below s (Tj173.setTop (mkF m 182 #[.val (.int p1)] [(.int (983039 : Int32)), (.int p1)])) (Q1 Z p1 h0 n0) ({ frames := 0, cells := 0, slots := 0, locals := 0 } : Room).cells ({ frames := 0, cells := 0, slots := 0, locals := 0 } : Room).slots
      by_cases hc182_2 : (983039 : Int32) < p1
      · refine own_pre (A := Tj173.setTop (mkF m 189 #[.val (.int p1)] [])) (fun tt kt => ?_) ?_
        · show Steps p.tables e below (Tj173.setTop (mkF m 182 #[.val (.int p1)] [(.int (983039 : Int32)), (.int p1)])) _
          refine XS.icmpYes Xj173.here hx rfl (pc0 := 182) (pc' := 189) rfl (hb hby d1_182) rfl (tlt hc182_2).2.2.1 (by decide) (by decide) ?_
          exact kt
        show own_End p e below s (Tj173.setTop (mkF m 189 #[.val (.int p1)] [])) (Q1 Z p1 h0 n0) ({ frames := 0, cells := 0, slots := 0, locals := 0 } : Room).cells ({ frames := 0, cells := 0, slots := 0, locals := 0 } : Room).slots
        exact j189 _ _ Xj173 ej173 Nj173   (hj.trans (by simp only [own_base_173, if_neg hc176_1, if_pos hc182_2]))
      · refine own_pre (A := Tj173.setTop (mkF m 185 #[.val (.int p1)] [])) (fun tt kt => ?_) ?_
        · show Steps p.tables e below (Tj173.setTop (mkF m 182 #[.val (.int p1)] [(.int (983039 : Int32)), (.int p1)])) _
          refine XS.icmpNo Xj173.here hx rfl (hb hby d1_182) rfl (flt hc182_2).2.2.1 ?_
          exact kt
        show own_End p e below s (Tj173.setTop (mkF m 185 #[.val (.int p1)] [])) (Q1 Z p1 h0 n0) ({ frames := 0, cells := 0, slots := 0, locals := 0 } : Room).cells ({ frames := 0, cells := 0, slots := 0, locals := 0 } : Room).slots
        exact j185 _ _ Xj173 ej173 Nj173   (hj.trans (by simp only [own_base_173, if_neg hc176_1, if_neg hc182_2]))
  have j161 : ∀ (Tj161 : State) (Lj161 : List Loc) (Xj161 : Stand p l e ({ frames := 0, cells := 0, slots := 0, locals := 0 } : Room) s m #[(.int p1)] below meth c Tj161 Lj161 0 0) (ej161 : Tj161.heap = h0) (Nj161 : Fr n0 Lj161)  , own_base p1 = own_base_161 p1  → own_End p e below s (Tj161.setTop (mkF m 161 #[.val (.int p1)] [])) (Q1 Z p1 h0 n0) ({ frames := 0, cells := 0, slots := 0, locals := 0 } : Room).cells ({ frames := 0, cells := 0, slots := 0, locals := 0 } : Room).slots := by
    intro Tj161 Lj161 Xj161 ej161 Nj161   hj
    refine own_pre (A := Tj161.setTop (mkF m 164 #[.val (.int p1)] [(.int (65008 : Int32)), (.int p1)])) (fun tt kt => ?_) ?_
    · show Steps p.tables e below (Tj161.setTop (mkF m 161 #[.val (.int p1)] [])) _
      refine XS.iloadN Xj161.here hx rfl (hb hby d1_161) rfl ?_
      show Steps p.tables e below (Tj161.setTop (mkF m 162 #[.val (.int p1)] [(.int p1)])) _
      refine Xj161.ldcInt hx hown (mvT hZ (hw _ (List.mem_of_getElem? (i := 15) rfl))) (g := (mkF m 162 #[.val (.int p1)] [(.int p1)])) rfl (hb hby d1_162) _ ?_
      exact kt
    show own_End p e below s (Tj161.setTop (mkF m 164 #[.val (.int p1)] [(.int (65008 : Int32)), (.int p1)])) (Q1 Z p1 h0 n0) ({ frames := 0, cells := 0, slots := 0, locals := 0 } : Room).cells ({ frames := 0, cells := 0, slots := 0, locals := 0 } : Room).slots
    by_cases hc164_3 : p1 < (65008 : Int32)
    · refine own_pre (A := Tj161.setTop (mkF m 173 #[.val (.int p1)] [])) (fun tt kt => ?_) ?_
      · show Steps p.tables e below (Tj161.setTop (mkF m 164 #[.val (.int p1)] [(.int (65008 : Int32)), (.int p1)])) _
        refine XS.icmpYes Xj161.here hx rfl (pc0 := 164) (pc' := 173) rfl (hb hby d1_164) rfl (tlt hc164_3).1 (by decide) (by decide) ?_
        exact kt
      show own_End p e below s (Tj161.setTop (mkF m 173 #[.val (.int p1)] [])) (Q1 Z p1 h0 n0) ({ frames := 0, cells := 0, slots := 0, locals := 0 } : Room).cells ({ frames := 0, cells := 0, slots := 0, locals := 0 } : Room).slots
      exact j173 _ _ Xj161 ej161 Nj161   (hj.trans (by simp only [own_base_161, if_pos hc164_3]))
    · refine own_pre (A := Tj161.setTop (mkF m 170 #[.val (.int p1)] [(.int (65533 : Int32)), (.int p1)])) (fun tt kt => ?_) ?_
      · show Steps p.tables e below (Tj161.setTop (mkF m 164 #[.val (.int p1)] [(.int (65008 : Int32)), (.int p1)])) _
        refine XS.icmpNo Xj161.here hx rfl (hb hby d1_164) rfl (flt hc164_3).1 ?_
        show Steps p.tables e below (Tj161.setTop (mkF m 167 #[.val (.int p1)] [])) _
        refine XS.iloadN Xj161.here hx rfl (hb hby d1_167) rfl ?_
        show Steps p.tables e below (Tj161.setTop (mkF m 168 #[.val (.int p1)] [(.int p1)])) _
        refine Xj161.ldcInt hx hown (mvT hZ (hw _ (List.mem_of_getElem? (i := 32) rfl))) (g := (mkF m 168 #[.val (.int p1)] [(.int p1)])) rfl (hb hby d1_168) _ ?_
        exact kt
      show own_End p e below s (Tj161.setTop (mkF m 170 #[.val (.int p1)] [(.int (65533 : Int32)), (.int p1)])) (Q1 Z p1 h0 n0) ({ frames := 0, cells := 0, slots := 0, locals := 0 } : Room).cells ({ frames := 0, cells := 0, slots := 0, locals := 0 } : Room).slots
      by_cases hc170_4 : (65533 : Int32) < p1
      · refine own_pre (A := Tj161.setTop (mkF m 173 #[.val (.int p1)] [])) (fun tt kt => ?_) ?_
        · show Steps p.tables e below (Tj161.setTop (mkF m 170 #[.val (.int p1)] [(.int (65533 : Int32)), (.int p1)])) _
          refine XS.icmpNo Xj161.here hx rfl (hb hby d1_170) rfl (tlt hc170_4).2.2.2 ?_
          exact kt
        show own_End p e below s (Tj161.setTop (mkF m 173 #[.val (.int p1)] [])) (Q1 Z p1 h0 n0) ({ frames := 0, cells := 0, slots := 0, locals := 0 } : Room).cells ({ frames := 0, cells := 0, slots := 0, locals := 0 } : Room).slots
        exact j173 _ _ Xj161 ej161 Nj161   (hj.trans (by simp only [own_base_161, if_neg hc164_3, if_pos hc170_4]))
      · refine own_pre (A := Tj161.setTop (mkF m 185 #[.val (.int p1)] [])) (fun tt kt => ?_) ?_
        · show Steps p.tables e below (Tj161.setTop (mkF m 170 #[.val (.int p1)] [(.int (65533 : Int32)), (.int p1)])) _
          refine XS.icmpYes Xj161.here hx rfl (pc0 := 170) (pc' := 185) rfl (hb hby d1_170) rfl (flt hc170_4).2.2.2 (by decide) (by decide) ?_
          exact kt
        show own_End p e below s (Tj161.setTop (mkF m 185 #[.val (.int p1)] [])) (Q1 Z p1 h0 n0) ({ frames := 0, cells := 0, slots := 0, locals := 0 } : Room).cells ({ frames := 0, cells := 0, slots := 0, locals := 0 } : Room).slots
        exact j185 _ _ Xj161 ej161 Nj161   (hj.trans (by simp only [own_base_161, if_neg hc164_3, if_neg hc170_4]))
  have j149 : ∀ (Tj149 : State) (Lj149 : List Loc) (Xj149 : Stand p l e ({ frames := 0, cells := 0, slots := 0, locals := 0 } : Room) s m #[(.int p1)] below meth c Tj149 Lj149 0 0) (ej149 : Tj149.heap = h0) (Nj149 : Fr n0 Lj149)  , own_base p1 = own_base_149 p1  → own_End p e below s (Tj149.setTop (mkF m 149 #[.val (.int p1)] [])) (Q1 Z p1 h0 n0) ({ frames := 0, cells := 0, slots := 0, locals := 0 } : Room).cells ({ frames := 0, cells := 0, slots := 0, locals := 0 } : Room).slots := by
    intro Tj149 Lj149 Xj149 ej149 Nj149   hj
    refine own_pre (A := Tj149.setTop (mkF m 152 #[.val (.int p1)] [(.int (63744 : Int32)), (.int p1)])) (fun tt kt => ?_) ?_
    · show Steps p.tables e below (Tj149.setTop (mkF m 149 #[.val (.int p1)] [])) _
      refine XS.iloadN Xj149.here hx rfl (hb hby d1_149) rfl ?_
      show Steps p.tables e below (Tj149.setTop (mkF m 150 #[.val (.int p1)] [(.int p1)])) _
      refine Xj149.ldcInt hx hown (mvT hZ (hw _ (List.mem_of_getElem? (i := 14) rfl))) (g := (mkF m 150 #[.val (.int p1)] [(.int p1)])) rfl (hb hby d1_150) _ ?_
      exact kt
    show own_End p e below s (Tj149.setTop (mkF m 152 #[.val (.int p1)] [(.int (63744 : Int32)), (.int p1)])) (Q1 Z p1 h0 n0) ({ frames := 0, cells := 0, slots := 0, locals := 0 } : Room).cells ({ frames := 0, cells := 0, slots := 0, locals := 0 } : Room).slots
    by_cases hc152_5 : p1 < (63744 : Int32)
    · refine own_pre (A := Tj149.setTop (mkF m 161 #[.val (.int p1)] [])) (fun tt kt => ?_) ?_
      · show Steps p.tables e below (Tj149.setTop (mkF m 152 #[.val (.int p1)] [(.int (63744 : Int32)), (.int p1)])) _
        refine XS.icmpYes Xj149.here hx rfl (pc0 := 152) (pc' := 161) rfl (hb hby d1_152) rfl (tlt hc152_5).1 (by decide) (by decide) ?_
        exact kt
      show own_End p e below s (Tj149.setTop (mkF m 161 #[.val (.int p1)] [])) (Q1 Z p1 h0 n0) ({ frames := 0, cells := 0, slots := 0, locals := 0 } : Room).cells ({ frames := 0, cells := 0, slots := 0, locals := 0 } : Room).slots
      exact j161 _ _ Xj149 ej149 Nj149   (hj.trans (by simp only [own_base_149, if_pos hc152_5]))
    · refine own_pre (A := Tj149.setTop (mkF m 158 #[.val (.int p1)] [(.int (64975 : Int32)), (.int p1)])) (fun tt kt => ?_) ?_
      · show Steps p.tables e below (Tj149.setTop (mkF m 152 #[.val (.int p1)] [(.int (63744 : Int32)), (.int p1)])) _
        refine XS.icmpNo Xj149.here hx rfl (hb hby d1_152) rfl (flt hc152_5).1 ?_
        show Steps p.tables e below (Tj149.setTop (mkF m 155 #[.val (.int p1)] [])) _
        refine XS.iloadN Xj149.here hx rfl (hb hby d1_155) rfl ?_
        show Steps p.tables e below (Tj149.setTop (mkF m 156 #[.val (.int p1)] [(.int p1)])) _
        refine Xj149.ldcInt hx hown (mvT hZ (hw _ (List.mem_of_getElem? (i := 31) rfl))) (g := (mkF m 156 #[.val (.int p1)] [(.int p1)])) rfl (hb hby d1_156) _ ?_
        exact kt
      show own_End p e below s (Tj149.setTop (mkF m 158 #[.val (.int p1)] [(.int (64975 : Int32)), (.int p1)])) (Q1 Z p1 h0 n0) ({ frames := 0, cells := 0, slots := 0, locals := 0 } : Room).cells ({ frames := 0, cells := 0, slots := 0, locals := 0 } : Room).slots
      by_cases hc158_6 : (64975 : Int32) < p1
      · refine own_pre (A := Tj149.setTop (mkF m 161 #[.val (.int p1)] [])) (fun tt kt => ?_) ?_
        · show Steps p.tables e below (Tj149.setTop (mkF m 158 #[.val (.int p1)] [(.int (64975 : Int32)), (.int p1)])) _
          refine XS.icmpNo Xj149.here hx rfl (hb hby d1_158) rfl (tlt hc158_6).2.2.2 ?_
          exact kt
        show own_End p e below s (Tj149.setTop (mkF m 161 #[.val (.int p1)] [])) (Q1 Z p1 h0 n0) ({ frames := 0, cells := 0, slots := 0, locals := 0 } : Room).cells ({ frames := 0, cells := 0, slots := 0, locals := 0 } : Room).slots
        exact j161 _ _ Xj149 ej149 Nj149   (hj.trans (by simp only [own_base_149, if_neg hc152_5, if_pos hc158_6]))
      · refine own_pre (A := Tj149.setTop (mkF m 185 #[.val (.int p1)] [])) (fun tt kt => ?_) ?_
        · show Steps p.tables e below (Tj149.setTop (mkF m 158 #[.val (.int p1)] [(.int (64975 : Int32)), (.int p1)])) _
          refine XS.icmpYes Xj149.here hx rfl (pc0 := 158) (pc' := 185) rfl (hb hby d1_158) rfl (flt hc158_6).2.2.2 (by decide) (by decide) ?_
          exact kt
        show own_End p e below s (Tj149.setTop (mkF m 185 #[.val (.int p1)] [])) (Q1 Z p1 h0 n0) ({ frames := 0, cells := 0, slots := 0, locals := 0 } : Room).cells ({ frames := 0, cells := 0, slots := 0, locals := 0 } : Room).slots
        exact j185 _ _ Xj149 ej149 Nj149   (hj.trans (by simp only [own_base_149, if_neg hc152_5, if_neg hc158_6]))
  have j136 : ∀ (Tj136 : State) (Lj136 : List Loc) (Xj136 : Stand p l e ({ frames := 0, cells := 0, slots := 0, locals := 0 } : Room) s m #[(.int p1)] below meth c Tj136 Lj136 0 0) (ej136 : Tj136.heap = h0) (Nj136 : Fr n0 Lj136)  , own_base p1 = own_base_136 p1  → own_End p e below s (Tj136.setTop (mkF m 136 #[.val (.int p1)] [])) (Q1 Z p1 h0 n0) ({ frames := 0, cells := 0, slots := 0, locals := 0 } : Room).cells ({ frames := 0, cells := 0, slots := 0, locals := 0 } : Room).slots := by
    intro Tj136 Lj136 Xj136 ej136 Nj136   hj
    refine own_pre (A := Tj136.setTop (mkF m 140 #[.val (.int p1)] [(.int (12289 : Int32)), (.int p1)])) (fun tt kt => ?_) ?_
    · show Steps p.tables e below (Tj136.setTop (mkF m 136 #[.val (.int p1)] [])) _
      refine XS.iloadN Xj136.here hx rfl (hb hby d1_136) rfl ?_
      show Steps p.tables e below (Tj136.setTop (mkF m 137 #[.val (.int p1)] [(.int p1)])) _
      refine XS.sipush Xj136.here hx rfl (hb hby d1_137) ?_
      exact kt
    show own_End p e below s (Tj136.setTop (mkF m 140 #[.val (.int p1)] [(.int (12289 : Int32)), (.int p1)])) (Q1 Z p1 h0 n0) ({ frames := 0, cells := 0, slots := 0, locals := 0 } : Room).cells ({ frames := 0, cells := 0, slots := 0, locals := 0 } : Room).slots
    by_cases hc140_7 : p1 < (12289 : Int32)
    · refine own_pre (A := Tj136.setTop (mkF m 149 #[.val (.int p1)] [])) (fun tt kt => ?_) ?_
      · show Steps p.tables e below (Tj136.setTop (mkF m 140 #[.val (.int p1)] [(.int (12289 : Int32)), (.int p1)])) _
        refine XS.icmpYes Xj136.here hx rfl (pc0 := 140) (pc' := 149) rfl (hb hby d1_140) rfl (tlt hc140_7).1 (by decide) (by decide) ?_
        exact kt
      show own_End p e below s (Tj136.setTop (mkF m 149 #[.val (.int p1)] [])) (Q1 Z p1 h0 n0) ({ frames := 0, cells := 0, slots := 0, locals := 0 } : Room).cells ({ frames := 0, cells := 0, slots := 0, locals := 0 } : Room).slots
      exact j149 _ _ Xj136 ej136 Nj136   (hj.trans (by simp only [own_base_136, if_pos hc140_7]))
    · refine own_pre (A := Tj136.setTop (mkF m 146 #[.val (.int p1)] [(.int (55295 : Int32)), (.int p1)])) (fun tt kt => ?_) ?_
      · show Steps p.tables e below (Tj136.setTop (mkF m 140 #[.val (.int p1)] [(.int (12289 : Int32)), (.int p1)])) _
        refine XS.icmpNo Xj136.here hx rfl (hb hby d1_140) rfl (flt hc140_7).1 ?_
        show Steps p.tables e below (Tj136.setTop (mkF m 143 #[.val (.int p1)] [])) _
        refine XS.iloadN Xj136.here hx rfl (hb hby d1_143) rfl ?_
        show Steps p.tables e below (Tj136.setTop (mkF m 144 #[.val (.int p1)] [(.int p1)])) _
        refine Xj136.ldcInt hx hown (mvT hZ (hw _ (List.mem_of_getElem? (i := 30) rfl))) (g := (mkF m 144 #[.val (.int p1)] [(.int p1)])) rfl (hb hby d1_144) _ ?_
        exact kt
      show own_End p e below s (Tj136.setTop (mkF m 146 #[.val (.int p1)] [(.int (55295 : Int32)), (.int p1)])) (Q1 Z p1 h0 n0) ({ frames := 0, cells := 0, slots := 0, locals := 0 } : Room).cells ({ frames := 0, cells := 0, slots := 0, locals := 0 } : Room).slots
      by_cases hc146_8 : (55295 : Int32) < p1
      · refine own_pre (A := Tj136.setTop (mkF m 149 #[.val (.int p1)] [])) (fun tt kt => ?_) ?_
        · show Steps p.tables e below (Tj136.setTop (mkF m 146 #[.val (.int p1)] [(.int (55295 : Int32)), (.int p1)])) _
          refine XS.icmpNo Xj136.here hx rfl (hb hby d1_146) rfl (tlt hc146_8).2.2.2 ?_
          exact kt
        show own_End p e below s (Tj136.setTop (mkF m 149 #[.val (.int p1)] [])) (Q1 Z p1 h0 n0) ({ frames := 0, cells := 0, slots := 0, locals := 0 } : Room).cells ({ frames := 0, cells := 0, slots := 0, locals := 0 } : Room).slots
        exact j149 _ _ Xj136 ej136 Nj136   (hj.trans (by simp only [own_base_136, if_neg hc140_7, if_pos hc146_8]))
      · refine own_pre (A := Tj136.setTop (mkF m 185 #[.val (.int p1)] [])) (fun tt kt => ?_) ?_
        · show Steps p.tables e below (Tj136.setTop (mkF m 146 #[.val (.int p1)] [(.int (55295 : Int32)), (.int p1)])) _
          refine XS.icmpYes Xj136.here hx rfl (pc0 := 146) (pc' := 185) rfl (hb hby d1_146) rfl (flt hc146_8).2.2.2 (by decide) (by decide) ?_
          exact kt
        show own_End p e below s (Tj136.setTop (mkF m 185 #[.val (.int p1)] [])) (Q1 Z p1 h0 n0) ({ frames := 0, cells := 0, slots := 0, locals := 0 } : Room).cells ({ frames := 0, cells := 0, slots := 0, locals := 0 } : Room).slots
        exact j185 _ _ Xj136 ej136 Nj136   (hj.trans (by simp only [own_base_136, if_neg hc140_7, if_neg hc146_8]))
  have j122 : ∀ (Tj122 : State) (Lj122 : List Loc) (Xj122 : Stand p l e ({ frames := 0, cells := 0, slots := 0, locals := 0 } : Room) s m #[(.int p1)] below meth c Tj122 Lj122 0 0) (ej122 : Tj122.heap = h0) (Nj122 : Fr n0 Lj122)  , own_base p1 = own_base_122 p1  → own_End p e below s (Tj122.setTop (mkF m 122 #[.val (.int p1)] [])) (Q1 Z p1 h0 n0) ({ frames := 0, cells := 0, slots := 0, locals := 0 } : Room).cells ({ frames := 0, cells := 0, slots := 0, locals := 0 } : Room).slots := by
    intro Tj122 Lj122 Xj122 ej122 Nj122   hj
    refine own_pre (A := Tj122.setTop (mkF m 126 #[.val (.int p1)] [(.int (11264 : Int32)), (.int p1)])) (fun tt kt => ?_) ?_
    · show Steps p.tables e below (Tj122.setTop (mkF m 122 #[.val (.int p1)] [])) _
      refine XS.iloadN Xj122.here hx rfl (hb hby d1_122) rfl ?_
      show Steps p.tables e below (Tj122.setTop (mkF m 123 #[.val (.int p1)] [(.int p1)])) _
      refine XS.sipush Xj122.here hx rfl (hb hby d1_123) ?_
      exact kt
    show own_End p e below s (Tj122.setTop (mkF m 126 #[.val (.int p1)] [(.int (11264 : Int32)), (.int p1)])) (Q1 Z p1 h0 n0) ({ frames := 0, cells := 0, slots := 0, locals := 0 } : Room).cells ({ frames := 0, cells := 0, slots := 0, locals := 0 } : Room).slots
    by_cases hc126_9 : p1 < (11264 : Int32)
    · refine own_pre (A := Tj122.setTop (mkF m 136 #[.val (.int p1)] [])) (fun tt kt => ?_) ?_
      · show Steps p.tables e below (Tj122.setTop (mkF m 126 #[.val (.int p1)] [(.int (11264 : Int32)), (.int p1)])) _
        refine XS.icmpYes Xj122.here hx rfl (pc0 := 126) (pc' := 136) rfl (hb hby d1_126) rfl (tlt hc126_9).1 (by decide) (by decide) ?_
        exact kt
      show own_End p e below s (Tj122.setTop (mkF m 136 #[.val (.int p1)] [])) (Q1 Z p1 h0 n0) ({ frames := 0, cells := 0, slots := 0, locals := 0 } : Room).cells ({ frames := 0, cells := 0, slots := 0, locals := 0 } : Room).slots
      exact j136 _ _ Xj122 ej122 Nj122   (hj.trans (by simp only [own_base_122, if_pos hc126_9]))
    · refine own_pre (A := Tj122.setTop (mkF m 133 #[.val (.int p1)] [(.int (12271 : Int32)), (.int p1)])) (fun tt kt => ?_) ?_
      · show Steps p.tables e below (Tj122.setTop (mkF m 126 #[.val (.int p1)] [(.int (11264 : Int32)), (.int p1)])) _
        refine XS.icmpNo Xj122.here hx rfl (hb hby d1_126) rfl (flt hc126_9).1 ?_
        show Steps p.tables e below (Tj122.setTop (mkF m 129 #[.val (.int p1)] [])) _
        refine XS.iloadN Xj122.here hx rfl (hb hby d1_129) rfl ?_
        show Steps p.tables e below (Tj122.setTop (mkF m 130 #[.val (.int p1)] [(.int p1)])) _
        refine XS.sipush Xj122.here hx rfl (hb hby d1_130) ?_
        exact kt
      show own_End p e below s (Tj122.setTop (mkF m 133 #[.val (.int p1)] [(.int (12271 : Int32)), (.int p1)])) (Q1 Z p1 h0 n0) ({ frames := 0, cells := 0, slots := 0, locals := 0 } : Room).cells ({ frames := 0, cells := 0, slots := 0, locals := 0 } : Room).slots
      by_cases hc133_10 : (12271 : Int32) < p1
      · refine own_pre (A := Tj122.setTop (mkF m 136 #[.val (.int p1)] [])) (fun tt kt => ?_) ?_
        · show Steps p.tables e below (Tj122.setTop (mkF m 133 #[.val (.int p1)] [(.int (12271 : Int32)), (.int p1)])) _
          refine XS.icmpNo Xj122.here hx rfl (hb hby d1_133) rfl (tlt hc133_10).2.2.2 ?_
          exact kt
        show own_End p e below s (Tj122.setTop (mkF m 136 #[.val (.int p1)] [])) (Q1 Z p1 h0 n0) ({ frames := 0, cells := 0, slots := 0, locals := 0 } : Room).cells ({ frames := 0, cells := 0, slots := 0, locals := 0 } : Room).slots
        exact j136 _ _ Xj122 ej122 Nj122   (hj.trans (by simp only [own_base_122, if_neg hc126_9, if_pos hc133_10]))
      · refine own_pre (A := Tj122.setTop (mkF m 185 #[.val (.int p1)] [])) (fun tt kt => ?_) ?_
        · show Steps p.tables e below (Tj122.setTop (mkF m 133 #[.val (.int p1)] [(.int (12271 : Int32)), (.int p1)])) _
          refine XS.icmpYes Xj122.here hx rfl (pc0 := 133) (pc' := 185) rfl (hb hby d1_133) rfl (flt hc133_10).2.2.2 (by decide) (by decide) ?_
          exact kt
        show own_End p e below s (Tj122.setTop (mkF m 185 #[.val (.int p1)] [])) (Q1 Z p1 h0 n0) ({ frames := 0, cells := 0, slots := 0, locals := 0 } : Room).cells ({ frames := 0, cells := 0, slots := 0, locals := 0 } : Room).slots
        exact j185 _ _ Xj122 ej122 Nj122   (hj.trans (by simp only [own_base_122, if_neg hc126_9, if_neg hc133_10]))
  have j108 : ∀ (Tj108 : State) (Lj108 : List Loc) (Xj108 : Stand p l e ({ frames := 0, cells := 0, slots := 0, locals := 0 } : Room) s m #[(.int p1)] below meth c Tj108 Lj108 0 0) (ej108 : Tj108.heap = h0) (Nj108 : Fr n0 Lj108)  , own_base p1 = own_base_108 p1  → own_End p e below s (Tj108.setTop (mkF m 108 #[.val (.int p1)] [])) (Q1 Z p1 h0 n0) ({ frames := 0, cells := 0, slots := 0, locals := 0 } : Room).cells ({ frames := 0, cells := 0, slots := 0, locals := 0 } : Room).slots := by
    intro Tj108 Lj108 Xj108 ej108 Nj108   hj
    refine own_pre (A := Tj108.setTop (mkF m 112 #[.val (.int p1)] [(.int (8304 : Int32)), (.int p1)])) (fun tt kt => ?_) ?_
    · show Steps p.tables e below (Tj108.setTop (mkF m 108 #[.val (.int p1)] [])) _
      refine XS.iloadN Xj108.here hx rfl (hb hby d1_108) rfl ?_
      show Steps p.tables e below (Tj108.setTop (mkF m 109 #[.val (.int p1)] [(.int p1)])) _
      refine XS.sipush Xj108.here hx rfl (hb hby d1_109) ?_
      exact kt
    show own_End p e below s (Tj108.setTop (mkF m 112 #[.val (.int p1)] [(.int (8304 : Int32)), (.int p1)])) (Q1 Z p1 h0 n0) ({ frames := 0, cells := 0, slots := 0, locals := 0 } : Room).cells ({ frames := 0, cells := 0, slots := 0, locals := 0 } : Room).slots
    by_cases hc112_11 : p1 < (8304 : Int32)
    · refine own_pre (A := Tj108.setTop (mkF m 122 #[.val (.int p1)] [])) (fun tt kt => ?_) ?_
      · show Steps p.tables e below (Tj108.setTop (mkF m 112 #[.val (.int p1)] [(.int (8304 : Int32)), (.int p1)])) _
        refine XS.icmpYes Xj108.here hx rfl (pc0 := 112) (pc' := 122) rfl (hb hby d1_112) rfl (tlt hc112_11).1 (by decide) (by decide) ?_
        exact kt
      show own_End p e below s (Tj108.setTop (mkF m 122 #[.val (.int p1)] [])) (Q1 Z p1 h0 n0) ({ frames := 0, cells := 0, slots := 0, locals := 0 } : Room).cells ({ frames := 0, cells := 0, slots := 0, locals := 0 } : Room).slots
      exact j122 _ _ Xj108 ej108 Nj108   (hj.trans (by simp only [own_base_108, if_pos hc112_11]))
    · refine own_pre (A := Tj108.setTop (mkF m 119 #[.val (.int p1)] [(.int (8591 : Int32)), (.int p1)])) (fun tt kt => ?_) ?_
      · show Steps p.tables e below (Tj108.setTop (mkF m 112 #[.val (.int p1)] [(.int (8304 : Int32)), (.int p1)])) _
        refine XS.icmpNo Xj108.here hx rfl (hb hby d1_112) rfl (flt hc112_11).1 ?_
        show Steps p.tables e below (Tj108.setTop (mkF m 115 #[.val (.int p1)] [])) _
        refine XS.iloadN Xj108.here hx rfl (hb hby d1_115) rfl ?_
        show Steps p.tables e below (Tj108.setTop (mkF m 116 #[.val (.int p1)] [(.int p1)])) _
        refine XS.sipush Xj108.here hx rfl (hb hby d1_116) ?_
        exact kt
      show own_End p e below s (Tj108.setTop (mkF m 119 #[.val (.int p1)] [(.int (8591 : Int32)), (.int p1)])) (Q1 Z p1 h0 n0) ({ frames := 0, cells := 0, slots := 0, locals := 0 } : Room).cells ({ frames := 0, cells := 0, slots := 0, locals := 0 } : Room).slots
      by_cases hc119_12 : (8591 : Int32) < p1
      · refine own_pre (A := Tj108.setTop (mkF m 122 #[.val (.int p1)] [])) (fun tt kt => ?_) ?_
        · show Steps p.tables e below (Tj108.setTop (mkF m 119 #[.val (.int p1)] [(.int (8591 : Int32)), (.int p1)])) _
          refine XS.icmpNo Xj108.here hx rfl (hb hby d1_119) rfl (tlt hc119_12).2.2.2 ?_
          exact kt
        show own_End p e below s (Tj108.setTop (mkF m 122 #[.val (.int p1)] [])) (Q1 Z p1 h0 n0) ({ frames := 0, cells := 0, slots := 0, locals := 0 } : Room).cells ({ frames := 0, cells := 0, slots := 0, locals := 0 } : Room).slots
        exact j122 _ _ Xj108 ej108 Nj108   (hj.trans (by simp only [own_base_108, if_neg hc112_11, if_pos hc119_12]))
      · refine own_pre (A := Tj108.setTop (mkF m 185 #[.val (.int p1)] [])) (fun tt kt => ?_) ?_
        · show Steps p.tables e below (Tj108.setTop (mkF m 119 #[.val (.int p1)] [(.int (8591 : Int32)), (.int p1)])) _
          refine XS.icmpYes Xj108.here hx rfl (pc0 := 119) (pc' := 185) rfl (hb hby d1_119) rfl (flt hc119_12).2.2.2 (by decide) (by decide) ?_
          exact kt
        show own_End p e below s (Tj108.setTop (mkF m 185 #[.val (.int p1)] [])) (Q1 Z p1 h0 n0) ({ frames := 0, cells := 0, slots := 0, locals := 0 } : Room).cells ({ frames := 0, cells := 0, slots := 0, locals := 0 } : Room).slots
        exact j185 _ _ Xj108 ej108 Nj108   (hj.trans (by simp only [own_base_108, if_neg hc112_11, if_neg hc119_12]))
  have j94 : ∀ (Tj94 : State) (Lj94 : List Loc) (Xj94 : Stand p l e ({ frames := 0, cells := 0, slots := 0, locals := 0 } : Room) s m #[(.int p1)] below meth c Tj94 Lj94 0 0) (ej94 : Tj94.heap = h0) (Nj94 : Fr n0 Lj94)  , own_base p1 = own_base_94 p1  → own_End p e below s (Tj94.setTop (mkF m 94 #[.val (.int p1)] [])) (Q1 Z p1 h0 n0) ({ frames := 0, cells := 0, slots := 0, locals := 0 } : Room).cells ({ frames := 0, cells := 0, slots := 0, locals := 0 } : Room).slots := by
    intro Tj94 Lj94 Xj94 ej94 Nj94   hj
    refine own_pre (A := Tj94.setTop (mkF m 98 #[.val (.int p1)] [(.int (8204 : Int32)), (.int p1)])) (fun tt kt => ?_) ?_
    · show Steps p.tables e below (Tj94.setTop (mkF m 94 #[.val (.int p1)] [])) _
      refine XS.iloadN Xj94.here hx rfl (hb hby d1_94) rfl ?_
      show Steps p.tables e below (Tj94.setTop (mkF m 95 #[.val (.int p1)] [(.int p1)])) _
      refine XS.sipush Xj94.here hx rfl (hb hby d1_95) ?_
      exact kt
    show own_End p e below s (Tj94.setTop (mkF m 98 #[.val (.int p1)] [(.int (8204 : Int32)), (.int p1)])) (Q1 Z p1 h0 n0) ({ frames := 0, cells := 0, slots := 0, locals := 0 } : Room).cells ({ frames := 0, cells := 0, slots := 0, locals := 0 } : Room).slots
    by_cases hc98_13 : p1 < (8204 : Int32)
    · refine own_pre (A := Tj94.setTop (mkF m 108 #[.val (.int p1)] [])) (fun tt kt => ?_) ?_
      · show Steps p.tables e below (Tj94.setTop (mkF m 98 #[.val (.int p1)] [(.int (8204 : Int32)), (.int p1)])) _
        refine XS.icmpYes Xj94.here hx rfl (pc0 := 98) (pc' := 108) rfl (hb hby d1_98) rfl (tlt hc98_13).1 (by decide) (by decide) ?_
        exact kt
      show own_End p e below s (Tj94.setTop (mkF m 108 #[.val (.int p1)] [])) (Q1 Z p1 h0 n0) ({ frames := 0, cells := 0, slots := 0, locals := 0 } : Room).cells ({ frames := 0, cells := 0, slots := 0, locals := 0 } : Room).slots
      exact j108 _ _ Xj94 ej94 Nj94   (hj.trans (by simp only [own_base_94, if_pos hc98_13]))
    · refine own_pre (A := Tj94.setTop (mkF m 105 #[.val (.int p1)] [(.int (8205 : Int32)), (.int p1)])) (fun tt kt => ?_) ?_
      · show Steps p.tables e below (Tj94.setTop (mkF m 98 #[.val (.int p1)] [(.int (8204 : Int32)), (.int p1)])) _
        refine XS.icmpNo Xj94.here hx rfl (hb hby d1_98) rfl (flt hc98_13).1 ?_
        show Steps p.tables e below (Tj94.setTop (mkF m 101 #[.val (.int p1)] [])) _
        refine XS.iloadN Xj94.here hx rfl (hb hby d1_101) rfl ?_
        show Steps p.tables e below (Tj94.setTop (mkF m 102 #[.val (.int p1)] [(.int p1)])) _
        refine XS.sipush Xj94.here hx rfl (hb hby d1_102) ?_
        exact kt
      show own_End p e below s (Tj94.setTop (mkF m 105 #[.val (.int p1)] [(.int (8205 : Int32)), (.int p1)])) (Q1 Z p1 h0 n0) ({ frames := 0, cells := 0, slots := 0, locals := 0 } : Room).cells ({ frames := 0, cells := 0, slots := 0, locals := 0 } : Room).slots
      by_cases hc105_14 : (8205 : Int32) < p1
      · refine own_pre (A := Tj94.setTop (mkF m 108 #[.val (.int p1)] [])) (fun tt kt => ?_) ?_
        · show Steps p.tables e below (Tj94.setTop (mkF m 105 #[.val (.int p1)] [(.int (8205 : Int32)), (.int p1)])) _
          refine XS.icmpNo Xj94.here hx rfl (hb hby d1_105) rfl (tlt hc105_14).2.2.2 ?_
          exact kt
        show own_End p e below s (Tj94.setTop (mkF m 108 #[.val (.int p1)] [])) (Q1 Z p1 h0 n0) ({ frames := 0, cells := 0, slots := 0, locals := 0 } : Room).cells ({ frames := 0, cells := 0, slots := 0, locals := 0 } : Room).slots
        exact j108 _ _ Xj94 ej94 Nj94   (hj.trans (by simp only [own_base_94, if_neg hc98_13, if_pos hc105_14]))
      · refine own_pre (A := Tj94.setTop (mkF m 185 #[.val (.int p1)] [])) (fun tt kt => ?_) ?_
        · show Steps p.tables e below (Tj94.setTop (mkF m 105 #[.val (.int p1)] [(.int (8205 : Int32)), (.int p1)])) _
          refine XS.icmpYes Xj94.here hx rfl (pc0 := 105) (pc' := 185) rfl (hb hby d1_105) rfl (flt hc105_14).2.2.2 (by decide) (by decide) ?_
          exact kt
        show own_End p e below s (Tj94.setTop (mkF m 185 #[.val (.int p1)] [])) (Q1 Z p1 h0 n0) ({ frames := 0, cells := 0, slots := 0, locals := 0 } : Room).cells ({ frames := 0, cells := 0, slots := 0, locals := 0 } : Room).slots
        exact j185 _ _ Xj94 ej94 Nj94   (hj.trans (by simp only [own_base_94, if_neg hc98_13, if_neg hc105_14]))
  have j80 : ∀ (Tj80 : State) (Lj80 : List Loc) (Xj80 : Stand p l e ({ frames := 0, cells := 0, slots := 0, locals := 0 } : Room) s m #[(.int p1)] below meth c Tj80 Lj80 0 0) (ej80 : Tj80.heap = h0) (Nj80 : Fr n0 Lj80)  , own_base p1 = own_base_80 p1  → own_End p e below s (Tj80.setTop (mkF m 80 #[.val (.int p1)] [])) (Q1 Z p1 h0 n0) ({ frames := 0, cells := 0, slots := 0, locals := 0 } : Room).cells ({ frames := 0, cells := 0, slots := 0, locals := 0 } : Room).slots := by
    intro Tj80 Lj80 Xj80 ej80 Nj80   hj
    refine own_pre (A := Tj80.setTop (mkF m 84 #[.val (.int p1)] [(.int (895 : Int32)), (.int p1)])) (fun tt kt => ?_) ?_
    · show Steps p.tables e below (Tj80.setTop (mkF m 80 #[.val (.int p1)] [])) _
      refine XS.iloadN Xj80.here hx rfl (hb hby d1_80) rfl ?_
      show Steps p.tables e below (Tj80.setTop (mkF m 81 #[.val (.int p1)] [(.int p1)])) _
      refine XS.sipush Xj80.here hx rfl (hb hby d1_81) ?_
      exact kt
    show own_End p e below s (Tj80.setTop (mkF m 84 #[.val (.int p1)] [(.int (895 : Int32)), (.int p1)])) (Q1 Z p1 h0 n0) ({ frames := 0, cells := 0, slots := 0, locals := 0 } : Room).cells ({ frames := 0, cells := 0, slots := 0, locals := 0 } : Room).slots
    by_cases hc84_15 : p1 < (895 : Int32)
    · refine own_pre (A := Tj80.setTop (mkF m 94 #[.val (.int p1)] [])) (fun tt kt => ?_) ?_
      · show Steps p.tables e below (Tj80.setTop (mkF m 84 #[.val (.int p1)] [(.int (895 : Int32)), (.int p1)])) _
        refine XS.icmpYes Xj80.here hx rfl (pc0 := 84) (pc' := 94) rfl (hb hby d1_84) rfl (tlt hc84_15).1 (by decide) (by decide) ?_
        exact kt
      show own_End p e below s (Tj80.setTop (mkF m 94 #[.val (.int p1)] [])) (Q1 Z p1 h0 n0) ({ frames := 0, cells := 0, slots := 0, locals := 0 } : Room).cells ({ frames := 0, cells := 0, slots := 0, locals := 0 } : Room).slots
      exact j94 _ _ Xj80 ej80 Nj80   (hj.trans (by simp only [own_base_80, if_pos hc84_15]))
    · refine own_pre (A := Tj80.setTop (mkF m 91 #[.val (.int p1)] [(.int (8191 : Int32)), (.int p1)])) (fun tt kt => ?_) ?_
      · show Steps p.tables e below (Tj80.setTop (mkF m 84 #[.val (.int p1)] [(.int (895 : Int32)), (.int p1)])) _
        refine XS.icmpNo Xj80.here hx rfl (hb hby d1_84) rfl (flt hc84_15).1 ?_
        show Steps p.tables e below (Tj80.setTop (mkF m 87 #[.val (.int p1)] [])) _
        refine XS.iloadN Xj80.here hx rfl (hb hby d1_87) rfl ?_
        show Steps p.tables e below (Tj80.setTop (mkF m 88 #[.val (.int p1)] [(.int p1)])) _
        refine XS.sipush Xj80.here hx rfl (hb hby d1_88) ?_
        exact kt
      show own_End p e below s (Tj80.setTop (mkF m 91 #[.val (.int p1)] [(.int (8191 : Int32)), (.int p1)])) (Q1 Z p1 h0 n0) ({ frames := 0, cells := 0, slots := 0, locals := 0 } : Room).cells ({ frames := 0, cells := 0, slots := 0, locals := 0 } : Room).slots
      by_cases hc91_16 : (8191 : Int32) < p1
      · refine own_pre (A := Tj80.setTop (mkF m 94 #[.val (.int p1)] [])) (fun tt kt => ?_) ?_
        · show Steps p.tables e below (Tj80.setTop (mkF m 91 #[.val (.int p1)] [(.int (8191 : Int32)), (.int p1)])) _
          refine XS.icmpNo Xj80.here hx rfl (hb hby d1_91) rfl (tlt hc91_16).2.2.2 ?_
          exact kt
        show own_End p e below s (Tj80.setTop (mkF m 94 #[.val (.int p1)] [])) (Q1 Z p1 h0 n0) ({ frames := 0, cells := 0, slots := 0, locals := 0 } : Room).cells ({ frames := 0, cells := 0, slots := 0, locals := 0 } : Room).slots
        exact j94 _ _ Xj80 ej80 Nj80   (hj.trans (by simp only [own_base_80, if_neg hc84_15, if_pos hc91_16]))
      · refine own_pre (A := Tj80.setTop (mkF m 185 #[.val (.int p1)] [])) (fun tt kt => ?_) ?_
        · show Steps p.tables e below (Tj80.setTop (mkF m 91 #[.val (.int p1)] [(.int (8191 : Int32)), (.int p1)])) _
          refine XS.icmpYes Xj80.here hx rfl (pc0 := 91) (pc' := 185) rfl (hb hby d1_91) rfl (flt hc91_16).2.2.2 (by decide) (by decide) ?_
          exact kt
        show own_End p e below s (Tj80.setTop (mkF m 185 #[.val (.int p1)] [])) (Q1 Z p1 h0 n0) ({ frames := 0, cells := 0, slots := 0, locals := 0 } : Room).cells ({ frames := 0, cells := 0, slots := 0, locals := 0 } : Room).slots
        exact j185 _ _ Xj80 ej80 Nj80   (hj.trans (by simp only [own_base_80, if_neg hc84_15, if_neg hc91_16]))
  have j66 : ∀ (Tj66 : State) (Lj66 : List Loc) (Xj66 : Stand p l e ({ frames := 0, cells := 0, slots := 0, locals := 0 } : Room) s m #[(.int p1)] below meth c Tj66 Lj66 0 0) (ej66 : Tj66.heap = h0) (Nj66 : Fr n0 Lj66)  , own_base p1 = own_base_66 p1  → own_End p e below s (Tj66.setTop (mkF m 66 #[.val (.int p1)] [])) (Q1 Z p1 h0 n0) ({ frames := 0, cells := 0, slots := 0, locals := 0 } : Room).cells ({ frames := 0, cells := 0, slots := 0, locals := 0 } : Room).slots := by
    intro Tj66 Lj66 Xj66 ej66 Nj66   hj
    refine own_pre (A := Tj66.setTop (mkF m 70 #[.val (.int p1)] [(.int (880 : Int32)), (.int p1)])) (fun tt kt => ?_) ?_
    · show Steps p.tables e below (Tj66.setTop (mkF m 66 #[.val (.int p1)] [])) _
      refine XS.iloadN Xj66.here hx rfl (hb hby d1_66) rfl ?_
      show Steps p.tables e below (Tj66.setTop (mkF m 67 #[.val (.int p1)] [(.int p1)])) _
      refine XS.sipush Xj66.here hx rfl (hb hby d1_67) ?_
      exact kt
    show own_End p e below s (Tj66.setTop (mkF m 70 #[.val (.int p1)] [(.int (880 : Int32)), (.int p1)])) (Q1 Z p1 h0 n0) ({ frames := 0, cells := 0, slots := 0, locals := 0 } : Room).cells ({ frames := 0, cells := 0, slots := 0, locals := 0 } : Room).slots
    by_cases hc70_17 : p1 < (880 : Int32)
    · refine own_pre (A := Tj66.setTop (mkF m 80 #[.val (.int p1)] [])) (fun tt kt => ?_) ?_
      · show Steps p.tables e below (Tj66.setTop (mkF m 70 #[.val (.int p1)] [(.int (880 : Int32)), (.int p1)])) _
        refine XS.icmpYes Xj66.here hx rfl (pc0 := 70) (pc' := 80) rfl (hb hby d1_70) rfl (tlt hc70_17).1 (by decide) (by decide) ?_
        exact kt
      show own_End p e below s (Tj66.setTop (mkF m 80 #[.val (.int p1)] [])) (Q1 Z p1 h0 n0) ({ frames := 0, cells := 0, slots := 0, locals := 0 } : Room).cells ({ frames := 0, cells := 0, slots := 0, locals := 0 } : Room).slots
      exact j80 _ _ Xj66 ej66 Nj66   (hj.trans (by simp only [own_base_66, if_pos hc70_17]))
    · refine own_pre (A := Tj66.setTop (mkF m 77 #[.val (.int p1)] [(.int (893 : Int32)), (.int p1)])) (fun tt kt => ?_) ?_
      · show Steps p.tables e below (Tj66.setTop (mkF m 70 #[.val (.int p1)] [(.int (880 : Int32)), (.int p1)])) _
        refine XS.icmpNo Xj66.here hx rfl (hb hby d1_70) rfl (flt hc70_17).1 ?_
        show Steps p.tables e below (Tj66.setTop (mkF m 73 #[.val (.int p1)] [])) _
        refine XS.iloadN Xj66.here hx rfl (hb hby d1_73) rfl ?_
        show Steps p.tables e below (Tj66.setTop (mkF m 74 #[.val (.int p1)] [(.int p1)])) _
        refine XS.sipush Xj66.here hx rfl (hb hby d1_74) ?_
        exact kt
      show own_End p e below s (Tj66.setTop (mkF m 77 #[.val (.int p1)] [(.int (893 : Int32)), (.int p1)])) (Q1 Z p1 h0 n0) ({ frames := 0, cells := 0, slots := 0, locals := 0 } : Room).cells ({ frames := 0, cells := 0, slots := 0, locals := 0 } : Room).slots
      by_cases hc77_18 : (893 : Int32) < p1
      · refine own_pre (A := Tj66.setTop (mkF m 80 #[.val (.int p1)] [])) (fun tt kt => ?_) ?_
        · show Steps p.tables e below (Tj66.setTop (mkF m 77 #[.val (.int p1)] [(.int (893 : Int32)), (.int p1)])) _
          refine XS.icmpNo Xj66.here hx rfl (hb hby d1_77) rfl (tlt hc77_18).2.2.2 ?_
          exact kt
        show own_End p e below s (Tj66.setTop (mkF m 80 #[.val (.int p1)] [])) (Q1 Z p1 h0 n0) ({ frames := 0, cells := 0, slots := 0, locals := 0 } : Room).cells ({ frames := 0, cells := 0, slots := 0, locals := 0 } : Room).slots
        exact j80 _ _ Xj66 ej66 Nj66   (hj.trans (by simp only [own_base_66, if_neg hc70_17, if_pos hc77_18]))
      · refine own_pre (A := Tj66.setTop (mkF m 185 #[.val (.int p1)] [])) (fun tt kt => ?_) ?_
        · show Steps p.tables e below (Tj66.setTop (mkF m 77 #[.val (.int p1)] [(.int (893 : Int32)), (.int p1)])) _
          refine XS.icmpYes Xj66.here hx rfl (pc0 := 77) (pc' := 185) rfl (hb hby d1_77) rfl (flt hc77_18).2.2.2 (by decide) (by decide) ?_
          exact kt
        show own_End p e below s (Tj66.setTop (mkF m 185 #[.val (.int p1)] [])) (Q1 Z p1 h0 n0) ({ frames := 0, cells := 0, slots := 0, locals := 0 } : Room).cells ({ frames := 0, cells := 0, slots := 0, locals := 0 } : Room).slots
        exact j185 _ _ Xj66 ej66 Nj66   (hj.trans (by simp only [own_base_66, if_neg hc70_17, if_neg hc77_18]))
  have j52 : ∀ (Tj52 : State) (Lj52 : List Loc) (Xj52 : Stand p l e ({ frames := 0, cells := 0, slots := 0, locals := 0 } : Room) s m #[(.int p1)] below meth c Tj52 Lj52 0 0) (ej52 : Tj52.heap = h0) (Nj52 : Fr n0 Lj52)  , own_base p1 = own_base_52 p1  → own_End p e below s (Tj52.setTop (mkF m 52 #[.val (.int p1)] [])) (Q1 Z p1 h0 n0) ({ frames := 0, cells := 0, slots := 0, locals := 0 } : Room).cells ({ frames := 0, cells := 0, slots := 0, locals := 0 } : Room).slots := by
    intro Tj52 Lj52 Xj52 ej52 Nj52   hj
    refine own_pre (A := Tj52.setTop (mkF m 56 #[.val (.int p1)] [(.int (248 : Int32)), (.int p1)])) (fun tt kt => ?_) ?_
    · show Steps p.tables e below (Tj52.setTop (mkF m 52 #[.val (.int p1)] [])) _
      refine XS.iloadN Xj52.here hx rfl (hb hby d1_52) rfl ?_
      show Steps p.tables e below (Tj52.setTop (mkF m 53 #[.val (.int p1)] [(.int p1)])) _
      refine XS.sipush Xj52.here hx rfl (hb hby d1_53) ?_
      exact kt
    show own_End p e below s (Tj52.setTop (mkF m 56 #[.val (.int p1)] [(.int (248 : Int32)), (.int p1)])) (Q1 Z p1 h0 n0) ({ frames := 0, cells := 0, slots := 0, locals := 0 } : Room).cells ({ frames := 0, cells := 0, slots := 0, locals := 0 } : Room).slots
    by_cases hc56_19 : p1 < (248 : Int32)
    · refine own_pre (A := Tj52.setTop (mkF m 66 #[.val (.int p1)] [])) (fun tt kt => ?_) ?_
      · show Steps p.tables e below (Tj52.setTop (mkF m 56 #[.val (.int p1)] [(.int (248 : Int32)), (.int p1)])) _
        refine XS.icmpYes Xj52.here hx rfl (pc0 := 56) (pc' := 66) rfl (hb hby d1_56) rfl (tlt hc56_19).1 (by decide) (by decide) ?_
        exact kt
      show own_End p e below s (Tj52.setTop (mkF m 66 #[.val (.int p1)] [])) (Q1 Z p1 h0 n0) ({ frames := 0, cells := 0, slots := 0, locals := 0 } : Room).cells ({ frames := 0, cells := 0, slots := 0, locals := 0 } : Room).slots
      exact j66 _ _ Xj52 ej52 Nj52   (hj.trans (by simp only [own_base_52, if_pos hc56_19]))
    · refine own_pre (A := Tj52.setTop (mkF m 63 #[.val (.int p1)] [(.int (767 : Int32)), (.int p1)])) (fun tt kt => ?_) ?_
      · show Steps p.tables e below (Tj52.setTop (mkF m 56 #[.val (.int p1)] [(.int (248 : Int32)), (.int p1)])) _
        refine XS.icmpNo Xj52.here hx rfl (hb hby d1_56) rfl (flt hc56_19).1 ?_
        show Steps p.tables e below (Tj52.setTop (mkF m 59 #[.val (.int p1)] [])) _
        refine XS.iloadN Xj52.here hx rfl (hb hby d1_59) rfl ?_
        show Steps p.tables e below (Tj52.setTop (mkF m 60 #[.val (.int p1)] [(.int p1)])) _
        refine XS.sipush Xj52.here hx rfl (hb hby d1_60) ?_
        exact kt
      show own_End p e below s (Tj52.setTop (mkF m 63 #[.val (.int p1)] [(.int (767 : Int32)), (.int p1)])) (Q1 Z p1 h0 n0) ({ frames := 0, cells := 0, slots := 0, locals := 0 } : Room).cells ({ frames := 0, cells := 0, slots := 0, locals := 0 } : Room).slots
      by_cases hc63_20 : (767 : Int32) < p1
      · refine own_pre (A := Tj52.setTop (mkF m 66 #[.val (.int p1)] [])) (fun tt kt => ?_) ?_
        · show Steps p.tables e below (Tj52.setTop (mkF m 63 #[.val (.int p1)] [(.int (767 : Int32)), (.int p1)])) _
          refine XS.icmpNo Xj52.here hx rfl (hb hby d1_63) rfl (tlt hc63_20).2.2.2 ?_
          exact kt
        show own_End p e below s (Tj52.setTop (mkF m 66 #[.val (.int p1)] [])) (Q1 Z p1 h0 n0) ({ frames := 0, cells := 0, slots := 0, locals := 0 } : Room).cells ({ frames := 0, cells := 0, slots := 0, locals := 0 } : Room).slots
        exact j66 _ _ Xj52 ej52 Nj52   (hj.trans (by simp only [own_base_52, if_neg hc56_19, if_pos hc63_20]))
      · refine own_pre (A := Tj52.setTop (mkF m 185 #[.val (.int p1)] [])) (fun tt kt => ?_) ?_
        · show Steps p.tables e below (Tj52.setTop (mkF m 63 #[.val (.int p1)] [(.int (767 : Int32)), (.int p1)])) _
          refine XS.icmpYes Xj52.here hx rfl (pc0 := 63) (pc' := 185) rfl (hb hby d1_63) rfl (flt hc63_20).2.2.2 (by decide) (by decide) ?_
          exact kt
        show own_End p e below s (Tj52.setTop (mkF m 185 #[.val (.int p1)] [])) (Q1 Z p1 h0 n0) ({ frames := 0, cells := 0, slots := 0, locals := 0 } : Room).cells ({ frames := 0, cells := 0, slots := 0, locals := 0 } : Room).slots
        exact j185 _ _ Xj52 ej52 Nj52   (hj.trans (by simp only [own_base_52, if_neg hc56_19, if_neg hc63_20]))
  have j38 : ∀ (Tj38 : State) (Lj38 : List Loc) (Xj38 : Stand p l e ({ frames := 0, cells := 0, slots := 0, locals := 0 } : Room) s m #[(.int p1)] below meth c Tj38 Lj38 0 0) (ej38 : Tj38.heap = h0) (Nj38 : Fr n0 Lj38)  , own_base p1 = own_base_38 p1  → own_End p e below s (Tj38.setTop (mkF m 38 #[.val (.int p1)] [])) (Q1 Z p1 h0 n0) ({ frames := 0, cells := 0, slots := 0, locals := 0 } : Room).cells ({ frames := 0, cells := 0, slots := 0, locals := 0 } : Room).slots := by
    intro Tj38 Lj38 Xj38 ej38 Nj38   hj
    refine own_pre (A := Tj38.setTop (mkF m 42 #[.val (.int p1)] [(.int (216 : Int32)), (.int p1)])) (fun tt kt => ?_) ?_
    · show Steps p.tables e below (Tj38.setTop (mkF m 38 #[.val (.int p1)] [])) _
      refine XS.iloadN Xj38.here hx rfl (hb hby d1_38) rfl ?_
      show Steps p.tables e below (Tj38.setTop (mkF m 39 #[.val (.int p1)] [(.int p1)])) _
      refine XS.sipush Xj38.here hx rfl (hb hby d1_39) ?_
      exact kt
    show own_End p e below s (Tj38.setTop (mkF m 42 #[.val (.int p1)] [(.int (216 : Int32)), (.int p1)])) (Q1 Z p1 h0 n0) ({ frames := 0, cells := 0, slots := 0, locals := 0 } : Room).cells ({ frames := 0, cells := 0, slots := 0, locals := 0 } : Room).slots
    by_cases hc42_21 : p1 < (216 : Int32)
    · refine own_pre (A := Tj38.setTop (mkF m 52 #[.val (.int p1)] [])) (fun tt kt => ?_) ?_
      · show Steps p.tables e below (Tj38.setTop (mkF m 42 #[.val (.int p1)] [(.int (216 : Int32)), (.int p1)])) _
        refine XS.icmpYes Xj38.here hx rfl (pc0 := 42) (pc' := 52) rfl (hb hby d1_42) rfl (tlt hc42_21).1 (by decide) (by decide) ?_
        exact kt
      show own_End p e below s (Tj38.setTop (mkF m 52 #[.val (.int p1)] [])) (Q1 Z p1 h0 n0) ({ frames := 0, cells := 0, slots := 0, locals := 0 } : Room).cells ({ frames := 0, cells := 0, slots := 0, locals := 0 } : Room).slots
      exact j52 _ _ Xj38 ej38 Nj38   (hj.trans (by simp only [own_base_38, if_pos hc42_21]))
    · refine own_pre (A := Tj38.setTop (mkF m 49 #[.val (.int p1)] [(.int (246 : Int32)), (.int p1)])) (fun tt kt => ?_) ?_
      · show Steps p.tables e below (Tj38.setTop (mkF m 42 #[.val (.int p1)] [(.int (216 : Int32)), (.int p1)])) _
        refine XS.icmpNo Xj38.here hx rfl (hb hby d1_42) rfl (flt hc42_21).1 ?_
        show Steps p.tables e below (Tj38.setTop (mkF m 45 #[.val (.int p1)] [])) _
        refine XS.iloadN Xj38.here hx rfl (hb hby d1_45) rfl ?_
        show Steps p.tables e below (Tj38.setTop (mkF m 46 #[.val (.int p1)] [(.int p1)])) _
        refine XS.sipush Xj38.here hx rfl (hb hby d1_46) ?_
        exact kt
      show own_End p e below s (Tj38.setTop (mkF m 49 #[.val (.int p1)] [(.int (246 : Int32)), (.int p1)])) (Q1 Z p1 h0 n0) ({ frames := 0, cells := 0, slots := 0, locals := 0 } : Room).cells ({ frames := 0, cells := 0, slots := 0, locals := 0 } : Room).slots
      by_cases hc49_22 : (246 : Int32) < p1
      · refine own_pre (A := Tj38.setTop (mkF m 52 #[.val (.int p1)] [])) (fun tt kt => ?_) ?_
        · show Steps p.tables e below (Tj38.setTop (mkF m 49 #[.val (.int p1)] [(.int (246 : Int32)), (.int p1)])) _
          refine XS.icmpNo Xj38.here hx rfl (hb hby d1_49) rfl (tlt hc49_22).2.2.2 ?_
          exact kt
        show own_End p e below s (Tj38.setTop (mkF m 52 #[.val (.int p1)] [])) (Q1 Z p1 h0 n0) ({ frames := 0, cells := 0, slots := 0, locals := 0 } : Room).cells ({ frames := 0, cells := 0, slots := 0, locals := 0 } : Room).slots
        exact j52 _ _ Xj38 ej38 Nj38   (hj.trans (by simp only [own_base_38, if_neg hc42_21, if_pos hc49_22]))
      · refine own_pre (A := Tj38.setTop (mkF m 185 #[.val (.int p1)] [])) (fun tt kt => ?_) ?_
        · show Steps p.tables e below (Tj38.setTop (mkF m 49 #[.val (.int p1)] [(.int (246 : Int32)), (.int p1)])) _
          refine XS.icmpYes Xj38.here hx rfl (pc0 := 49) (pc' := 185) rfl (hb hby d1_49) rfl (flt hc49_22).2.2.2 (by decide) (by decide) ?_
          exact kt
        show own_End p e below s (Tj38.setTop (mkF m 185 #[.val (.int p1)] [])) (Q1 Z p1 h0 n0) ({ frames := 0, cells := 0, slots := 0, locals := 0 } : Room).cells ({ frames := 0, cells := 0, slots := 0, locals := 0 } : Room).slots
        exact j185 _ _ Xj38 ej38 Nj38   (hj.trans (by simp only [own_base_38, if_neg hc42_21, if_neg hc49_22]))
  have j24 : ∀ (Tj24 : State) (Lj24 : List Loc) (Xj24 : Stand p l e ({ frames := 0, cells := 0, slots := 0, locals := 0 } : Room) s m #[(.int p1)] below meth c Tj24 Lj24 0 0) (ej24 : Tj24.heap = h0) (Nj24 : Fr n0 Lj24)  , own_base p1 = own_base_24 p1  → own_End p e below s (Tj24.setTop (mkF m 24 #[.val (.int p1)] [])) (Q1 Z p1 h0 n0) ({ frames := 0, cells := 0, slots := 0, locals := 0 } : Room).cells ({ frames := 0, cells := 0, slots := 0, locals := 0 } : Room).slots := by
    intro Tj24 Lj24 Xj24 ej24 Nj24   hj
    refine own_pre (A := Tj24.setTop (mkF m 28 #[.val (.int p1)] [(.int (192 : Int32)), (.int p1)])) (fun tt kt => ?_) ?_
    · show Steps p.tables e below (Tj24.setTop (mkF m 24 #[.val (.int p1)] [])) _
      refine XS.iloadN Xj24.here hx rfl (hb hby d1_24) rfl ?_
      show Steps p.tables e below (Tj24.setTop (mkF m 25 #[.val (.int p1)] [(.int p1)])) _
      refine XS.sipush Xj24.here hx rfl (hb hby d1_25) ?_
      exact kt
    show own_End p e below s (Tj24.setTop (mkF m 28 #[.val (.int p1)] [(.int (192 : Int32)), (.int p1)])) (Q1 Z p1 h0 n0) ({ frames := 0, cells := 0, slots := 0, locals := 0 } : Room).cells ({ frames := 0, cells := 0, slots := 0, locals := 0 } : Room).slots
    by_cases hc28_23 : p1 < (192 : Int32)
    · refine own_pre (A := Tj24.setTop (mkF m 38 #[.val (.int p1)] [])) (fun tt kt => ?_) ?_
      · show Steps p.tables e below (Tj24.setTop (mkF m 28 #[.val (.int p1)] [(.int (192 : Int32)), (.int p1)])) _
        refine XS.icmpYes Xj24.here hx rfl (pc0 := 28) (pc' := 38) rfl (hb hby d1_28) rfl (tlt hc28_23).1 (by decide) (by decide) ?_
        exact kt
      show own_End p e below s (Tj24.setTop (mkF m 38 #[.val (.int p1)] [])) (Q1 Z p1 h0 n0) ({ frames := 0, cells := 0, slots := 0, locals := 0 } : Room).cells ({ frames := 0, cells := 0, slots := 0, locals := 0 } : Room).slots
      exact j38 _ _ Xj24 ej24 Nj24   (hj.trans (by simp only [own_base_24, if_pos hc28_23]))
    · refine own_pre (A := Tj24.setTop (mkF m 35 #[.val (.int p1)] [(.int (214 : Int32)), (.int p1)])) (fun tt kt => ?_) ?_
      · show Steps p.tables e below (Tj24.setTop (mkF m 28 #[.val (.int p1)] [(.int (192 : Int32)), (.int p1)])) _
        refine XS.icmpNo Xj24.here hx rfl (hb hby d1_28) rfl (flt hc28_23).1 ?_
        show Steps p.tables e below (Tj24.setTop (mkF m 31 #[.val (.int p1)] [])) _
        refine XS.iloadN Xj24.here hx rfl (hb hby d1_31) rfl ?_
        show Steps p.tables e below (Tj24.setTop (mkF m 32 #[.val (.int p1)] [(.int p1)])) _
        refine XS.sipush Xj24.here hx rfl (hb hby d1_32) ?_
        exact kt
      show own_End p e below s (Tj24.setTop (mkF m 35 #[.val (.int p1)] [(.int (214 : Int32)), (.int p1)])) (Q1 Z p1 h0 n0) ({ frames := 0, cells := 0, slots := 0, locals := 0 } : Room).cells ({ frames := 0, cells := 0, slots := 0, locals := 0 } : Room).slots
      by_cases hc35_24 : (214 : Int32) < p1
      · refine own_pre (A := Tj24.setTop (mkF m 38 #[.val (.int p1)] [])) (fun tt kt => ?_) ?_
        · show Steps p.tables e below (Tj24.setTop (mkF m 35 #[.val (.int p1)] [(.int (214 : Int32)), (.int p1)])) _
          refine XS.icmpNo Xj24.here hx rfl (hb hby d1_35) rfl (tlt hc35_24).2.2.2 ?_
          exact kt
        show own_End p e below s (Tj24.setTop (mkF m 38 #[.val (.int p1)] [])) (Q1 Z p1 h0 n0) ({ frames := 0, cells := 0, slots := 0, locals := 0 } : Room).cells ({ frames := 0, cells := 0, slots := 0, locals := 0 } : Room).slots
        exact j38 _ _ Xj24 ej24 Nj24   (hj.trans (by simp only [own_base_24, if_neg hc28_23, if_pos hc35_24]))
      · refine own_pre (A := Tj24.setTop (mkF m 185 #[.val (.int p1)] [])) (fun tt kt => ?_) ?_
        · show Steps p.tables e below (Tj24.setTop (mkF m 35 #[.val (.int p1)] [(.int (214 : Int32)), (.int p1)])) _
          refine XS.icmpYes Xj24.here hx rfl (pc0 := 35) (pc' := 185) rfl (hb hby d1_35) rfl (flt hc35_24).2.2.2 (by decide) (by decide) ?_
          exact kt
        show own_End p e below s (Tj24.setTop (mkF m 185 #[.val (.int p1)] [])) (Q1 Z p1 h0 n0) ({ frames := 0, cells := 0, slots := 0, locals := 0 } : Room).cells ({ frames := 0, cells := 0, slots := 0, locals := 0 } : Room).slots
        exact j185 _ _ Xj24 ej24 Nj24   (hj.trans (by simp only [own_base_24, if_neg hc28_23, if_neg hc35_24]))
  have j12 : ∀ (Tj12 : State) (Lj12 : List Loc) (Xj12 : Stand p l e ({ frames := 0, cells := 0, slots := 0, locals := 0 } : Room) s m #[(.int p1)] below meth c Tj12 Lj12 0 0) (ej12 : Tj12.heap = h0) (Nj12 : Fr n0 Lj12)  , own_base p1 = own_base_12 p1  → own_End p e below s (Tj12.setTop (mkF m 12 #[.val (.int p1)] [])) (Q1 Z p1 h0 n0) ({ frames := 0, cells := 0, slots := 0, locals := 0 } : Room).cells ({ frames := 0, cells := 0, slots := 0, locals := 0 } : Room).slots := by
    intro Tj12 Lj12 Xj12 ej12 Nj12   hj
    refine own_pre (A := Tj12.setTop (mkF m 15 #[.val (.int p1)] [(.int (97 : Int32)), (.int p1)])) (fun tt kt => ?_) ?_
    · show Steps p.tables e below (Tj12.setTop (mkF m 12 #[.val (.int p1)] [])) _
      refine XS.iloadN Xj12.here hx rfl (hb hby d1_12) rfl ?_
      show Steps p.tables e below (Tj12.setTop (mkF m 13 #[.val (.int p1)] [(.int p1)])) _
      refine XS.bipush Xj12.here hx rfl (hb hby d1_13) ?_
      exact kt
    show own_End p e below s (Tj12.setTop (mkF m 15 #[.val (.int p1)] [(.int (97 : Int32)), (.int p1)])) (Q1 Z p1 h0 n0) ({ frames := 0, cells := 0, slots := 0, locals := 0 } : Room).cells ({ frames := 0, cells := 0, slots := 0, locals := 0 } : Room).slots
    by_cases hc15_25 : p1 < (97 : Int32)
    · refine own_pre (A := Tj12.setTop (mkF m 24 #[.val (.int p1)] [])) (fun tt kt => ?_) ?_
      · show Steps p.tables e below (Tj12.setTop (mkF m 15 #[.val (.int p1)] [(.int (97 : Int32)), (.int p1)])) _
        refine XS.icmpYes Xj12.here hx rfl (pc0 := 15) (pc' := 24) rfl (hb hby d1_15) rfl (tlt hc15_25).1 (by decide) (by decide) ?_
        exact kt
      show own_End p e below s (Tj12.setTop (mkF m 24 #[.val (.int p1)] [])) (Q1 Z p1 h0 n0) ({ frames := 0, cells := 0, slots := 0, locals := 0 } : Room).cells ({ frames := 0, cells := 0, slots := 0, locals := 0 } : Room).slots
      exact j24 _ _ Xj12 ej12 Nj12   (hj.trans (by simp only [own_base_12, if_pos hc15_25]))
    · refine own_pre (A := Tj12.setTop (mkF m 21 #[.val (.int p1)] [(.int (122 : Int32)), (.int p1)])) (fun tt kt => ?_) ?_
      · show Steps p.tables e below (Tj12.setTop (mkF m 15 #[.val (.int p1)] [(.int (97 : Int32)), (.int p1)])) _
        refine XS.icmpNo Xj12.here hx rfl (hb hby d1_15) rfl (flt hc15_25).1 ?_
        show Steps p.tables e below (Tj12.setTop (mkF m 18 #[.val (.int p1)] [])) _
        refine XS.iloadN Xj12.here hx rfl (hb hby d1_18) rfl ?_
        show Steps p.tables e below (Tj12.setTop (mkF m 19 #[.val (.int p1)] [(.int p1)])) _
        refine XS.bipush Xj12.here hx rfl (hb hby d1_19) ?_
        exact kt
      show own_End p e below s (Tj12.setTop (mkF m 21 #[.val (.int p1)] [(.int (122 : Int32)), (.int p1)])) (Q1 Z p1 h0 n0) ({ frames := 0, cells := 0, slots := 0, locals := 0 } : Room).cells ({ frames := 0, cells := 0, slots := 0, locals := 0 } : Room).slots
      by_cases hc21_26 : (122 : Int32) < p1
      · refine own_pre (A := Tj12.setTop (mkF m 24 #[.val (.int p1)] [])) (fun tt kt => ?_) ?_
        · show Steps p.tables e below (Tj12.setTop (mkF m 21 #[.val (.int p1)] [(.int (122 : Int32)), (.int p1)])) _
          refine XS.icmpNo Xj12.here hx rfl (hb hby d1_21) rfl (tlt hc21_26).2.2.2 ?_
          exact kt
        show own_End p e below s (Tj12.setTop (mkF m 24 #[.val (.int p1)] [])) (Q1 Z p1 h0 n0) ({ frames := 0, cells := 0, slots := 0, locals := 0 } : Room).cells ({ frames := 0, cells := 0, slots := 0, locals := 0 } : Room).slots
        exact j24 _ _ Xj12 ej12 Nj12   (hj.trans (by simp only [own_base_12, if_neg hc15_25, if_pos hc21_26]))
      · refine own_pre (A := Tj12.setTop (mkF m 185 #[.val (.int p1)] [])) (fun tt kt => ?_) ?_
        · show Steps p.tables e below (Tj12.setTop (mkF m 21 #[.val (.int p1)] [(.int (122 : Int32)), (.int p1)])) _
          refine XS.icmpYes Xj12.here hx rfl (pc0 := 21) (pc' := 185) rfl (hb hby d1_21) rfl (flt hc21_26).2.2.2 (by decide) (by decide) ?_
          exact kt
        show own_End p e below s (Tj12.setTop (mkF m 185 #[.val (.int p1)] [])) (Q1 Z p1 h0 n0) ({ frames := 0, cells := 0, slots := 0, locals := 0 } : Room).cells ({ frames := 0, cells := 0, slots := 0, locals := 0 } : Room).slots
        exact j185 _ _ Xj12 ej12 Nj12   (hj.trans (by simp only [own_base_12, if_neg hc15_25, if_neg hc21_26]))
  refine own_pre (A := s₁.setTop (mkF m 3 #[.val (.int p1)] [(.int (65 : Int32)), (.int p1)])) (fun tt kt => ?_) ?_
  · show Steps p.tables e below (s₁.setTop (mkF m 0 #[.val (.int p1)] [])) _
    refine XS.iloadN X0.here hx rfl (hb hby d1_0) rfl ?_
    show Steps p.tables e below (s₁.setTop (mkF m 1 #[.val (.int p1)] [(.int p1)])) _
    refine XS.bipush X0.here hx rfl (hb hby d1_1) ?_
    exact kt
  show own_End p e below s (s₁.setTop (mkF m 3 #[.val (.int p1)] [(.int (65 : Int32)), (.int p1)])) (Q1 Z p1 h0 n0) ({ frames := 0, cells := 0, slots := 0, locals := 0 } : Room).cells ({ frames := 0, cells := 0, slots := 0, locals := 0 } : Room).slots
  by_cases hc3_27 : p1 < (65 : Int32)
  · refine own_pre (A := s₁.setTop (mkF m 12 #[.val (.int p1)] [])) (fun tt kt => ?_) ?_
    · show Steps p.tables e below (s₁.setTop (mkF m 3 #[.val (.int p1)] [(.int (65 : Int32)), (.int p1)])) _
      refine XS.icmpYes X0.here hx rfl (pc0 := 3) (pc' := 12) rfl (hb hby d1_3) rfl (tlt hc3_27).1 (by decide) (by decide) ?_
      exact kt
    show own_End p e below s (s₁.setTop (mkF m 12 #[.val (.int p1)] [])) (Q1 Z p1 h0 n0) ({ frames := 0, cells := 0, slots := 0, locals := 0 } : Room).cells ({ frames := 0, cells := 0, slots := 0, locals := 0 } : Room).slots
    exact j12 _ _ X0 e0 N0   (hj.trans (by simp only [own_base, if_pos hc3_27]))
  · refine own_pre (A := s₁.setTop (mkF m 9 #[.val (.int p1)] [(.int (90 : Int32)), (.int p1)])) (fun tt kt => ?_) ?_
    · show Steps p.tables e below (s₁.setTop (mkF m 3 #[.val (.int p1)] [(.int (65 : Int32)), (.int p1)])) _
      refine XS.icmpNo X0.here hx rfl (hb hby d1_3) rfl (flt hc3_27).1 ?_
      show Steps p.tables e below (s₁.setTop (mkF m 6 #[.val (.int p1)] [])) _
      refine XS.iloadN X0.here hx rfl (hb hby d1_6) rfl ?_
      show Steps p.tables e below (s₁.setTop (mkF m 7 #[.val (.int p1)] [(.int p1)])) _
      refine XS.bipush X0.here hx rfl (hb hby d1_7) ?_
      exact kt
    show own_End p e below s (s₁.setTop (mkF m 9 #[.val (.int p1)] [(.int (90 : Int32)), (.int p1)])) (Q1 Z p1 h0 n0) ({ frames := 0, cells := 0, slots := 0, locals := 0 } : Room).cells ({ frames := 0, cells := 0, slots := 0, locals := 0 } : Room).slots
    by_cases hc9_28 : (90 : Int32) < p1
    · refine own_pre (A := s₁.setTop (mkF m 12 #[.val (.int p1)] [])) (fun tt kt => ?_) ?_
      · show Steps p.tables e below (s₁.setTop (mkF m 9 #[.val (.int p1)] [(.int (90 : Int32)), (.int p1)])) _
        refine XS.icmpNo X0.here hx rfl (hb hby d1_9) rfl (tlt hc9_28).2.2.2 ?_
        exact kt
      show own_End p e below s (s₁.setTop (mkF m 12 #[.val (.int p1)] [])) (Q1 Z p1 h0 n0) ({ frames := 0, cells := 0, slots := 0, locals := 0 } : Room).cells ({ frames := 0, cells := 0, slots := 0, locals := 0 } : Room).slots
      exact j12 _ _ X0 e0 N0   (hj.trans (by simp only [own_base, if_neg hc3_27, if_pos hc9_28]))
    · refine own_pre (A := s₁.setTop (mkF m 185 #[.val (.int p1)] [])) (fun tt kt => ?_) ?_
      · show Steps p.tables e below (s₁.setTop (mkF m 9 #[.val (.int p1)] [(.int (90 : Int32)), (.int p1)])) _
        refine XS.icmpYes X0.here hx rfl (pc0 := 9) (pc' := 185) rfl (hb hby d1_9) rfl (flt hc9_28).2.2.2 (by decide) (by decide) ?_
        exact kt
      show own_End p e below s (s₁.setTop (mkF m 185 #[.val (.int p1)] [])) (Q1 Z p1 h0 n0) ({ frames := 0, cells := 0, slots := 0, locals := 0 } : Room).cells ({ frames := 0, cells := 0, slots := 0, locals := 0 } : Room).slots
      exact j185 _ _ X0 e0 N0   (hj.trans (by simp only [own_base, if_neg hc3_27, if_neg hc9_28]))
def own_in (p1 : Int32) (p2 : Int32) (p3 : Int32) : Int32 := (if p1 < p2 then (0 : Int32) else (if p3 < p1 then (0 : Int32) else (1 : Int32)))
theorem d3_0 : decode method_3_code 0 = .ok (.iload_n 0, 1) := by decide +kernel
theorem d3_1 : decode method_3_code 1 = .ok (.iload_n 1, 1) := by decide +kernel
theorem d3_2 : decode method_3_code 2 = .ok (.if_icmp .lt 12, 3) := by decide +kernel
theorem d3_5 : decode method_3_code 5 = .ok (.iload_n 0, 1) := by decide +kernel
theorem d3_6 : decode method_3_code 6 = .ok (.iload_n 2, 1) := by decide +kernel
theorem d3_7 : decode method_3_code 7 = .ok (.if_icmp .gt 7, 3) := by decide +kernel
theorem d3_10 : decode method_3_code 10 = .ok (.iconst 1, 1) := by decide +kernel
theorem d3_11 : decode method_3_code 11 = .ok (.goto 4, 3) := by decide +kernel
theorem d3_14 : decode method_3_code 14 = .ok (.iconst 0, 1) := by decide +kernel
theorem d3_15 : decode method_3_code 15 = .ok (.ireturn, 1) := by decide +kernel
theorem pn_3 : plainName "com/example/solmap/solmap/rdf/TermSyntaxIsPnCharsBasePinLaw" = true := by first | (simp [plainName, overriddenIn]; done) | decide +kernel
theorem ef_3 (m : MethodId) (x0 : Int32) (x1 : Int32) (x2 : Int32) : entryFrame m #[(.int x0), (.int x1), (.int x2)] 3 = mkF m 0 #[.val (.int x0), .val (.int x1), .val (.int x2)] [] := by first | (simp [entryFrame, mkF, argsToLocals, Value.category]; done) | rfl
def Q3 (Z : State) (p1 : Int32) (p2 : Int32) (p3 : Int32) (h0 : Heap) (n0 : Nat) (v : Option Value) (h : Heap) (L : List Loc) : Prop := v = some (.int (own_in p1 p2 p3)) ∧ Fr n0 L ∧ h = h0
set_option maxRecDepth 65536 in
set_option maxHeartbeats 40000000 in
theorem rm3 (l : Launch) (Z : State) (a0 : Array Value) (hw : ∀ d ∈ tables_1, d.before a0 Z = true) (ws : List Jvm.Cond) (p1 : Int32) (p2 : Int32) (p3 : Int32) (h0 : Heap) (n0 : Nat) (Z0 : n0 ≤ h0.size) :
    MetFree l (⟨"com/example/solmap/solmap/rdf/TermSyntaxIsPnCharsBasePinLaw", "in", "(III)Z"⟩ : MethodName) (head1 (Jvm.Cond.code (⟨"com/example/solmap/solmap/rdf/TermSyntaxIsPnCharsBasePinLaw", "in", "(III)Z"⟩ : MethodName) method_3_code 3 (some .boolean) :: ws) ({ frames := 0, cells := 0, slots := 0, locals := 0 } : Room)) (fun a U => a = #[(.int p1), (.int p2), (.int p3)] ∧ Z.Warmed39 U.vm ∧ U.heap = h0) (fun _ _ _ _ _ => True) (fun _ U o U' => ∃ v L, o = .returned v ∧ Q3 Z p1 p2 p3 h0 n0 v U'.heap L ∧ FrameEnd U o U' L ({ frames := 0, cells := 0, slots := 0, locals := 0 } : Room).cells ({ frames := 0, cells := 0, slots := 0, locals := 0 } : Room).slots) := by
  refine MetFree.of_bodySF (plainFor_of_name pn_3) hisR ?_
  intro p e s m args below meth c s₁ Bd hml0 hP hK
  obtain ⟨rfl, hZ, hh⟩ := hP
  have hx := Bd.exec
  have hby := Bd.bytes
  have hml : c.maxLocals = 3 := hml0
  have hown : s.vm.findClass "com/example/solmap/solmap/rdf/TermSyntaxIsPnCharsBasePinLaw" = some m.cls := findClass_of_methodNamed Bd.named
  have hnm := (name_of_methodNamed Bd.named Bd.method).1
  have X0 : Stand p l e ({ frames := 0, cells := 0, slots := 0, locals := 0 } : Room) s m #[(.int p1), (.int p2), (.int p3)] below meth c s₁ [] 0 0 := Stand.of_body Bd
  have e0 : s₁.heap = h0 := by rw [← hh, Bd.state]; rfl
  have N0 := Fr.nil n0
  show own_End p e below s (s₁.setTop (entryFrame m #[(.int p1), (.int p2), (.int p3)] 3)) (Q3 Z p1 p2 p3 h0 n0) ({ frames := 0, cells := 0, slots := 0, locals := 0 } : Room).cells ({ frames := 0, cells := 0, slots := 0, locals := 0 } : Room).slots
  refine own_pre (A := s₁.setTop (mkF m 0 #[.val (.int p1), .val (.int p2), .val (.int p3)] [])) (fun tt kt => castTop (ef_3 m p1 p2 p3) kt) ?_
  show own_End p e below s (s₁.setTop (mkF m 0 #[.val (.int p1), .val (.int p2), .val (.int p3)] [])) (Q3 Z p1 p2 p3 h0 n0) ({ frames := 0, cells := 0, slots := 0, locals := 0 } : Room).cells ({ frames := 0, cells := 0, slots := 0, locals := 0 } : Room).slots
  have hj : own_in p1 p2 p3 = own_in p1 p2 p3 := rfl
  refine own_pre (A := s₁.setTop (mkF m 2 #[.val (.int p1), .val (.int p2), .val (.int p3)] [(.int p2), (.int p1)])) (fun tt kt => ?_) ?_
  · show Steps p.tables e below (s₁.setTop (mkF m 0 #[.val (.int p1), .val (.int p2), .val (.int p3)] [])) _
    refine XS.iloadN X0.here hx rfl (hb hby d3_0) rfl ?_
    show Steps p.tables e below (s₁.setTop (mkF m 1 #[.val (.int p1), .val (.int p2), .val (.int p3)] [(.int p1)])) _
    refine XS.iloadN X0.here hx rfl (hb hby d3_1) rfl ?_
    exact kt
  show own_End p e below s (s₁.setTop (mkF m 2 #[.val (.int p1), .val (.int p2), .val (.int p3)] [(.int p2), (.int p1)])) (Q3 Z p1 p2 p3 h0 n0) ({ frames := 0, cells := 0, slots := 0, locals := 0 } : Room).cells ({ frames := 0, cells := 0, slots := 0, locals := 0 } : Room).slots
  by_cases hc2_1 : p1 < p2
  · refine own_pre (A := s₁.setTop (mkF m 15 #[.val (.int p1), .val (.int p2), .val (.int p3)] [(.int (0 : Int32))])) (fun tt kt => ?_) ?_
    · show Steps p.tables e below (s₁.setTop (mkF m 2 #[.val (.int p1), .val (.int p2), .val (.int p3)] [(.int p2), (.int p1)])) _
      refine XS.icmpYes X0.here hx rfl (pc0 := 2) (pc' := 14) rfl (hb hby d3_2) rfl (tlt hc2_1).1 (by decide) (by decide) ?_
      show Steps p.tables e below (s₁.setTop (mkF m 14 #[.val (.int p1), .val (.int p2), .val (.int p3)] [])) _
      refine XS.iconst X0.here hx rfl (hb hby d3_14) ?_
      exact kt
    show own_End p e below s (s₁.setTop (mkF m 15 #[.val (.int p1), .val (.int p2), .val (.int p3)] [(.int (0 : Int32))])) (Q3 Z p1 p2 p3 h0 n0) ({ frames := 0, cells := 0, slots := 0, locals := 0 } : Room).cells ({ frames := 0, cells := 0, slots := 0, locals := 0 } : Room).slots
    have hv : (own_in p1 p2 p3) = (0 : Int32) := hj.trans (by simp only [own_in, if_pos hc2_1])
    obtain ⟨fs, hr, hrun, hended, hW, hsame⟩ := X0.leave (v := some (.int (0 : Int32))) (fun h => by rw [Bd.returns] at h; cases h)
    refine ⟨_, _, ?_, hrun, hended, _, _, rfl, ?_, ⟨_, rfl⟩, hW, hsame.mono (by decide) (by decide)⟩
    · exact retN X0 hx (t := .boolean) Bd.returns (by simp) (hb hby d3_15) hr
    · show Q3 Z p1 p2 p3 h0 n0 _ s₁.heap _
      rw [e0]
      exact ⟨(congrArg (fun z => some (Value.int z)) hv.symm), N0, rfl⟩
  · refine own_pre (A := s₁.setTop (mkF m 7 #[.val (.int p1), .val (.int p2), .val (.int p3)] [(.int p3), (.int p1)])) (fun tt kt => ?_) ?_
    · show Steps p.tables e below (s₁.setTop (mkF m 2 #[.val (.int p1), .val (.int p2), .val (.int p3)] [(.int p2), (.int p1)])) _
      refine XS.icmpNo X0.here hx rfl (hb hby d3_2) rfl (flt hc2_1).1 ?_
      show Steps p.tables e below (s₁.setTop (mkF m 5 #[.val (.int p1), .val (.int p2), .val (.int p3)] [])) _
      refine XS.iloadN X0.here hx rfl (hb hby d3_5) rfl ?_
      show Steps p.tables e below (s₁.setTop (mkF m 6 #[.val (.int p1), .val (.int p2), .val (.int p3)] [(.int p1)])) _
      refine XS.iloadN X0.here hx rfl (hb hby d3_6) rfl ?_
      exact kt
    show own_End p e below s (s₁.setTop (mkF m 7 #[.val (.int p1), .val (.int p2), .val (.int p3)] [(.int p3), (.int p1)])) (Q3 Z p1 p2 p3 h0 n0) ({ frames := 0, cells := 0, slots := 0, locals := 0 } : Room).cells ({ frames := 0, cells := 0, slots := 0, locals := 0 } : Room).slots
    by_cases hc7_2 : p3 < p1
    · refine own_pre (A := s₁.setTop (mkF m 15 #[.val (.int p1), .val (.int p2), .val (.int p3)] [(.int (0 : Int32))])) (fun tt kt => ?_) ?_
      · show Steps p.tables e below (s₁.setTop (mkF m 7 #[.val (.int p1), .val (.int p2), .val (.int p3)] [(.int p3), (.int p1)])) _
        refine XS.icmpYes X0.here hx rfl (pc0 := 7) (pc' := 14) rfl (hb hby d3_7) rfl (tlt hc7_2).2.2.1 (by decide) (by decide) ?_
        show Steps p.tables e below (s₁.setTop (mkF m 14 #[.val (.int p1), .val (.int p2), .val (.int p3)] [])) _
        refine XS.iconst X0.here hx rfl (hb hby d3_14) ?_
        exact kt
      show own_End p e below s (s₁.setTop (mkF m 15 #[.val (.int p1), .val (.int p2), .val (.int p3)] [(.int (0 : Int32))])) (Q3 Z p1 p2 p3 h0 n0) ({ frames := 0, cells := 0, slots := 0, locals := 0 } : Room).cells ({ frames := 0, cells := 0, slots := 0, locals := 0 } : Room).slots
      have hv : (own_in p1 p2 p3) = (0 : Int32) := hj.trans (by simp only [own_in, if_neg hc2_1, if_pos hc7_2])
      obtain ⟨fs, hr, hrun, hended, hW, hsame⟩ := X0.leave (v := some (.int (0 : Int32))) (fun h => by rw [Bd.returns] at h; cases h)
      refine ⟨_, _, ?_, hrun, hended, _, _, rfl, ?_, ⟨_, rfl⟩, hW, hsame.mono (by decide) (by decide)⟩
      · exact retN X0 hx (t := .boolean) Bd.returns (by simp) (hb hby d3_15) hr
      · show Q3 Z p1 p2 p3 h0 n0 _ s₁.heap _
        rw [e0]
        exact ⟨(congrArg (fun z => some (Value.int z)) hv.symm), N0, rfl⟩
    · refine own_pre (A := s₁.setTop (mkF m 15 #[.val (.int p1), .val (.int p2), .val (.int p3)] [(.int (1 : Int32))])) (fun tt kt => ?_) ?_
      · show Steps p.tables e below (s₁.setTop (mkF m 7 #[.val (.int p1), .val (.int p2), .val (.int p3)] [(.int p3), (.int p1)])) _
        refine XS.icmpNo X0.here hx rfl (hb hby d3_7) rfl (flt hc7_2).2.2.1 ?_
        show Steps p.tables e below (s₁.setTop (mkF m 10 #[.val (.int p1), .val (.int p2), .val (.int p3)] [])) _
        refine XS.iconst X0.here hx rfl (hb hby d3_10) ?_
        show Steps p.tables e below (s₁.setTop (mkF m 11 #[.val (.int p1), .val (.int p2), .val (.int p3)] [(.int (1 : Int32))])) _
        refine XS.goto X0.here hx rfl (pc0 := 11) (pc' := 15) rfl (hb hby d3_11) (by decide) (by decide) ?_
        exact kt
      show own_End p e below s (s₁.setTop (mkF m 15 #[.val (.int p1), .val (.int p2), .val (.int p3)] [(.int (1 : Int32))])) (Q3 Z p1 p2 p3 h0 n0) ({ frames := 0, cells := 0, slots := 0, locals := 0 } : Room).cells ({ frames := 0, cells := 0, slots := 0, locals := 0 } : Room).slots
      have hv : (own_in p1 p2 p3) = (1 : Int32) := hj.trans (by simp only [own_in, if_neg hc2_1, if_neg hc7_2])
      obtain ⟨fs, hr, hrun, hended, hW, hsame⟩ := X0.leave (v := some (.int (1 : Int32))) (fun h => by rw [Bd.returns] at h; cases h)
      refine ⟨_, _, ?_, hrun, hended, _, _, rfl, ?_, ⟨_, rfl⟩, hW, hsame.mono (by decide) (by decide)⟩
      · exact retN X0 hx (t := .boolean) Bd.returns (by simp) (hb hby d3_15) hr
      · show Q3 Z p1 p2 p3 h0 n0 _ s₁.heap _
        rw [e0]
        exact ⟨(congrArg (fun z => some (Value.int z)) hv.symm), N0, rfl⟩
def own_ref (p1 : Int32) : Int32 := (if p1 < (65 : Int32) then (0 : Int32) else (if (983039 : Int32) < p1 then (0 : Int32) else (if (own_in p1 (91 : Int32) (96 : Int32)) = (0 : Int32) then (if (own_in p1 (123 : Int32) (191 : Int32)) = (0 : Int32) then (if p1 = (215 : Int32) then (0 : Int32) else (if p1 = (247 : Int32) then (0 : Int32) else (if (own_in p1 (768 : Int32) (879 : Int32)) = (0 : Int32) then (if p1 = (894 : Int32) then (0 : Int32) else (if (own_in p1 (8192 : Int32) (8203 : Int32)) = (0 : Int32) then (if (own_in p1 (8206 : Int32) (8303 : Int32)) = (0 : Int32) then (if (own_in p1 (8592 : Int32) (11263 : Int32)) = (0 : Int32) then (if (own_in p1 (12272 : Int32) (12288 : Int32)) = (0 : Int32) then (if (own_in p1 (55296 : Int32) (63743 : Int32)) = (0 : Int32) then (if (own_in p1 (64976 : Int32) (65007 : Int32)) = (0 : Int32) then (if (own_in p1 (65534 : Int32) (65535 : Int32)) = (0 : Int32) then (1 : Int32) else (0 : Int32)) else (0 : Int32)) else (0 : Int32)) else (0 : Int32)) else (0 : Int32)) else (0 : Int32)) else (0 : Int32))) else (0 : Int32)))) else (0 : Int32)) else (0 : Int32))))
theorem d2_0 : decode method_4_code 0 = .ok (.iload_n 0, 1) := by decide +kernel
theorem d2_1 : decode method_4_code 1 = .ok (.bipush 65, 2) := by decide +kernel
theorem d2_3 : decode method_4_code 3 = .ok (.if_icmp .lt 9, 3) := by decide +kernel
theorem d2_6 : decode method_4_code 6 = .ok (.iload_n 0, 1) := by decide +kernel
theorem d2_7 : decode method_4_code 7 = .ok (.ldc 13, 2) := by decide +kernel
theorem d2_9 : decode method_4_code 9 = .ok (.if_icmp .le 5, 3) := by decide +kernel
theorem d2_12 : decode method_4_code 12 = .ok (.iconst 0, 1) := by decide +kernel
theorem d2_13 : decode method_4_code 13 = .ok (.ireturn, 1) := by decide +kernel
theorem d2_14 : decode method_4_code 14 = .ok (.iload_n 0, 1) := by decide +kernel
theorem d2_15 : decode method_4_code 15 = .ok (.bipush 91, 2) := by decide +kernel
theorem d2_17 : decode method_4_code 17 = .ok (.bipush 96, 2) := by decide +kernel
theorem d2_19 : decode method_4_code 19 = .ok (.invokestatic 29, 3) := by decide +kernel
theorem d2_22 : decode method_4_code 22 = .ok (.ifCond .ne 134, 3) := by decide +kernel
theorem d2_25 : decode method_4_code 25 = .ok (.iload_n 0, 1) := by decide +kernel
theorem d2_26 : decode method_4_code 26 = .ok (.bipush 123, 2) := by decide +kernel
theorem d2_28 : decode method_4_code 28 = .ok (.sipush 191, 3) := by decide +kernel
theorem d2_31 : decode method_4_code 31 = .ok (.invokestatic 29, 3) := by decide +kernel
theorem d2_34 : decode method_4_code 34 = .ok (.ifCond .ne 122, 3) := by decide +kernel
theorem d2_37 : decode method_4_code 37 = .ok (.iload_n 0, 1) := by decide +kernel
theorem d2_38 : decode method_4_code 38 = .ok (.sipush 215, 3) := by decide +kernel
theorem d2_41 : decode method_4_code 41 = .ok (.if_icmp .eq 115, 3) := by decide +kernel
theorem d2_44 : decode method_4_code 44 = .ok (.iload_n 0, 1) := by decide +kernel
theorem d2_45 : decode method_4_code 45 = .ok (.sipush 247, 3) := by decide +kernel
theorem d2_48 : decode method_4_code 48 = .ok (.if_icmp .eq 108, 3) := by decide +kernel
theorem d2_51 : decode method_4_code 51 = .ok (.iload_n 0, 1) := by decide +kernel
theorem d2_52 : decode method_4_code 52 = .ok (.sipush 768, 3) := by decide +kernel
theorem d2_55 : decode method_4_code 55 = .ok (.sipush 879, 3) := by decide +kernel
theorem d2_58 : decode method_4_code 58 = .ok (.invokestatic 29, 3) := by decide +kernel
theorem d2_61 : decode method_4_code 61 = .ok (.ifCond .ne 95, 3) := by decide +kernel
theorem d2_64 : decode method_4_code 64 = .ok (.iload_n 0, 1) := by decide +kernel
theorem d2_65 : decode method_4_code 65 = .ok (.sipush 894, 3) := by decide +kernel
theorem d2_68 : decode method_4_code 68 = .ok (.if_icmp .eq 88, 3) := by decide +kernel
theorem d2_71 : decode method_4_code 71 = .ok (.iload_n 0, 1) := by decide +kernel
theorem d2_72 : decode method_4_code 72 = .ok (.sipush 8192, 3) := by decide +kernel
theorem d2_75 : decode method_4_code 75 = .ok (.sipush 8203, 3) := by decide +kernel
theorem d2_78 : decode method_4_code 78 = .ok (.invokestatic 29, 3) := by decide +kernel
theorem d2_81 : decode method_4_code 81 = .ok (.ifCond .ne 75, 3) := by decide +kernel
theorem d2_84 : decode method_4_code 84 = .ok (.iload_n 0, 1) := by decide +kernel
theorem d2_85 : decode method_4_code 85 = .ok (.sipush 8206, 3) := by decide +kernel
theorem d2_88 : decode method_4_code 88 = .ok (.sipush 8303, 3) := by decide +kernel
theorem d2_91 : decode method_4_code 91 = .ok (.invokestatic 29, 3) := by decide +kernel
theorem d2_94 : decode method_4_code 94 = .ok (.ifCond .ne 62, 3) := by decide +kernel
theorem d2_97 : decode method_4_code 97 = .ok (.iload_n 0, 1) := by decide +kernel
theorem d2_98 : decode method_4_code 98 = .ok (.sipush 8592, 3) := by decide +kernel
theorem d2_101 : decode method_4_code 101 = .ok (.sipush 11263, 3) := by decide +kernel
theorem d2_104 : decode method_4_code 104 = .ok (.invokestatic 29, 3) := by decide +kernel
theorem d2_107 : decode method_4_code 107 = .ok (.ifCond .ne 49, 3) := by decide +kernel
theorem d2_110 : decode method_4_code 110 = .ok (.iload_n 0, 1) := by decide +kernel
theorem d2_111 : decode method_4_code 111 = .ok (.sipush 12272, 3) := by decide +kernel
theorem d2_114 : decode method_4_code 114 = .ok (.sipush 12288, 3) := by decide +kernel
theorem d2_117 : decode method_4_code 117 = .ok (.invokestatic 29, 3) := by decide +kernel
theorem d2_120 : decode method_4_code 120 = .ok (.ifCond .ne 36, 3) := by decide +kernel
theorem d2_123 : decode method_4_code 123 = .ok (.iload_n 0, 1) := by decide +kernel
theorem d2_124 : decode method_4_code 124 = .ok (.ldc 33, 2) := by decide +kernel
theorem d2_126 : decode method_4_code 126 = .ok (.ldc 34, 2) := by decide +kernel
theorem d2_128 : decode method_4_code 128 = .ok (.invokestatic 29, 3) := by decide +kernel
theorem d2_131 : decode method_4_code 131 = .ok (.ifCond .ne 25, 3) := by decide +kernel
theorem d2_134 : decode method_4_code 134 = .ok (.iload_n 0, 1) := by decide +kernel
theorem d2_135 : decode method_4_code 135 = .ok (.ldc 35, 2) := by decide +kernel
theorem d2_137 : decode method_4_code 137 = .ok (.ldc 36, 2) := by decide +kernel
theorem d2_139 : decode method_4_code 139 = .ok (.invokestatic 29, 3) := by decide +kernel
theorem d2_142 : decode method_4_code 142 = .ok (.ifCond .ne 14, 3) := by decide +kernel
theorem d2_145 : decode method_4_code 145 = .ok (.iload_n 0, 1) := by decide +kernel
theorem d2_146 : decode method_4_code 146 = .ok (.ldc 37, 2) := by decide +kernel
theorem d2_148 : decode method_4_code 148 = .ok (.ldc 38, 2) := by decide +kernel
theorem d2_150 : decode method_4_code 150 = .ok (.invokestatic 29, 3) := by decide +kernel
theorem d2_153 : decode method_4_code 153 = .ok (.ifCond .eq 5, 3) := by decide +kernel
theorem d2_156 : decode method_4_code 156 = .ok (.iconst 0, 1) := by decide +kernel
theorem d2_157 : decode method_4_code 157 = .ok (.ireturn, 1) := by decide +kernel
theorem d2_158 : decode method_4_code 158 = .ok (.iconst 1, 1) := by decide +kernel
theorem d2_159 : decode method_4_code 159 = .ok (.ireturn, 1) := by decide +kernel
theorem pn_2 : plainName "com/example/solmap/solmap/rdf/TermSyntaxIsPnCharsBasePinLaw" = true := by first | (simp [plainName, overriddenIn]; done) | decide +kernel
theorem pd_2_0 : parseMethodDescriptor "(III)Z" = some ⟨[.int, .int, .int], some .boolean⟩ := by decide +kernel
theorem ef_2 (m : MethodId) (x0 : Int32) : entryFrame m #[(.int x0)] 1 = mkF m 0 #[.val (.int x0)] [] := by first | (simp [entryFrame, mkF, argsToLocals, Value.category]; done) | rfl
def Q2 (Z : State) (p1 : Int32) (h0 : Heap) (n0 : Nat) (v : Option Value) (h : Heap) (L : List Loc) : Prop := v = some (.int (own_ref p1)) ∧ Fr n0 L ∧ h = h0
set_option maxRecDepth 65536 in
set_option maxHeartbeats 40000000 in
theorem rm2 (l : Launch) (Z : State) (a0 : Array Value) (hw : ∀ d ∈ tables_1, d.before a0 Z = true) (ws : List Jvm.Cond) (p1 : Int32) (h0 : Heap) (n0 : Nat) (Z0 : n0 ≤ h0.size) :
    MetFree l (⟨"com/example/solmap/solmap/rdf/TermSyntaxIsPnCharsBasePinLaw", "ref", "(I)Z"⟩ : MethodName) (head1 (Jvm.Cond.code (⟨"com/example/solmap/solmap/rdf/TermSyntaxIsPnCharsBasePinLaw", "ref", "(I)Z"⟩ : MethodName) method_4_code 1 (some .boolean) :: ws) ({ frames := 1, cells := 0, slots := 0, locals := 14 } : Room)) (fun a U => a = #[(.int p1)] ∧ Z.Warmed39 U.vm ∧ U.heap = h0) (fun _ _ _ _ _ => True) (fun _ U o U' => ∃ v L, o = .returned v ∧ Q2 Z p1 h0 n0 v U'.heap L ∧ FrameEnd U o U' L ({ frames := 1, cells := 0, slots := 0, locals := 14 } : Room).cells ({ frames := 1, cells := 0, slots := 0, locals := 14 } : Room).slots) := by
  refine MetFree.of_bodySF (plainFor_of_name pn_2) hisR ?_
  intro p e s m args below meth c s₁ Bd hml0 hP hK
  obtain ⟨rfl, hZ, hh⟩ := hP
  have hx := Bd.exec
  have hby := Bd.bytes
  have hml : c.maxLocals = 1 := hml0
  have hown : s.vm.findClass "com/example/solmap/solmap/rdf/TermSyntaxIsPnCharsBasePinLaw" = some m.cls := findClass_of_methodNamed Bd.named
  have hnm := (name_of_methodNamed Bd.named Bd.method).1
  have X0 : Stand p l e ({ frames := 1, cells := 0, slots := 0, locals := 14 } : Room) s m #[(.int p1)] below meth c s₁ [] 0 0 := Stand.of_body Bd
  have e0 : s₁.heap = h0 := by rw [← hh, Bd.state]; rfl
  have N0 := Fr.nil n0
  show own_End p e below s (s₁.setTop (entryFrame m #[(.int p1)] 1)) (Q2 Z p1 h0 n0) ({ frames := 1, cells := 0, slots := 0, locals := 14 } : Room).cells ({ frames := 1, cells := 0, slots := 0, locals := 14 } : Room).slots
  refine own_pre (A := s₁.setTop (mkF m 0 #[.val (.int p1)] [])) (fun tt kt => castTop (ef_2 m p1) kt) ?_
  show own_End p e below s (s₁.setTop (mkF m 0 #[.val (.int p1)] [])) (Q2 Z p1 h0 n0) ({ frames := 1, cells := 0, slots := 0, locals := 14 } : Room).cells ({ frames := 1, cells := 0, slots := 0, locals := 14 } : Room).slots
  have hj : own_ref p1 = own_ref p1 := rfl
  refine own_pre (A := s₁.setTop (mkF m 3 #[.val (.int p1)] [(.int (65 : Int32)), (.int p1)])) (fun tt kt => ?_) ?_
  · show Steps p.tables e below (s₁.setTop (mkF m 0 #[.val (.int p1)] [])) _
    refine XS.iloadN X0.here hx rfl (hb hby d2_0) rfl ?_
    show Steps p.tables e below (s₁.setTop (mkF m 1 #[.val (.int p1)] [(.int p1)])) _
    refine XS.bipush X0.here hx rfl (hb hby d2_1) ?_
    exact kt
  show own_End p e below s (s₁.setTop (mkF m 3 #[.val (.int p1)] [(.int (65 : Int32)), (.int p1)])) (Q2 Z p1 h0 n0) ({ frames := 1, cells := 0, slots := 0, locals := 14 } : Room).cells ({ frames := 1, cells := 0, slots := 0, locals := 14 } : Room).slots
  by_cases hc3_1 : p1 < (65 : Int32)
  · refine own_pre (A := s₁.setTop (mkF m 13 #[.val (.int p1)] [(.int (0 : Int32))])) (fun tt kt => ?_) ?_
    · show Steps p.tables e below (s₁.setTop (mkF m 3 #[.val (.int p1)] [(.int (65 : Int32)), (.int p1)])) _
      refine XS.icmpYes X0.here hx rfl (pc0 := 3) (pc' := 12) rfl (hb hby d2_3) rfl (tlt hc3_1).1 (by decide) (by decide) ?_
      show Steps p.tables e below (s₁.setTop (mkF m 12 #[.val (.int p1)] [])) _
      refine XS.iconst X0.here hx rfl (hb hby d2_12) ?_
      exact kt
    show own_End p e below s (s₁.setTop (mkF m 13 #[.val (.int p1)] [(.int (0 : Int32))])) (Q2 Z p1 h0 n0) ({ frames := 1, cells := 0, slots := 0, locals := 14 } : Room).cells ({ frames := 1, cells := 0, slots := 0, locals := 14 } : Room).slots
    have hv : (own_ref p1) = (0 : Int32) := hj.trans (by simp only [own_ref, if_pos hc3_1])
    obtain ⟨fs, hr, hrun, hended, hW, hsame⟩ := X0.leave (v := some (.int (0 : Int32))) (fun h => by rw [Bd.returns] at h; cases h)
    refine ⟨_, _, ?_, hrun, hended, _, _, rfl, ?_, ⟨_, rfl⟩, hW, hsame.mono (by decide) (by decide)⟩
    · exact retN X0 hx (t := .boolean) Bd.returns (by simp) (hb hby d2_13) hr
    · show Q2 Z p1 h0 n0 _ s₁.heap _
      rw [e0]
      exact ⟨(congrArg (fun z => some (Value.int z)) hv.symm), N0, rfl⟩
  · refine own_pre (A := s₁.setTop (mkF m 9 #[.val (.int p1)] [(.int (983039 : Int32)), (.int p1)])) (fun tt kt => ?_) ?_
    · show Steps p.tables e below (s₁.setTop (mkF m 3 #[.val (.int p1)] [(.int (65 : Int32)), (.int p1)])) _
      refine XS.icmpNo X0.here hx rfl (hb hby d2_3) rfl (flt hc3_1).1 ?_
      show Steps p.tables e below (s₁.setTop (mkF m 6 #[.val (.int p1)] [])) _
      refine XS.iloadN X0.here hx rfl (hb hby d2_6) rfl ?_
      show Steps p.tables e below (s₁.setTop (mkF m 7 #[.val (.int p1)] [(.int p1)])) _
      refine X0.ldcInt hx hown (mvT hZ (hw _ (List.mem_of_getElem? (i := 7) rfl))) (g := (mkF m 7 #[.val (.int p1)] [(.int p1)])) rfl (hb hby d2_7) _ ?_
      exact kt
    show own_End p e below s (s₁.setTop (mkF m 9 #[.val (.int p1)] [(.int (983039 : Int32)), (.int p1)])) (Q2 Z p1 h0 n0) ({ frames := 1, cells := 0, slots := 0, locals := 14 } : Room).cells ({ frames := 1, cells := 0, slots := 0, locals := 14 } : Room).slots
    by_cases hc9_2 : (983039 : Int32) < p1
    · refine own_pre (A := s₁.setTop (mkF m 13 #[.val (.int p1)] [(.int (0 : Int32))])) (fun tt kt => ?_) ?_
      · show Steps p.tables e below (s₁.setTop (mkF m 9 #[.val (.int p1)] [(.int (983039 : Int32)), (.int p1)])) _
        refine XS.icmpNo X0.here hx rfl (hb hby d2_9) rfl (tlt hc9_2).2.2.2 ?_
        show Steps p.tables e below (s₁.setTop (mkF m 12 #[.val (.int p1)] [])) _
        refine XS.iconst X0.here hx rfl (hb hby d2_12) ?_
        exact kt
      show own_End p e below s (s₁.setTop (mkF m 13 #[.val (.int p1)] [(.int (0 : Int32))])) (Q2 Z p1 h0 n0) ({ frames := 1, cells := 0, slots := 0, locals := 14 } : Room).cells ({ frames := 1, cells := 0, slots := 0, locals := 14 } : Room).slots
      have hv : (own_ref p1) = (0 : Int32) := hj.trans (by simp only [own_ref, if_neg hc3_1, if_pos hc9_2])
      obtain ⟨fs, hr, hrun, hended, hW, hsame⟩ := X0.leave (v := some (.int (0 : Int32))) (fun h => by rw [Bd.returns] at h; cases h)
      refine ⟨_, _, ?_, hrun, hended, _, _, rfl, ?_, ⟨_, rfl⟩, hW, hsame.mono (by decide) (by decide)⟩
      · exact retN X0 hx (t := .boolean) Bd.returns (by simp) (hb hby d2_13) hr
      · show Q2 Z p1 h0 n0 _ s₁.heap _
        rw [e0]
        exact ⟨(congrArg (fun z => some (Value.int z)) hv.symm), N0, rfl⟩
    · obtain ⟨_, _, ⟨T3, L3, k3, n3⟩, -, X3, ⟨Lc3, hQ3, l3, y3, z3⟩, st3⟩ := Jvm.LawKit.callS X0 hx (y := (⟨"com/example/solmap/solmap/rdf/TermSyntaxIsPnCharsBasePinLaw", "in", "(III)Z"⟩ : MethodName)) hown (mvT hZ (hw _ (List.mem_of_getElem? (i := 21) rfl))) (mvT hZ (hw _ (List.mem_of_getElem? (i := 22) rfl))) (mvT hZ (hw _ (List.mem_of_getElem? (i := 19) rfl))) (mvT hZ (hw _ (List.mem_of_getElem? (i := 23) rfl))) (by decide) (backOf (W := 0) (rm3 l Z a0 hw [] p1 (91 : Int32) (96 : Int32)  h0 n0 Z0 ) hZ (hw _ (List.mem_of_getElem? (i := 23) rfl)) (hw _ (List.mem_of_getElem? (i := 19) rfl)) (by decide) (by decide)) (g := (mkF m 19 #[.val (.int p1)] [(.int (96 : Int32)), (.int (91 : Int32)), (.int p1)])) rfl (by rw [hml]; rfl) (argsL := [(.int p1), (.int (91 : Int32)), (.int (96 : Int32))]) (rest := []) (lenOf pd_2_0 rfl) rfl (by show 2 * 0 + _ ≤ _; exact Nat.le_of_eq rfl) (hb hby d2_19) (fun _ _ => ⟨rfl, e0, (by decide : 0 + 0 ≤ _), (by decide : 0 + 0 ≤ _)⟩)
      dsimp only [Pt.U, Pt.locs, Pt.cells, Pt.slots] at X3 l3 y3 z3 st3 hQ3
      subst l3 y3 z3
      obtain ⟨rfl, N3q, e3⟩ := hQ3
      have N3 := Fr.app N0 N3q
      refine own_pre (A := T3.setTop (mkF m 22 #[.val (.int p1)] [(.int (own_in p1 (91 : Int32) (96 : Int32)))])) (fun tt kt => ?_) ?_
      · show Steps p.tables e below (s₁.setTop (mkF m 9 #[.val (.int p1)] [(.int (983039 : Int32)), (.int p1)])) _
        refine XS.icmpYes X0.here hx rfl (pc0 := 9) (pc' := 14) rfl (hb hby d2_9) rfl (flt hc9_2).2.2.2 (by decide) (by decide) ?_
        show Steps p.tables e below (s₁.setTop (mkF m 14 #[.val (.int p1)] [])) _
        refine XS.iloadN X0.here hx rfl (hb hby d2_14) rfl ?_
        show Steps p.tables e below (s₁.setTop (mkF m 15 #[.val (.int p1)] [(.int p1)])) _
        refine XS.bipush X0.here hx rfl (hb hby d2_15) ?_
        show Steps p.tables e below (s₁.setTop (mkF m 17 #[.val (.int p1)] [(.int (91 : Int32)), (.int p1)])) _
        refine XS.bipush X0.here hx rfl (hb hby d2_17) ?_
        show Steps p.tables e below (s₁.setTop (mkF m 19 #[.val (.int p1)] [(.int (96 : Int32)), (.int (91 : Int32)), (.int p1)])) _
        refine st3 _ ?_
        exact kt
      show own_End p e below s (T3.setTop (mkF m 22 #[.val (.int p1)] [(.int (own_in p1 (91 : Int32) (96 : Int32)))])) (Q2 Z p1 h0 n0) ({ frames := 1, cells := 0, slots := 0, locals := 14 } : Room).cells ({ frames := 1, cells := 0, slots := 0, locals := 14 } : Room).slots
      by_cases hc22_4 : (own_in p1 (91 : Int32) (96 : Int32)) = (0 : Int32)
      · obtain ⟨_, _, ⟨T5, L5, k5, n5⟩, -, X5, ⟨Lc5, hQ5, l5, y5, z5⟩, st5⟩ := Jvm.LawKit.callS X3 hx (y := (⟨"com/example/solmap/solmap/rdf/TermSyntaxIsPnCharsBasePinLaw", "in", "(III)Z"⟩ : MethodName)) hown (mvT hZ (hw _ (List.mem_of_getElem? (i := 21) rfl))) (mvT hZ (hw _ (List.mem_of_getElem? (i := 22) rfl))) (mvT hZ (hw _ (List.mem_of_getElem? (i := 19) rfl))) (mvT hZ (hw _ (List.mem_of_getElem? (i := 23) rfl))) (by decide) (backOf (W := 0) (rm3 l Z a0 hw [] p1 (123 : Int32) (191 : Int32)  h0 n0 Z0 ) hZ (hw _ (List.mem_of_getElem? (i := 23) rfl)) (hw _ (List.mem_of_getElem? (i := 19) rfl)) (by decide) (by decide)) (g := (mkF m 31 #[.val (.int p1)] [(.int (191 : Int32)), (.int (123 : Int32)), (.int p1)])) rfl (by rw [hml]; rfl) (argsL := [(.int p1), (.int (123 : Int32)), (.int (191 : Int32))]) (rest := []) (lenOf pd_2_0 rfl) rfl (by show 2 * 0 + _ ≤ _; exact Nat.le_of_eq rfl) (hb hby d2_31) (fun _ _ => ⟨rfl, e3, (by decide : 0 + 0 ≤ _), (by decide : 0 + 0 ≤ _)⟩)
        dsimp only [Pt.U, Pt.locs, Pt.cells, Pt.slots] at X5 l5 y5 z5 st5 hQ5
        subst l5 y5 z5
        obtain ⟨rfl, N5q, e5⟩ := hQ5
        have N5 := Fr.app N3 N5q
        refine own_pre (A := T5.setTop (mkF m 34 #[.val (.int p1)] [(.int (own_in p1 (123 : Int32) (191 : Int32)))])) (fun tt kt => ?_) ?_
        · show Steps p.tables e below (T3.setTop (mkF m 22 #[.val (.int p1)] [(.int (own_in p1 (91 : Int32) (96 : Int32)))])) _
          refine XS.ifNo X3.here hx rfl (hb hby d2_22) rfl ((if0 _ _).trans (teq hc22_4).2) ?_
          show Steps p.tables e below (T3.setTop (mkF m 25 #[.val (.int p1)] [])) _
          refine XS.iloadN X3.here hx rfl (hb hby d2_25) rfl ?_
          show Steps p.tables e below (T3.setTop (mkF m 26 #[.val (.int p1)] [(.int p1)])) _
          refine XS.bipush X3.here hx rfl (hb hby d2_26) ?_
          show Steps p.tables e below (T3.setTop (mkF m 28 #[.val (.int p1)] [(.int (123 : Int32)), (.int p1)])) _
          refine XS.sipush X3.here hx rfl (hb hby d2_28) ?_
          show Steps p.tables e below (T3.setTop (mkF m 31 #[.val (.int p1)] [(.int (191 : Int32)), (.int (123 : Int32)), (.int p1)])) _
          refine st5 _ ?_
          exact kt
        show own_End p e below s (T5.setTop (mkF m 34 #[.val (.int p1)] [(.int (own_in p1 (123 : Int32) (191 : Int32)))])) (Q2 Z p1 h0 n0) ({ frames := 1, cells := 0, slots := 0, locals := 14 } : Room).cells ({ frames := 1, cells := 0, slots := 0, locals := 14 } : Room).slots
        by_cases hc34_6 : (own_in p1 (123 : Int32) (191 : Int32)) = (0 : Int32)
        · refine own_pre (A := T5.setTop (mkF m 41 #[.val (.int p1)] [(.int (215 : Int32)), (.int p1)])) (fun tt kt => ?_) ?_
          · show Steps p.tables e below (T5.setTop (mkF m 34 #[.val (.int p1)] [(.int (own_in p1 (123 : Int32) (191 : Int32)))])) _
            refine XS.ifNo X5.here hx rfl (hb hby d2_34) rfl ((if0 _ _).trans (teq hc34_6).2) ?_
            show Steps p.tables e below (T5.setTop (mkF m 37 #[.val (.int p1)] [])) _
            refine XS.iloadN X5.here hx rfl (hb hby d2_37) rfl ?_
            show Steps p.tables e below (T5.setTop (mkF m 38 #[.val (.int p1)] [(.int p1)])) _
            refine XS.sipush X5.here hx rfl (hb hby d2_38) ?_
            exact kt
          show own_End p e below s (T5.setTop (mkF m 41 #[.val (.int p1)] [(.int (215 : Int32)), (.int p1)])) (Q2 Z p1 h0 n0) ({ frames := 1, cells := 0, slots := 0, locals := 14 } : Room).cells ({ frames := 1, cells := 0, slots := 0, locals := 14 } : Room).slots
          by_cases hc41_7 : p1 = (215 : Int32)
          · refine own_pre (A := T5.setTop (mkF m 157 #[.val (.int p1)] [(.int (0 : Int32))])) (fun tt kt => ?_) ?_
            · show Steps p.tables e below (T5.setTop (mkF m 41 #[.val (.int p1)] [(.int (215 : Int32)), (.int p1)])) _
              refine XS.icmpYes X5.here hx rfl (pc0 := 41) (pc' := 156) rfl (hb hby d2_41) rfl (teq hc41_7).1 (by decide) (by decide) ?_
              show Steps p.tables e below (T5.setTop (mkF m 156 #[.val (.int p1)] [])) _
              refine XS.iconst X5.here hx rfl (hb hby d2_156) ?_
              exact kt
            show own_End p e below s (T5.setTop (mkF m 157 #[.val (.int p1)] [(.int (0 : Int32))])) (Q2 Z p1 h0 n0) ({ frames := 1, cells := 0, slots := 0, locals := 14 } : Room).cells ({ frames := 1, cells := 0, slots := 0, locals := 14 } : Room).slots
            have hv : (own_ref p1) = (0 : Int32) := hj.trans (by simp only [own_ref, if_neg hc3_1, if_neg hc9_2, if_pos hc22_4, if_pos hc34_6, if_pos hc41_7])
            obtain ⟨fs, hr, hrun, hended, hW, hsame⟩ := X5.leave (v := some (.int (0 : Int32))) (fun h => by rw [Bd.returns] at h; cases h)
            refine ⟨_, _, ?_, hrun, hended, _, _, rfl, ?_, ⟨_, rfl⟩, hW, hsame.mono (by decide) (by decide)⟩
            · exact retN X5 hx (t := .boolean) Bd.returns (by simp) (hb hby d2_157) hr
            · show Q2 Z p1 h0 n0 _ T5.heap _
              rw [e5]
              exact ⟨(congrArg (fun z => some (Value.int z)) hv.symm), N5, rfl⟩
          · refine own_pre (A := T5.setTop (mkF m 48 #[.val (.int p1)] [(.int (247 : Int32)), (.int p1)])) (fun tt kt => ?_) ?_
            · show Steps p.tables e below (T5.setTop (mkF m 41 #[.val (.int p1)] [(.int (215 : Int32)), (.int p1)])) _
              refine XS.icmpNo X5.here hx rfl (hb hby d2_41) rfl (feq hc41_7).1 ?_
              show Steps p.tables e below (T5.setTop (mkF m 44 #[.val (.int p1)] [])) _
              refine XS.iloadN X5.here hx rfl (hb hby d2_44) rfl ?_
              show Steps p.tables e below (T5.setTop (mkF m 45 #[.val (.int p1)] [(.int p1)])) _
              refine XS.sipush X5.here hx rfl (hb hby d2_45) ?_
              exact kt
            show own_End p e below s (T5.setTop (mkF m 48 #[.val (.int p1)] [(.int (247 : Int32)), (.int p1)])) (Q2 Z p1 h0 n0) ({ frames := 1, cells := 0, slots := 0, locals := 14 } : Room).cells ({ frames := 1, cells := 0, slots := 0, locals := 14 } : Room).slots
            by_cases hc48_8 : p1 = (247 : Int32)
            · refine own_pre (A := T5.setTop (mkF m 157 #[.val (.int p1)] [(.int (0 : Int32))])) (fun tt kt => ?_) ?_
              · show Steps p.tables e below (T5.setTop (mkF m 48 #[.val (.int p1)] [(.int (247 : Int32)), (.int p1)])) _
                refine XS.icmpYes X5.here hx rfl (pc0 := 48) (pc' := 156) rfl (hb hby d2_48) rfl (teq hc48_8).1 (by decide) (by decide) ?_
                show Steps p.tables e below (T5.setTop (mkF m 156 #[.val (.int p1)] [])) _
                refine XS.iconst X5.here hx rfl (hb hby d2_156) ?_
                exact kt
              show own_End p e below s (T5.setTop (mkF m 157 #[.val (.int p1)] [(.int (0 : Int32))])) (Q2 Z p1 h0 n0) ({ frames := 1, cells := 0, slots := 0, locals := 14 } : Room).cells ({ frames := 1, cells := 0, slots := 0, locals := 14 } : Room).slots
              have hv : (own_ref p1) = (0 : Int32) := hj.trans (by simp only [own_ref, if_neg hc3_1, if_neg hc9_2, if_pos hc22_4, if_pos hc34_6, if_neg hc41_7, if_pos hc48_8])
              obtain ⟨fs, hr, hrun, hended, hW, hsame⟩ := X5.leave (v := some (.int (0 : Int32))) (fun h => by rw [Bd.returns] at h; cases h)
              refine ⟨_, _, ?_, hrun, hended, _, _, rfl, ?_, ⟨_, rfl⟩, hW, hsame.mono (by decide) (by decide)⟩
              · exact retN X5 hx (t := .boolean) Bd.returns (by simp) (hb hby d2_157) hr
              · show Q2 Z p1 h0 n0 _ T5.heap _
                rw [e5]
                exact ⟨(congrArg (fun z => some (Value.int z)) hv.symm), N5, rfl⟩
            · obtain ⟨_, _, ⟨T9, L9, k9, n9⟩, -, X9, ⟨Lc9, hQ9, l9, y9, z9⟩, st9⟩ := Jvm.LawKit.callS X5 hx (y := (⟨"com/example/solmap/solmap/rdf/TermSyntaxIsPnCharsBasePinLaw", "in", "(III)Z"⟩ : MethodName)) hown (mvT hZ (hw _ (List.mem_of_getElem? (i := 21) rfl))) (mvT hZ (hw _ (List.mem_of_getElem? (i := 22) rfl))) (mvT hZ (hw _ (List.mem_of_getElem? (i := 19) rfl))) (mvT hZ (hw _ (List.mem_of_getElem? (i := 23) rfl))) (by decide) (backOf (W := 0) (rm3 l Z a0 hw [] p1 (768 : Int32) (879 : Int32)  h0 n0 Z0 ) hZ (hw _ (List.mem_of_getElem? (i := 23) rfl)) (hw _ (List.mem_of_getElem? (i := 19) rfl)) (by decide) (by decide)) (g := (mkF m 58 #[.val (.int p1)] [(.int (879 : Int32)), (.int (768 : Int32)), (.int p1)])) rfl (by rw [hml]; rfl) (argsL := [(.int p1), (.int (768 : Int32)), (.int (879 : Int32))]) (rest := []) (lenOf pd_2_0 rfl) rfl (by show 2 * 0 + _ ≤ _; exact Nat.le_of_eq rfl) (hb hby d2_58) (fun _ _ => ⟨rfl, e5, (by decide : 0 + 0 ≤ _), (by decide : 0 + 0 ≤ _)⟩)
              dsimp only [Pt.U, Pt.locs, Pt.cells, Pt.slots] at X9 l9 y9 z9 st9 hQ9
              subst l9 y9 z9
              obtain ⟨rfl, N9q, e9⟩ := hQ9
              have N9 := Fr.app N5 N9q
              refine own_pre (A := T9.setTop (mkF m 61 #[.val (.int p1)] [(.int (own_in p1 (768 : Int32) (879 : Int32)))])) (fun tt kt => ?_) ?_
              · show Steps p.tables e below (T5.setTop (mkF m 48 #[.val (.int p1)] [(.int (247 : Int32)), (.int p1)])) _
                refine XS.icmpNo X5.here hx rfl (hb hby d2_48) rfl (feq hc48_8).1 ?_
                show Steps p.tables e below (T5.setTop (mkF m 51 #[.val (.int p1)] [])) _
                refine XS.iloadN X5.here hx rfl (hb hby d2_51) rfl ?_
                show Steps p.tables e below (T5.setTop (mkF m 52 #[.val (.int p1)] [(.int p1)])) _
                refine XS.sipush X5.here hx rfl (hb hby d2_52) ?_
                show Steps p.tables e below (T5.setTop (mkF m 55 #[.val (.int p1)] [(.int (768 : Int32)), (.int p1)])) _
                refine XS.sipush X5.here hx rfl (hb hby d2_55) ?_
                show Steps p.tables e below (T5.setTop (mkF m 58 #[.val (.int p1)] [(.int (879 : Int32)), (.int (768 : Int32)), (.int p1)])) _
                refine st9 _ ?_
                exact kt
              show own_End p e below s (T9.setTop (mkF m 61 #[.val (.int p1)] [(.int (own_in p1 (768 : Int32) (879 : Int32)))])) (Q2 Z p1 h0 n0) ({ frames := 1, cells := 0, slots := 0, locals := 14 } : Room).cells ({ frames := 1, cells := 0, slots := 0, locals := 14 } : Room).slots
              by_cases hc61_10 : (own_in p1 (768 : Int32) (879 : Int32)) = (0 : Int32)
              · refine own_pre (A := T9.setTop (mkF m 68 #[.val (.int p1)] [(.int (894 : Int32)), (.int p1)])) (fun tt kt => ?_) ?_
                · show Steps p.tables e below (T9.setTop (mkF m 61 #[.val (.int p1)] [(.int (own_in p1 (768 : Int32) (879 : Int32)))])) _
                  refine XS.ifNo X9.here hx rfl (hb hby d2_61) rfl ((if0 _ _).trans (teq hc61_10).2) ?_
                  show Steps p.tables e below (T9.setTop (mkF m 64 #[.val (.int p1)] [])) _
                  refine XS.iloadN X9.here hx rfl (hb hby d2_64) rfl ?_
                  show Steps p.tables e below (T9.setTop (mkF m 65 #[.val (.int p1)] [(.int p1)])) _
                  refine XS.sipush X9.here hx rfl (hb hby d2_65) ?_
                  exact kt
                show own_End p e below s (T9.setTop (mkF m 68 #[.val (.int p1)] [(.int (894 : Int32)), (.int p1)])) (Q2 Z p1 h0 n0) ({ frames := 1, cells := 0, slots := 0, locals := 14 } : Room).cells ({ frames := 1, cells := 0, slots := 0, locals := 14 } : Room).slots
                by_cases hc68_11 : p1 = (894 : Int32)
                · refine own_pre (A := T9.setTop (mkF m 157 #[.val (.int p1)] [(.int (0 : Int32))])) (fun tt kt => ?_) ?_
                  · show Steps p.tables e below (T9.setTop (mkF m 68 #[.val (.int p1)] [(.int (894 : Int32)), (.int p1)])) _
                    refine XS.icmpYes X9.here hx rfl (pc0 := 68) (pc' := 156) rfl (hb hby d2_68) rfl (teq hc68_11).1 (by decide) (by decide) ?_
                    show Steps p.tables e below (T9.setTop (mkF m 156 #[.val (.int p1)] [])) _
                    refine XS.iconst X9.here hx rfl (hb hby d2_156) ?_
                    exact kt
                  show own_End p e below s (T9.setTop (mkF m 157 #[.val (.int p1)] [(.int (0 : Int32))])) (Q2 Z p1 h0 n0) ({ frames := 1, cells := 0, slots := 0, locals := 14 } : Room).cells ({ frames := 1, cells := 0, slots := 0, locals := 14 } : Room).slots
                  have hv : (own_ref p1) = (0 : Int32) := hj.trans (by simp only [own_ref, if_neg hc3_1, if_neg hc9_2, if_pos hc22_4, if_pos hc34_6, if_neg hc41_7, if_neg hc48_8, if_pos hc61_10, if_pos hc68_11])
                  obtain ⟨fs, hr, hrun, hended, hW, hsame⟩ := X9.leave (v := some (.int (0 : Int32))) (fun h => by rw [Bd.returns] at h; cases h)
                  refine ⟨_, _, ?_, hrun, hended, _, _, rfl, ?_, ⟨_, rfl⟩, hW, hsame.mono (by decide) (by decide)⟩
                  · exact retN X9 hx (t := .boolean) Bd.returns (by simp) (hb hby d2_157) hr
                  · show Q2 Z p1 h0 n0 _ T9.heap _
                    rw [e9]
                    exact ⟨(congrArg (fun z => some (Value.int z)) hv.symm), N9, rfl⟩
                · obtain ⟨_, _, ⟨T12, L12, k12, n12⟩, -, X12, ⟨Lc12, hQ12, l12, y12, z12⟩, st12⟩ := Jvm.LawKit.callS X9 hx (y := (⟨"com/example/solmap/solmap/rdf/TermSyntaxIsPnCharsBasePinLaw", "in", "(III)Z"⟩ : MethodName)) hown (mvT hZ (hw _ (List.mem_of_getElem? (i := 21) rfl))) (mvT hZ (hw _ (List.mem_of_getElem? (i := 22) rfl))) (mvT hZ (hw _ (List.mem_of_getElem? (i := 19) rfl))) (mvT hZ (hw _ (List.mem_of_getElem? (i := 23) rfl))) (by decide) (backOf (W := 0) (rm3 l Z a0 hw [] p1 (8192 : Int32) (8203 : Int32)  h0 n0 Z0 ) hZ (hw _ (List.mem_of_getElem? (i := 23) rfl)) (hw _ (List.mem_of_getElem? (i := 19) rfl)) (by decide) (by decide)) (g := (mkF m 78 #[.val (.int p1)] [(.int (8203 : Int32)), (.int (8192 : Int32)), (.int p1)])) rfl (by rw [hml]; rfl) (argsL := [(.int p1), (.int (8192 : Int32)), (.int (8203 : Int32))]) (rest := []) (lenOf pd_2_0 rfl) rfl (by show 2 * 0 + _ ≤ _; exact Nat.le_of_eq rfl) (hb hby d2_78) (fun _ _ => ⟨rfl, e9, (by decide : 0 + 0 ≤ _), (by decide : 0 + 0 ≤ _)⟩)
                  dsimp only [Pt.U, Pt.locs, Pt.cells, Pt.slots] at X12 l12 y12 z12 st12 hQ12
                  subst l12 y12 z12
                  obtain ⟨rfl, N12q, e12⟩ := hQ12
                  have N12 := Fr.app N9 N12q
                  refine own_pre (A := T12.setTop (mkF m 81 #[.val (.int p1)] [(.int (own_in p1 (8192 : Int32) (8203 : Int32)))])) (fun tt kt => ?_) ?_
                  · show Steps p.tables e below (T9.setTop (mkF m 68 #[.val (.int p1)] [(.int (894 : Int32)), (.int p1)])) _
                    refine XS.icmpNo X9.here hx rfl (hb hby d2_68) rfl (feq hc68_11).1 ?_
                    show Steps p.tables e below (T9.setTop (mkF m 71 #[.val (.int p1)] [])) _
                    refine XS.iloadN X9.here hx rfl (hb hby d2_71) rfl ?_
                    show Steps p.tables e below (T9.setTop (mkF m 72 #[.val (.int p1)] [(.int p1)])) _
                    refine XS.sipush X9.here hx rfl (hb hby d2_72) ?_
                    show Steps p.tables e below (T9.setTop (mkF m 75 #[.val (.int p1)] [(.int (8192 : Int32)), (.int p1)])) _
                    refine XS.sipush X9.here hx rfl (hb hby d2_75) ?_
                    show Steps p.tables e below (T9.setTop (mkF m 78 #[.val (.int p1)] [(.int (8203 : Int32)), (.int (8192 : Int32)), (.int p1)])) _
                    refine st12 _ ?_
                    exact kt
                  show own_End p e below s (T12.setTop (mkF m 81 #[.val (.int p1)] [(.int (own_in p1 (8192 : Int32) (8203 : Int32)))])) (Q2 Z p1 h0 n0) ({ frames := 1, cells := 0, slots := 0, locals := 14 } : Room).cells ({ frames := 1, cells := 0, slots := 0, locals := 14 } : Room).slots
                  by_cases hc81_13 : (own_in p1 (8192 : Int32) (8203 : Int32)) = (0 : Int32)
                  · obtain ⟨_, _, ⟨T14, L14, k14, n14⟩, -, X14, ⟨Lc14, hQ14, l14, y14, z14⟩, st14⟩ := Jvm.LawKit.callS X12 hx (y := (⟨"com/example/solmap/solmap/rdf/TermSyntaxIsPnCharsBasePinLaw", "in", "(III)Z"⟩ : MethodName)) hown (mvT hZ (hw _ (List.mem_of_getElem? (i := 21) rfl))) (mvT hZ (hw _ (List.mem_of_getElem? (i := 22) rfl))) (mvT hZ (hw _ (List.mem_of_getElem? (i := 19) rfl))) (mvT hZ (hw _ (List.mem_of_getElem? (i := 23) rfl))) (by decide) (backOf (W := 0) (rm3 l Z a0 hw [] p1 (8206 : Int32) (8303 : Int32)  h0 n0 Z0 ) hZ (hw _ (List.mem_of_getElem? (i := 23) rfl)) (hw _ (List.mem_of_getElem? (i := 19) rfl)) (by decide) (by decide)) (g := (mkF m 91 #[.val (.int p1)] [(.int (8303 : Int32)), (.int (8206 : Int32)), (.int p1)])) rfl (by rw [hml]; rfl) (argsL := [(.int p1), (.int (8206 : Int32)), (.int (8303 : Int32))]) (rest := []) (lenOf pd_2_0 rfl) rfl (by show 2 * 0 + _ ≤ _; exact Nat.le_of_eq rfl) (hb hby d2_91) (fun _ _ => ⟨rfl, e12, (by decide : 0 + 0 ≤ _), (by decide : 0 + 0 ≤ _)⟩)
                    dsimp only [Pt.U, Pt.locs, Pt.cells, Pt.slots] at X14 l14 y14 z14 st14 hQ14
                    subst l14 y14 z14
                    obtain ⟨rfl, N14q, e14⟩ := hQ14
                    have N14 := Fr.app N12 N14q
                    refine own_pre (A := T14.setTop (mkF m 94 #[.val (.int p1)] [(.int (own_in p1 (8206 : Int32) (8303 : Int32)))])) (fun tt kt => ?_) ?_
                    · show Steps p.tables e below (T12.setTop (mkF m 81 #[.val (.int p1)] [(.int (own_in p1 (8192 : Int32) (8203 : Int32)))])) _
                      refine XS.ifNo X12.here hx rfl (hb hby d2_81) rfl ((if0 _ _).trans (teq hc81_13).2) ?_
                      show Steps p.tables e below (T12.setTop (mkF m 84 #[.val (.int p1)] [])) _
                      refine XS.iloadN X12.here hx rfl (hb hby d2_84) rfl ?_
                      show Steps p.tables e below (T12.setTop (mkF m 85 #[.val (.int p1)] [(.int p1)])) _
                      refine XS.sipush X12.here hx rfl (hb hby d2_85) ?_
                      show Steps p.tables e below (T12.setTop (mkF m 88 #[.val (.int p1)] [(.int (8206 : Int32)), (.int p1)])) _
                      refine XS.sipush X12.here hx rfl (hb hby d2_88) ?_
                      show Steps p.tables e below (T12.setTop (mkF m 91 #[.val (.int p1)] [(.int (8303 : Int32)), (.int (8206 : Int32)), (.int p1)])) _
                      refine st14 _ ?_
                      exact kt
                    show own_End p e below s (T14.setTop (mkF m 94 #[.val (.int p1)] [(.int (own_in p1 (8206 : Int32) (8303 : Int32)))])) (Q2 Z p1 h0 n0) ({ frames := 1, cells := 0, slots := 0, locals := 14 } : Room).cells ({ frames := 1, cells := 0, slots := 0, locals := 14 } : Room).slots
                    by_cases hc94_15 : (own_in p1 (8206 : Int32) (8303 : Int32)) = (0 : Int32)
                    · obtain ⟨_, _, ⟨T16, L16, k16, n16⟩, -, X16, ⟨Lc16, hQ16, l16, y16, z16⟩, st16⟩ := Jvm.LawKit.callS X14 hx (y := (⟨"com/example/solmap/solmap/rdf/TermSyntaxIsPnCharsBasePinLaw", "in", "(III)Z"⟩ : MethodName)) hown (mvT hZ (hw _ (List.mem_of_getElem? (i := 21) rfl))) (mvT hZ (hw _ (List.mem_of_getElem? (i := 22) rfl))) (mvT hZ (hw _ (List.mem_of_getElem? (i := 19) rfl))) (mvT hZ (hw _ (List.mem_of_getElem? (i := 23) rfl))) (by decide) (backOf (W := 0) (rm3 l Z a0 hw [] p1 (8592 : Int32) (11263 : Int32)  h0 n0 Z0 ) hZ (hw _ (List.mem_of_getElem? (i := 23) rfl)) (hw _ (List.mem_of_getElem? (i := 19) rfl)) (by decide) (by decide)) (g := (mkF m 104 #[.val (.int p1)] [(.int (11263 : Int32)), (.int (8592 : Int32)), (.int p1)])) rfl (by rw [hml]; rfl) (argsL := [(.int p1), (.int (8592 : Int32)), (.int (11263 : Int32))]) (rest := []) (lenOf pd_2_0 rfl) rfl (by show 2 * 0 + _ ≤ _; exact Nat.le_of_eq rfl) (hb hby d2_104) (fun _ _ => ⟨rfl, e14, (by decide : 0 + 0 ≤ _), (by decide : 0 + 0 ≤ _)⟩)
                      dsimp only [Pt.U, Pt.locs, Pt.cells, Pt.slots] at X16 l16 y16 z16 st16 hQ16
                      subst l16 y16 z16
                      obtain ⟨rfl, N16q, e16⟩ := hQ16
                      have N16 := Fr.app N14 N16q
                      refine own_pre (A := T16.setTop (mkF m 107 #[.val (.int p1)] [(.int (own_in p1 (8592 : Int32) (11263 : Int32)))])) (fun tt kt => ?_) ?_
                      · show Steps p.tables e below (T14.setTop (mkF m 94 #[.val (.int p1)] [(.int (own_in p1 (8206 : Int32) (8303 : Int32)))])) _
                        refine XS.ifNo X14.here hx rfl (hb hby d2_94) rfl ((if0 _ _).trans (teq hc94_15).2) ?_
                        show Steps p.tables e below (T14.setTop (mkF m 97 #[.val (.int p1)] [])) _
                        refine XS.iloadN X14.here hx rfl (hb hby d2_97) rfl ?_
                        show Steps p.tables e below (T14.setTop (mkF m 98 #[.val (.int p1)] [(.int p1)])) _
                        refine XS.sipush X14.here hx rfl (hb hby d2_98) ?_
                        show Steps p.tables e below (T14.setTop (mkF m 101 #[.val (.int p1)] [(.int (8592 : Int32)), (.int p1)])) _
                        refine XS.sipush X14.here hx rfl (hb hby d2_101) ?_
                        show Steps p.tables e below (T14.setTop (mkF m 104 #[.val (.int p1)] [(.int (11263 : Int32)), (.int (8592 : Int32)), (.int p1)])) _
                        refine st16 _ ?_
                        exact kt
                      show own_End p e below s (T16.setTop (mkF m 107 #[.val (.int p1)] [(.int (own_in p1 (8592 : Int32) (11263 : Int32)))])) (Q2 Z p1 h0 n0) ({ frames := 1, cells := 0, slots := 0, locals := 14 } : Room).cells ({ frames := 1, cells := 0, slots := 0, locals := 14 } : Room).slots
                      by_cases hc107_17 : (own_in p1 (8592 : Int32) (11263 : Int32)) = (0 : Int32)
                      · obtain ⟨_, _, ⟨T18, L18, k18, n18⟩, -, X18, ⟨Lc18, hQ18, l18, y18, z18⟩, st18⟩ := Jvm.LawKit.callS X16 hx (y := (⟨"com/example/solmap/solmap/rdf/TermSyntaxIsPnCharsBasePinLaw", "in", "(III)Z"⟩ : MethodName)) hown (mvT hZ (hw _ (List.mem_of_getElem? (i := 21) rfl))) (mvT hZ (hw _ (List.mem_of_getElem? (i := 22) rfl))) (mvT hZ (hw _ (List.mem_of_getElem? (i := 19) rfl))) (mvT hZ (hw _ (List.mem_of_getElem? (i := 23) rfl))) (by decide) (backOf (W := 0) (rm3 l Z a0 hw [] p1 (12272 : Int32) (12288 : Int32)  h0 n0 Z0 ) hZ (hw _ (List.mem_of_getElem? (i := 23) rfl)) (hw _ (List.mem_of_getElem? (i := 19) rfl)) (by decide) (by decide)) (g := (mkF m 117 #[.val (.int p1)] [(.int (12288 : Int32)), (.int (12272 : Int32)), (.int p1)])) rfl (by rw [hml]; rfl) (argsL := [(.int p1), (.int (12272 : Int32)), (.int (12288 : Int32))]) (rest := []) (lenOf pd_2_0 rfl) rfl (by show 2 * 0 + _ ≤ _; exact Nat.le_of_eq rfl) (hb hby d2_117) (fun _ _ => ⟨rfl, e16, (by decide : 0 + 0 ≤ _), (by decide : 0 + 0 ≤ _)⟩)
                        dsimp only [Pt.U, Pt.locs, Pt.cells, Pt.slots] at X18 l18 y18 z18 st18 hQ18
                        subst l18 y18 z18
                        obtain ⟨rfl, N18q, e18⟩ := hQ18
                        have N18 := Fr.app N16 N18q
                        refine own_pre (A := T18.setTop (mkF m 120 #[.val (.int p1)] [(.int (own_in p1 (12272 : Int32) (12288 : Int32)))])) (fun tt kt => ?_) ?_
                        · show Steps p.tables e below (T16.setTop (mkF m 107 #[.val (.int p1)] [(.int (own_in p1 (8592 : Int32) (11263 : Int32)))])) _
                          refine XS.ifNo X16.here hx rfl (hb hby d2_107) rfl ((if0 _ _).trans (teq hc107_17).2) ?_
                          show Steps p.tables e below (T16.setTop (mkF m 110 #[.val (.int p1)] [])) _
                          refine XS.iloadN X16.here hx rfl (hb hby d2_110) rfl ?_
                          show Steps p.tables e below (T16.setTop (mkF m 111 #[.val (.int p1)] [(.int p1)])) _
                          refine XS.sipush X16.here hx rfl (hb hby d2_111) ?_
                          show Steps p.tables e below (T16.setTop (mkF m 114 #[.val (.int p1)] [(.int (12272 : Int32)), (.int p1)])) _
                          refine XS.sipush X16.here hx rfl (hb hby d2_114) ?_
                          show Steps p.tables e below (T16.setTop (mkF m 117 #[.val (.int p1)] [(.int (12288 : Int32)), (.int (12272 : Int32)), (.int p1)])) _
                          refine st18 _ ?_
                          exact kt
                        show own_End p e below s (T18.setTop (mkF m 120 #[.val (.int p1)] [(.int (own_in p1 (12272 : Int32) (12288 : Int32)))])) (Q2 Z p1 h0 n0) ({ frames := 1, cells := 0, slots := 0, locals := 14 } : Room).cells ({ frames := 1, cells := 0, slots := 0, locals := 14 } : Room).slots
                        by_cases hc120_19 : (own_in p1 (12272 : Int32) (12288 : Int32)) = (0 : Int32)
                        · obtain ⟨_, _, ⟨T20, L20, k20, n20⟩, -, X20, ⟨Lc20, hQ20, l20, y20, z20⟩, st20⟩ := Jvm.LawKit.callS X18 hx (y := (⟨"com/example/solmap/solmap/rdf/TermSyntaxIsPnCharsBasePinLaw", "in", "(III)Z"⟩ : MethodName)) hown (mvT hZ (hw _ (List.mem_of_getElem? (i := 21) rfl))) (mvT hZ (hw _ (List.mem_of_getElem? (i := 22) rfl))) (mvT hZ (hw _ (List.mem_of_getElem? (i := 19) rfl))) (mvT hZ (hw _ (List.mem_of_getElem? (i := 23) rfl))) (by decide) (backOf (W := 0) (rm3 l Z a0 hw [] p1 (55296 : Int32) (63743 : Int32)  h0 n0 Z0 ) hZ (hw _ (List.mem_of_getElem? (i := 23) rfl)) (hw _ (List.mem_of_getElem? (i := 19) rfl)) (by decide) (by decide)) (g := (mkF m 128 #[.val (.int p1)] [(.int (63743 : Int32)), (.int (55296 : Int32)), (.int p1)])) rfl (by rw [hml]; rfl) (argsL := [(.int p1), (.int (55296 : Int32)), (.int (63743 : Int32))]) (rest := []) (lenOf pd_2_0 rfl) rfl (by show 2 * 0 + _ ≤ _; exact Nat.le_of_eq rfl) (hb hby d2_128) (fun _ _ => ⟨rfl, e18, (by decide : 0 + 0 ≤ _), (by decide : 0 + 0 ≤ _)⟩)
                          dsimp only [Pt.U, Pt.locs, Pt.cells, Pt.slots] at X20 l20 y20 z20 st20 hQ20
                          subst l20 y20 z20
                          obtain ⟨rfl, N20q, e20⟩ := hQ20
                          have N20 := Fr.app N18 N20q
                          refine own_pre (A := T20.setTop (mkF m 131 #[.val (.int p1)] [(.int (own_in p1 (55296 : Int32) (63743 : Int32)))])) (fun tt kt => ?_) ?_
                          · show Steps p.tables e below (T18.setTop (mkF m 120 #[.val (.int p1)] [(.int (own_in p1 (12272 : Int32) (12288 : Int32)))])) _
                            refine XS.ifNo X18.here hx rfl (hb hby d2_120) rfl ((if0 _ _).trans (teq hc120_19).2) ?_
                            show Steps p.tables e below (T18.setTop (mkF m 123 #[.val (.int p1)] [])) _
                            refine XS.iloadN X18.here hx rfl (hb hby d2_123) rfl ?_
                            show Steps p.tables e below (T18.setTop (mkF m 124 #[.val (.int p1)] [(.int p1)])) _
                            refine X18.ldcInt hx hown (mvT hZ (hw _ (List.mem_of_getElem? (i := 24) rfl))) (g := (mkF m 124 #[.val (.int p1)] [(.int p1)])) rfl (hb hby d2_124) _ ?_
                            show Steps p.tables e below (T18.setTop (mkF m 126 #[.val (.int p1)] [(.int (55296 : Int32)), (.int p1)])) _
                            refine X18.ldcInt hx hown (mvT hZ (hw _ (List.mem_of_getElem? (i := 25) rfl))) (g := (mkF m 126 #[.val (.int p1)] [(.int (55296 : Int32)), (.int p1)])) rfl (hb hby d2_126) _ ?_
                            show Steps p.tables e below (T18.setTop (mkF m 128 #[.val (.int p1)] [(.int (63743 : Int32)), (.int (55296 : Int32)), (.int p1)])) _
                            refine st20 _ ?_
                            exact kt
                          show own_End p e below s (T20.setTop (mkF m 131 #[.val (.int p1)] [(.int (own_in p1 (55296 : Int32) (63743 : Int32)))])) (Q2 Z p1 h0 n0) ({ frames := 1, cells := 0, slots := 0, locals := 14 } : Room).cells ({ frames := 1, cells := 0, slots := 0, locals := 14 } : Room).slots
                          by_cases hc131_21 : (own_in p1 (55296 : Int32) (63743 : Int32)) = (0 : Int32)
                          · obtain ⟨_, _, ⟨T22, L22, k22, n22⟩, -, X22, ⟨Lc22, hQ22, l22, y22, z22⟩, st22⟩ := Jvm.LawKit.callS X20 hx (y := (⟨"com/example/solmap/solmap/rdf/TermSyntaxIsPnCharsBasePinLaw", "in", "(III)Z"⟩ : MethodName)) hown (mvT hZ (hw _ (List.mem_of_getElem? (i := 21) rfl))) (mvT hZ (hw _ (List.mem_of_getElem? (i := 22) rfl))) (mvT hZ (hw _ (List.mem_of_getElem? (i := 19) rfl))) (mvT hZ (hw _ (List.mem_of_getElem? (i := 23) rfl))) (by decide) (backOf (W := 0) (rm3 l Z a0 hw [] p1 (64976 : Int32) (65007 : Int32)  h0 n0 Z0 ) hZ (hw _ (List.mem_of_getElem? (i := 23) rfl)) (hw _ (List.mem_of_getElem? (i := 19) rfl)) (by decide) (by decide)) (g := (mkF m 139 #[.val (.int p1)] [(.int (65007 : Int32)), (.int (64976 : Int32)), (.int p1)])) rfl (by rw [hml]; rfl) (argsL := [(.int p1), (.int (64976 : Int32)), (.int (65007 : Int32))]) (rest := []) (lenOf pd_2_0 rfl) rfl (by show 2 * 0 + _ ≤ _; exact Nat.le_of_eq rfl) (hb hby d2_139) (fun _ _ => ⟨rfl, e20, (by decide : 0 + 0 ≤ _), (by decide : 0 + 0 ≤ _)⟩)
                            dsimp only [Pt.U, Pt.locs, Pt.cells, Pt.slots] at X22 l22 y22 z22 st22 hQ22
                            subst l22 y22 z22
                            obtain ⟨rfl, N22q, e22⟩ := hQ22
                            have N22 := Fr.app N20 N22q
                            refine own_pre (A := T22.setTop (mkF m 142 #[.val (.int p1)] [(.int (own_in p1 (64976 : Int32) (65007 : Int32)))])) (fun tt kt => ?_) ?_
                            · show Steps p.tables e below (T20.setTop (mkF m 131 #[.val (.int p1)] [(.int (own_in p1 (55296 : Int32) (63743 : Int32)))])) _
                              refine XS.ifNo X20.here hx rfl (hb hby d2_131) rfl ((if0 _ _).trans (teq hc131_21).2) ?_
                              show Steps p.tables e below (T20.setTop (mkF m 134 #[.val (.int p1)] [])) _
                              refine XS.iloadN X20.here hx rfl (hb hby d2_134) rfl ?_
                              show Steps p.tables e below (T20.setTop (mkF m 135 #[.val (.int p1)] [(.int p1)])) _
                              refine X20.ldcInt hx hown (mvT hZ (hw _ (List.mem_of_getElem? (i := 26) rfl))) (g := (mkF m 135 #[.val (.int p1)] [(.int p1)])) rfl (hb hby d2_135) _ ?_
                              show Steps p.tables e below (T20.setTop (mkF m 137 #[.val (.int p1)] [(.int (64976 : Int32)), (.int p1)])) _
                              refine X20.ldcInt hx hown (mvT hZ (hw _ (List.mem_of_getElem? (i := 27) rfl))) (g := (mkF m 137 #[.val (.int p1)] [(.int (64976 : Int32)), (.int p1)])) rfl (hb hby d2_137) _ ?_
                              show Steps p.tables e below (T20.setTop (mkF m 139 #[.val (.int p1)] [(.int (65007 : Int32)), (.int (64976 : Int32)), (.int p1)])) _
                              refine st22 _ ?_
                              exact kt
                            show own_End p e below s (T22.setTop (mkF m 142 #[.val (.int p1)] [(.int (own_in p1 (64976 : Int32) (65007 : Int32)))])) (Q2 Z p1 h0 n0) ({ frames := 1, cells := 0, slots := 0, locals := 14 } : Room).cells ({ frames := 1, cells := 0, slots := 0, locals := 14 } : Room).slots
                            by_cases hc142_23 : (own_in p1 (64976 : Int32) (65007 : Int32)) = (0 : Int32)
                            · obtain ⟨_, _, ⟨T24, L24, k24, n24⟩, -, X24, ⟨Lc24, hQ24, l24, y24, z24⟩, st24⟩ := Jvm.LawKit.callS X22 hx (y := (⟨"com/example/solmap/solmap/rdf/TermSyntaxIsPnCharsBasePinLaw", "in", "(III)Z"⟩ : MethodName)) hown (mvT hZ (hw _ (List.mem_of_getElem? (i := 21) rfl))) (mvT hZ (hw _ (List.mem_of_getElem? (i := 22) rfl))) (mvT hZ (hw _ (List.mem_of_getElem? (i := 19) rfl))) (mvT hZ (hw _ (List.mem_of_getElem? (i := 23) rfl))) (by decide) (backOf (W := 0) (rm3 l Z a0 hw [] p1 (65534 : Int32) (65535 : Int32)  h0 n0 Z0 ) hZ (hw _ (List.mem_of_getElem? (i := 23) rfl)) (hw _ (List.mem_of_getElem? (i := 19) rfl)) (by decide) (by decide)) (g := (mkF m 150 #[.val (.int p1)] [(.int (65535 : Int32)), (.int (65534 : Int32)), (.int p1)])) rfl (by rw [hml]; rfl) (argsL := [(.int p1), (.int (65534 : Int32)), (.int (65535 : Int32))]) (rest := []) (lenOf pd_2_0 rfl) rfl (by show 2 * 0 + _ ≤ _; exact Nat.le_of_eq rfl) (hb hby d2_150) (fun _ _ => ⟨rfl, e22, (by decide : 0 + 0 ≤ _), (by decide : 0 + 0 ≤ _)⟩)
                              dsimp only [Pt.U, Pt.locs, Pt.cells, Pt.slots] at X24 l24 y24 z24 st24 hQ24
                              subst l24 y24 z24
                              obtain ⟨rfl, N24q, e24⟩ := hQ24
                              have N24 := Fr.app N22 N24q
                              refine own_pre (A := T24.setTop (mkF m 153 #[.val (.int p1)] [(.int (own_in p1 (65534 : Int32) (65535 : Int32)))])) (fun tt kt => ?_) ?_
                              · show Steps p.tables e below (T22.setTop (mkF m 142 #[.val (.int p1)] [(.int (own_in p1 (64976 : Int32) (65007 : Int32)))])) _
                                refine XS.ifNo X22.here hx rfl (hb hby d2_142) rfl ((if0 _ _).trans (teq hc142_23).2) ?_
                                show Steps p.tables e below (T22.setTop (mkF m 145 #[.val (.int p1)] [])) _
                                refine XS.iloadN X22.here hx rfl (hb hby d2_145) rfl ?_
                                show Steps p.tables e below (T22.setTop (mkF m 146 #[.val (.int p1)] [(.int p1)])) _
                                refine X22.ldcInt hx hown (mvT hZ (hw _ (List.mem_of_getElem? (i := 28) rfl))) (g := (mkF m 146 #[.val (.int p1)] [(.int p1)])) rfl (hb hby d2_146) _ ?_
                                show Steps p.tables e below (T22.setTop (mkF m 148 #[.val (.int p1)] [(.int (65534 : Int32)), (.int p1)])) _
                                refine X22.ldcInt hx hown (mvT hZ (hw _ (List.mem_of_getElem? (i := 29) rfl))) (g := (mkF m 148 #[.val (.int p1)] [(.int (65534 : Int32)), (.int p1)])) rfl (hb hby d2_148) _ ?_
                                show Steps p.tables e below (T22.setTop (mkF m 150 #[.val (.int p1)] [(.int (65535 : Int32)), (.int (65534 : Int32)), (.int p1)])) _
                                refine st24 _ ?_
                                exact kt
                              show own_End p e below s (T24.setTop (mkF m 153 #[.val (.int p1)] [(.int (own_in p1 (65534 : Int32) (65535 : Int32)))])) (Q2 Z p1 h0 n0) ({ frames := 1, cells := 0, slots := 0, locals := 14 } : Room).cells ({ frames := 1, cells := 0, slots := 0, locals := 14 } : Room).slots
                              by_cases hc153_25 : (own_in p1 (65534 : Int32) (65535 : Int32)) = (0 : Int32)
                              · refine own_pre (A := T24.setTop (mkF m 159 #[.val (.int p1)] [(.int (1 : Int32))])) (fun tt kt => ?_) ?_
                                · show Steps p.tables e below (T24.setTop (mkF m 153 #[.val (.int p1)] [(.int (own_in p1 (65534 : Int32) (65535 : Int32)))])) _
                                  refine XS.ifYes X24.here hx rfl (pc0 := 153) (pc' := 158) rfl (hb hby d2_153) rfl ((if0 _ _).trans (teq hc153_25).1) (by decide) (by decide) ?_
                                  show Steps p.tables e below (T24.setTop (mkF m 158 #[.val (.int p1)] [])) _
                                  refine XS.iconst X24.here hx rfl (hb hby d2_158) ?_
                                  exact kt
                                show own_End p e below s (T24.setTop (mkF m 159 #[.val (.int p1)] [(.int (1 : Int32))])) (Q2 Z p1 h0 n0) ({ frames := 1, cells := 0, slots := 0, locals := 14 } : Room).cells ({ frames := 1, cells := 0, slots := 0, locals := 14 } : Room).slots
                                have hv : (own_ref p1) = (1 : Int32) := hj.trans (by simp only [own_ref, if_neg hc3_1, if_neg hc9_2, if_pos hc22_4, if_pos hc34_6, if_neg hc41_7, if_neg hc48_8, if_pos hc61_10, if_neg hc68_11, if_pos hc81_13, if_pos hc94_15, if_pos hc107_17, if_pos hc120_19, if_pos hc131_21, if_pos hc142_23, if_pos hc153_25])
                                obtain ⟨fs, hr, hrun, hended, hW, hsame⟩ := X24.leave (v := some (.int (1 : Int32))) (fun h => by rw [Bd.returns] at h; cases h)
                                refine ⟨_, _, ?_, hrun, hended, _, _, rfl, ?_, ⟨_, rfl⟩, hW, hsame.mono (by decide) (by decide)⟩
                                · exact retN X24 hx (t := .boolean) Bd.returns (by simp) (hb hby d2_159) hr
                                · show Q2 Z p1 h0 n0 _ T24.heap _
                                  rw [e24]
                                  exact ⟨(congrArg (fun z => some (Value.int z)) hv.symm), N24, rfl⟩
                              · refine own_pre (A := T24.setTop (mkF m 157 #[.val (.int p1)] [(.int (0 : Int32))])) (fun tt kt => ?_) ?_
                                · show Steps p.tables e below (T24.setTop (mkF m 153 #[.val (.int p1)] [(.int (own_in p1 (65534 : Int32) (65535 : Int32)))])) _
                                  refine XS.ifNo X24.here hx rfl (hb hby d2_153) rfl ((if0 _ _).trans (feq hc153_25).1) ?_
                                  show Steps p.tables e below (T24.setTop (mkF m 156 #[.val (.int p1)] [])) _
                                  refine XS.iconst X24.here hx rfl (hb hby d2_156) ?_
                                  exact kt
                                show own_End p e below s (T24.setTop (mkF m 157 #[.val (.int p1)] [(.int (0 : Int32))])) (Q2 Z p1 h0 n0) ({ frames := 1, cells := 0, slots := 0, locals := 14 } : Room).cells ({ frames := 1, cells := 0, slots := 0, locals := 14 } : Room).slots
                                have hv : (own_ref p1) = (0 : Int32) := hj.trans (by simp only [own_ref, if_neg hc3_1, if_neg hc9_2, if_pos hc22_4, if_pos hc34_6, if_neg hc41_7, if_neg hc48_8, if_pos hc61_10, if_neg hc68_11, if_pos hc81_13, if_pos hc94_15, if_pos hc107_17, if_pos hc120_19, if_pos hc131_21, if_pos hc142_23, if_neg hc153_25])
                                obtain ⟨fs, hr, hrun, hended, hW, hsame⟩ := X24.leave (v := some (.int (0 : Int32))) (fun h => by rw [Bd.returns] at h; cases h)
                                refine ⟨_, _, ?_, hrun, hended, _, _, rfl, ?_, ⟨_, rfl⟩, hW, hsame.mono (by decide) (by decide)⟩
                                · exact retN X24 hx (t := .boolean) Bd.returns (by simp) (hb hby d2_157) hr
                                · show Q2 Z p1 h0 n0 _ T24.heap _
                                  rw [e24]
                                  exact ⟨(congrArg (fun z => some (Value.int z)) hv.symm), N24, rfl⟩
                            · refine own_pre (A := T22.setTop (mkF m 157 #[.val (.int p1)] [(.int (0 : Int32))])) (fun tt kt => ?_) ?_
                              · show Steps p.tables e below (T22.setTop (mkF m 142 #[.val (.int p1)] [(.int (own_in p1 (64976 : Int32) (65007 : Int32)))])) _
                                refine XS.ifYes X22.here hx rfl (pc0 := 142) (pc' := 156) rfl (hb hby d2_142) rfl ((if0 _ _).trans (feq hc142_23).2) (by decide) (by decide) ?_
                                show Steps p.tables e below (T22.setTop (mkF m 156 #[.val (.int p1)] [])) _
                                refine XS.iconst X22.here hx rfl (hb hby d2_156) ?_
                                exact kt
                              show own_End p e below s (T22.setTop (mkF m 157 #[.val (.int p1)] [(.int (0 : Int32))])) (Q2 Z p1 h0 n0) ({ frames := 1, cells := 0, slots := 0, locals := 14 } : Room).cells ({ frames := 1, cells := 0, slots := 0, locals := 14 } : Room).slots
                              have hv : (own_ref p1) = (0 : Int32) := hj.trans (by simp only [own_ref, if_neg hc3_1, if_neg hc9_2, if_pos hc22_4, if_pos hc34_6, if_neg hc41_7, if_neg hc48_8, if_pos hc61_10, if_neg hc68_11, if_pos hc81_13, if_pos hc94_15, if_pos hc107_17, if_pos hc120_19, if_pos hc131_21, if_neg hc142_23])
                              obtain ⟨fs, hr, hrun, hended, hW, hsame⟩ := X22.leave (v := some (.int (0 : Int32))) (fun h => by rw [Bd.returns] at h; cases h)
                              refine ⟨_, _, ?_, hrun, hended, _, _, rfl, ?_, ⟨_, rfl⟩, hW, hsame.mono (by decide) (by decide)⟩
                              · exact retN X22 hx (t := .boolean) Bd.returns (by simp) (hb hby d2_157) hr
                              · show Q2 Z p1 h0 n0 _ T22.heap _
                                rw [e22]
                                exact ⟨(congrArg (fun z => some (Value.int z)) hv.symm), N22, rfl⟩
                          · refine own_pre (A := T20.setTop (mkF m 157 #[.val (.int p1)] [(.int (0 : Int32))])) (fun tt kt => ?_) ?_
                            · show Steps p.tables e below (T20.setTop (mkF m 131 #[.val (.int p1)] [(.int (own_in p1 (55296 : Int32) (63743 : Int32)))])) _
                              refine XS.ifYes X20.here hx rfl (pc0 := 131) (pc' := 156) rfl (hb hby d2_131) rfl ((if0 _ _).trans (feq hc131_21).2) (by decide) (by decide) ?_
                              show Steps p.tables e below (T20.setTop (mkF m 156 #[.val (.int p1)] [])) _
                              refine XS.iconst X20.here hx rfl (hb hby d2_156) ?_
                              exact kt
                            show own_End p e below s (T20.setTop (mkF m 157 #[.val (.int p1)] [(.int (0 : Int32))])) (Q2 Z p1 h0 n0) ({ frames := 1, cells := 0, slots := 0, locals := 14 } : Room).cells ({ frames := 1, cells := 0, slots := 0, locals := 14 } : Room).slots
                            have hv : (own_ref p1) = (0 : Int32) := hj.trans (by simp only [own_ref, if_neg hc3_1, if_neg hc9_2, if_pos hc22_4, if_pos hc34_6, if_neg hc41_7, if_neg hc48_8, if_pos hc61_10, if_neg hc68_11, if_pos hc81_13, if_pos hc94_15, if_pos hc107_17, if_pos hc120_19, if_neg hc131_21])
                            obtain ⟨fs, hr, hrun, hended, hW, hsame⟩ := X20.leave (v := some (.int (0 : Int32))) (fun h => by rw [Bd.returns] at h; cases h)
                            refine ⟨_, _, ?_, hrun, hended, _, _, rfl, ?_, ⟨_, rfl⟩, hW, hsame.mono (by decide) (by decide)⟩
                            · exact retN X20 hx (t := .boolean) Bd.returns (by simp) (hb hby d2_157) hr
                            · show Q2 Z p1 h0 n0 _ T20.heap _
                              rw [e20]
                              exact ⟨(congrArg (fun z => some (Value.int z)) hv.symm), N20, rfl⟩
                        · refine own_pre (A := T18.setTop (mkF m 157 #[.val (.int p1)] [(.int (0 : Int32))])) (fun tt kt => ?_) ?_
                          · show Steps p.tables e below (T18.setTop (mkF m 120 #[.val (.int p1)] [(.int (own_in p1 (12272 : Int32) (12288 : Int32)))])) _
                            refine XS.ifYes X18.here hx rfl (pc0 := 120) (pc' := 156) rfl (hb hby d2_120) rfl ((if0 _ _).trans (feq hc120_19).2) (by decide) (by decide) ?_
                            show Steps p.tables e below (T18.setTop (mkF m 156 #[.val (.int p1)] [])) _
                            refine XS.iconst X18.here hx rfl (hb hby d2_156) ?_
                            exact kt
                          show own_End p e below s (T18.setTop (mkF m 157 #[.val (.int p1)] [(.int (0 : Int32))])) (Q2 Z p1 h0 n0) ({ frames := 1, cells := 0, slots := 0, locals := 14 } : Room).cells ({ frames := 1, cells := 0, slots := 0, locals := 14 } : Room).slots
                          have hv : (own_ref p1) = (0 : Int32) := hj.trans (by simp only [own_ref, if_neg hc3_1, if_neg hc9_2, if_pos hc22_4, if_pos hc34_6, if_neg hc41_7, if_neg hc48_8, if_pos hc61_10, if_neg hc68_11, if_pos hc81_13, if_pos hc94_15, if_pos hc107_17, if_neg hc120_19])
                          obtain ⟨fs, hr, hrun, hended, hW, hsame⟩ := X18.leave (v := some (.int (0 : Int32))) (fun h => by rw [Bd.returns] at h; cases h)
                          refine ⟨_, _, ?_, hrun, hended, _, _, rfl, ?_, ⟨_, rfl⟩, hW, hsame.mono (by decide) (by decide)⟩
                          · exact retN X18 hx (t := .boolean) Bd.returns (by simp) (hb hby d2_157) hr
                          · show Q2 Z p1 h0 n0 _ T18.heap _
                            rw [e18]
                            exact ⟨(congrArg (fun z => some (Value.int z)) hv.symm), N18, rfl⟩
                      · refine own_pre (A := T16.setTop (mkF m 157 #[.val (.int p1)] [(.int (0 : Int32))])) (fun tt kt => ?_) ?_
                        · show Steps p.tables e below (T16.setTop (mkF m 107 #[.val (.int p1)] [(.int (own_in p1 (8592 : Int32) (11263 : Int32)))])) _
                          refine XS.ifYes X16.here hx rfl (pc0 := 107) (pc' := 156) rfl (hb hby d2_107) rfl ((if0 _ _).trans (feq hc107_17).2) (by decide) (by decide) ?_
                          show Steps p.tables e below (T16.setTop (mkF m 156 #[.val (.int p1)] [])) _
                          refine XS.iconst X16.here hx rfl (hb hby d2_156) ?_
                          exact kt
                        show own_End p e below s (T16.setTop (mkF m 157 #[.val (.int p1)] [(.int (0 : Int32))])) (Q2 Z p1 h0 n0) ({ frames := 1, cells := 0, slots := 0, locals := 14 } : Room).cells ({ frames := 1, cells := 0, slots := 0, locals := 14 } : Room).slots
                        have hv : (own_ref p1) = (0 : Int32) := hj.trans (by simp only [own_ref, if_neg hc3_1, if_neg hc9_2, if_pos hc22_4, if_pos hc34_6, if_neg hc41_7, if_neg hc48_8, if_pos hc61_10, if_neg hc68_11, if_pos hc81_13, if_pos hc94_15, if_neg hc107_17])
                        obtain ⟨fs, hr, hrun, hended, hW, hsame⟩ := X16.leave (v := some (.int (0 : Int32))) (fun h => by rw [Bd.returns] at h; cases h)
                        refine ⟨_, _, ?_, hrun, hended, _, _, rfl, ?_, ⟨_, rfl⟩, hW, hsame.mono (by decide) (by decide)⟩
                        · exact retN X16 hx (t := .boolean) Bd.returns (by simp) (hb hby d2_157) hr
                        · show Q2 Z p1 h0 n0 _ T16.heap _
                          rw [e16]
                          exact ⟨(congrArg (fun z => some (Value.int z)) hv.symm), N16, rfl⟩
                    · refine own_pre (A := T14.setTop (mkF m 157 #[.val (.int p1)] [(.int (0 : Int32))])) (fun tt kt => ?_) ?_
                      · show Steps p.tables e below (T14.setTop (mkF m 94 #[.val (.int p1)] [(.int (own_in p1 (8206 : Int32) (8303 : Int32)))])) _
                        refine XS.ifYes X14.here hx rfl (pc0 := 94) (pc' := 156) rfl (hb hby d2_94) rfl ((if0 _ _).trans (feq hc94_15).2) (by decide) (by decide) ?_
                        show Steps p.tables e below (T14.setTop (mkF m 156 #[.val (.int p1)] [])) _
                        refine XS.iconst X14.here hx rfl (hb hby d2_156) ?_
                        exact kt
                      show own_End p e below s (T14.setTop (mkF m 157 #[.val (.int p1)] [(.int (0 : Int32))])) (Q2 Z p1 h0 n0) ({ frames := 1, cells := 0, slots := 0, locals := 14 } : Room).cells ({ frames := 1, cells := 0, slots := 0, locals := 14 } : Room).slots
                      have hv : (own_ref p1) = (0 : Int32) := hj.trans (by simp only [own_ref, if_neg hc3_1, if_neg hc9_2, if_pos hc22_4, if_pos hc34_6, if_neg hc41_7, if_neg hc48_8, if_pos hc61_10, if_neg hc68_11, if_pos hc81_13, if_neg hc94_15])
                      obtain ⟨fs, hr, hrun, hended, hW, hsame⟩ := X14.leave (v := some (.int (0 : Int32))) (fun h => by rw [Bd.returns] at h; cases h)
                      refine ⟨_, _, ?_, hrun, hended, _, _, rfl, ?_, ⟨_, rfl⟩, hW, hsame.mono (by decide) (by decide)⟩
                      · exact retN X14 hx (t := .boolean) Bd.returns (by simp) (hb hby d2_157) hr
                      · show Q2 Z p1 h0 n0 _ T14.heap _
                        rw [e14]
                        exact ⟨(congrArg (fun z => some (Value.int z)) hv.symm), N14, rfl⟩
                  · refine own_pre (A := T12.setTop (mkF m 157 #[.val (.int p1)] [(.int (0 : Int32))])) (fun tt kt => ?_) ?_
                    · show Steps p.tables e below (T12.setTop (mkF m 81 #[.val (.int p1)] [(.int (own_in p1 (8192 : Int32) (8203 : Int32)))])) _
                      refine XS.ifYes X12.here hx rfl (pc0 := 81) (pc' := 156) rfl (hb hby d2_81) rfl ((if0 _ _).trans (feq hc81_13).2) (by decide) (by decide) ?_
                      show Steps p.tables e below (T12.setTop (mkF m 156 #[.val (.int p1)] [])) _
                      refine XS.iconst X12.here hx rfl (hb hby d2_156) ?_
                      exact kt
                    show own_End p e below s (T12.setTop (mkF m 157 #[.val (.int p1)] [(.int (0 : Int32))])) (Q2 Z p1 h0 n0) ({ frames := 1, cells := 0, slots := 0, locals := 14 } : Room).cells ({ frames := 1, cells := 0, slots := 0, locals := 14 } : Room).slots
                    have hv : (own_ref p1) = (0 : Int32) := hj.trans (by simp only [own_ref, if_neg hc3_1, if_neg hc9_2, if_pos hc22_4, if_pos hc34_6, if_neg hc41_7, if_neg hc48_8, if_pos hc61_10, if_neg hc68_11, if_neg hc81_13])
                    obtain ⟨fs, hr, hrun, hended, hW, hsame⟩ := X12.leave (v := some (.int (0 : Int32))) (fun h => by rw [Bd.returns] at h; cases h)
                    refine ⟨_, _, ?_, hrun, hended, _, _, rfl, ?_, ⟨_, rfl⟩, hW, hsame.mono (by decide) (by decide)⟩
                    · exact retN X12 hx (t := .boolean) Bd.returns (by simp) (hb hby d2_157) hr
                    · show Q2 Z p1 h0 n0 _ T12.heap _
                      rw [e12]
                      exact ⟨(congrArg (fun z => some (Value.int z)) hv.symm), N12, rfl⟩
              · refine own_pre (A := T9.setTop (mkF m 157 #[.val (.int p1)] [(.int (0 : Int32))])) (fun tt kt => ?_) ?_
                · show Steps p.tables e below (T9.setTop (mkF m 61 #[.val (.int p1)] [(.int (own_in p1 (768 : Int32) (879 : Int32)))])) _
                  refine XS.ifYes X9.here hx rfl (pc0 := 61) (pc' := 156) rfl (hb hby d2_61) rfl ((if0 _ _).trans (feq hc61_10).2) (by decide) (by decide) ?_
                  show Steps p.tables e below (T9.setTop (mkF m 156 #[.val (.int p1)] [])) _
                  refine XS.iconst X9.here hx rfl (hb hby d2_156) ?_
                  exact kt
                show own_End p e below s (T9.setTop (mkF m 157 #[.val (.int p1)] [(.int (0 : Int32))])) (Q2 Z p1 h0 n0) ({ frames := 1, cells := 0, slots := 0, locals := 14 } : Room).cells ({ frames := 1, cells := 0, slots := 0, locals := 14 } : Room).slots
                have hv : (own_ref p1) = (0 : Int32) := hj.trans (by simp only [own_ref, if_neg hc3_1, if_neg hc9_2, if_pos hc22_4, if_pos hc34_6, if_neg hc41_7, if_neg hc48_8, if_neg hc61_10])
                obtain ⟨fs, hr, hrun, hended, hW, hsame⟩ := X9.leave (v := some (.int (0 : Int32))) (fun h => by rw [Bd.returns] at h; cases h)
                refine ⟨_, _, ?_, hrun, hended, _, _, rfl, ?_, ⟨_, rfl⟩, hW, hsame.mono (by decide) (by decide)⟩
                · exact retN X9 hx (t := .boolean) Bd.returns (by simp) (hb hby d2_157) hr
                · show Q2 Z p1 h0 n0 _ T9.heap _
                  rw [e9]
                  exact ⟨(congrArg (fun z => some (Value.int z)) hv.symm), N9, rfl⟩
        · refine own_pre (A := T5.setTop (mkF m 157 #[.val (.int p1)] [(.int (0 : Int32))])) (fun tt kt => ?_) ?_
          · show Steps p.tables e below (T5.setTop (mkF m 34 #[.val (.int p1)] [(.int (own_in p1 (123 : Int32) (191 : Int32)))])) _
            refine XS.ifYes X5.here hx rfl (pc0 := 34) (pc' := 156) rfl (hb hby d2_34) rfl ((if0 _ _).trans (feq hc34_6).2) (by decide) (by decide) ?_
            show Steps p.tables e below (T5.setTop (mkF m 156 #[.val (.int p1)] [])) _
            refine XS.iconst X5.here hx rfl (hb hby d2_156) ?_
            exact kt
          show own_End p e below s (T5.setTop (mkF m 157 #[.val (.int p1)] [(.int (0 : Int32))])) (Q2 Z p1 h0 n0) ({ frames := 1, cells := 0, slots := 0, locals := 14 } : Room).cells ({ frames := 1, cells := 0, slots := 0, locals := 14 } : Room).slots
          have hv : (own_ref p1) = (0 : Int32) := hj.trans (by simp only [own_ref, if_neg hc3_1, if_neg hc9_2, if_pos hc22_4, if_neg hc34_6])
          obtain ⟨fs, hr, hrun, hended, hW, hsame⟩ := X5.leave (v := some (.int (0 : Int32))) (fun h => by rw [Bd.returns] at h; cases h)
          refine ⟨_, _, ?_, hrun, hended, _, _, rfl, ?_, ⟨_, rfl⟩, hW, hsame.mono (by decide) (by decide)⟩
          · exact retN X5 hx (t := .boolean) Bd.returns (by simp) (hb hby d2_157) hr
          · show Q2 Z p1 h0 n0 _ T5.heap _
            rw [e5]
            exact ⟨(congrArg (fun z => some (Value.int z)) hv.symm), N5, rfl⟩
      · refine own_pre (A := T3.setTop (mkF m 157 #[.val (.int p1)] [(.int (0 : Int32))])) (fun tt kt => ?_) ?_
        · show Steps p.tables e below (T3.setTop (mkF m 22 #[.val (.int p1)] [(.int (own_in p1 (91 : Int32) (96 : Int32)))])) _
          refine XS.ifYes X3.here hx rfl (pc0 := 22) (pc' := 156) rfl (hb hby d2_22) rfl ((if0 _ _).trans (feq hc22_4).2) (by decide) (by decide) ?_
          show Steps p.tables e below (T3.setTop (mkF m 156 #[.val (.int p1)] [])) _
          refine XS.iconst X3.here hx rfl (hb hby d2_156) ?_
          exact kt
        show own_End p e below s (T3.setTop (mkF m 157 #[.val (.int p1)] [(.int (0 : Int32))])) (Q2 Z p1 h0 n0) ({ frames := 1, cells := 0, slots := 0, locals := 14 } : Room).cells ({ frames := 1, cells := 0, slots := 0, locals := 14 } : Room).slots
        have hv : (own_ref p1) = (0 : Int32) := hj.trans (by simp only [own_ref, if_neg hc3_1, if_neg hc9_2, if_neg hc22_4])
        obtain ⟨fs, hr, hrun, hended, hW, hsame⟩ := X3.leave (v := some (.int (0 : Int32))) (fun h => by rw [Bd.returns] at h; cases h)
        refine ⟨_, _, ?_, hrun, hended, _, _, rfl, ?_, ⟨_, rfl⟩, hW, hsame.mono (by decide) (by decide)⟩
        · exact retN X3 hx (t := .boolean) Bd.returns (by simp) (hb hby d2_157) hr
        · show Q2 Z p1 h0 n0 _ T3.heap _
          rw [e3]
          exact ⟨(congrArg (fun z => some (Value.int z)) hv.symm), N3, rfl⟩
theorem own_lt {x y : Int32} : (x < y) = (x.toInt < y.toInt) := propext Int32.lt_iff_toInt_lt
theorem own_base_173_iff (p : Int32) : own_base_173 p = 1 ↔ ((65536 ≤ p.toInt ∧ p.toInt ≤ 983039) ∨ own_base_189 p = 1) := by
  have k1 : (65536 : Int32).toInt = 65536 := by decide
  have k2 : (983039 : Int32).toInt = 983039 := by decide
  unfold own_base_173
  by_cases h1 : p < (65536 : Int32)
  · have h1' := Int32.lt_iff_toInt_lt.mp h1
    rw [if_pos h1]; constructor
    · exact Or.inr
    · rintro (h | h)
      · omega
      · exact h
  · have h1' : ¬ p.toInt < (65536 : Int32).toInt := fun q => h1 (Int32.lt_iff_toInt_lt.mpr q)
    rw [if_neg h1]
    by_cases h2 : (983039 : Int32) < p
    · have h2' := Int32.lt_iff_toInt_lt.mp h2
      rw [if_pos h2]; constructor
      · exact Or.inr
      · rintro (h | h)
        · omega
        · exact h
    · have h2' : ¬ (983039 : Int32).toInt < p.toInt := fun q => h2 (Int32.lt_iff_toInt_lt.mpr q)
      rw [if_neg h2]; constructor
      · intro _; left; omega
      · intro _; rfl
theorem own_base_161_iff (p : Int32) : own_base_161 p = 1 ↔ ((65008 ≤ p.toInt ∧ p.toInt ≤ 65533) ∨ own_base_173 p = 1) := by
  have k1 : (65008 : Int32).toInt = 65008 := by decide
  have k2 : (65533 : Int32).toInt = 65533 := by decide
  unfold own_base_161
  by_cases h1 : p < (65008 : Int32)
  · have h1' := Int32.lt_iff_toInt_lt.mp h1
    rw [if_pos h1]; constructor
    · exact Or.inr
    · rintro (h | h)
      · omega
      · exact h
  · have h1' : ¬ p.toInt < (65008 : Int32).toInt := fun q => h1 (Int32.lt_iff_toInt_lt.mpr q)
    rw [if_neg h1]
    by_cases h2 : (65533 : Int32) < p
    · have h2' := Int32.lt_iff_toInt_lt.mp h2
      rw [if_pos h2]; constructor
      · exact Or.inr
      · rintro (h | h)
        · omega
        · exact h
    · have h2' : ¬ (65533 : Int32).toInt < p.toInt := fun q => h2 (Int32.lt_iff_toInt_lt.mpr q)
      rw [if_neg h2]; constructor
      · intro _; left; omega
      · intro _; rfl
theorem own_base_149_iff (p : Int32) : own_base_149 p = 1 ↔ ((63744 ≤ p.toInt ∧ p.toInt ≤ 64975) ∨ own_base_161 p = 1) := by
  have k1 : (63744 : Int32).toInt = 63744 := by decide
  have k2 : (64975 : Int32).toInt = 64975 := by decide
  unfold own_base_149
  by_cases h1 : p < (63744 : Int32)
  · have h1' := Int32.lt_iff_toInt_lt.mp h1
    rw [if_pos h1]; constructor
    · exact Or.inr
    · rintro (h | h)
      · omega
      · exact h
  · have h1' : ¬ p.toInt < (63744 : Int32).toInt := fun q => h1 (Int32.lt_iff_toInt_lt.mpr q)
    rw [if_neg h1]
    by_cases h2 : (64975 : Int32) < p
    · have h2' := Int32.lt_iff_toInt_lt.mp h2
      rw [if_pos h2]; constructor
      · exact Or.inr
      · rintro (h | h)
        · omega
        · exact h
    · have h2' : ¬ (64975 : Int32).toInt < p.toInt := fun q => h2 (Int32.lt_iff_toInt_lt.mpr q)
      rw [if_neg h2]; constructor
      · intro _; left; omega
      · intro _; rfl
theorem own_base_136_iff (p : Int32) : own_base_136 p = 1 ↔ ((12289 ≤ p.toInt ∧ p.toInt ≤ 55295) ∨ own_base_149 p = 1) := by
  have k1 : (12289 : Int32).toInt = 12289 := by decide
  have k2 : (55295 : Int32).toInt = 55295 := by decide
  unfold own_base_136
  by_cases h1 : p < (12289 : Int32)
  · have h1' := Int32.lt_iff_toInt_lt.mp h1
    rw [if_pos h1]; constructor
    · exact Or.inr
    · rintro (h | h)
      · omega
      · exact h
  · have h1' : ¬ p.toInt < (12289 : Int32).toInt := fun q => h1 (Int32.lt_iff_toInt_lt.mpr q)
    rw [if_neg h1]
    by_cases h2 : (55295 : Int32) < p
    · have h2' := Int32.lt_iff_toInt_lt.mp h2
      rw [if_pos h2]; constructor
      · exact Or.inr
      · rintro (h | h)
        · omega
        · exact h
    · have h2' : ¬ (55295 : Int32).toInt < p.toInt := fun q => h2 (Int32.lt_iff_toInt_lt.mpr q)
      rw [if_neg h2]; constructor
      · intro _; left; omega
      · intro _; rfl
theorem own_base_122_iff (p : Int32) : own_base_122 p = 1 ↔ ((11264 ≤ p.toInt ∧ p.toInt ≤ 12271) ∨ own_base_136 p = 1) := by
  have k1 : (11264 : Int32).toInt = 11264 := by decide
  have k2 : (12271 : Int32).toInt = 12271 := by decide
  unfold own_base_122
  by_cases h1 : p < (11264 : Int32)
  · have h1' := Int32.lt_iff_toInt_lt.mp h1
    rw [if_pos h1]; constructor
    · exact Or.inr
    · rintro (h | h)
      · omega
      · exact h
  · have h1' : ¬ p.toInt < (11264 : Int32).toInt := fun q => h1 (Int32.lt_iff_toInt_lt.mpr q)
    rw [if_neg h1]
    by_cases h2 : (12271 : Int32) < p
    · have h2' := Int32.lt_iff_toInt_lt.mp h2
      rw [if_pos h2]; constructor
      · exact Or.inr
      · rintro (h | h)
        · omega
        · exact h
    · have h2' : ¬ (12271 : Int32).toInt < p.toInt := fun q => h2 (Int32.lt_iff_toInt_lt.mpr q)
      rw [if_neg h2]; constructor
      · intro _; left; omega
      · intro _; rfl
theorem own_base_108_iff (p : Int32) : own_base_108 p = 1 ↔ ((8304 ≤ p.toInt ∧ p.toInt ≤ 8591) ∨ own_base_122 p = 1) := by
  have k1 : (8304 : Int32).toInt = 8304 := by decide
  have k2 : (8591 : Int32).toInt = 8591 := by decide
  unfold own_base_108
  by_cases h1 : p < (8304 : Int32)
  · have h1' := Int32.lt_iff_toInt_lt.mp h1
    rw [if_pos h1]; constructor
    · exact Or.inr
    · rintro (h | h)
      · omega
      · exact h
  · have h1' : ¬ p.toInt < (8304 : Int32).toInt := fun q => h1 (Int32.lt_iff_toInt_lt.mpr q)
    rw [if_neg h1]
    by_cases h2 : (8591 : Int32) < p
    · have h2' := Int32.lt_iff_toInt_lt.mp h2
      rw [if_pos h2]; constructor
      · exact Or.inr
      · rintro (h | h)
        · omega
        · exact h
    · have h2' : ¬ (8591 : Int32).toInt < p.toInt := fun q => h2 (Int32.lt_iff_toInt_lt.mpr q)
      rw [if_neg h2]; constructor
      · intro _; left; omega
      · intro _; rfl
theorem own_base_94_iff (p : Int32) : own_base_94 p = 1 ↔ ((8204 ≤ p.toInt ∧ p.toInt ≤ 8205) ∨ own_base_108 p = 1) := by
  have k1 : (8204 : Int32).toInt = 8204 := by decide
  have k2 : (8205 : Int32).toInt = 8205 := by decide
  unfold own_base_94
  by_cases h1 : p < (8204 : Int32)
  · have h1' := Int32.lt_iff_toInt_lt.mp h1
    rw [if_pos h1]; constructor
    · exact Or.inr
    · rintro (h | h)
      · omega
      · exact h
  · have h1' : ¬ p.toInt < (8204 : Int32).toInt := fun q => h1 (Int32.lt_iff_toInt_lt.mpr q)
    rw [if_neg h1]
    by_cases h2 : (8205 : Int32) < p
    · have h2' := Int32.lt_iff_toInt_lt.mp h2
      rw [if_pos h2]; constructor
      · exact Or.inr
      · rintro (h | h)
        · omega
        · exact h
    · have h2' : ¬ (8205 : Int32).toInt < p.toInt := fun q => h2 (Int32.lt_iff_toInt_lt.mpr q)
      rw [if_neg h2]; constructor
      · intro _; left; omega
      · intro _; rfl
theorem own_base_80_iff (p : Int32) : own_base_80 p = 1 ↔ ((895 ≤ p.toInt ∧ p.toInt ≤ 8191) ∨ own_base_94 p = 1) := by
  have k1 : (895 : Int32).toInt = 895 := by decide
  have k2 : (8191 : Int32).toInt = 8191 := by decide
  unfold own_base_80
  by_cases h1 : p < (895 : Int32)
  · have h1' := Int32.lt_iff_toInt_lt.mp h1
    rw [if_pos h1]; constructor
    · exact Or.inr
    · rintro (h | h)
      · omega
      · exact h
  · have h1' : ¬ p.toInt < (895 : Int32).toInt := fun q => h1 (Int32.lt_iff_toInt_lt.mpr q)
    rw [if_neg h1]
    by_cases h2 : (8191 : Int32) < p
    · have h2' := Int32.lt_iff_toInt_lt.mp h2
      rw [if_pos h2]; constructor
      · exact Or.inr
      · rintro (h | h)
        · omega
        · exact h
    · have h2' : ¬ (8191 : Int32).toInt < p.toInt := fun q => h2 (Int32.lt_iff_toInt_lt.mpr q)
      rw [if_neg h2]; constructor
      · intro _; left; omega
      · intro _; rfl
theorem own_base_66_iff (p : Int32) : own_base_66 p = 1 ↔ ((880 ≤ p.toInt ∧ p.toInt ≤ 893) ∨ own_base_80 p = 1) := by
  have k1 : (880 : Int32).toInt = 880 := by decide
  have k2 : (893 : Int32).toInt = 893 := by decide
  unfold own_base_66
  by_cases h1 : p < (880 : Int32)
  · have h1' := Int32.lt_iff_toInt_lt.mp h1
    rw [if_pos h1]; constructor
    · exact Or.inr
    · rintro (h | h)
      · omega
      · exact h
  · have h1' : ¬ p.toInt < (880 : Int32).toInt := fun q => h1 (Int32.lt_iff_toInt_lt.mpr q)
    rw [if_neg h1]
    by_cases h2 : (893 : Int32) < p
    · have h2' := Int32.lt_iff_toInt_lt.mp h2
      rw [if_pos h2]; constructor
      · exact Or.inr
      · rintro (h | h)
        · omega
        · exact h
    · have h2' : ¬ (893 : Int32).toInt < p.toInt := fun q => h2 (Int32.lt_iff_toInt_lt.mpr q)
      rw [if_neg h2]; constructor
      · intro _; left; omega
      · intro _; rfl
theorem own_base_52_iff (p : Int32) : own_base_52 p = 1 ↔ ((248 ≤ p.toInt ∧ p.toInt ≤ 767) ∨ own_base_66 p = 1) := by
  have k1 : (248 : Int32).toInt = 248 := by decide
  have k2 : (767 : Int32).toInt = 767 := by decide
  unfold own_base_52
  by_cases h1 : p < (248 : Int32)
  · have h1' := Int32.lt_iff_toInt_lt.mp h1
    rw [if_pos h1]; constructor
    · exact Or.inr
    · rintro (h | h)
      · omega
      · exact h
  · have h1' : ¬ p.toInt < (248 : Int32).toInt := fun q => h1 (Int32.lt_iff_toInt_lt.mpr q)
    rw [if_neg h1]
    by_cases h2 : (767 : Int32) < p
    · have h2' := Int32.lt_iff_toInt_lt.mp h2
      rw [if_pos h2]; constructor
      · exact Or.inr
      · rintro (h | h)
        · omega
        · exact h
    · have h2' : ¬ (767 : Int32).toInt < p.toInt := fun q => h2 (Int32.lt_iff_toInt_lt.mpr q)
      rw [if_neg h2]; constructor
      · intro _; left; omega
      · intro _; rfl
theorem own_base_38_iff (p : Int32) : own_base_38 p = 1 ↔ ((216 ≤ p.toInt ∧ p.toInt ≤ 246) ∨ own_base_52 p = 1) := by
  have k1 : (216 : Int32).toInt = 216 := by decide
  have k2 : (246 : Int32).toInt = 246 := by decide
  unfold own_base_38
  by_cases h1 : p < (216 : Int32)
  · have h1' := Int32.lt_iff_toInt_lt.mp h1
    rw [if_pos h1]; constructor
    · exact Or.inr
    · rintro (h | h)
      · omega
      · exact h
  · have h1' : ¬ p.toInt < (216 : Int32).toInt := fun q => h1 (Int32.lt_iff_toInt_lt.mpr q)
    rw [if_neg h1]
    by_cases h2 : (246 : Int32) < p
    · have h2' := Int32.lt_iff_toInt_lt.mp h2
      rw [if_pos h2]; constructor
      · exact Or.inr
      · rintro (h | h)
        · omega
        · exact h
    · have h2' : ¬ (246 : Int32).toInt < p.toInt := fun q => h2 (Int32.lt_iff_toInt_lt.mpr q)
      rw [if_neg h2]; constructor
      · intro _; left; omega
      · intro _; rfl
theorem own_base_24_iff (p : Int32) : own_base_24 p = 1 ↔ ((192 ≤ p.toInt ∧ p.toInt ≤ 214) ∨ own_base_38 p = 1) := by
  have k1 : (192 : Int32).toInt = 192 := by decide
  have k2 : (214 : Int32).toInt = 214 := by decide
  unfold own_base_24
  by_cases h1 : p < (192 : Int32)
  · have h1' := Int32.lt_iff_toInt_lt.mp h1
    rw [if_pos h1]; constructor
    · exact Or.inr
    · rintro (h | h)
      · omega
      · exact h
  · have h1' : ¬ p.toInt < (192 : Int32).toInt := fun q => h1 (Int32.lt_iff_toInt_lt.mpr q)
    rw [if_neg h1]
    by_cases h2 : (214 : Int32) < p
    · have h2' := Int32.lt_iff_toInt_lt.mp h2
      rw [if_pos h2]; constructor
      · exact Or.inr
      · rintro (h | h)
        · omega
        · exact h
    · have h2' : ¬ (214 : Int32).toInt < p.toInt := fun q => h2 (Int32.lt_iff_toInt_lt.mpr q)
      rw [if_neg h2]; constructor
      · intro _; left; omega
      · intro _; rfl
theorem own_base_12_iff (p : Int32) : own_base_12 p = 1 ↔ ((97 ≤ p.toInt ∧ p.toInt ≤ 122) ∨ own_base_24 p = 1) := by
  have k1 : (97 : Int32).toInt = 97 := by decide
  have k2 : (122 : Int32).toInt = 122 := by decide
  unfold own_base_12
  by_cases h1 : p < (97 : Int32)
  · have h1' := Int32.lt_iff_toInt_lt.mp h1
    rw [if_pos h1]; constructor
    · exact Or.inr
    · rintro (h | h)
      · omega
      · exact h
  · have h1' : ¬ p.toInt < (97 : Int32).toInt := fun q => h1 (Int32.lt_iff_toInt_lt.mpr q)
    rw [if_neg h1]
    by_cases h2 : (122 : Int32) < p
    · have h2' := Int32.lt_iff_toInt_lt.mp h2
      rw [if_pos h2]; constructor
      · exact Or.inr
      · rintro (h | h)
        · omega
        · exact h
    · have h2' : ¬ (122 : Int32).toInt < p.toInt := fun q => h2 (Int32.lt_iff_toInt_lt.mpr q)
      rw [if_neg h2]; constructor
      · intro _; left; omega
      · intro _; rfl
theorem own_base_iff (p : Int32) : own_base p = 1 ↔ ((65 ≤ p.toInt ∧ p.toInt ≤ 90) ∨ own_base_12 p = 1) := by
  have k1 : (65 : Int32).toInt = 65 := by decide
  have k2 : (90 : Int32).toInt = 90 := by decide
  unfold own_base
  by_cases h1 : p < (65 : Int32)
  · have h1' := Int32.lt_iff_toInt_lt.mp h1
    rw [if_pos h1]; constructor
    · exact Or.inr
    · rintro (h | h)
      · omega
      · exact h
  · have h1' : ¬ p.toInt < (65 : Int32).toInt := fun q => h1 (Int32.lt_iff_toInt_lt.mpr q)
    rw [if_neg h1]
    by_cases h2 : (90 : Int32) < p
    · have h2' := Int32.lt_iff_toInt_lt.mp h2
      rw [if_pos h2]; constructor
      · exact Or.inr
      · rintro (h | h)
        · omega
        · exact h
    · have h2' : ¬ (90 : Int32).toInt < p.toInt := fun q => h2 (Int32.lt_iff_toInt_lt.mpr q)
      rw [if_neg h2]; constructor
      · intro _; left; omega
      · intro _; rfl
theorem own_in_zero (c lo hi : Int32) : own_in c lo hi = 0 ↔ (c.toInt < lo.toInt ∨ hi.toInt < c.toInt) := by
  unfold own_in
  have z : ¬ ((1 : Int32) = 0) := by decide
  by_cases h1 : c < lo
  · rw [if_pos h1]; exact ⟨fun _ => Or.inl (Int32.lt_iff_toInt_lt.mp h1), fun _ => rfl⟩
  · rw [if_neg h1]
    by_cases h2 : hi < c
    · rw [if_pos h2]; exact ⟨fun _ => Or.inr (Int32.lt_iff_toInt_lt.mp h2), fun _ => rfl⟩
    · rw [if_neg h2]; exact ⟨fun q => absurd q z, fun q => q.elim (fun u => absurd (Int32.lt_iff_toInt_lt.mpr u) h1) (fun u => absurd (Int32.lt_iff_toInt_lt.mpr u) h2)⟩
theorem own_base_iff2 (p : Int32) : own_base p = 1 ↔ ((65 ≤ p.toInt ∧ p.toInt ≤ 90) ∨ (97 ≤ p.toInt ∧ p.toInt ≤ 122) ∨ (192 ≤ p.toInt ∧ p.toInt ≤ 214) ∨ (216 ≤ p.toInt ∧ p.toInt ≤ 246) ∨ (248 ≤ p.toInt ∧ p.toInt ≤ 767) ∨ (880 ≤ p.toInt ∧ p.toInt ≤ 893) ∨ (895 ≤ p.toInt ∧ p.toInt ≤ 8191) ∨ (8204 ≤ p.toInt ∧ p.toInt ≤ 8205) ∨ (8304 ≤ p.toInt ∧ p.toInt ≤ 8591) ∨ (11264 ≤ p.toInt ∧ p.toInt ≤ 12271) ∨ (12289 ≤ p.toInt ∧ p.toInt ≤ 55295) ∨ (63744 ≤ p.toInt ∧ p.toInt ≤ 64975) ∨ (65008 ≤ p.toInt ∧ p.toInt ≤ 65533) ∨ (65536 ≤ p.toInt ∧ p.toInt ≤ 983039)) := by
  rw [own_base_iff, own_base_12_iff, own_base_24_iff, own_base_38_iff, own_base_52_iff, own_base_66_iff, own_base_80_iff, own_base_94_iff, own_base_108_iff, own_base_122_iff, own_base_136_iff, own_base_149_iff, own_base_161_iff, own_base_173_iff]
  have z : ¬ (own_base_189 p = 1) := by unfold own_base_189; decide
  constructor
  · intro h; simp only [z, or_false] at h; exact h
  · intro h; simp only [z, or_false]; exact h
theorem own_base_01 (p : Int32) : own_base p = 0 ∨ own_base p = 1 := by
  have a189 : own_base_189 p = 0 ∨ own_base_189 p = 1 := Or.inl rfl
  have a185 : own_base_185 p = 0 ∨ own_base_185 p = 1 := Or.inr rfl
  have own_c13 : own_base_173 p = 0 ∨ own_base_173 p = 1 := by
    unfold own_base_173; split
    · exact a189
    · split
      · exact a189
      · exact a185
  have own_c12 : own_base_161 p = 0 ∨ own_base_161 p = 1 := by
    unfold own_base_161; split
    · exact own_c13
    · split
      · exact own_c13
      · exact a185
  have own_c11 : own_base_149 p = 0 ∨ own_base_149 p = 1 := by
    unfold own_base_149; split
    · exact own_c12
    · split
      · exact own_c12
      · exact a185
  have own_c10 : own_base_136 p = 0 ∨ own_base_136 p = 1 := by
    unfold own_base_136; split
    · exact own_c11
    · split
      · exact own_c11
      · exact a185
  have own_c9 : own_base_122 p = 0 ∨ own_base_122 p = 1 := by
    unfold own_base_122; split
    · exact own_c10
    · split
      · exact own_c10
      · exact a185
  have own_c8 : own_base_108 p = 0 ∨ own_base_108 p = 1 := by
    unfold own_base_108; split
    · exact own_c9
    · split
      · exact own_c9
      · exact a185
  have own_c7 : own_base_94 p = 0 ∨ own_base_94 p = 1 := by
    unfold own_base_94; split
    · exact own_c8
    · split
      · exact own_c8
      · exact a185
  have own_c6 : own_base_80 p = 0 ∨ own_base_80 p = 1 := by
    unfold own_base_80; split
    · exact own_c7
    · split
      · exact own_c7
      · exact a185
  have own_c5 : own_base_66 p = 0 ∨ own_base_66 p = 1 := by
    unfold own_base_66; split
    · exact own_c6
    · split
      · exact own_c6
      · exact a185
  have own_c4 : own_base_52 p = 0 ∨ own_base_52 p = 1 := by
    unfold own_base_52; split
    · exact own_c5
    · split
      · exact own_c5
      · exact a185
  have own_c3 : own_base_38 p = 0 ∨ own_base_38 p = 1 := by
    unfold own_base_38; split
    · exact own_c4
    · split
      · exact own_c4
      · exact a185
  have own_c2 : own_base_24 p = 0 ∨ own_base_24 p = 1 := by
    unfold own_base_24; split
    · exact own_c3
    · split
      · exact own_c3
      · exact a185
  have own_c1 : own_base_12 p = 0 ∨ own_base_12 p = 1 := by
    unfold own_base_12; split
    · exact own_c2
    · split
      · exact own_c2
      · exact a185
  have own_c0 : own_base p = 0 ∨ own_base p = 1 := by
    unfold own_base; split
    · exact own_c1
    · split
      · exact own_c1
      · exact a185
  exact own_c0
theorem own_zero (p : Int32) (h : ¬ ((65 ≤ p.toInt ∧ p.toInt ≤ 90) ∨ (97 ≤ p.toInt ∧ p.toInt ≤ 122) ∨ (192 ≤ p.toInt ∧ p.toInt ≤ 214) ∨ (216 ≤ p.toInt ∧ p.toInt ≤ 246) ∨ (248 ≤ p.toInt ∧ p.toInt ≤ 767) ∨ (880 ≤ p.toInt ∧ p.toInt ≤ 893) ∨ (895 ≤ p.toInt ∧ p.toInt ≤ 8191) ∨ (8204 ≤ p.toInt ∧ p.toInt ≤ 8205) ∨ (8304 ≤ p.toInt ∧ p.toInt ≤ 8591) ∨ (11264 ≤ p.toInt ∧ p.toInt ≤ 12271) ∨ (12289 ≤ p.toInt ∧ p.toInt ≤ 55295) ∨ (63744 ≤ p.toInt ∧ p.toInt ≤ 64975) ∨ (65008 ≤ p.toInt ∧ p.toInt ≤ 65533) ∨ (65536 ≤ p.toInt ∧ p.toInt ≤ 983039))) : own_base p = 0 := (own_base_01 p).elim id fun q => absurd ((own_base_iff2 p).mp q) h
theorem own_skip {x lo hi : Int} (d : x < lo ∨ hi < x) (h : lo ≤ x) : hi < x := by omega
theorem own_lo {x : Int32} {a b : Int} (d : ¬ (x.toInt < a ∨ b < x.toInt)) : a ≤ x.toInt ∧ x.toInt ≤ b := by omega
theorem own_no0 (p : Int32) (h : p.toInt < 65) : own_base p = 0 := own_zero p (by omega)
theorem own_no1 (p : Int32) (h : 983039 < p.toInt) : own_base p = 0 := own_zero p (by omega)
theorem own_no2 (p : Int32) (h : 91 ≤ p.toInt ∧ p.toInt ≤ 96) : own_base p = 0 := own_zero p (by omega)
theorem own_no3 (p : Int32) (h : 123 ≤ p.toInt ∧ p.toInt ≤ 191) : own_base p = 0 := own_zero p (by omega)
theorem own_no4 (p : Int32) (h : p.toInt = 215) : own_base p = 0 := own_zero p (by omega)
theorem own_no5 (p : Int32) (h : p.toInt = 247) : own_base p = 0 := own_zero p (by omega)
theorem own_no6 (p : Int32) (h : 768 ≤ p.toInt ∧ p.toInt ≤ 879) : own_base p = 0 := own_zero p (by omega)
theorem own_no7 (p : Int32) (h : p.toInt = 894) : own_base p = 0 := own_zero p (by omega)
theorem own_no8 (p : Int32) (h : 8192 ≤ p.toInt ∧ p.toInt ≤ 8203) : own_base p = 0 := own_zero p (by omega)
theorem own_no9 (p : Int32) (h : 8206 ≤ p.toInt ∧ p.toInt ≤ 8303) : own_base p = 0 := own_zero p (by omega)
theorem own_no10 (p : Int32) (h : 8592 ≤ p.toInt ∧ p.toInt ≤ 11263) : own_base p = 0 := own_zero p (by omega)
theorem own_no11 (p : Int32) (h : 12272 ≤ p.toInt ∧ p.toInt ≤ 12288) : own_base p = 0 := own_zero p (by omega)
theorem own_no12 (p : Int32) (h : 55296 ≤ p.toInt ∧ p.toInt ≤ 63743) : own_base p = 0 := own_zero p (by omega)
theorem own_no13 (p : Int32) (h : 64976 ≤ p.toInt ∧ p.toInt ≤ 65007) : own_base p = 0 := own_zero p (by omega)
theorem own_no14 (p : Int32) (h : 65534 ≤ p.toInt ∧ p.toInt ≤ 65535) : own_base p = 0 := own_zero p (by omega)
theorem own_same (p : Int32) : own_base p = own_ref p := by
  have k65 : (65 : Int32).toInt = 65 := by decide
  have k90 : (90 : Int32).toInt = 90 := by decide
  have k91 : (91 : Int32).toInt = 91 := by decide
  have k96 : (96 : Int32).toInt = 96 := by decide
  have k97 : (97 : Int32).toInt = 97 := by decide
  have k122 : (122 : Int32).toInt = 122 := by decide
  have k123 : (123 : Int32).toInt = 123 := by decide
  have k191 : (191 : Int32).toInt = 191 := by decide
  have k192 : (192 : Int32).toInt = 192 := by decide
  have k214 : (214 : Int32).toInt = 214 := by decide
  have k215 : (215 : Int32).toInt = 215 := by decide
  have k216 : (216 : Int32).toInt = 216 := by decide
  have k246 : (246 : Int32).toInt = 246 := by decide
  have k247 : (247 : Int32).toInt = 247 := by decide
  have k248 : (248 : Int32).toInt = 248 := by decide
  have k767 : (767 : Int32).toInt = 767 := by decide
  have k768 : (768 : Int32).toInt = 768 := by decide
  have k879 : (879 : Int32).toInt = 879 := by decide
  have k880 : (880 : Int32).toInt = 880 := by decide
  have k893 : (893 : Int32).toInt = 893 := by decide
  have k894 : (894 : Int32).toInt = 894 := by decide
  have k895 : (895 : Int32).toInt = 895 := by decide
  have k8191 : (8191 : Int32).toInt = 8191 := by decide
  have k8192 : (8192 : Int32).toInt = 8192 := by decide
  have k8203 : (8203 : Int32).toInt = 8203 := by decide
  have k8204 : (8204 : Int32).toInt = 8204 := by decide
  have k8205 : (8205 : Int32).toInt = 8205 := by decide
  have k8206 : (8206 : Int32).toInt = 8206 := by decide
  have k8303 : (8303 : Int32).toInt = 8303 := by decide
  have k8304 : (8304 : Int32).toInt = 8304 := by decide
  have k8591 : (8591 : Int32).toInt = 8591 := by decide
  have k8592 : (8592 : Int32).toInt = 8592 := by decide
  have k11263 : (11263 : Int32).toInt = 11263 := by decide
  have k11264 : (11264 : Int32).toInt = 11264 := by decide
  have k12271 : (12271 : Int32).toInt = 12271 := by decide
  have k12272 : (12272 : Int32).toInt = 12272 := by decide
  have k12288 : (12288 : Int32).toInt = 12288 := by decide
  have k12289 : (12289 : Int32).toInt = 12289 := by decide
  have k55295 : (55295 : Int32).toInt = 55295 := by decide
  have k55296 : (55296 : Int32).toInt = 55296 := by decide
  have k63743 : (63743 : Int32).toInt = 63743 := by decide
  have k63744 : (63744 : Int32).toInt = 63744 := by decide
  have k64975 : (64975 : Int32).toInt = 64975 := by decide
  have k64976 : (64976 : Int32).toInt = 64976 := by decide
  have k65007 : (65007 : Int32).toInt = 65007 := by decide
  have k65008 : (65008 : Int32).toInt = 65008 := by decide
  have k65533 : (65533 : Int32).toInt = 65533 := by decide
  have k65534 : (65534 : Int32).toInt = 65534 := by decide
  have k65535 : (65535 : Int32).toInt = 65535 := by decide
  have k65536 : (65536 : Int32).toInt = 65536 := by decide
  have k983039 : (983039 : Int32).toInt = 983039 := by decide
  have hb := own_base_iff2 p
  have h01 := own_base_01 p
  unfold own_ref
  by_cases c0 : p < (65 : Int32)
  · have c' := Int32.lt_iff_toInt_lt.mp c0; rw [if_pos c0]; exact own_no0 p (by rw [k65] at c'; exact c')
  have d0 : ¬ p.toInt < 65 := fun q => c0 (Int32.lt_iff_toInt_lt.mpr (by rw [k65]; exact q))
  rw [if_neg c0]
  by_cases c1 : (983039 : Int32) < p
  · have c' := Int32.lt_iff_toInt_lt.mp c1; rw [if_pos c1]; exact own_no1 p (by rw [k983039] at c'; exact c')
  have d1 : ¬ 983039 < p.toInt := fun q => c1 (Int32.lt_iff_toInt_lt.mpr (by rw [k983039]; exact q))
  rw [if_neg c1]
  by_cases c2 : own_in p (91 : Int32) (96 : Int32) = (0 : Int32)
  rotate_left
  · have c' : ¬ (p.toInt < (91 : Int32).toInt ∨ (96 : Int32).toInt < p.toInt) := fun q => c2 ((own_in_zero _ _ _).mpr q)
    rw [k91, k96] at c'
    rw [if_neg c2]; exact own_no2 p (own_lo c')
  have d2 := (own_in_zero _ _ _).mp c2
  rw [k91, k96] at d2
  rw [if_pos c2]
  by_cases c3 : own_in p (123 : Int32) (191 : Int32) = (0 : Int32)
  rotate_left
  · have c' : ¬ (p.toInt < (123 : Int32).toInt ∨ (191 : Int32).toInt < p.toInt) := fun q => c3 ((own_in_zero _ _ _).mpr q)
    rw [k123, k191] at c'
    rw [if_neg c3]; exact own_no3 p (own_lo c')
  have d3 := (own_in_zero _ _ _).mp c3
  rw [k123, k191] at d3
  rw [if_pos c3]
  by_cases c4 : p = (215 : Int32)
  · rw [if_pos c4]; exact own_no4 p (by rw [c4, k215])
  have d4 : ¬ p.toInt = 215 := fun q => c4 (Int32.toInt_inj.mp (by rw [k215]; exact q))
  rw [if_neg c4]
  by_cases c5 : p = (247 : Int32)
  · rw [if_pos c5]; exact own_no5 p (by rw [c5, k247])
  have d5 : ¬ p.toInt = 247 := fun q => c5 (Int32.toInt_inj.mp (by rw [k247]; exact q))
  rw [if_neg c5]
  by_cases c6 : own_in p (768 : Int32) (879 : Int32) = (0 : Int32)
  rotate_left
  · have c' : ¬ (p.toInt < (768 : Int32).toInt ∨ (879 : Int32).toInt < p.toInt) := fun q => c6 ((own_in_zero _ _ _).mpr q)
    rw [k768, k879] at c'
    rw [if_neg c6]; exact own_no6 p (own_lo c')
  have d6 := (own_in_zero _ _ _).mp c6
  rw [k768, k879] at d6
  rw [if_pos c6]
  by_cases c7 : p = (894 : Int32)
  · rw [if_pos c7]; exact own_no7 p (by rw [c7, k894])
  have d7 : ¬ p.toInt = 894 := fun q => c7 (Int32.toInt_inj.mp (by rw [k894]; exact q))
  rw [if_neg c7]
  by_cases c8 : own_in p (8192 : Int32) (8203 : Int32) = (0 : Int32)
  rotate_left
  · have c' : ¬ (p.toInt < (8192 : Int32).toInt ∨ (8203 : Int32).toInt < p.toInt) := fun q => c8 ((own_in_zero _ _ _).mpr q)
    rw [k8192, k8203] at c'
    rw [if_neg c8]; exact own_no8 p (own_lo c')
  have d8 := (own_in_zero _ _ _).mp c8
  rw [k8192, k8203] at d8
  rw [if_pos c8]
  by_cases c9 : own_in p (8206 : Int32) (8303 : Int32) = (0 : Int32)
  rotate_left
  · have c' : ¬ (p.toInt < (8206 : Int32).toInt ∨ (8303 : Int32).toInt < p.toInt) := fun q => c9 ((own_in_zero _ _ _).mpr q)
    rw [k8206, k8303] at c'
    rw [if_neg c9]; exact own_no9 p (own_lo c')
  have d9 := (own_in_zero _ _ _).mp c9
  rw [k8206, k8303] at d9
  rw [if_pos c9]
  by_cases c10 : own_in p (8592 : Int32) (11263 : Int32) = (0 : Int32)
  rotate_left
  · have c' : ¬ (p.toInt < (8592 : Int32).toInt ∨ (11263 : Int32).toInt < p.toInt) := fun q => c10 ((own_in_zero _ _ _).mpr q)
    rw [k8592, k11263] at c'
    rw [if_neg c10]; exact own_no10 p (own_lo c')
  have d10 := (own_in_zero _ _ _).mp c10
  rw [k8592, k11263] at d10
  rw [if_pos c10]
  by_cases c11 : own_in p (12272 : Int32) (12288 : Int32) = (0 : Int32)
  rotate_left
  · have c' : ¬ (p.toInt < (12272 : Int32).toInt ∨ (12288 : Int32).toInt < p.toInt) := fun q => c11 ((own_in_zero _ _ _).mpr q)
    rw [k12272, k12288] at c'
    rw [if_neg c11]; exact own_no11 p (own_lo c')
  have d11 := (own_in_zero _ _ _).mp c11
  rw [k12272, k12288] at d11
  rw [if_pos c11]
  by_cases c12 : own_in p (55296 : Int32) (63743 : Int32) = (0 : Int32)
  rotate_left
  · have c' : ¬ (p.toInt < (55296 : Int32).toInt ∨ (63743 : Int32).toInt < p.toInt) := fun q => c12 ((own_in_zero _ _ _).mpr q)
    rw [k55296, k63743] at c'
    rw [if_neg c12]; exact own_no12 p (own_lo c')
  have d12 := (own_in_zero _ _ _).mp c12
  rw [k55296, k63743] at d12
  rw [if_pos c12]
  by_cases c13 : own_in p (64976 : Int32) (65007 : Int32) = (0 : Int32)
  rotate_left
  · have c' : ¬ (p.toInt < (64976 : Int32).toInt ∨ (65007 : Int32).toInt < p.toInt) := fun q => c13 ((own_in_zero _ _ _).mpr q)
    rw [k64976, k65007] at c'
    rw [if_neg c13]; exact own_no13 p (own_lo c')
  have d13 := (own_in_zero _ _ _).mp c13
  rw [k64976, k65007] at d13
  rw [if_pos c13]
  by_cases c14 : own_in p (65534 : Int32) (65535 : Int32) = (0 : Int32)
  rotate_left
  · have c' : ¬ (p.toInt < (65534 : Int32).toInt ∨ (65535 : Int32).toInt < p.toInt) := fun q => c14 ((own_in_zero _ _ _).mpr q)
    rw [k65534, k65535] at c'
    rw [if_neg c14]; exact own_no14 p (own_lo c')
  have d14 := (own_in_zero _ _ _).mp c14
  rw [k65534, k65535] at d14
  rw [if_pos c14]
  have e0 : 65 ≤ p.toInt := Int.not_lt.mp d0
  by_cases u0 : p.toInt ≤ 90
  · exact hb.mpr (Or.inl ⟨e0, u0⟩)
  have v0 : 91 ≤ p.toInt := Int.not_le.mp u0
  have e1 : 97 ≤ p.toInt := own_skip d2 v0
  by_cases u1 : p.toInt ≤ 122
  · exact hb.mpr (Or.inr (Or.inl ⟨e1, u1⟩))
  have v1 : 123 ≤ p.toInt := Int.not_le.mp u1
  have e2 : 192 ≤ p.toInt := own_skip d3 v1
  by_cases u2 : p.toInt ≤ 214
  · exact hb.mpr (Or.inr (Or.inr (Or.inl ⟨e2, u2⟩)))
  have v2 : 215 ≤ p.toInt := Int.not_le.mp u2
  have e3 : 216 ≤ p.toInt := own_skip (lo := 215) (hi := 215) (by omega) v2
  by_cases u3 : p.toInt ≤ 246
  · exact hb.mpr (Or.inr (Or.inr (Or.inr (Or.inl ⟨e3, u3⟩))))
  have v3 : 247 ≤ p.toInt := Int.not_le.mp u3
  have e4 : 248 ≤ p.toInt := own_skip (lo := 247) (hi := 247) (by omega) v3
  by_cases u4 : p.toInt ≤ 767
  · exact hb.mpr (Or.inr (Or.inr (Or.inr (Or.inr (Or.inl ⟨e4, u4⟩)))))
  have v4 : 768 ≤ p.toInt := Int.not_le.mp u4
  have e5 : 880 ≤ p.toInt := own_skip d6 v4
  by_cases u5 : p.toInt ≤ 893
  · exact hb.mpr (Or.inr (Or.inr (Or.inr (Or.inr (Or.inr (Or.inl ⟨e5, u5⟩))))))
  have v5 : 894 ≤ p.toInt := Int.not_le.mp u5
  have e6 : 895 ≤ p.toInt := own_skip (lo := 894) (hi := 894) (by omega) v5
  by_cases u6 : p.toInt ≤ 8191
  · exact hb.mpr (Or.inr (Or.inr (Or.inr (Or.inr (Or.inr (Or.inr (Or.inl ⟨e6, u6⟩)))))))
  have v6 : 8192 ≤ p.toInt := Int.not_le.mp u6
  have e7 : 8204 ≤ p.toInt := own_skip d8 v6
  by_cases u7 : p.toInt ≤ 8205
  · exact hb.mpr (Or.inr (Or.inr (Or.inr (Or.inr (Or.inr (Or.inr (Or.inr (Or.inl ⟨e7, u7⟩))))))))
  have v7 : 8206 ≤ p.toInt := Int.not_le.mp u7
  have e8 : 8304 ≤ p.toInt := own_skip d9 v7
  by_cases u8 : p.toInt ≤ 8591
  · exact hb.mpr (Or.inr (Or.inr (Or.inr (Or.inr (Or.inr (Or.inr (Or.inr (Or.inr (Or.inl ⟨e8, u8⟩)))))))))
  have v8 : 8592 ≤ p.toInt := Int.not_le.mp u8
  have e9 : 11264 ≤ p.toInt := own_skip d10 v8
  by_cases u9 : p.toInt ≤ 12271
  · exact hb.mpr (Or.inr (Or.inr (Or.inr (Or.inr (Or.inr (Or.inr (Or.inr (Or.inr (Or.inr (Or.inl ⟨e9, u9⟩))))))))))
  have v9 : 12272 ≤ p.toInt := Int.not_le.mp u9
  have e10 : 12289 ≤ p.toInt := own_skip d11 v9
  by_cases u10 : p.toInt ≤ 55295
  · exact hb.mpr (Or.inr (Or.inr (Or.inr (Or.inr (Or.inr (Or.inr (Or.inr (Or.inr (Or.inr (Or.inr (Or.inl ⟨e10, u10⟩)))))))))))
  have v10 : 55296 ≤ p.toInt := Int.not_le.mp u10
  have e11 : 63744 ≤ p.toInt := own_skip d12 v10
  by_cases u11 : p.toInt ≤ 64975
  · exact hb.mpr (Or.inr (Or.inr (Or.inr (Or.inr (Or.inr (Or.inr (Or.inr (Or.inr (Or.inr (Or.inr (Or.inr (Or.inl ⟨e11, u11⟩))))))))))))
  have v11 : 64976 ≤ p.toInt := Int.not_le.mp u11
  have e12 : 65008 ≤ p.toInt := own_skip d13 v11
  by_cases u12 : p.toInt ≤ 65533
  · exact hb.mpr (Or.inr (Or.inr (Or.inr (Or.inr (Or.inr (Or.inr (Or.inr (Or.inr (Or.inr (Or.inr (Or.inr (Or.inr (Or.inl ⟨e12, u12⟩)))))))))))))
  have v12 : 65534 ≤ p.toInt := Int.not_le.mp u12
  have e13 : 65536 ≤ p.toInt := own_skip d14 v12
  have u13 : p.toInt ≤ 983039 := Int.not_lt.mp d1
  exact hb.mpr (Or.inr (Or.inr (Or.inr (Or.inr (Or.inr (Or.inr (Or.inr (Or.inr (Or.inr (Or.inr (Or.inr (Or.inr (Or.inr (⟨e13, u13⟩))))))))))))))
theorem own_ix (k : Int32) : ¬ ((k &&& (2147483647 : Int32)) % (32 : Int32)) < 0 ∧ ((k &&& (2147483647 : Int32)) % (32 : Int32)) < (32 : Int32) := by
  have e1 : (k &&& (2147483647 : Int32)).toInt = k.toInt % (2 ^ 31 : Nat) := c_mask k 2147483647 31 (by decide) (by decide)
  have k32 : (32 : Int32).toInt = 32 := by decide
  have k0 : (0 : Int32).toInt = 0 := by decide
  have e2 := (c_irem (k &&& (2147483647 : Int32)) 32 32 k32).1 (by omega)
  exact ⟨fun q => by have := Int32.lt_iff_toInt_lt.mp q; omega, Int32.lt_iff_toInt_lt.mpr (by omega)⟩
def own_law0_g4 (p1 : Int32) (p2 : Int32) (p3 : Int32) : Nat → Int32 := fun ii => if ii = 0 then (65 : Int32) else (fun _ => (0 : Int32)) ii
def own_law0_g7 (p1 : Int32) (p2 : Int32) (p3 : Int32) : Nat → Int32 := fun ii => if ii = 1 then (90 : Int32) else (own_law0_g4 p1 p2 p3) ii
def own_law0_g10 (p1 : Int32) (p2 : Int32) (p3 : Int32) : Nat → Int32 := fun ii => if ii = 2 then (97 : Int32) else (own_law0_g7 p1 p2 p3) ii
def own_law0_g13 (p1 : Int32) (p2 : Int32) (p3 : Int32) : Nat → Int32 := fun ii => if ii = 3 then (122 : Int32) else (own_law0_g10 p1 p2 p3) ii
def own_law0_g16 (p1 : Int32) (p2 : Int32) (p3 : Int32) : Nat → Int32 := fun ii => if ii = 4 then (192 : Int32) else (own_law0_g13 p1 p2 p3) ii
def own_law0_g19 (p1 : Int32) (p2 : Int32) (p3 : Int32) : Nat → Int32 := fun ii => if ii = 5 then (214 : Int32) else (own_law0_g16 p1 p2 p3) ii
def own_law0_g22 (p1 : Int32) (p2 : Int32) (p3 : Int32) : Nat → Int32 := fun ii => if ii = 6 then (216 : Int32) else (own_law0_g19 p1 p2 p3) ii
def own_law0_g25 (p1 : Int32) (p2 : Int32) (p3 : Int32) : Nat → Int32 := fun ii => if ii = 7 then (246 : Int32) else (own_law0_g22 p1 p2 p3) ii
def own_law0_g28 (p1 : Int32) (p2 : Int32) (p3 : Int32) : Nat → Int32 := fun ii => if ii = 8 then (248 : Int32) else (own_law0_g25 p1 p2 p3) ii
def own_law0_g31 (p1 : Int32) (p2 : Int32) (p3 : Int32) : Nat → Int32 := fun ii => if ii = 9 then (767 : Int32) else (own_law0_g28 p1 p2 p3) ii
def own_law0_g34 (p1 : Int32) (p2 : Int32) (p3 : Int32) : Nat → Int32 := fun ii => if ii = 10 then (880 : Int32) else (own_law0_g31 p1 p2 p3) ii
def own_law0_g37 (p1 : Int32) (p2 : Int32) (p3 : Int32) : Nat → Int32 := fun ii => if ii = 11 then (893 : Int32) else (own_law0_g34 p1 p2 p3) ii
def own_law0_g40 (p1 : Int32) (p2 : Int32) (p3 : Int32) : Nat → Int32 := fun ii => if ii = 12 then (895 : Int32) else (own_law0_g37 p1 p2 p3) ii
def own_law0_g43 (p1 : Int32) (p2 : Int32) (p3 : Int32) : Nat → Int32 := fun ii => if ii = 13 then (8191 : Int32) else (own_law0_g40 p1 p2 p3) ii
def own_law0_g46 (p1 : Int32) (p2 : Int32) (p3 : Int32) : Nat → Int32 := fun ii => if ii = 14 then (8204 : Int32) else (own_law0_g43 p1 p2 p3) ii
def own_law0_g49 (p1 : Int32) (p2 : Int32) (p3 : Int32) : Nat → Int32 := fun ii => if ii = 15 then (8205 : Int32) else (own_law0_g46 p1 p2 p3) ii
def own_law0_g52 (p1 : Int32) (p2 : Int32) (p3 : Int32) : Nat → Int32 := fun ii => if ii = 16 then (8304 : Int32) else (own_law0_g49 p1 p2 p3) ii
def own_law0_g55 (p1 : Int32) (p2 : Int32) (p3 : Int32) : Nat → Int32 := fun ii => if ii = 17 then (8591 : Int32) else (own_law0_g52 p1 p2 p3) ii
def own_law0_g58 (p1 : Int32) (p2 : Int32) (p3 : Int32) : Nat → Int32 := fun ii => if ii = 18 then (11264 : Int32) else (own_law0_g55 p1 p2 p3) ii
def own_law0_g61 (p1 : Int32) (p2 : Int32) (p3 : Int32) : Nat → Int32 := fun ii => if ii = 19 then (12271 : Int32) else (own_law0_g58 p1 p2 p3) ii
def own_law0_g64 (p1 : Int32) (p2 : Int32) (p3 : Int32) : Nat → Int32 := fun ii => if ii = 20 then (12289 : Int32) else (own_law0_g61 p1 p2 p3) ii
def own_law0_g67 (p1 : Int32) (p2 : Int32) (p3 : Int32) : Nat → Int32 := fun ii => if ii = 21 then (55295 : Int32) else (own_law0_g64 p1 p2 p3) ii
def own_law0_g70 (p1 : Int32) (p2 : Int32) (p3 : Int32) : Nat → Int32 := fun ii => if ii = 22 then (63744 : Int32) else (own_law0_g67 p1 p2 p3) ii
def own_law0_g73 (p1 : Int32) (p2 : Int32) (p3 : Int32) : Nat → Int32 := fun ii => if ii = 23 then (64975 : Int32) else (own_law0_g70 p1 p2 p3) ii
def own_law0_g76 (p1 : Int32) (p2 : Int32) (p3 : Int32) : Nat → Int32 := fun ii => if ii = 24 then (65008 : Int32) else (own_law0_g73 p1 p2 p3) ii
def own_law0_g79 (p1 : Int32) (p2 : Int32) (p3 : Int32) : Nat → Int32 := fun ii => if ii = 25 then (65533 : Int32) else (own_law0_g76 p1 p2 p3) ii
def own_law0_g82 (p1 : Int32) (p2 : Int32) (p3 : Int32) : Nat → Int32 := fun ii => if ii = 26 then (65536 : Int32) else (own_law0_g79 p1 p2 p3) ii
def own_law0_g85 (p1 : Int32) (p2 : Int32) (p3 : Int32) : Nat → Int32 := fun ii => if ii = 27 then (983039 : Int32) else (own_law0_g82 p1 p2 p3) ii
def own_law0_g88 (p1 : Int32) (p2 : Int32) (p3 : Int32) : Nat → Int32 := fun ii => if ii = 28 then (0 : Int32) else (own_law0_g85 p1 p2 p3) ii
def own_law0_g91 (p1 : Int32) (p2 : Int32) (p3 : Int32) : Nat → Int32 := fun ii => if ii = 29 then (2147483647 : Int32) else (own_law0_g88 p1 p2 p3) ii
def own_law0_g94 (p1 : Int32) (p2 : Int32) (p3 : Int32) : Nat → Int32 := fun ii => if ii = 30 then (-2147483648 : Int32) else (own_law0_g91 p1 p2 p3) ii
def own_law0_g97 (p1 : Int32) (p2 : Int32) (p3 : Int32) : Nat → Int32 := fun ii => if ii = 31 then (95 : Int32) else (own_law0_g94 p1 p2 p3) ii
theorem pn_0 : plainName "com/example/solmap/solmap/rdf/TermSyntaxIsPnCharsBasePinLaw" = true := by first | (simp [plainName, overriddenIn]; done) | decide +kernel
theorem pd_0_0 : parseMethodDescriptor "(I)Z" = some ⟨[.int], some .boolean⟩ := by decide +kernel
theorem ef_0 (m : MethodId) (x0 : Int32) (x1 : Int32) (x2 : Int32) : entryFrame m #[(.int x0), (.int x1), (.int x2)] maxLocals = mkF m 0 #[.val (.int x0), .val (.int x1), .val (.int x2), .unset, .unset] [] := by first | (simp [entryFrame, mkF, argsToLocals, Value.category, maxLocals]; done) | rfl
def Q0 (Z : State) (p1 : Int32) (p2 : Int32) (p3 : Int32) (h0 : Heap) (n0 : Nat) (v : Option Value) (h : Heap) (L : List Loc) : Prop := v = some (.int (1 : Int32)) ∧ Fr n0 L
set_option maxRecDepth 65536 in
set_option maxHeartbeats 40000000 in
theorem rm0 (l : Launch) (Z : State) (a0 : Array Value) (hw : ∀ d ∈ tables_1, d.before a0 Z = true) (ws : List Jvm.Cond) (p1 : Int32) (p2 : Int32) (p3 : Int32) (h0 : Heap) (n0 : Nat) (Z0 : n0 ≤ h0.size) :
    MetFree l x (head1 (Jvm.Cond.code x code maxLocals ret :: ws) room_1) (fun a U => a = #[(.int p1), (.int p2), (.int p3)] ∧ Z.Warmed39 U.vm ∧ U.heap = h0) (fun _ _ _ _ _ => True) (fun _ U o U' => ∃ v L, o = .returned v ∧ Q0 Z p1 p2 p3 h0 n0 v U'.heap L ∧ FrameEnd U o U' L room_1.cells room_1.slots) := by
  refine MetFree.of_bodySF (plainFor_of_name pn_0) hisR ?_
  intro p e s m args below meth c s₁ Bd hml0 hP hK
  obtain ⟨rfl, hZ, hh⟩ := hP
  have hx := Bd.exec
  have hby := Bd.bytes
  have hml : c.maxLocals = 5 := hml0
  have hown : s.vm.findClass "com/example/solmap/solmap/rdf/TermSyntaxIsPnCharsBasePinLaw" = some m.cls := findClass_of_methodNamed Bd.named
  have hnm := (name_of_methodNamed Bd.named Bd.method).1
  have X0 : Stand p l e room_1 s m #[(.int p1), (.int p2), (.int p3)] below meth c s₁ [] 0 0 := Stand.of_body Bd
  have e0 : s₁.heap = h0 := by rw [← hh, Bd.state]; rfl
  have N0 := Fr.nil n0
  show own_End p e below s (s₁.setTop (entryFrame m #[(.int p1), (.int p2), (.int p3)] maxLocals)) (Q0 Z p1 p2 p3 h0 n0) room_1.cells room_1.slots
  refine own_pre (A := s₁.setTop (mkF m 0 #[.val (.int p1), .val (.int p2), .val (.int p3), .unset, .unset] [])) (fun tt kt => castTop (ef_0 m p1 p2 p3) kt) ?_
  show own_End p e below s (s₁.setTop (mkF m 0 #[.val (.int p1), .val (.int p2), .val (.int p3), .unset, .unset] [])) (Q0 Z p1 p2 p3 h0 n0) room_1.cells room_1.slots
  obtain ⟨T1, h1, k1, X1, e1, E1, A1, st1⟩ := newP X0 hx hZ (hw _ (List.mem_of_getElem? (i := 0) rfl)) e0 (g := (mkF m 2 #[.val (.int p1), .val (.int p2), .val (.int p3), .unset, .unset] [(.int (32 : Int32))])) rfl (hb hby at_2) rfl (by decide) (cap := 32) (by decide) (by decide) (by decide) (by decide)
  obtain ⟨b1, g1⟩ : ∃ z, z = h0.size := ⟨_, rfl⟩
  rw [← g1] at A1 st1
  have g_b1 : n0 ≤ b1 := Nat.le_trans Z0 (Nat.le_of_eq g1.symm)
  have sz_b1 : h0.size ≤ b1 := Nat.le_trans (show Keep h0 h0 [] from (Keep.refl h0 _)).1 (Nat.le_of_eq g1.symm)
  have K1 : Keep h0 h1 [] := Keep.ext (Keep.refl h0 _) E1
  have Z1 : n0 ≤ h1.size := Nat.le_trans Z0 E1.1
  have V1 : own_Arr Z h1 b1 .int (32 : Int32) (fun i => Value.int ((fun _ => (0 : Int32)) i)) := own_Arr.new A1 (by decide) (fun _ => rfl)
  obtain ⟨cl2, Ar2, S2, Nn2, G2⟩ := id V1
  have hin2 : ¬ ((0 : Int32) < 0 ∨ cl2.slots.size ≤ (0 : Int32).toNatClampNeg) := inb_of S2 (⟨by decide, by decide⟩ : ¬ (0 : Int32) < 0 ∧ (0 : Int32) < (32 : Int32))
  obtain ⟨T3, h3, X3, e3, W3, st3⟩ := stI X1 hx hZ e1 Ar2 (j := (0 : Int32)) hin2 (g := (mkF m 8 #[.val (.int p1), .val (.int p2), .val (.int p3), .unset, .unset] [(.int (65 : Int32)), (.int (0 : Int32)), (.ref b1), (.ref b1)])) rfl rfl (hb hby at_8)
  have V3 : own_Arr Z h3 b1 .int (32 : Int32) (fun i => Value.int ((own_law0_g4 p1 p2 p3) i)) := own_Arr.set (w := Value.int) (g := (fun _ => (0 : Int32))) (x := (65 : Int32)) V1 W3 rfl (fun i => rfl)
  have N3 := Fr.snoc X3 N0 g_b1
  have K3 : Keep h0 h3 [] := Keep.wr K1 W3 (Or.inr sz_b1)
  have Z3 : n0 ≤ h3.size := Nat.le_trans Z1 (Nat.le_of_eq W3.size.symm)
  obtain ⟨cl5, Ar5, S5, Nn5, G5⟩ := id V3
  have hin5 : ¬ ((1 : Int32) < 0 ∨ cl5.slots.size ≤ (1 : Int32).toNatClampNeg) := inb_of S5 (⟨by decide, by decide⟩ : ¬ (1 : Int32) < 0 ∧ (1 : Int32) < (32 : Int32))
  obtain ⟨T6, h6, X6, e6, W6, st6⟩ := stI X3 hx hZ e3 Ar5 (j := (1 : Int32)) hin5 (g := (mkF m 13 #[.val (.int p1), .val (.int p2), .val (.int p3), .unset, .unset] [(.int (90 : Int32)), (.int (1 : Int32)), (.ref b1), (.ref b1)])) rfl rfl (hb hby at_13)
  have V6 : own_Arr Z h6 b1 .int (32 : Int32) (fun i => Value.int ((own_law0_g7 p1 p2 p3) i)) := own_Arr.set (w := Value.int) (g := (own_law0_g4 p1 p2 p3)) (x := (90 : Int32)) V3 W6 rfl (fun i => rfl)
  have N6 := Fr.snoc X6 N3 g_b1
  have K6 : Keep h0 h6 [] := Keep.wr K3 W6 (Or.inr sz_b1)
  have Z6 : n0 ≤ h6.size := Nat.le_trans Z3 (Nat.le_of_eq W6.size.symm)
  obtain ⟨cl8, Ar8, S8, Nn8, G8⟩ := id V6
  have hin8 : ¬ ((2 : Int32) < 0 ∨ cl8.slots.size ≤ (2 : Int32).toNatClampNeg) := inb_of S8 (⟨by decide, by decide⟩ : ¬ (2 : Int32) < 0 ∧ (2 : Int32) < (32 : Int32))
  obtain ⟨T9, h9, X9, e9, W9, st9⟩ := stI X6 hx hZ e6 Ar8 (j := (2 : Int32)) hin8 (g := (mkF m 18 #[.val (.int p1), .val (.int p2), .val (.int p3), .unset, .unset] [(.int (97 : Int32)), (.int (2 : Int32)), (.ref b1), (.ref b1)])) rfl rfl (hb hby at_18)
  have V9 : own_Arr Z h9 b1 .int (32 : Int32) (fun i => Value.int ((own_law0_g10 p1 p2 p3) i)) := own_Arr.set (w := Value.int) (g := (own_law0_g7 p1 p2 p3)) (x := (97 : Int32)) V6 W9 rfl (fun i => rfl)
  have N9 := Fr.snoc X9 N6 g_b1
  have K9 : Keep h0 h9 [] := Keep.wr K6 W9 (Or.inr sz_b1)
  have Z9 : n0 ≤ h9.size := Nat.le_trans Z6 (Nat.le_of_eq W9.size.symm)
  obtain ⟨cl11, Ar11, S11, Nn11, G11⟩ := id V9
  have hin11 : ¬ ((3 : Int32) < 0 ∨ cl11.slots.size ≤ (3 : Int32).toNatClampNeg) := inb_of S11 (⟨by decide, by decide⟩ : ¬ (3 : Int32) < 0 ∧ (3 : Int32) < (32 : Int32))
  obtain ⟨T12, h12, X12, e12, W12, st12⟩ := stI X9 hx hZ e9 Ar11 (j := (3 : Int32)) hin11 (g := (mkF m 23 #[.val (.int p1), .val (.int p2), .val (.int p3), .unset, .unset] [(.int (122 : Int32)), (.int (3 : Int32)), (.ref b1), (.ref b1)])) rfl rfl (hb hby at_23)
  have V12 : own_Arr Z h12 b1 .int (32 : Int32) (fun i => Value.int ((own_law0_g13 p1 p2 p3) i)) := own_Arr.set (w := Value.int) (g := (own_law0_g10 p1 p2 p3)) (x := (122 : Int32)) V9 W12 rfl (fun i => rfl)
  have N12 := Fr.snoc X12 N9 g_b1
  have K12 : Keep h0 h12 [] := Keep.wr K9 W12 (Or.inr sz_b1)
  have Z12 : n0 ≤ h12.size := Nat.le_trans Z9 (Nat.le_of_eq W12.size.symm)
  obtain ⟨cl14, Ar14, S14, Nn14, G14⟩ := id V12
  have hin14 : ¬ ((4 : Int32) < 0 ∨ cl14.slots.size ≤ (4 : Int32).toNatClampNeg) := inb_of S14 (⟨by decide, by decide⟩ : ¬ (4 : Int32) < 0 ∧ (4 : Int32) < (32 : Int32))
  obtain ⟨T15, h15, X15, e15, W15, st15⟩ := stI X12 hx hZ e12 Ar14 (j := (4 : Int32)) hin14 (g := (mkF m 29 #[.val (.int p1), .val (.int p2), .val (.int p3), .unset, .unset] [(.int (192 : Int32)), (.int (4 : Int32)), (.ref b1), (.ref b1)])) rfl rfl (hb hby at_29)
  have V15 : own_Arr Z h15 b1 .int (32 : Int32) (fun i => Value.int ((own_law0_g16 p1 p2 p3) i)) := own_Arr.set (w := Value.int) (g := (own_law0_g13 p1 p2 p3)) (x := (192 : Int32)) V12 W15 rfl (fun i => rfl)
  have N15 := Fr.snoc X15 N12 g_b1
  have K15 : Keep h0 h15 [] := Keep.wr K12 W15 (Or.inr sz_b1)
  have Z15 : n0 ≤ h15.size := Nat.le_trans Z12 (Nat.le_of_eq W15.size.symm)
  obtain ⟨cl17, Ar17, S17, Nn17, G17⟩ := id V15
  have hin17 : ¬ ((5 : Int32) < 0 ∨ cl17.slots.size ≤ (5 : Int32).toNatClampNeg) := inb_of S17 (⟨by decide, by decide⟩ : ¬ (5 : Int32) < 0 ∧ (5 : Int32) < (32 : Int32))
  obtain ⟨T18, h18, X18, e18, W18, st18⟩ := stI X15 hx hZ e15 Ar17 (j := (5 : Int32)) hin17 (g := (mkF m 35 #[.val (.int p1), .val (.int p2), .val (.int p3), .unset, .unset] [(.int (214 : Int32)), (.int (5 : Int32)), (.ref b1), (.ref b1)])) rfl rfl (hb hby at_35)
  have V18 : own_Arr Z h18 b1 .int (32 : Int32) (fun i => Value.int ((own_law0_g19 p1 p2 p3) i)) := own_Arr.set (w := Value.int) (g := (own_law0_g16 p1 p2 p3)) (x := (214 : Int32)) V15 W18 rfl (fun i => rfl)
  have N18 := Fr.snoc X18 N15 g_b1
  have K18 : Keep h0 h18 [] := Keep.wr K15 W18 (Or.inr sz_b1)
  have Z18 : n0 ≤ h18.size := Nat.le_trans Z15 (Nat.le_of_eq W18.size.symm)
  obtain ⟨cl20, Ar20, S20, Nn20, G20⟩ := id V18
  have hin20 : ¬ ((6 : Int32) < 0 ∨ cl20.slots.size ≤ (6 : Int32).toNatClampNeg) := inb_of S20 (⟨by decide, by decide⟩ : ¬ (6 : Int32) < 0 ∧ (6 : Int32) < (32 : Int32))
  obtain ⟨T21, h21, X21, e21, W21, st21⟩ := stI X18 hx hZ e18 Ar20 (j := (6 : Int32)) hin20 (g := (mkF m 42 #[.val (.int p1), .val (.int p2), .val (.int p3), .unset, .unset] [(.int (216 : Int32)), (.int (6 : Int32)), (.ref b1), (.ref b1)])) rfl rfl (hb hby at_42)
  have V21 : own_Arr Z h21 b1 .int (32 : Int32) (fun i => Value.int ((own_law0_g22 p1 p2 p3) i)) := own_Arr.set (w := Value.int) (g := (own_law0_g19 p1 p2 p3)) (x := (216 : Int32)) V18 W21 rfl (fun i => rfl)
  have N21 := Fr.snoc X21 N18 g_b1
  have K21 : Keep h0 h21 [] := Keep.wr K18 W21 (Or.inr sz_b1)
  have Z21 : n0 ≤ h21.size := Nat.le_trans Z18 (Nat.le_of_eq W21.size.symm)
  obtain ⟨cl23, Ar23, S23, Nn23, G23⟩ := id V21
  have hin23 : ¬ ((7 : Int32) < 0 ∨ cl23.slots.size ≤ (7 : Int32).toNatClampNeg) := inb_of S23 (⟨by decide, by decide⟩ : ¬ (7 : Int32) < 0 ∧ (7 : Int32) < (32 : Int32))
  obtain ⟨T24, h24, X24, e24, W24, st24⟩ := stI X21 hx hZ e21 Ar23 (j := (7 : Int32)) hin23 (g := (mkF m 49 #[.val (.int p1), .val (.int p2), .val (.int p3), .unset, .unset] [(.int (246 : Int32)), (.int (7 : Int32)), (.ref b1), (.ref b1)])) rfl rfl (hb hby at_49)
  have V24 : own_Arr Z h24 b1 .int (32 : Int32) (fun i => Value.int ((own_law0_g25 p1 p2 p3) i)) := own_Arr.set (w := Value.int) (g := (own_law0_g22 p1 p2 p3)) (x := (246 : Int32)) V21 W24 rfl (fun i => rfl)
  have N24 := Fr.snoc X24 N21 g_b1
  have K24 : Keep h0 h24 [] := Keep.wr K21 W24 (Or.inr sz_b1)
  have Z24 : n0 ≤ h24.size := Nat.le_trans Z21 (Nat.le_of_eq W24.size.symm)
  obtain ⟨cl26, Ar26, S26, Nn26, G26⟩ := id V24
  have hin26 : ¬ ((8 : Int32) < 0 ∨ cl26.slots.size ≤ (8 : Int32).toNatClampNeg) := inb_of S26 (⟨by decide, by decide⟩ : ¬ (8 : Int32) < 0 ∧ (8 : Int32) < (32 : Int32))
  obtain ⟨T27, h27, X27, e27, W27, st27⟩ := stI X24 hx hZ e24 Ar26 (j := (8 : Int32)) hin26 (g := (mkF m 56 #[.val (.int p1), .val (.int p2), .val (.int p3), .unset, .unset] [(.int (248 : Int32)), (.int (8 : Int32)), (.ref b1), (.ref b1)])) rfl rfl (hb hby at_56)
  have V27 : own_Arr Z h27 b1 .int (32 : Int32) (fun i => Value.int ((own_law0_g28 p1 p2 p3) i)) := own_Arr.set (w := Value.int) (g := (own_law0_g25 p1 p2 p3)) (x := (248 : Int32)) V24 W27 rfl (fun i => rfl)
  have N27 := Fr.snoc X27 N24 g_b1
  have K27 : Keep h0 h27 [] := Keep.wr K24 W27 (Or.inr sz_b1)
  have Z27 : n0 ≤ h27.size := Nat.le_trans Z24 (Nat.le_of_eq W27.size.symm)
  obtain ⟨cl29, Ar29, S29, Nn29, G29⟩ := id V27
  have hin29 : ¬ ((9 : Int32) < 0 ∨ cl29.slots.size ≤ (9 : Int32).toNatClampNeg) := inb_of S29 (⟨by decide, by decide⟩ : ¬ (9 : Int32) < 0 ∧ (9 : Int32) < (32 : Int32))
  obtain ⟨T30, h30, X30, e30, W30, st30⟩ := stI X27 hx hZ e27 Ar29 (j := (9 : Int32)) hin29 (g := (mkF m 63 #[.val (.int p1), .val (.int p2), .val (.int p3), .unset, .unset] [(.int (767 : Int32)), (.int (9 : Int32)), (.ref b1), (.ref b1)])) rfl rfl (hb hby at_63)
  have V30 : own_Arr Z h30 b1 .int (32 : Int32) (fun i => Value.int ((own_law0_g31 p1 p2 p3) i)) := own_Arr.set (w := Value.int) (g := (own_law0_g28 p1 p2 p3)) (x := (767 : Int32)) V27 W30 rfl (fun i => rfl)
  have N30 := Fr.snoc X30 N27 g_b1
  have K30 : Keep h0 h30 [] := Keep.wr K27 W30 (Or.inr sz_b1)
  have Z30 : n0 ≤ h30.size := Nat.le_trans Z27 (Nat.le_of_eq W30.size.symm)
  obtain ⟨cl32, Ar32, S32, Nn32, G32⟩ := id V30
  have hin32 : ¬ ((10 : Int32) < 0 ∨ cl32.slots.size ≤ (10 : Int32).toNatClampNeg) := inb_of S32 (⟨by decide, by decide⟩ : ¬ (10 : Int32) < 0 ∧ (10 : Int32) < (32 : Int32))
  obtain ⟨T33, h33, X33, e33, W33, st33⟩ := stI X30 hx hZ e30 Ar32 (j := (10 : Int32)) hin32 (g := (mkF m 70 #[.val (.int p1), .val (.int p2), .val (.int p3), .unset, .unset] [(.int (880 : Int32)), (.int (10 : Int32)), (.ref b1), (.ref b1)])) rfl rfl (hb hby at_70)
  have V33 : own_Arr Z h33 b1 .int (32 : Int32) (fun i => Value.int ((own_law0_g34 p1 p2 p3) i)) := own_Arr.set (w := Value.int) (g := (own_law0_g31 p1 p2 p3)) (x := (880 : Int32)) V30 W33 rfl (fun i => rfl)
  have N33 := Fr.snoc X33 N30 g_b1
  have K33 : Keep h0 h33 [] := Keep.wr K30 W33 (Or.inr sz_b1)
  have Z33 : n0 ≤ h33.size := Nat.le_trans Z30 (Nat.le_of_eq W33.size.symm)
  obtain ⟨cl35, Ar35, S35, Nn35, G35⟩ := id V33
  have hin35 : ¬ ((11 : Int32) < 0 ∨ cl35.slots.size ≤ (11 : Int32).toNatClampNeg) := inb_of S35 (⟨by decide, by decide⟩ : ¬ (11 : Int32) < 0 ∧ (11 : Int32) < (32 : Int32))
  obtain ⟨T36, h36, X36, e36, W36, st36⟩ := stI X33 hx hZ e33 Ar35 (j := (11 : Int32)) hin35 (g := (mkF m 77 #[.val (.int p1), .val (.int p2), .val (.int p3), .unset, .unset] [(.int (893 : Int32)), (.int (11 : Int32)), (.ref b1), (.ref b1)])) rfl rfl (hb hby at_77)
  have V36 : own_Arr Z h36 b1 .int (32 : Int32) (fun i => Value.int ((own_law0_g37 p1 p2 p3) i)) := own_Arr.set (w := Value.int) (g := (own_law0_g34 p1 p2 p3)) (x := (893 : Int32)) V33 W36 rfl (fun i => rfl)
  have N36 := Fr.snoc X36 N33 g_b1
  have K36 : Keep h0 h36 [] := Keep.wr K33 W36 (Or.inr sz_b1)
  have Z36 : n0 ≤ h36.size := Nat.le_trans Z33 (Nat.le_of_eq W36.size.symm)
  obtain ⟨cl38, Ar38, S38, Nn38, G38⟩ := id V36
  have hin38 : ¬ ((12 : Int32) < 0 ∨ cl38.slots.size ≤ (12 : Int32).toNatClampNeg) := inb_of S38 (⟨by decide, by decide⟩ : ¬ (12 : Int32) < 0 ∧ (12 : Int32) < (32 : Int32))
  obtain ⟨T39, h39, X39, e39, W39, st39⟩ := stI X36 hx hZ e36 Ar38 (j := (12 : Int32)) hin38 (g := (mkF m 84 #[.val (.int p1), .val (.int p2), .val (.int p3), .unset, .unset] [(.int (895 : Int32)), (.int (12 : Int32)), (.ref b1), (.ref b1)])) rfl rfl (hb hby at_84)
  have V39 : own_Arr Z h39 b1 .int (32 : Int32) (fun i => Value.int ((own_law0_g40 p1 p2 p3) i)) := own_Arr.set (w := Value.int) (g := (own_law0_g37 p1 p2 p3)) (x := (895 : Int32)) V36 W39 rfl (fun i => rfl)
  have N39 := Fr.snoc X39 N36 g_b1
  have K39 : Keep h0 h39 [] := Keep.wr K36 W39 (Or.inr sz_b1)
  have Z39 : n0 ≤ h39.size := Nat.le_trans Z36 (Nat.le_of_eq W39.size.symm)
  obtain ⟨cl41, Ar41, S41, Nn41, G41⟩ := id V39
  have hin41 : ¬ ((13 : Int32) < 0 ∨ cl41.slots.size ≤ (13 : Int32).toNatClampNeg) := inb_of S41 (⟨by decide, by decide⟩ : ¬ (13 : Int32) < 0 ∧ (13 : Int32) < (32 : Int32))
  obtain ⟨T42, h42, X42, e42, W42, st42⟩ := stI X39 hx hZ e39 Ar41 (j := (13 : Int32)) hin41 (g := (mkF m 91 #[.val (.int p1), .val (.int p2), .val (.int p3), .unset, .unset] [(.int (8191 : Int32)), (.int (13 : Int32)), (.ref b1), (.ref b1)])) rfl rfl (hb hby at_91)
  have V42 : own_Arr Z h42 b1 .int (32 : Int32) (fun i => Value.int ((own_law0_g43 p1 p2 p3) i)) := own_Arr.set (w := Value.int) (g := (own_law0_g40 p1 p2 p3)) (x := (8191 : Int32)) V39 W42 rfl (fun i => rfl)
  have N42 := Fr.snoc X42 N39 g_b1
  have K42 : Keep h0 h42 [] := Keep.wr K39 W42 (Or.inr sz_b1)
  have Z42 : n0 ≤ h42.size := Nat.le_trans Z39 (Nat.le_of_eq W42.size.symm)
  obtain ⟨cl44, Ar44, S44, Nn44, G44⟩ := id V42
  have hin44 : ¬ ((14 : Int32) < 0 ∨ cl44.slots.size ≤ (14 : Int32).toNatClampNeg) := inb_of S44 (⟨by decide, by decide⟩ : ¬ (14 : Int32) < 0 ∧ (14 : Int32) < (32 : Int32))
  obtain ⟨T45, h45, X45, e45, W45, st45⟩ := stI X42 hx hZ e42 Ar44 (j := (14 : Int32)) hin44 (g := (mkF m 98 #[.val (.int p1), .val (.int p2), .val (.int p3), .unset, .unset] [(.int (8204 : Int32)), (.int (14 : Int32)), (.ref b1), (.ref b1)])) rfl rfl (hb hby at_98)
  have V45 : own_Arr Z h45 b1 .int (32 : Int32) (fun i => Value.int ((own_law0_g46 p1 p2 p3) i)) := own_Arr.set (w := Value.int) (g := (own_law0_g43 p1 p2 p3)) (x := (8204 : Int32)) V42 W45 rfl (fun i => rfl)
  have N45 := Fr.snoc X45 N42 g_b1
  have K45 : Keep h0 h45 [] := Keep.wr K42 W45 (Or.inr sz_b1)
  have Z45 : n0 ≤ h45.size := Nat.le_trans Z42 (Nat.le_of_eq W45.size.symm)
  obtain ⟨cl47, Ar47, S47, Nn47, G47⟩ := id V45
  have hin47 : ¬ ((15 : Int32) < 0 ∨ cl47.slots.size ≤ (15 : Int32).toNatClampNeg) := inb_of S47 (⟨by decide, by decide⟩ : ¬ (15 : Int32) < 0 ∧ (15 : Int32) < (32 : Int32))
  obtain ⟨T48, h48, X48, e48, W48, st48⟩ := stI X45 hx hZ e45 Ar47 (j := (15 : Int32)) hin47 (g := (mkF m 105 #[.val (.int p1), .val (.int p2), .val (.int p3), .unset, .unset] [(.int (8205 : Int32)), (.int (15 : Int32)), (.ref b1), (.ref b1)])) rfl rfl (hb hby at_105)
  have V48 : own_Arr Z h48 b1 .int (32 : Int32) (fun i => Value.int ((own_law0_g49 p1 p2 p3) i)) := own_Arr.set (w := Value.int) (g := (own_law0_g46 p1 p2 p3)) (x := (8205 : Int32)) V45 W48 rfl (fun i => rfl)
  have N48 := Fr.snoc X48 N45 g_b1
  have K48 : Keep h0 h48 [] := Keep.wr K45 W48 (Or.inr sz_b1)
  have Z48 : n0 ≤ h48.size := Nat.le_trans Z45 (Nat.le_of_eq W48.size.symm)
  obtain ⟨cl50, Ar50, S50, Nn50, G50⟩ := id V48
  have hin50 : ¬ ((16 : Int32) < 0 ∨ cl50.slots.size ≤ (16 : Int32).toNatClampNeg) := inb_of S50 (⟨by decide, by decide⟩ : ¬ (16 : Int32) < 0 ∧ (16 : Int32) < (32 : Int32))
  obtain ⟨T51, h51, X51, e51, W51, st51⟩ := stI X48 hx hZ e48 Ar50 (j := (16 : Int32)) hin50 (g := (mkF m 112 #[.val (.int p1), .val (.int p2), .val (.int p3), .unset, .unset] [(.int (8304 : Int32)), (.int (16 : Int32)), (.ref b1), (.ref b1)])) rfl rfl (hb hby at_112)
  have V51 : own_Arr Z h51 b1 .int (32 : Int32) (fun i => Value.int ((own_law0_g52 p1 p2 p3) i)) := own_Arr.set (w := Value.int) (g := (own_law0_g49 p1 p2 p3)) (x := (8304 : Int32)) V48 W51 rfl (fun i => rfl)
  have N51 := Fr.snoc X51 N48 g_b1
  have K51 : Keep h0 h51 [] := Keep.wr K48 W51 (Or.inr sz_b1)
  have Z51 : n0 ≤ h51.size := Nat.le_trans Z48 (Nat.le_of_eq W51.size.symm)
  obtain ⟨cl53, Ar53, S53, Nn53, G53⟩ := id V51
  have hin53 : ¬ ((17 : Int32) < 0 ∨ cl53.slots.size ≤ (17 : Int32).toNatClampNeg) := inb_of S53 (⟨by decide, by decide⟩ : ¬ (17 : Int32) < 0 ∧ (17 : Int32) < (32 : Int32))
  obtain ⟨T54, h54, X54, e54, W54, st54⟩ := stI X51 hx hZ e51 Ar53 (j := (17 : Int32)) hin53 (g := (mkF m 119 #[.val (.int p1), .val (.int p2), .val (.int p3), .unset, .unset] [(.int (8591 : Int32)), (.int (17 : Int32)), (.ref b1), (.ref b1)])) rfl rfl (hb hby at_119)
  have V54 : own_Arr Z h54 b1 .int (32 : Int32) (fun i => Value.int ((own_law0_g55 p1 p2 p3) i)) := own_Arr.set (w := Value.int) (g := (own_law0_g52 p1 p2 p3)) (x := (8591 : Int32)) V51 W54 rfl (fun i => rfl)
  have N54 := Fr.snoc X54 N51 g_b1
  have K54 : Keep h0 h54 [] := Keep.wr K51 W54 (Or.inr sz_b1)
  have Z54 : n0 ≤ h54.size := Nat.le_trans Z51 (Nat.le_of_eq W54.size.symm)
  obtain ⟨cl56, Ar56, S56, Nn56, G56⟩ := id V54
  have hin56 : ¬ ((18 : Int32) < 0 ∨ cl56.slots.size ≤ (18 : Int32).toNatClampNeg) := inb_of S56 (⟨by decide, by decide⟩ : ¬ (18 : Int32) < 0 ∧ (18 : Int32) < (32 : Int32))
  obtain ⟨T57, h57, X57, e57, W57, st57⟩ := stI X54 hx hZ e54 Ar56 (j := (18 : Int32)) hin56 (g := (mkF m 126 #[.val (.int p1), .val (.int p2), .val (.int p3), .unset, .unset] [(.int (11264 : Int32)), (.int (18 : Int32)), (.ref b1), (.ref b1)])) rfl rfl (hb hby at_126)
  have V57 : own_Arr Z h57 b1 .int (32 : Int32) (fun i => Value.int ((own_law0_g58 p1 p2 p3) i)) := own_Arr.set (w := Value.int) (g := (own_law0_g55 p1 p2 p3)) (x := (11264 : Int32)) V54 W57 rfl (fun i => rfl)
  have N57 := Fr.snoc X57 N54 g_b1
  have K57 : Keep h0 h57 [] := Keep.wr K54 W57 (Or.inr sz_b1)
  have Z57 : n0 ≤ h57.size := Nat.le_trans Z54 (Nat.le_of_eq W57.size.symm)
  obtain ⟨cl59, Ar59, S59, Nn59, G59⟩ := id V57
  have hin59 : ¬ ((19 : Int32) < 0 ∨ cl59.slots.size ≤ (19 : Int32).toNatClampNeg) := inb_of S59 (⟨by decide, by decide⟩ : ¬ (19 : Int32) < 0 ∧ (19 : Int32) < (32 : Int32))
  obtain ⟨T60, h60, X60, e60, W60, st60⟩ := stI X57 hx hZ e57 Ar59 (j := (19 : Int32)) hin59 (g := (mkF m 133 #[.val (.int p1), .val (.int p2), .val (.int p3), .unset, .unset] [(.int (12271 : Int32)), (.int (19 : Int32)), (.ref b1), (.ref b1)])) rfl rfl (hb hby at_133)
  have V60 : own_Arr Z h60 b1 .int (32 : Int32) (fun i => Value.int ((own_law0_g61 p1 p2 p3) i)) := own_Arr.set (w := Value.int) (g := (own_law0_g58 p1 p2 p3)) (x := (12271 : Int32)) V57 W60 rfl (fun i => rfl)
  have N60 := Fr.snoc X60 N57 g_b1
  have K60 : Keep h0 h60 [] := Keep.wr K57 W60 (Or.inr sz_b1)
  have Z60 : n0 ≤ h60.size := Nat.le_trans Z57 (Nat.le_of_eq W60.size.symm)
  obtain ⟨cl62, Ar62, S62, Nn62, G62⟩ := id V60
  have hin62 : ¬ ((20 : Int32) < 0 ∨ cl62.slots.size ≤ (20 : Int32).toNatClampNeg) := inb_of S62 (⟨by decide, by decide⟩ : ¬ (20 : Int32) < 0 ∧ (20 : Int32) < (32 : Int32))
  obtain ⟨T63, h63, X63, e63, W63, st63⟩ := stI X60 hx hZ e60 Ar62 (j := (20 : Int32)) hin62 (g := (mkF m 140 #[.val (.int p1), .val (.int p2), .val (.int p3), .unset, .unset] [(.int (12289 : Int32)), (.int (20 : Int32)), (.ref b1), (.ref b1)])) rfl rfl (hb hby at_140)
  have V63 : own_Arr Z h63 b1 .int (32 : Int32) (fun i => Value.int ((own_law0_g64 p1 p2 p3) i)) := own_Arr.set (w := Value.int) (g := (own_law0_g61 p1 p2 p3)) (x := (12289 : Int32)) V60 W63 rfl (fun i => rfl)
  have N63 := Fr.snoc X63 N60 g_b1
  have K63 : Keep h0 h63 [] := Keep.wr K60 W63 (Or.inr sz_b1)
  have Z63 : n0 ≤ h63.size := Nat.le_trans Z60 (Nat.le_of_eq W63.size.symm)
  obtain ⟨cl65, Ar65, S65, Nn65, G65⟩ := id V63
  have hin65 : ¬ ((21 : Int32) < 0 ∨ cl65.slots.size ≤ (21 : Int32).toNatClampNeg) := inb_of S65 (⟨by decide, by decide⟩ : ¬ (21 : Int32) < 0 ∧ (21 : Int32) < (32 : Int32))
  obtain ⟨T66, h66, X66, e66, W66, st66⟩ := stI X63 hx hZ e63 Ar65 (j := (21 : Int32)) hin65 (g := (mkF m 146 #[.val (.int p1), .val (.int p2), .val (.int p3), .unset, .unset] [(.int (55295 : Int32)), (.int (21 : Int32)), (.ref b1), (.ref b1)])) rfl rfl (hb hby at_146)
  have V66 : own_Arr Z h66 b1 .int (32 : Int32) (fun i => Value.int ((own_law0_g67 p1 p2 p3) i)) := own_Arr.set (w := Value.int) (g := (own_law0_g64 p1 p2 p3)) (x := (55295 : Int32)) V63 W66 rfl (fun i => rfl)
  have N66 := Fr.snoc X66 N63 g_b1
  have K66 : Keep h0 h66 [] := Keep.wr K63 W66 (Or.inr sz_b1)
  have Z66 : n0 ≤ h66.size := Nat.le_trans Z63 (Nat.le_of_eq W66.size.symm)
  obtain ⟨cl68, Ar68, S68, Nn68, G68⟩ := id V66
  have hin68 : ¬ ((22 : Int32) < 0 ∨ cl68.slots.size ≤ (22 : Int32).toNatClampNeg) := inb_of S68 (⟨by decide, by decide⟩ : ¬ (22 : Int32) < 0 ∧ (22 : Int32) < (32 : Int32))
  obtain ⟨T69, h69, X69, e69, W69, st69⟩ := stI X66 hx hZ e66 Ar68 (j := (22 : Int32)) hin68 (g := (mkF m 152 #[.val (.int p1), .val (.int p2), .val (.int p3), .unset, .unset] [(.int (63744 : Int32)), (.int (22 : Int32)), (.ref b1), (.ref b1)])) rfl rfl (hb hby at_152)
  have V69 : own_Arr Z h69 b1 .int (32 : Int32) (fun i => Value.int ((own_law0_g70 p1 p2 p3) i)) := own_Arr.set (w := Value.int) (g := (own_law0_g67 p1 p2 p3)) (x := (63744 : Int32)) V66 W69 rfl (fun i => rfl)
  have N69 := Fr.snoc X69 N66 g_b1
  have K69 : Keep h0 h69 [] := Keep.wr K66 W69 (Or.inr sz_b1)
  have Z69 : n0 ≤ h69.size := Nat.le_trans Z66 (Nat.le_of_eq W69.size.symm)
  obtain ⟨cl71, Ar71, S71, Nn71, G71⟩ := id V69
  have hin71 : ¬ ((23 : Int32) < 0 ∨ cl71.slots.size ≤ (23 : Int32).toNatClampNeg) := inb_of S71 (⟨by decide, by decide⟩ : ¬ (23 : Int32) < 0 ∧ (23 : Int32) < (32 : Int32))
  obtain ⟨T72, h72, X72, e72, W72, st72⟩ := stI X69 hx hZ e69 Ar71 (j := (23 : Int32)) hin71 (g := (mkF m 158 #[.val (.int p1), .val (.int p2), .val (.int p3), .unset, .unset] [(.int (64975 : Int32)), (.int (23 : Int32)), (.ref b1), (.ref b1)])) rfl rfl (hb hby at_158)
  have V72 : own_Arr Z h72 b1 .int (32 : Int32) (fun i => Value.int ((own_law0_g73 p1 p2 p3) i)) := own_Arr.set (w := Value.int) (g := (own_law0_g70 p1 p2 p3)) (x := (64975 : Int32)) V69 W72 rfl (fun i => rfl)
  have N72 := Fr.snoc X72 N69 g_b1
  have K72 : Keep h0 h72 [] := Keep.wr K69 W72 (Or.inr sz_b1)
  have Z72 : n0 ≤ h72.size := Nat.le_trans Z69 (Nat.le_of_eq W72.size.symm)
  obtain ⟨cl74, Ar74, S74, Nn74, G74⟩ := id V72
  have hin74 : ¬ ((24 : Int32) < 0 ∨ cl74.slots.size ≤ (24 : Int32).toNatClampNeg) := inb_of S74 (⟨by decide, by decide⟩ : ¬ (24 : Int32) < 0 ∧ (24 : Int32) < (32 : Int32))
  obtain ⟨T75, h75, X75, e75, W75, st75⟩ := stI X72 hx hZ e72 Ar74 (j := (24 : Int32)) hin74 (g := (mkF m 164 #[.val (.int p1), .val (.int p2), .val (.int p3), .unset, .unset] [(.int (65008 : Int32)), (.int (24 : Int32)), (.ref b1), (.ref b1)])) rfl rfl (hb hby at_164)
  have V75 : own_Arr Z h75 b1 .int (32 : Int32) (fun i => Value.int ((own_law0_g76 p1 p2 p3) i)) := own_Arr.set (w := Value.int) (g := (own_law0_g73 p1 p2 p3)) (x := (65008 : Int32)) V72 W75 rfl (fun i => rfl)
  have N75 := Fr.snoc X75 N72 g_b1
  have K75 : Keep h0 h75 [] := Keep.wr K72 W75 (Or.inr sz_b1)
  have Z75 : n0 ≤ h75.size := Nat.le_trans Z72 (Nat.le_of_eq W75.size.symm)
  obtain ⟨cl77, Ar77, S77, Nn77, G77⟩ := id V75
  have hin77 : ¬ ((25 : Int32) < 0 ∨ cl77.slots.size ≤ (25 : Int32).toNatClampNeg) := inb_of S77 (⟨by decide, by decide⟩ : ¬ (25 : Int32) < 0 ∧ (25 : Int32) < (32 : Int32))
  obtain ⟨T78, h78, X78, e78, W78, st78⟩ := stI X75 hx hZ e75 Ar77 (j := (25 : Int32)) hin77 (g := (mkF m 170 #[.val (.int p1), .val (.int p2), .val (.int p3), .unset, .unset] [(.int (65533 : Int32)), (.int (25 : Int32)), (.ref b1), (.ref b1)])) rfl rfl (hb hby at_170)
  have V78 : own_Arr Z h78 b1 .int (32 : Int32) (fun i => Value.int ((own_law0_g79 p1 p2 p3) i)) := own_Arr.set (w := Value.int) (g := (own_law0_g76 p1 p2 p3)) (x := (65533 : Int32)) V75 W78 rfl (fun i => rfl)
  have N78 := Fr.snoc X78 N75 g_b1
  have K78 : Keep h0 h78 [] := Keep.wr K75 W78 (Or.inr sz_b1)
  have Z78 : n0 ≤ h78.size := Nat.le_trans Z75 (Nat.le_of_eq W78.size.symm)
  obtain ⟨cl80, Ar80, S80, Nn80, G80⟩ := id V78
  have hin80 : ¬ ((26 : Int32) < 0 ∨ cl80.slots.size ≤ (26 : Int32).toNatClampNeg) := inb_of S80 (⟨by decide, by decide⟩ : ¬ (26 : Int32) < 0 ∧ (26 : Int32) < (32 : Int32))
  obtain ⟨T81, h81, X81, e81, W81, st81⟩ := stI X78 hx hZ e78 Ar80 (j := (26 : Int32)) hin80 (g := (mkF m 176 #[.val (.int p1), .val (.int p2), .val (.int p3), .unset, .unset] [(.int (65536 : Int32)), (.int (26 : Int32)), (.ref b1), (.ref b1)])) rfl rfl (hb hby at_176)
  have V81 : own_Arr Z h81 b1 .int (32 : Int32) (fun i => Value.int ((own_law0_g82 p1 p2 p3) i)) := own_Arr.set (w := Value.int) (g := (own_law0_g79 p1 p2 p3)) (x := (65536 : Int32)) V78 W81 rfl (fun i => rfl)
  have N81 := Fr.snoc X81 N78 g_b1
  have K81 : Keep h0 h81 [] := Keep.wr K78 W81 (Or.inr sz_b1)
  have Z81 : n0 ≤ h81.size := Nat.le_trans Z78 (Nat.le_of_eq W81.size.symm)
  obtain ⟨cl83, Ar83, S83, Nn83, G83⟩ := id V81
  have hin83 : ¬ ((27 : Int32) < 0 ∨ cl83.slots.size ≤ (27 : Int32).toNatClampNeg) := inb_of S83 (⟨by decide, by decide⟩ : ¬ (27 : Int32) < 0 ∧ (27 : Int32) < (32 : Int32))
  obtain ⟨T84, h84, X84, e84, W84, st84⟩ := stI X81 hx hZ e81 Ar83 (j := (27 : Int32)) hin83 (g := (mkF m 182 #[.val (.int p1), .val (.int p2), .val (.int p3), .unset, .unset] [(.int (983039 : Int32)), (.int (27 : Int32)), (.ref b1), (.ref b1)])) rfl rfl (hb hby at_182)
  have V84 : own_Arr Z h84 b1 .int (32 : Int32) (fun i => Value.int ((own_law0_g85 p1 p2 p3) i)) := own_Arr.set (w := Value.int) (g := (own_law0_g82 p1 p2 p3)) (x := (983039 : Int32)) V81 W84 rfl (fun i => rfl)
  have N84 := Fr.snoc X84 N81 g_b1
  have K84 : Keep h0 h84 [] := Keep.wr K81 W84 (Or.inr sz_b1)
  have Z84 : n0 ≤ h84.size := Nat.le_trans Z81 (Nat.le_of_eq W84.size.symm)
  obtain ⟨cl86, Ar86, S86, Nn86, G86⟩ := id V84
  have hin86 : ¬ ((28 : Int32) < 0 ∨ cl86.slots.size ≤ (28 : Int32).toNatClampNeg) := inb_of S86 (⟨by decide, by decide⟩ : ¬ (28 : Int32) < 0 ∧ (28 : Int32) < (32 : Int32))
  obtain ⟨T87, h87, X87, e87, W87, st87⟩ := stI X84 hx hZ e84 Ar86 (j := (28 : Int32)) hin86 (g := (mkF m 187 #[.val (.int p1), .val (.int p2), .val (.int p3), .unset, .unset] [(.int (0 : Int32)), (.int (28 : Int32)), (.ref b1), (.ref b1)])) rfl rfl (hb hby at_187)
  have V87 : own_Arr Z h87 b1 .int (32 : Int32) (fun i => Value.int ((own_law0_g88 p1 p2 p3) i)) := own_Arr.set (w := Value.int) (g := (own_law0_g85 p1 p2 p3)) (x := (0 : Int32)) V84 W87 rfl (fun i => rfl)
  have N87 := Fr.snoc X87 N84 g_b1
  have K87 : Keep h0 h87 [] := Keep.wr K84 W87 (Or.inr sz_b1)
  have Z87 : n0 ≤ h87.size := Nat.le_trans Z84 (Nat.le_of_eq W87.size.symm)
  obtain ⟨cl89, Ar89, S89, Nn89, G89⟩ := id V87
  have hin89 : ¬ ((29 : Int32) < 0 ∨ cl89.slots.size ≤ (29 : Int32).toNatClampNeg) := inb_of S89 (⟨by decide, by decide⟩ : ¬ (29 : Int32) < 0 ∧ (29 : Int32) < (32 : Int32))
  obtain ⟨T90, h90, X90, e90, W90, st90⟩ := stI X87 hx hZ e87 Ar89 (j := (29 : Int32)) hin89 (g := (mkF m 193 #[.val (.int p1), .val (.int p2), .val (.int p3), .unset, .unset] [(.int (2147483647 : Int32)), (.int (29 : Int32)), (.ref b1), (.ref b1)])) rfl rfl (hb hby at_193)
  have V90 : own_Arr Z h90 b1 .int (32 : Int32) (fun i => Value.int ((own_law0_g91 p1 p2 p3) i)) := own_Arr.set (w := Value.int) (g := (own_law0_g88 p1 p2 p3)) (x := (2147483647 : Int32)) V87 W90 rfl (fun i => rfl)
  have N90 := Fr.snoc X90 N87 g_b1
  have K90 : Keep h0 h90 [] := Keep.wr K87 W90 (Or.inr sz_b1)
  have Z90 : n0 ≤ h90.size := Nat.le_trans Z87 (Nat.le_of_eq W90.size.symm)
  obtain ⟨cl92, Ar92, S92, Nn92, G92⟩ := id V90
  have hin92 : ¬ ((30 : Int32) < 0 ∨ cl92.slots.size ≤ (30 : Int32).toNatClampNeg) := inb_of S92 (⟨by decide, by decide⟩ : ¬ (30 : Int32) < 0 ∧ (30 : Int32) < (32 : Int32))
  obtain ⟨T93, h93, X93, e93, W93, st93⟩ := stI X90 hx hZ e90 Ar92 (j := (30 : Int32)) hin92 (g := (mkF m 199 #[.val (.int p1), .val (.int p2), .val (.int p3), .unset, .unset] [(.int (-2147483648 : Int32)), (.int (30 : Int32)), (.ref b1), (.ref b1)])) rfl rfl (hb hby at_199)
  have V93 : own_Arr Z h93 b1 .int (32 : Int32) (fun i => Value.int ((own_law0_g94 p1 p2 p3) i)) := own_Arr.set (w := Value.int) (g := (own_law0_g91 p1 p2 p3)) (x := (-2147483648 : Int32)) V90 W93 rfl (fun i => rfl)
  have N93 := Fr.snoc X93 N90 g_b1
  have K93 : Keep h0 h93 [] := Keep.wr K90 W93 (Or.inr sz_b1)
  have Z93 : n0 ≤ h93.size := Nat.le_trans Z90 (Nat.le_of_eq W93.size.symm)
  obtain ⟨cl95, Ar95, S95, Nn95, G95⟩ := id V93
  have hin95 : ¬ ((31 : Int32) < 0 ∨ cl95.slots.size ≤ (31 : Int32).toNatClampNeg) := inb_of S95 (⟨by decide, by decide⟩ : ¬ (31 : Int32) < 0 ∧ (31 : Int32) < (32 : Int32))
  obtain ⟨T96, h96, X96, e96, W96, st96⟩ := stI X93 hx hZ e93 Ar95 (j := (31 : Int32)) hin95 (g := (mkF m 205 #[.val (.int p1), .val (.int p2), .val (.int p3), .unset, .unset] [(.int (95 : Int32)), (.int (31 : Int32)), (.ref b1), (.ref b1)])) rfl rfl (hb hby at_205)
  have V96 : own_Arr Z h96 b1 .int (32 : Int32) (fun i => Value.int ((own_law0_g97 p1 p2 p3) i)) := own_Arr.set (w := Value.int) (g := (own_law0_g94 p1 p2 p3)) (x := (95 : Int32)) V93 W96 rfl (fun i => rfl)
  have N96 := Fr.snoc X96 N93 g_b1
  have K96 : Keep h0 h96 [] := Keep.wr K93 W96 (Or.inr sz_b1)
  have Z96 : n0 ≤ h96.size := Nat.le_trans Z93 (Nat.le_of_eq W96.size.symm)
  obtain ⟨cl98, Ar98, S98, Nn98, G98⟩ := id V96
  obtain ⟨cl99, Ar99, S99, Nn99, G99⟩ := id V96
  have hin99 : ¬ (((p2 &&& (2147483647 : Int32)) % (32 : Int32)) < 0 ∨ cl99.slots.size ≤ ((p2 &&& (2147483647 : Int32)) % (32 : Int32)).toNatClampNeg) := inb_of S99 (own_ix p2 : ¬ ((p2 &&& (2147483647 : Int32)) % (32 : Int32)) < 0 ∧ ((p2 &&& (2147483647 : Int32)) % (32 : Int32)) < (32 : Int32))
  have hat99 : cl99.slots[((p2 &&& (2147483647 : Int32)) % (32 : Int32)).toNatClampNeg]? = some (.int ((own_law0_g97 p1 p2 p3) ((p2 &&& (2147483647 : Int32)) % (32 : Int32)).toNatClampNeg)) := own_at S99 G99 hin99
  refine own_pre (A := T96.setTop (mkF m 227 #[.val (.int p1), .val (.int p2), .val (.int p3), .val (.ref b1), .val (.int ((((own_law0_g97 p1 p2 p3) ((p2 &&& (2147483647 : Int32)) % (32 : Int32)).toNatClampNeg) + ((p3 &&& (2147483647 : Int32)) % (3 : Int32))) - (1 : Int32)))] [])) (fun tt kt => ?_) ?_
  · show Steps p.tables e below (s₁.setTop (mkF m 0 #[.val (.int p1), .val (.int p2), .val (.int p3), .unset, .unset] [])) _
    refine XS.bipush X0.here hx rfl (hb hby at_0) ?_
    show Steps p.tables e below (s₁.setTop (mkF m 2 #[.val (.int p1), .val (.int p2), .val (.int p3), .unset, .unset] [(.int (32 : Int32))])) _
    refine st1 _ ?_
    show Steps p.tables e below (T1.setTop (mkF m 4 #[.val (.int p1), .val (.int p2), .val (.int p3), .unset, .unset] [(.ref b1)])) _
    refine XS.dup X1.here hx rfl (hb hby at_4) rfl rfl ?_
    show Steps p.tables e below (T1.setTop (mkF m 5 #[.val (.int p1), .val (.int p2), .val (.int p3), .unset, .unset] [(.ref b1), (.ref b1)])) _
    refine XS.iconst X1.here hx rfl (hb hby at_5) ?_
    show Steps p.tables e below (T1.setTop (mkF m 6 #[.val (.int p1), .val (.int p2), .val (.int p3), .unset, .unset] [(.int (0 : Int32)), (.ref b1), (.ref b1)])) _
    refine XS.bipush X1.here hx rfl (hb hby at_6) ?_
    show Steps p.tables e below (T1.setTop (mkF m 8 #[.val (.int p1), .val (.int p2), .val (.int p3), .unset, .unset] [(.int (65 : Int32)), (.int (0 : Int32)), (.ref b1), (.ref b1)])) _
    refine st3 _ ?_
    show Steps p.tables e below (T3.setTop (mkF m 9 #[.val (.int p1), .val (.int p2), .val (.int p3), .unset, .unset] [(.ref b1)])) _
    refine XS.dup X3.here hx rfl (hb hby at_9) rfl rfl ?_
    show Steps p.tables e below (T3.setTop (mkF m 10 #[.val (.int p1), .val (.int p2), .val (.int p3), .unset, .unset] [(.ref b1), (.ref b1)])) _
    refine XS.iconst X3.here hx rfl (hb hby at_10) ?_
    show Steps p.tables e below (T3.setTop (mkF m 11 #[.val (.int p1), .val (.int p2), .val (.int p3), .unset, .unset] [(.int (1 : Int32)), (.ref b1), (.ref b1)])) _
    refine XS.bipush X3.here hx rfl (hb hby at_11) ?_
    show Steps p.tables e below (T3.setTop (mkF m 13 #[.val (.int p1), .val (.int p2), .val (.int p3), .unset, .unset] [(.int (90 : Int32)), (.int (1 : Int32)), (.ref b1), (.ref b1)])) _
    refine st6 _ ?_
    show Steps p.tables e below (T6.setTop (mkF m 14 #[.val (.int p1), .val (.int p2), .val (.int p3), .unset, .unset] [(.ref b1)])) _
    refine XS.dup X6.here hx rfl (hb hby at_14) rfl rfl ?_
    show Steps p.tables e below (T6.setTop (mkF m 15 #[.val (.int p1), .val (.int p2), .val (.int p3), .unset, .unset] [(.ref b1), (.ref b1)])) _
    refine XS.iconst X6.here hx rfl (hb hby at_15) ?_
    show Steps p.tables e below (T6.setTop (mkF m 16 #[.val (.int p1), .val (.int p2), .val (.int p3), .unset, .unset] [(.int (2 : Int32)), (.ref b1), (.ref b1)])) _
    refine XS.bipush X6.here hx rfl (hb hby at_16) ?_
    show Steps p.tables e below (T6.setTop (mkF m 18 #[.val (.int p1), .val (.int p2), .val (.int p3), .unset, .unset] [(.int (97 : Int32)), (.int (2 : Int32)), (.ref b1), (.ref b1)])) _
    refine st9 _ ?_
    show Steps p.tables e below (T9.setTop (mkF m 19 #[.val (.int p1), .val (.int p2), .val (.int p3), .unset, .unset] [(.ref b1)])) _
    refine XS.dup X9.here hx rfl (hb hby at_19) rfl rfl ?_
    show Steps p.tables e below (T9.setTop (mkF m 20 #[.val (.int p1), .val (.int p2), .val (.int p3), .unset, .unset] [(.ref b1), (.ref b1)])) _
    refine XS.iconst X9.here hx rfl (hb hby at_20) ?_
    show Steps p.tables e below (T9.setTop (mkF m 21 #[.val (.int p1), .val (.int p2), .val (.int p3), .unset, .unset] [(.int (3 : Int32)), (.ref b1), (.ref b1)])) _
    refine XS.bipush X9.here hx rfl (hb hby at_21) ?_
    show Steps p.tables e below (T9.setTop (mkF m 23 #[.val (.int p1), .val (.int p2), .val (.int p3), .unset, .unset] [(.int (122 : Int32)), (.int (3 : Int32)), (.ref b1), (.ref b1)])) _
    refine st12 _ ?_
    show Steps p.tables e below (T12.setTop (mkF m 24 #[.val (.int p1), .val (.int p2), .val (.int p3), .unset, .unset] [(.ref b1)])) _
    refine XS.dup X12.here hx rfl (hb hby at_24) rfl rfl ?_
    show Steps p.tables e below (T12.setTop (mkF m 25 #[.val (.int p1), .val (.int p2), .val (.int p3), .unset, .unset] [(.ref b1), (.ref b1)])) _
    refine XS.iconst X12.here hx rfl (hb hby at_25) ?_
    show Steps p.tables e below (T12.setTop (mkF m 26 #[.val (.int p1), .val (.int p2), .val (.int p3), .unset, .unset] [(.int (4 : Int32)), (.ref b1), (.ref b1)])) _
    refine XS.sipush X12.here hx rfl (hb hby at_26) ?_
    show Steps p.tables e below (T12.setTop (mkF m 29 #[.val (.int p1), .val (.int p2), .val (.int p3), .unset, .unset] [(.int (192 : Int32)), (.int (4 : Int32)), (.ref b1), (.ref b1)])) _
    refine st15 _ ?_
    show Steps p.tables e below (T15.setTop (mkF m 30 #[.val (.int p1), .val (.int p2), .val (.int p3), .unset, .unset] [(.ref b1)])) _
    refine XS.dup X15.here hx rfl (hb hby at_30) rfl rfl ?_
    show Steps p.tables e below (T15.setTop (mkF m 31 #[.val (.int p1), .val (.int p2), .val (.int p3), .unset, .unset] [(.ref b1), (.ref b1)])) _
    refine XS.iconst X15.here hx rfl (hb hby at_31) ?_
    show Steps p.tables e below (T15.setTop (mkF m 32 #[.val (.int p1), .val (.int p2), .val (.int p3), .unset, .unset] [(.int (5 : Int32)), (.ref b1), (.ref b1)])) _
    refine XS.sipush X15.here hx rfl (hb hby at_32) ?_
    show Steps p.tables e below (T15.setTop (mkF m 35 #[.val (.int p1), .val (.int p2), .val (.int p3), .unset, .unset] [(.int (214 : Int32)), (.int (5 : Int32)), (.ref b1), (.ref b1)])) _
    refine st18 _ ?_
    show Steps p.tables e below (T18.setTop (mkF m 36 #[.val (.int p1), .val (.int p2), .val (.int p3), .unset, .unset] [(.ref b1)])) _
    refine XS.dup X18.here hx rfl (hb hby at_36) rfl rfl ?_
    show Steps p.tables e below (T18.setTop (mkF m 37 #[.val (.int p1), .val (.int p2), .val (.int p3), .unset, .unset] [(.ref b1), (.ref b1)])) _
    refine XS.bipush X18.here hx rfl (hb hby at_37) ?_
    show Steps p.tables e below (T18.setTop (mkF m 39 #[.val (.int p1), .val (.int p2), .val (.int p3), .unset, .unset] [(.int (6 : Int32)), (.ref b1), (.ref b1)])) _
    refine XS.sipush X18.here hx rfl (hb hby at_39) ?_
    show Steps p.tables e below (T18.setTop (mkF m 42 #[.val (.int p1), .val (.int p2), .val (.int p3), .unset, .unset] [(.int (216 : Int32)), (.int (6 : Int32)), (.ref b1), (.ref b1)])) _
    refine st21 _ ?_
    show Steps p.tables e below (T21.setTop (mkF m 43 #[.val (.int p1), .val (.int p2), .val (.int p3), .unset, .unset] [(.ref b1)])) _
    refine XS.dup X21.here hx rfl (hb hby at_43) rfl rfl ?_
    show Steps p.tables e below (T21.setTop (mkF m 44 #[.val (.int p1), .val (.int p2), .val (.int p3), .unset, .unset] [(.ref b1), (.ref b1)])) _
    refine XS.bipush X21.here hx rfl (hb hby at_44) ?_
    show Steps p.tables e below (T21.setTop (mkF m 46 #[.val (.int p1), .val (.int p2), .val (.int p3), .unset, .unset] [(.int (7 : Int32)), (.ref b1), (.ref b1)])) _
    refine XS.sipush X21.here hx rfl (hb hby at_46) ?_
    show Steps p.tables e below (T21.setTop (mkF m 49 #[.val (.int p1), .val (.int p2), .val (.int p3), .unset, .unset] [(.int (246 : Int32)), (.int (7 : Int32)), (.ref b1), (.ref b1)])) _
    refine st24 _ ?_
    show Steps p.tables e below (T24.setTop (mkF m 50 #[.val (.int p1), .val (.int p2), .val (.int p3), .unset, .unset] [(.ref b1)])) _
    refine XS.dup X24.here hx rfl (hb hby at_50) rfl rfl ?_
    show Steps p.tables e below (T24.setTop (mkF m 51 #[.val (.int p1), .val (.int p2), .val (.int p3), .unset, .unset] [(.ref b1), (.ref b1)])) _
    refine XS.bipush X24.here hx rfl (hb hby at_51) ?_
    show Steps p.tables e below (T24.setTop (mkF m 53 #[.val (.int p1), .val (.int p2), .val (.int p3), .unset, .unset] [(.int (8 : Int32)), (.ref b1), (.ref b1)])) _
    refine XS.sipush X24.here hx rfl (hb hby at_53) ?_
    show Steps p.tables e below (T24.setTop (mkF m 56 #[.val (.int p1), .val (.int p2), .val (.int p3), .unset, .unset] [(.int (248 : Int32)), (.int (8 : Int32)), (.ref b1), (.ref b1)])) _
    refine st27 _ ?_
    show Steps p.tables e below (T27.setTop (mkF m 57 #[.val (.int p1), .val (.int p2), .val (.int p3), .unset, .unset] [(.ref b1)])) _
    refine XS.dup X27.here hx rfl (hb hby at_57) rfl rfl ?_
    show Steps p.tables e below (T27.setTop (mkF m 58 #[.val (.int p1), .val (.int p2), .val (.int p3), .unset, .unset] [(.ref b1), (.ref b1)])) _
    refine XS.bipush X27.here hx rfl (hb hby at_58) ?_
    show Steps p.tables e below (T27.setTop (mkF m 60 #[.val (.int p1), .val (.int p2), .val (.int p3), .unset, .unset] [(.int (9 : Int32)), (.ref b1), (.ref b1)])) _
    refine XS.sipush X27.here hx rfl (hb hby at_60) ?_
    show Steps p.tables e below (T27.setTop (mkF m 63 #[.val (.int p1), .val (.int p2), .val (.int p3), .unset, .unset] [(.int (767 : Int32)), (.int (9 : Int32)), (.ref b1), (.ref b1)])) _
    refine st30 _ ?_
    show Steps p.tables e below (T30.setTop (mkF m 64 #[.val (.int p1), .val (.int p2), .val (.int p3), .unset, .unset] [(.ref b1)])) _
    refine XS.dup X30.here hx rfl (hb hby at_64) rfl rfl ?_
    show Steps p.tables e below (T30.setTop (mkF m 65 #[.val (.int p1), .val (.int p2), .val (.int p3), .unset, .unset] [(.ref b1), (.ref b1)])) _
    refine XS.bipush X30.here hx rfl (hb hby at_65) ?_
    show Steps p.tables e below (T30.setTop (mkF m 67 #[.val (.int p1), .val (.int p2), .val (.int p3), .unset, .unset] [(.int (10 : Int32)), (.ref b1), (.ref b1)])) _
    refine XS.sipush X30.here hx rfl (hb hby at_67) ?_
    show Steps p.tables e below (T30.setTop (mkF m 70 #[.val (.int p1), .val (.int p2), .val (.int p3), .unset, .unset] [(.int (880 : Int32)), (.int (10 : Int32)), (.ref b1), (.ref b1)])) _
    refine st33 _ ?_
    show Steps p.tables e below (T33.setTop (mkF m 71 #[.val (.int p1), .val (.int p2), .val (.int p3), .unset, .unset] [(.ref b1)])) _
    refine XS.dup X33.here hx rfl (hb hby at_71) rfl rfl ?_
    show Steps p.tables e below (T33.setTop (mkF m 72 #[.val (.int p1), .val (.int p2), .val (.int p3), .unset, .unset] [(.ref b1), (.ref b1)])) _
    refine XS.bipush X33.here hx rfl (hb hby at_72) ?_
    show Steps p.tables e below (T33.setTop (mkF m 74 #[.val (.int p1), .val (.int p2), .val (.int p3), .unset, .unset] [(.int (11 : Int32)), (.ref b1), (.ref b1)])) _
    refine XS.sipush X33.here hx rfl (hb hby at_74) ?_
    show Steps p.tables e below (T33.setTop (mkF m 77 #[.val (.int p1), .val (.int p2), .val (.int p3), .unset, .unset] [(.int (893 : Int32)), (.int (11 : Int32)), (.ref b1), (.ref b1)])) _
    refine st36 _ ?_
    show Steps p.tables e below (T36.setTop (mkF m 78 #[.val (.int p1), .val (.int p2), .val (.int p3), .unset, .unset] [(.ref b1)])) _
    refine XS.dup X36.here hx rfl (hb hby at_78) rfl rfl ?_
    show Steps p.tables e below (T36.setTop (mkF m 79 #[.val (.int p1), .val (.int p2), .val (.int p3), .unset, .unset] [(.ref b1), (.ref b1)])) _
    refine XS.bipush X36.here hx rfl (hb hby at_79) ?_
    show Steps p.tables e below (T36.setTop (mkF m 81 #[.val (.int p1), .val (.int p2), .val (.int p3), .unset, .unset] [(.int (12 : Int32)), (.ref b1), (.ref b1)])) _
    refine XS.sipush X36.here hx rfl (hb hby at_81) ?_
    show Steps p.tables e below (T36.setTop (mkF m 84 #[.val (.int p1), .val (.int p2), .val (.int p3), .unset, .unset] [(.int (895 : Int32)), (.int (12 : Int32)), (.ref b1), (.ref b1)])) _
    refine st39 _ ?_
    show Steps p.tables e below (T39.setTop (mkF m 85 #[.val (.int p1), .val (.int p2), .val (.int p3), .unset, .unset] [(.ref b1)])) _
    refine XS.dup X39.here hx rfl (hb hby at_85) rfl rfl ?_
    show Steps p.tables e below (T39.setTop (mkF m 86 #[.val (.int p1), .val (.int p2), .val (.int p3), .unset, .unset] [(.ref b1), (.ref b1)])) _
    refine XS.bipush X39.here hx rfl (hb hby at_86) ?_
    show Steps p.tables e below (T39.setTop (mkF m 88 #[.val (.int p1), .val (.int p2), .val (.int p3), .unset, .unset] [(.int (13 : Int32)), (.ref b1), (.ref b1)])) _
    refine XS.sipush X39.here hx rfl (hb hby at_88) ?_
    show Steps p.tables e below (T39.setTop (mkF m 91 #[.val (.int p1), .val (.int p2), .val (.int p3), .unset, .unset] [(.int (8191 : Int32)), (.int (13 : Int32)), (.ref b1), (.ref b1)])) _
    refine st42 _ ?_
    show Steps p.tables e below (T42.setTop (mkF m 92 #[.val (.int p1), .val (.int p2), .val (.int p3), .unset, .unset] [(.ref b1)])) _
    refine XS.dup X42.here hx rfl (hb hby at_92) rfl rfl ?_
    show Steps p.tables e below (T42.setTop (mkF m 93 #[.val (.int p1), .val (.int p2), .val (.int p3), .unset, .unset] [(.ref b1), (.ref b1)])) _
    refine XS.bipush X42.here hx rfl (hb hby at_93) ?_
    show Steps p.tables e below (T42.setTop (mkF m 95 #[.val (.int p1), .val (.int p2), .val (.int p3), .unset, .unset] [(.int (14 : Int32)), (.ref b1), (.ref b1)])) _
    refine XS.sipush X42.here hx rfl (hb hby at_95) ?_
    show Steps p.tables e below (T42.setTop (mkF m 98 #[.val (.int p1), .val (.int p2), .val (.int p3), .unset, .unset] [(.int (8204 : Int32)), (.int (14 : Int32)), (.ref b1), (.ref b1)])) _
    refine st45 _ ?_
    show Steps p.tables e below (T45.setTop (mkF m 99 #[.val (.int p1), .val (.int p2), .val (.int p3), .unset, .unset] [(.ref b1)])) _
    refine XS.dup X45.here hx rfl (hb hby at_99) rfl rfl ?_
    show Steps p.tables e below (T45.setTop (mkF m 100 #[.val (.int p1), .val (.int p2), .val (.int p3), .unset, .unset] [(.ref b1), (.ref b1)])) _
    refine XS.bipush X45.here hx rfl (hb hby at_100) ?_
    show Steps p.tables e below (T45.setTop (mkF m 102 #[.val (.int p1), .val (.int p2), .val (.int p3), .unset, .unset] [(.int (15 : Int32)), (.ref b1), (.ref b1)])) _
    refine XS.sipush X45.here hx rfl (hb hby at_102) ?_
    show Steps p.tables e below (T45.setTop (mkF m 105 #[.val (.int p1), .val (.int p2), .val (.int p3), .unset, .unset] [(.int (8205 : Int32)), (.int (15 : Int32)), (.ref b1), (.ref b1)])) _
    refine st48 _ ?_
    show Steps p.tables e below (T48.setTop (mkF m 106 #[.val (.int p1), .val (.int p2), .val (.int p3), .unset, .unset] [(.ref b1)])) _
    refine XS.dup X48.here hx rfl (hb hby at_106) rfl rfl ?_
    show Steps p.tables e below (T48.setTop (mkF m 107 #[.val (.int p1), .val (.int p2), .val (.int p3), .unset, .unset] [(.ref b1), (.ref b1)])) _
    refine XS.bipush X48.here hx rfl (hb hby at_107) ?_
    show Steps p.tables e below (T48.setTop (mkF m 109 #[.val (.int p1), .val (.int p2), .val (.int p3), .unset, .unset] [(.int (16 : Int32)), (.ref b1), (.ref b1)])) _
    refine XS.sipush X48.here hx rfl (hb hby at_109) ?_
    show Steps p.tables e below (T48.setTop (mkF m 112 #[.val (.int p1), .val (.int p2), .val (.int p3), .unset, .unset] [(.int (8304 : Int32)), (.int (16 : Int32)), (.ref b1), (.ref b1)])) _
    refine st51 _ ?_
    show Steps p.tables e below (T51.setTop (mkF m 113 #[.val (.int p1), .val (.int p2), .val (.int p3), .unset, .unset] [(.ref b1)])) _
    refine XS.dup X51.here hx rfl (hb hby at_113) rfl rfl ?_
    show Steps p.tables e below (T51.setTop (mkF m 114 #[.val (.int p1), .val (.int p2), .val (.int p3), .unset, .unset] [(.ref b1), (.ref b1)])) _
    refine XS.bipush X51.here hx rfl (hb hby at_114) ?_
    show Steps p.tables e below (T51.setTop (mkF m 116 #[.val (.int p1), .val (.int p2), .val (.int p3), .unset, .unset] [(.int (17 : Int32)), (.ref b1), (.ref b1)])) _
    refine XS.sipush X51.here hx rfl (hb hby at_116) ?_
    show Steps p.tables e below (T51.setTop (mkF m 119 #[.val (.int p1), .val (.int p2), .val (.int p3), .unset, .unset] [(.int (8591 : Int32)), (.int (17 : Int32)), (.ref b1), (.ref b1)])) _
    refine st54 _ ?_
    show Steps p.tables e below (T54.setTop (mkF m 120 #[.val (.int p1), .val (.int p2), .val (.int p3), .unset, .unset] [(.ref b1)])) _
    refine XS.dup X54.here hx rfl (hb hby at_120) rfl rfl ?_
    show Steps p.tables e below (T54.setTop (mkF m 121 #[.val (.int p1), .val (.int p2), .val (.int p3), .unset, .unset] [(.ref b1), (.ref b1)])) _
    refine XS.bipush X54.here hx rfl (hb hby at_121) ?_
    show Steps p.tables e below (T54.setTop (mkF m 123 #[.val (.int p1), .val (.int p2), .val (.int p3), .unset, .unset] [(.int (18 : Int32)), (.ref b1), (.ref b1)])) _
    refine XS.sipush X54.here hx rfl (hb hby at_123) ?_
    show Steps p.tables e below (T54.setTop (mkF m 126 #[.val (.int p1), .val (.int p2), .val (.int p3), .unset, .unset] [(.int (11264 : Int32)), (.int (18 : Int32)), (.ref b1), (.ref b1)])) _
    refine st57 _ ?_
    show Steps p.tables e below (T57.setTop (mkF m 127 #[.val (.int p1), .val (.int p2), .val (.int p3), .unset, .unset] [(.ref b1)])) _
    refine XS.dup X57.here hx rfl (hb hby at_127) rfl rfl ?_
    show Steps p.tables e below (T57.setTop (mkF m 128 #[.val (.int p1), .val (.int p2), .val (.int p3), .unset, .unset] [(.ref b1), (.ref b1)])) _
    refine XS.bipush X57.here hx rfl (hb hby at_128) ?_
    show Steps p.tables e below (T57.setTop (mkF m 130 #[.val (.int p1), .val (.int p2), .val (.int p3), .unset, .unset] [(.int (19 : Int32)), (.ref b1), (.ref b1)])) _
    refine XS.sipush X57.here hx rfl (hb hby at_130) ?_
    show Steps p.tables e below (T57.setTop (mkF m 133 #[.val (.int p1), .val (.int p2), .val (.int p3), .unset, .unset] [(.int (12271 : Int32)), (.int (19 : Int32)), (.ref b1), (.ref b1)])) _
    refine st60 _ ?_
    show Steps p.tables e below (T60.setTop (mkF m 134 #[.val (.int p1), .val (.int p2), .val (.int p3), .unset, .unset] [(.ref b1)])) _
    refine XS.dup X60.here hx rfl (hb hby at_134) rfl rfl ?_
    show Steps p.tables e below (T60.setTop (mkF m 135 #[.val (.int p1), .val (.int p2), .val (.int p3), .unset, .unset] [(.ref b1), (.ref b1)])) _
    refine XS.bipush X60.here hx rfl (hb hby at_135) ?_
    show Steps p.tables e below (T60.setTop (mkF m 137 #[.val (.int p1), .val (.int p2), .val (.int p3), .unset, .unset] [(.int (20 : Int32)), (.ref b1), (.ref b1)])) _
    refine XS.sipush X60.here hx rfl (hb hby at_137) ?_
    show Steps p.tables e below (T60.setTop (mkF m 140 #[.val (.int p1), .val (.int p2), .val (.int p3), .unset, .unset] [(.int (12289 : Int32)), (.int (20 : Int32)), (.ref b1), (.ref b1)])) _
    refine st63 _ ?_
    show Steps p.tables e below (T63.setTop (mkF m 141 #[.val (.int p1), .val (.int p2), .val (.int p3), .unset, .unset] [(.ref b1)])) _
    refine XS.dup X63.here hx rfl (hb hby at_141) rfl rfl ?_
    show Steps p.tables e below (T63.setTop (mkF m 142 #[.val (.int p1), .val (.int p2), .val (.int p3), .unset, .unset] [(.ref b1), (.ref b1)])) _
    refine XS.bipush X63.here hx rfl (hb hby at_142) ?_
    show Steps p.tables e below (T63.setTop (mkF m 144 #[.val (.int p1), .val (.int p2), .val (.int p3), .unset, .unset] [(.int (21 : Int32)), (.ref b1), (.ref b1)])) _
    refine X63.ldcInt hx hown (mvT hZ (hw _ (List.mem_of_getElem? (i := 1) rfl))) (g := (mkF m 144 #[.val (.int p1), .val (.int p2), .val (.int p3), .unset, .unset] [(.int (21 : Int32)), (.ref b1), (.ref b1)])) rfl (hb hby at_144) _ ?_
    show Steps p.tables e below (T63.setTop (mkF m 146 #[.val (.int p1), .val (.int p2), .val (.int p3), .unset, .unset] [(.int (55295 : Int32)), (.int (21 : Int32)), (.ref b1), (.ref b1)])) _
    refine st66 _ ?_
    show Steps p.tables e below (T66.setTop (mkF m 147 #[.val (.int p1), .val (.int p2), .val (.int p3), .unset, .unset] [(.ref b1)])) _
    refine XS.dup X66.here hx rfl (hb hby at_147) rfl rfl ?_
    show Steps p.tables e below (T66.setTop (mkF m 148 #[.val (.int p1), .val (.int p2), .val (.int p3), .unset, .unset] [(.ref b1), (.ref b1)])) _
    refine XS.bipush X66.here hx rfl (hb hby at_148) ?_
    show Steps p.tables e below (T66.setTop (mkF m 150 #[.val (.int p1), .val (.int p2), .val (.int p3), .unset, .unset] [(.int (22 : Int32)), (.ref b1), (.ref b1)])) _
    refine X66.ldcInt hx hown (mvT hZ (hw _ (List.mem_of_getElem? (i := 2) rfl))) (g := (mkF m 150 #[.val (.int p1), .val (.int p2), .val (.int p3), .unset, .unset] [(.int (22 : Int32)), (.ref b1), (.ref b1)])) rfl (hb hby at_150) _ ?_
    show Steps p.tables e below (T66.setTop (mkF m 152 #[.val (.int p1), .val (.int p2), .val (.int p3), .unset, .unset] [(.int (63744 : Int32)), (.int (22 : Int32)), (.ref b1), (.ref b1)])) _
    refine st69 _ ?_
    show Steps p.tables e below (T69.setTop (mkF m 153 #[.val (.int p1), .val (.int p2), .val (.int p3), .unset, .unset] [(.ref b1)])) _
    refine XS.dup X69.here hx rfl (hb hby at_153) rfl rfl ?_
    show Steps p.tables e below (T69.setTop (mkF m 154 #[.val (.int p1), .val (.int p2), .val (.int p3), .unset, .unset] [(.ref b1), (.ref b1)])) _
    refine XS.bipush X69.here hx rfl (hb hby at_154) ?_
    show Steps p.tables e below (T69.setTop (mkF m 156 #[.val (.int p1), .val (.int p2), .val (.int p3), .unset, .unset] [(.int (23 : Int32)), (.ref b1), (.ref b1)])) _
    refine X69.ldcInt hx hown (mvT hZ (hw _ (List.mem_of_getElem? (i := 3) rfl))) (g := (mkF m 156 #[.val (.int p1), .val (.int p2), .val (.int p3), .unset, .unset] [(.int (23 : Int32)), (.ref b1), (.ref b1)])) rfl (hb hby at_156) _ ?_
    show Steps p.tables e below (T69.setTop (mkF m 158 #[.val (.int p1), .val (.int p2), .val (.int p3), .unset, .unset] [(.int (64975 : Int32)), (.int (23 : Int32)), (.ref b1), (.ref b1)])) _
    refine st72 _ ?_
    show Steps p.tables e below (T72.setTop (mkF m 159 #[.val (.int p1), .val (.int p2), .val (.int p3), .unset, .unset] [(.ref b1)])) _
    refine XS.dup X72.here hx rfl (hb hby at_159) rfl rfl ?_
    show Steps p.tables e below (T72.setTop (mkF m 160 #[.val (.int p1), .val (.int p2), .val (.int p3), .unset, .unset] [(.ref b1), (.ref b1)])) _
    refine XS.bipush X72.here hx rfl (hb hby at_160) ?_
    show Steps p.tables e below (T72.setTop (mkF m 162 #[.val (.int p1), .val (.int p2), .val (.int p3), .unset, .unset] [(.int (24 : Int32)), (.ref b1), (.ref b1)])) _
    refine X72.ldcInt hx hown (mvT hZ (hw _ (List.mem_of_getElem? (i := 4) rfl))) (g := (mkF m 162 #[.val (.int p1), .val (.int p2), .val (.int p3), .unset, .unset] [(.int (24 : Int32)), (.ref b1), (.ref b1)])) rfl (hb hby at_162) _ ?_
    show Steps p.tables e below (T72.setTop (mkF m 164 #[.val (.int p1), .val (.int p2), .val (.int p3), .unset, .unset] [(.int (65008 : Int32)), (.int (24 : Int32)), (.ref b1), (.ref b1)])) _
    refine st75 _ ?_
    show Steps p.tables e below (T75.setTop (mkF m 165 #[.val (.int p1), .val (.int p2), .val (.int p3), .unset, .unset] [(.ref b1)])) _
    refine XS.dup X75.here hx rfl (hb hby at_165) rfl rfl ?_
    show Steps p.tables e below (T75.setTop (mkF m 166 #[.val (.int p1), .val (.int p2), .val (.int p3), .unset, .unset] [(.ref b1), (.ref b1)])) _
    refine XS.bipush X75.here hx rfl (hb hby at_166) ?_
    show Steps p.tables e below (T75.setTop (mkF m 168 #[.val (.int p1), .val (.int p2), .val (.int p3), .unset, .unset] [(.int (25 : Int32)), (.ref b1), (.ref b1)])) _
    refine X75.ldcInt hx hown (mvT hZ (hw _ (List.mem_of_getElem? (i := 5) rfl))) (g := (mkF m 168 #[.val (.int p1), .val (.int p2), .val (.int p3), .unset, .unset] [(.int (25 : Int32)), (.ref b1), (.ref b1)])) rfl (hb hby at_168) _ ?_
    show Steps p.tables e below (T75.setTop (mkF m 170 #[.val (.int p1), .val (.int p2), .val (.int p3), .unset, .unset] [(.int (65533 : Int32)), (.int (25 : Int32)), (.ref b1), (.ref b1)])) _
    refine st78 _ ?_
    show Steps p.tables e below (T78.setTop (mkF m 171 #[.val (.int p1), .val (.int p2), .val (.int p3), .unset, .unset] [(.ref b1)])) _
    refine XS.dup X78.here hx rfl (hb hby at_171) rfl rfl ?_
    show Steps p.tables e below (T78.setTop (mkF m 172 #[.val (.int p1), .val (.int p2), .val (.int p3), .unset, .unset] [(.ref b1), (.ref b1)])) _
    refine XS.bipush X78.here hx rfl (hb hby at_172) ?_
    show Steps p.tables e below (T78.setTop (mkF m 174 #[.val (.int p1), .val (.int p2), .val (.int p3), .unset, .unset] [(.int (26 : Int32)), (.ref b1), (.ref b1)])) _
    refine X78.ldcInt hx hown (mvT hZ (hw _ (List.mem_of_getElem? (i := 6) rfl))) (g := (mkF m 174 #[.val (.int p1), .val (.int p2), .val (.int p3), .unset, .unset] [(.int (26 : Int32)), (.ref b1), (.ref b1)])) rfl (hb hby at_174) _ ?_
    show Steps p.tables e below (T78.setTop (mkF m 176 #[.val (.int p1), .val (.int p2), .val (.int p3), .unset, .unset] [(.int (65536 : Int32)), (.int (26 : Int32)), (.ref b1), (.ref b1)])) _
    refine st81 _ ?_
    show Steps p.tables e below (T81.setTop (mkF m 177 #[.val (.int p1), .val (.int p2), .val (.int p3), .unset, .unset] [(.ref b1)])) _
    refine XS.dup X81.here hx rfl (hb hby at_177) rfl rfl ?_
    show Steps p.tables e below (T81.setTop (mkF m 178 #[.val (.int p1), .val (.int p2), .val (.int p3), .unset, .unset] [(.ref b1), (.ref b1)])) _
    refine XS.bipush X81.here hx rfl (hb hby at_178) ?_
    show Steps p.tables e below (T81.setTop (mkF m 180 #[.val (.int p1), .val (.int p2), .val (.int p3), .unset, .unset] [(.int (27 : Int32)), (.ref b1), (.ref b1)])) _
    refine X81.ldcInt hx hown (mvT hZ (hw _ (List.mem_of_getElem? (i := 7) rfl))) (g := (mkF m 180 #[.val (.int p1), .val (.int p2), .val (.int p3), .unset, .unset] [(.int (27 : Int32)), (.ref b1), (.ref b1)])) rfl (hb hby at_180) _ ?_
    show Steps p.tables e below (T81.setTop (mkF m 182 #[.val (.int p1), .val (.int p2), .val (.int p3), .unset, .unset] [(.int (983039 : Int32)), (.int (27 : Int32)), (.ref b1), (.ref b1)])) _
    refine st84 _ ?_
    show Steps p.tables e below (T84.setTop (mkF m 183 #[.val (.int p1), .val (.int p2), .val (.int p3), .unset, .unset] [(.ref b1)])) _
    refine XS.dup X84.here hx rfl (hb hby at_183) rfl rfl ?_
    show Steps p.tables e below (T84.setTop (mkF m 184 #[.val (.int p1), .val (.int p2), .val (.int p3), .unset, .unset] [(.ref b1), (.ref b1)])) _
    refine XS.bipush X84.here hx rfl (hb hby at_184) ?_
    show Steps p.tables e below (T84.setTop (mkF m 186 #[.val (.int p1), .val (.int p2), .val (.int p3), .unset, .unset] [(.int (28 : Int32)), (.ref b1), (.ref b1)])) _
    refine XS.iconst X84.here hx rfl (hb hby at_186) ?_
    show Steps p.tables e below (T84.setTop (mkF m 187 #[.val (.int p1), .val (.int p2), .val (.int p3), .unset, .unset] [(.int (0 : Int32)), (.int (28 : Int32)), (.ref b1), (.ref b1)])) _
    refine st87 _ ?_
    show Steps p.tables e below (T87.setTop (mkF m 188 #[.val (.int p1), .val (.int p2), .val (.int p3), .unset, .unset] [(.ref b1)])) _
    refine XS.dup X87.here hx rfl (hb hby at_188) rfl rfl ?_
    show Steps p.tables e below (T87.setTop (mkF m 189 #[.val (.int p1), .val (.int p2), .val (.int p3), .unset, .unset] [(.ref b1), (.ref b1)])) _
    refine XS.bipush X87.here hx rfl (hb hby at_189) ?_
    show Steps p.tables e below (T87.setTop (mkF m 191 #[.val (.int p1), .val (.int p2), .val (.int p3), .unset, .unset] [(.int (29 : Int32)), (.ref b1), (.ref b1)])) _
    refine X87.ldcInt hx hown (mvT hZ (hw _ (List.mem_of_getElem? (i := 8) rfl))) (g := (mkF m 191 #[.val (.int p1), .val (.int p2), .val (.int p3), .unset, .unset] [(.int (29 : Int32)), (.ref b1), (.ref b1)])) rfl (hb hby at_191) _ ?_
    show Steps p.tables e below (T87.setTop (mkF m 193 #[.val (.int p1), .val (.int p2), .val (.int p3), .unset, .unset] [(.int (2147483647 : Int32)), (.int (29 : Int32)), (.ref b1), (.ref b1)])) _
    refine st90 _ ?_
    show Steps p.tables e below (T90.setTop (mkF m 194 #[.val (.int p1), .val (.int p2), .val (.int p3), .unset, .unset] [(.ref b1)])) _
    refine XS.dup X90.here hx rfl (hb hby at_194) rfl rfl ?_
    show Steps p.tables e below (T90.setTop (mkF m 195 #[.val (.int p1), .val (.int p2), .val (.int p3), .unset, .unset] [(.ref b1), (.ref b1)])) _
    refine XS.bipush X90.here hx rfl (hb hby at_195) ?_
    show Steps p.tables e below (T90.setTop (mkF m 197 #[.val (.int p1), .val (.int p2), .val (.int p3), .unset, .unset] [(.int (30 : Int32)), (.ref b1), (.ref b1)])) _
    refine X90.ldcInt hx hown (mvT hZ (hw _ (List.mem_of_getElem? (i := 9) rfl))) (g := (mkF m 197 #[.val (.int p1), .val (.int p2), .val (.int p3), .unset, .unset] [(.int (30 : Int32)), (.ref b1), (.ref b1)])) rfl (hb hby at_197) _ ?_
    show Steps p.tables e below (T90.setTop (mkF m 199 #[.val (.int p1), .val (.int p2), .val (.int p3), .unset, .unset] [(.int (-2147483648 : Int32)), (.int (30 : Int32)), (.ref b1), (.ref b1)])) _
    refine st93 _ ?_
    show Steps p.tables e below (T93.setTop (mkF m 200 #[.val (.int p1), .val (.int p2), .val (.int p3), .unset, .unset] [(.ref b1)])) _
    refine XS.dup X93.here hx rfl (hb hby at_200) rfl rfl ?_
    show Steps p.tables e below (T93.setTop (mkF m 201 #[.val (.int p1), .val (.int p2), .val (.int p3), .unset, .unset] [(.ref b1), (.ref b1)])) _
    refine XS.bipush X93.here hx rfl (hb hby at_201) ?_
    show Steps p.tables e below (T93.setTop (mkF m 203 #[.val (.int p1), .val (.int p2), .val (.int p3), .unset, .unset] [(.int (31 : Int32)), (.ref b1), (.ref b1)])) _
    refine XS.bipush X93.here hx rfl (hb hby at_203) ?_
    show Steps p.tables e below (T93.setTop (mkF m 205 #[.val (.int p1), .val (.int p2), .val (.int p3), .unset, .unset] [(.int (95 : Int32)), (.int (31 : Int32)), (.ref b1), (.ref b1)])) _
    refine st96 _ ?_
    show Steps p.tables e below (T96.setTop (mkF m 206 #[.val (.int p1), .val (.int p2), .val (.int p3), .unset, .unset] [(.ref b1)])) _
    refine XS.astoreN X96.here hx rfl (hb hby at_206) rfl rfl (l' := #[.val (.int p1), .val (.int p2), .val (.int p3), .val (.ref b1), .unset]) rfl ?_
    show Steps p.tables e below (T96.setTop (mkF m 207 #[.val (.int p1), .val (.int p2), .val (.int p3), .val (.ref b1), .unset] [])) _
    refine XS.aloadN X96.here hx rfl (hb hby at_207) rfl rfl ?_
    show Steps p.tables e below (T96.setTop (mkF m 208 #[.val (.int p1), .val (.int p2), .val (.int p3), .val (.ref b1), .unset] [(.ref b1)])) _
    refine XS.iloadN X96.here hx rfl (hb hby at_208) rfl ?_
    show Steps p.tables e below (T96.setTop (mkF m 209 #[.val (.int p1), .val (.int p2), .val (.int p3), .val (.ref b1), .unset] [(.int p2), (.ref b1)])) _
    refine X96.ldcInt hx hown (mvT hZ (hw _ (List.mem_of_getElem? (i := 8) rfl))) (g := (mkF m 209 #[.val (.int p1), .val (.int p2), .val (.int p3), .val (.ref b1), .unset] [(.int p2), (.ref b1)])) rfl (hb hby at_209) _ ?_
    show Steps p.tables e below (T96.setTop (mkF m 211 #[.val (.int p1), .val (.int p2), .val (.int p3), .val (.ref b1), .unset] [(.int (2147483647 : Int32)), (.int p2), (.ref b1)])) _
    refine XS.iand X96.here hx rfl (hb hby at_211) rfl ?_
    show Steps p.tables e below (T96.setTop (mkF m 212 #[.val (.int p1), .val (.int p2), .val (.int p3), .val (.ref b1), .unset] [(.int (p2 &&& (2147483647 : Int32))), (.ref b1)])) _
    refine XS.aloadN X96.here hx rfl (hb hby at_212) rfl rfl ?_
    show Steps p.tables e below (T96.setTop (mkF m 213 #[.val (.int p1), .val (.int p2), .val (.int p3), .val (.ref b1), .unset] [(.ref b1), (.int (p2 &&& (2147483647 : Int32))), (.ref b1)])) _
    refine X96.arraylength hx (by rw [e96]; exact Ar98.1) (State.isArrayOf_alike hZ.alike Ar98.2.1) (g := (mkF m 213 #[.val (.int p1), .val (.int p2), .val (.int p3), .val (.ref b1), .unset] [(.ref b1), (.int (p2 &&& (2147483647 : Int32))), (.ref b1)])) rfl rfl (hb hby at_213) _ ?_
    rw [len_of S98 Nn98]
    show Steps p.tables e below (T96.setTop (mkF m 214 #[.val (.int p1), .val (.int p2), .val (.int p3), .val (.ref b1), .unset] [(.int (32 : Int32)), (.int (p2 &&& (2147483647 : Int32))), (.ref b1)])) _
    refine iremM X96 hx rfl (hb hby at_214) rfl (by decide : ¬ ((32 : Int32) = (0 : Int32))) ?_
    show Steps p.tables e below (T96.setTop (mkF m 215 #[.val (.int p1), .val (.int p2), .val (.int p3), .val (.ref b1), .unset] [(.int ((p2 &&& (2147483647 : Int32)) % (32 : Int32))), (.ref b1)])) _
    refine X96.iaload hx (j := ((p2 &&& (2147483647 : Int32)) % (32 : Int32))) (v := (.int ((own_law0_g97 p1 p2 p3) ((p2 &&& (2147483647 : Int32)) % (32 : Int32)).toNatClampNeg))) (by rw [e96]; exact Ar99.1) (State.isArrayOf_alike hZ.alike Ar99.2.1) Ar99.2.2 hin99 hat99 (g := (mkF m 215 #[.val (.int p1), .val (.int p2), .val (.int p3), .val (.ref b1), .unset] [(.int ((p2 &&& (2147483647 : Int32)) % (32 : Int32))), (.ref b1)])) rfl rfl (hb hby at_215) _ ?_
    show Steps p.tables e below (T96.setTop (mkF m 216 #[.val (.int p1), .val (.int p2), .val (.int p3), .val (.ref b1), .unset] [(.int ((own_law0_g97 p1 p2 p3) ((p2 &&& (2147483647 : Int32)) % (32 : Int32)).toNatClampNeg))])) _
    refine XS.iloadN X96.here hx rfl (hb hby at_216) rfl ?_
    show Steps p.tables e below (T96.setTop (mkF m 217 #[.val (.int p1), .val (.int p2), .val (.int p3), .val (.ref b1), .unset] [(.int p3), (.int ((own_law0_g97 p1 p2 p3) ((p2 &&& (2147483647 : Int32)) % (32 : Int32)).toNatClampNeg))])) _
    refine X96.ldcInt hx hown (mvT hZ (hw _ (List.mem_of_getElem? (i := 8) rfl))) (g := (mkF m 217 #[.val (.int p1), .val (.int p2), .val (.int p3), .val (.ref b1), .unset] [(.int p3), (.int ((own_law0_g97 p1 p2 p3) ((p2 &&& (2147483647 : Int32)) % (32 : Int32)).toNatClampNeg))])) rfl (hb hby at_217) _ ?_
    show Steps p.tables e below (T96.setTop (mkF m 219 #[.val (.int p1), .val (.int p2), .val (.int p3), .val (.ref b1), .unset] [(.int (2147483647 : Int32)), (.int p3), (.int ((own_law0_g97 p1 p2 p3) ((p2 &&& (2147483647 : Int32)) % (32 : Int32)).toNatClampNeg))])) _
    refine XS.iand X96.here hx rfl (hb hby at_219) rfl ?_
    show Steps p.tables e below (T96.setTop (mkF m 220 #[.val (.int p1), .val (.int p2), .val (.int p3), .val (.ref b1), .unset] [(.int (p3 &&& (2147483647 : Int32))), (.int ((own_law0_g97 p1 p2 p3) ((p2 &&& (2147483647 : Int32)) % (32 : Int32)).toNatClampNeg))])) _
    refine XS.iconst X96.here hx rfl (hb hby at_220) ?_
    show Steps p.tables e below (T96.setTop (mkF m 221 #[.val (.int p1), .val (.int p2), .val (.int p3), .val (.ref b1), .unset] [(.int (3 : Int32)), (.int (p3 &&& (2147483647 : Int32))), (.int ((own_law0_g97 p1 p2 p3) ((p2 &&& (2147483647 : Int32)) % (32 : Int32)).toNatClampNeg))])) _
    refine iremM X96 hx rfl (hb hby at_221) rfl (by decide : ¬ ((3 : Int32) = (0 : Int32))) ?_
    show Steps p.tables e below (T96.setTop (mkF m 222 #[.val (.int p1), .val (.int p2), .val (.int p3), .val (.ref b1), .unset] [(.int ((p3 &&& (2147483647 : Int32)) % (3 : Int32))), (.int ((own_law0_g97 p1 p2 p3) ((p2 &&& (2147483647 : Int32)) % (32 : Int32)).toNatClampNeg))])) _
    refine XS.iadd X96.here hx rfl (hb hby at_222) rfl ?_
    show Steps p.tables e below (T96.setTop (mkF m 223 #[.val (.int p1), .val (.int p2), .val (.int p3), .val (.ref b1), .unset] [(.int (((own_law0_g97 p1 p2 p3) ((p2 &&& (2147483647 : Int32)) % (32 : Int32)).toNatClampNeg) + ((p3 &&& (2147483647 : Int32)) % (3 : Int32))))])) _
    refine XS.iconst X96.here hx rfl (hb hby at_223) ?_
    show Steps p.tables e below (T96.setTop (mkF m 224 #[.val (.int p1), .val (.int p2), .val (.int p3), .val (.ref b1), .unset] [(.int (1 : Int32)), (.int (((own_law0_g97 p1 p2 p3) ((p2 &&& (2147483647 : Int32)) % (32 : Int32)).toNatClampNeg) + ((p3 &&& (2147483647 : Int32)) % (3 : Int32))))])) _
    refine XS.isub X96.here hx rfl (hb hby at_224) rfl ?_
    show Steps p.tables e below (T96.setTop (mkF m 225 #[.val (.int p1), .val (.int p2), .val (.int p3), .val (.ref b1), .unset] [(.int ((((own_law0_g97 p1 p2 p3) ((p2 &&& (2147483647 : Int32)) % (32 : Int32)).toNatClampNeg) + ((p3 &&& (2147483647 : Int32)) % (3 : Int32))) - (1 : Int32)))])) _
    refine XS.istore X96.here hx rfl (hb hby at_225) rfl (l' := #[.val (.int p1), .val (.int p2), .val (.int p3), .val (.ref b1), .val (.int ((((own_law0_g97 p1 p2 p3) ((p2 &&& (2147483647 : Int32)) % (32 : Int32)).toNatClampNeg) + ((p3 &&& (2147483647 : Int32)) % (3 : Int32))) - (1 : Int32)))]) rfl ?_
    exact kt
  show own_End p e below s (T96.setTop (mkF m 227 #[.val (.int p1), .val (.int p2), .val (.int p3), .val (.ref b1), .val (.int ((((own_law0_g97 p1 p2 p3) ((p2 &&& (2147483647 : Int32)) % (32 : Int32)).toNatClampNeg) + ((p3 &&& (2147483647 : Int32)) % (3 : Int32))) - (1 : Int32)))] [])) (Q0 Z p1 p2 p3 h0 n0) room_1.cells room_1.slots
  have j227 : ∀ (Tj227 : State) (Lj227 : List Loc) (Xj227 : Stand p l e room_1 s m #[(.int p1), (.int p2), (.int p3)] below meth c Tj227 Lj227 1 32) (ej227 : Tj227.heap = h96) (Nj227 : Fr n0 Lj227) (xx : Int32) , own_End p e below s (Tj227.setTop (mkF m 227 #[.val (.int p1), .val (.int p2), .val (.int p3), .val (.ref b1), .val (.int xx)] [])) (Q0 Z p1 p2 p3 h0 n0) room_1.cells room_1.slots := by
    intro Tj227 Lj227 Xj227 ej227 Nj227 xx 
    obtain ⟨_, _, ⟨T100, L100, k100, n100⟩, -, X100, ⟨Lc100, hQ100, l100, y100, z100⟩, st100⟩ := Jvm.LawKit.callS Xj227 hx (y := (⟨"com/example/solmap/solmap/rdf/TermSyntax", "isPnCharsBase", "(I)Z"⟩ : MethodName)) hown (mvT hZ (hw _ (List.mem_of_getElem? (i := 10) rfl))) (mvT hZ (hw _ (List.mem_of_getElem? (i := 11) rfl))) (mvT hZ (hw _ (List.mem_of_getElem? (i := 12) rfl))) (mvT hZ (hw _ (List.mem_of_getElem? (i := 13) rfl))) (by decide) (backOf (W := 0) (rm1 l Z a0 hw [] p1  h96 n0 Z96 ) hZ (hw _ (List.mem_of_getElem? (i := 13) rfl)) (hw _ (List.mem_of_getElem? (i := 12) rfl)) (by decide) (by decide)) (g := (mkF m 228 #[.val (.int p1), .val (.int p2), .val (.int p3), .val (.ref b1), .val (.int xx)] [(.int p1)])) rfl (by rw [hml]; rfl) (argsL := [(.int p1)]) (rest := []) (lenOf pd_0_0 rfl) rfl (by show 2 * 0 + _ ≤ _; exact Nat.le_of_eq rfl) (hb hby at_228) (fun _ _ => ⟨rfl, ej227, (by decide : 1 + 0 ≤ _), (by decide : 32 + 0 ≤ _)⟩)
    dsimp only [Pt.U, Pt.locs, Pt.cells, Pt.slots] at X100 l100 y100 z100 st100 hQ100
    subst l100 y100 z100
    obtain ⟨rfl, N100q, e100⟩ := hQ100
    have N100 := Fr.app Nj227 N100q
    obtain ⟨_, _, ⟨T101, L101, k101, n101⟩, -, X101, ⟨Lc101, hQ101, l101, y101, z101⟩, st101⟩ := Jvm.LawKit.callS X100 hx (y := (⟨"com/example/solmap/solmap/rdf/TermSyntaxIsPnCharsBasePinLaw", "ref", "(I)Z"⟩ : MethodName)) hown (mvT hZ (hw _ (List.mem_of_getElem? (i := 17) rfl))) (mvT hZ (hw _ (List.mem_of_getElem? (i := 18) rfl))) (mvT hZ (hw _ (List.mem_of_getElem? (i := 19) rfl))) (mvT hZ (hw _ (List.mem_of_getElem? (i := 20) rfl))) (by decide) (backOf (W := 1) (rm2 l Z a0 hw [] p1  h96 n0 Z96 ) hZ (hw _ (List.mem_of_getElem? (i := 20) rfl)) (hw _ (List.mem_of_getElem? (i := 19) rfl)) (by decide) (by decide)) (g := (mkF m 232 #[.val (.int p1), .val (.int p2), .val (.int p3), .val (.ref b1), .val (.int xx)] [(.int p1), (.int (own_base p1))])) rfl (by rw [hml]; rfl) (argsL := [(.int p1)]) (rest := [(.int (own_base p1))]) (lenOf pd_0_0 rfl) rfl (by show 2 * 0 + _ ≤ _; exact Nat.le_of_eq rfl) (hb hby at_232) (fun _ _ => ⟨rfl, e100, (by decide : 1 + 0 ≤ _), (by decide : 32 + 0 ≤ _)⟩)
    dsimp only [Pt.U, Pt.locs, Pt.cells, Pt.slots] at X101 l101 y101 z101 st101 hQ101
    subst l101 y101 z101
    obtain ⟨rfl, N101q, e101⟩ := hQ101
    have N101 := Fr.app N100 N101q
    obtain ⟨_, _, ⟨T102, L102, k102, n102⟩, -, X102, ⟨Lc102, hQ102, l102, y102, z102⟩, st102⟩ := Jvm.LawKit.callS X101 hx (y := (⟨"com/example/solmap/solmap/rdf/TermSyntax", "isPnCharsBase", "(I)Z"⟩ : MethodName)) hown (mvT hZ (hw _ (List.mem_of_getElem? (i := 10) rfl))) (mvT hZ (hw _ (List.mem_of_getElem? (i := 11) rfl))) (mvT hZ (hw _ (List.mem_of_getElem? (i := 12) rfl))) (mvT hZ (hw _ (List.mem_of_getElem? (i := 13) rfl))) (by decide) (backOf (W := 0) (rm1 l Z a0 hw [] xx  h96 n0 Z96 ) hZ (hw _ (List.mem_of_getElem? (i := 13) rfl)) (hw _ (List.mem_of_getElem? (i := 12) rfl)) (by decide) (by decide)) (g := (mkF m 240 #[.val (.int p1), .val (.int p2), .val (.int p3), .val (.ref b1), .val (.int xx)] [(.int xx)])) rfl (by rw [hml]; rfl) (argsL := [(.int xx)]) (rest := []) (lenOf pd_0_0 rfl) rfl (by show 2 * 0 + _ ≤ _; exact Nat.le_of_eq rfl) (hb hby at_240) (fun _ _ => ⟨rfl, e101, (by decide : 1 + 0 ≤ _), (by decide : 32 + 0 ≤ _)⟩)
    dsimp only [Pt.U, Pt.locs, Pt.cells, Pt.slots] at X102 l102 y102 z102 st102 hQ102
    subst l102 y102 z102
    obtain ⟨rfl, N102q, e102⟩ := hQ102
    have N102 := Fr.app N101 N102q
    obtain ⟨_, _, ⟨T103, L103, k103, n103⟩, -, X103, ⟨Lc103, hQ103, l103, y103, z103⟩, st103⟩ := Jvm.LawKit.callS X102 hx (y := (⟨"com/example/solmap/solmap/rdf/TermSyntaxIsPnCharsBasePinLaw", "ref", "(I)Z"⟩ : MethodName)) hown (mvT hZ (hw _ (List.mem_of_getElem? (i := 17) rfl))) (mvT hZ (hw _ (List.mem_of_getElem? (i := 18) rfl))) (mvT hZ (hw _ (List.mem_of_getElem? (i := 19) rfl))) (mvT hZ (hw _ (List.mem_of_getElem? (i := 20) rfl))) (by decide) (backOf (W := 1) (rm2 l Z a0 hw [] xx  h96 n0 Z96 ) hZ (hw _ (List.mem_of_getElem? (i := 20) rfl)) (hw _ (List.mem_of_getElem? (i := 19) rfl)) (by decide) (by decide)) (g := (mkF m 245 #[.val (.int p1), .val (.int p2), .val (.int p3), .val (.ref b1), .val (.int xx)] [(.int xx), (.int (own_base xx))])) rfl (by rw [hml]; rfl) (argsL := [(.int xx)]) (rest := [(.int (own_base xx))]) (lenOf pd_0_0 rfl) rfl (by show 2 * 0 + _ ≤ _; exact Nat.le_of_eq rfl) (hb hby at_245) (fun _ _ => ⟨rfl, e102, (by decide : 1 + 0 ≤ _), (by decide : 32 + 0 ≤ _)⟩)
    dsimp only [Pt.U, Pt.locs, Pt.cells, Pt.slots] at X103 l103 y103 z103 st103 hQ103
    subst l103 y103 z103
    obtain ⟨rfl, N103q, e103⟩ := hQ103
    have N103 := Fr.app N102 N103q
    refine own_pre (A := T103.setTop (mkF m 256 #[.val (.int p1), .val (.int p2), .val (.int p3), .val (.ref b1), .val (.int xx)] [(.int (1 : Int32))])) (fun tt kt => ?_) ?_
    · show Steps p.tables e below (Tj227.setTop (mkF m 227 #[.val (.int p1), .val (.int p2), .val (.int p3), .val (.ref b1), .val (.int xx)] [])) _
      refine XS.iloadN Xj227.here hx rfl (hb hby at_227) rfl ?_
      show Steps p.tables e below (Tj227.setTop (mkF m 228 #[.val (.int p1), .val (.int p2), .val (.int p3), .val (.ref b1), .val (.int xx)] [(.int p1)])) _
      refine st100 _ ?_
      show Steps p.tables e below (T100.setTop (mkF m 231 #[.val (.int p1), .val (.int p2), .val (.int p3), .val (.ref b1), .val (.int xx)] [(.int (own_base p1))])) _
      refine XS.iloadN X100.here hx rfl (hb hby at_231) rfl ?_
      show Steps p.tables e below (T100.setTop (mkF m 232 #[.val (.int p1), .val (.int p2), .val (.int p3), .val (.ref b1), .val (.int xx)] [(.int p1), (.int (own_base p1))])) _
      refine st101 _ ?_
      show Steps p.tables e below (T101.setTop (mkF m 235 #[.val (.int p1), .val (.int p2), .val (.int p3), .val (.ref b1), .val (.int xx)] [(.int (own_ref p1)), (.int (own_base p1))])) _
      refine XS.icmpNo X101.here hx rfl (hb hby at_235) rfl (teq (own_same _ : (own_base p1) = (own_ref p1))).2 ?_
      show Steps p.tables e below (T101.setTop (mkF m 238 #[.val (.int p1), .val (.int p2), .val (.int p3), .val (.ref b1), .val (.int xx)] [])) _
      refine XS.iload X101.here hx rfl (hb hby at_238) rfl ?_
      show Steps p.tables e below (T101.setTop (mkF m 240 #[.val (.int p1), .val (.int p2), .val (.int p3), .val (.ref b1), .val (.int xx)] [(.int xx)])) _
      refine st102 _ ?_
      show Steps p.tables e below (T102.setTop (mkF m 243 #[.val (.int p1), .val (.int p2), .val (.int p3), .val (.ref b1), .val (.int xx)] [(.int (own_base xx))])) _
      refine XS.iload X102.here hx rfl (hb hby at_243) rfl ?_
      show Steps p.tables e below (T102.setTop (mkF m 245 #[.val (.int p1), .val (.int p2), .val (.int p3), .val (.ref b1), .val (.int xx)] [(.int xx), (.int (own_base xx))])) _
      refine st103 _ ?_
      show Steps p.tables e below (T103.setTop (mkF m 248 #[.val (.int p1), .val (.int p2), .val (.int p3), .val (.ref b1), .val (.int xx)] [(.int (own_ref xx)), (.int (own_base xx))])) _
      refine XS.icmpNo X103.here hx rfl (hb hby at_248) rfl (teq (own_same _ : (own_base xx) = (own_ref xx))).2 ?_
      show Steps p.tables e below (T103.setTop (mkF m 251 #[.val (.int p1), .val (.int p2), .val (.int p3), .val (.ref b1), .val (.int xx)] [])) _
      refine XS.iconst X103.here hx rfl (hb hby at_251) ?_
      show Steps p.tables e below (T103.setTop (mkF m 252 #[.val (.int p1), .val (.int p2), .val (.int p3), .val (.ref b1), .val (.int xx)] [(.int (1 : Int32))])) _
      refine XS.goto X103.here hx rfl (pc0 := 252) (pc' := 256) rfl (hb hby at_252) (by decide) (by decide) ?_
      exact kt
    show own_End p e below s (T103.setTop (mkF m 256 #[.val (.int p1), .val (.int p2), .val (.int p3), .val (.ref b1), .val (.int xx)] [(.int (1 : Int32))])) (Q0 Z p1 p2 p3 h0 n0) room_1.cells room_1.slots
    obtain ⟨fs, hr, hrun, hended, hW, hsame⟩ := X103.leave (v := some (.int (1 : Int32))) (fun h => by rw [Bd.returns] at h; cases h)
    refine ⟨_, _, ?_, hrun, hended, _, _, rfl, ?_, ⟨_, rfl⟩, hW, hsame.mono (by decide) (by decide)⟩
    · exact retN X103 hx (t := .boolean) Bd.returns (by simp) (hb hby at_256) hr
    · show Q0 Z p1 p2 p3 h0 n0 _ T103.heap _
      rw [e103]
      exact ⟨rfl, N103⟩
  exact j227 _ _ X96 e96 N96 ((((own_law0_g97 p1 p2 p3) ((p2 &&& (2147483647 : Int32)) % (32 : Int32)).toNatClampNeg) + ((p3 &&& (2147483647 : Int32)) % (3 : Int32))) - (1 : Int32))  
set_option maxRecDepth 65536 in
set_option maxHeartbeats 40000000 in
theorem comes_1 {Post : Tables → Env → Array Value → State → Outcome → State → Prop} (hpost : ∀ tb e args s v u, (limb_1_1.after args s (.returned v) u = true ∧ limb_1_2.after args s (.returned v) u = true ∧ True) → FrameEnd s (.returned v) u (Jvm.fieldLocs frame_1_writes args s ++ Jvm.arrayLocs frame_1_arrays args s ++ Jvm.staticLocs frame_1_statics s) 16 128 → Post tb e args s (.returned v) u) :
    ArmFor flags0 classFile x code maxLocals ret World_1 tables_1 room_1 Calls_1 rest_1 Pre_1 Post := by
  intro l hfl _ _ p e ha hc hk s m args below hf hA hF happ hP
  obtain ⟨hcalls, hrest, hpre⟩ := hP
  obtain ⟨-, -, -, hnamed, -, -, -, hat⟩ := (Spec.applies_iff hf).mp happ
  obtain ⟨hg, hn⟩ := and_e (Cond.before_iff.mp (show (Jvm.Cond.and given_1 narrow_1).before args s = true from hpre))
  obtain ⟨g1, g2⟩ := and_e hg
  obtain ⟨g3, g4⟩ := and_e g2
  obtain ⟨g5, g6⟩ := and_e g4
  obtain ⟨w0, w1, w2, rfl⟩ : ∃ w0 w1 w2 : Value, args = #[w0, w1, w2] := by
    have hs : args.size = 3 := by simpa [Cond.value, given_1] using g1
    obtain ⟨L⟩ := args
    match L, hs with
    | [w0, w1, w2], _ => exact ⟨w0, w1, w2, rfl⟩
  have hw := fun d (hd : d ∈ tables_1) => atoms_spec (ws := Jvm.Cond.code x code maxLocals ret :: tables_1) hat d (List.mem_cons_of_mem _ hd)
  have hfit : Fit s := fun {y c} hc i hi => by
    obtain ⟨ha, rfl⟩ := Array.getElem?_eq_some_iff.mp hc
    have q := List.all_eq_true.mp ((Array.all_eq_true_iff_forall_mem.mp hF) _ (Array.getElem_mem ha)) i (List.mem_range.mpr hi)
    simpa [Array.getElem?_eq_getElem hi] using q
  obtain ⟨i0, ei0⟩ := is_v g3
  obtain rfl : w0 = (.int i0) := Option.some.inj ei0
  obtain ⟨i1, ei1⟩ := is_v g5
  obtain rfl : w1 = (.int i1) := Option.some.inj ei1
  obtain ⟨i2, ei2⟩ := is_v g6
  obtain rfl : w2 = (.int i2) := Option.some.inj ei2
  obtain ⟨n, o, h1, h2, h3, _, L, rfl, ⟨rfl, N⟩, hq⟩ := rm0 l s _ hw tables_1 i0 i1 i2 s.heap s.heap.size (Nat.le_refl _)  p e ha hc hk s m _ below hf ((Spec.applies_iff_loose hf).mp happ).1 ⟨rfl, State.Warmed39.refl s, rfl⟩ trivial
  refine ⟨n, _, h1, h2, h3, hpost _ _ _ _ _ _ ⟨Cond.after_iff.mpr rfl, Cond.after_iff.mpr (eq_i res_at (Term.int_eval (1)) rfl), trivial⟩ ⟨hq.1, hq.2.1, (hq.2.2.sift fun y hy => Or.inr (N y hy)).mono (by decide) (by decide)⟩⟩
theorem main_1_1 : Claimed_1_1 := comes_1 fun _ _ _ _ _ _ h hF => ⟨h.1, hF⟩
theorem main_1_2 : Claimed_1_2 := comes_1 fun _ _ _ _ _ _ h hF => ⟨h.2.1, hF⟩
end Jvm.Pilot.@@N@@
namespace Jvm.Pilot.@@N@@
open Jvm Jvm.ClassFile Sem Op Lib Jvm.Free Jvm.Stand Jvm.Pilot.@@N@@.Jvm.D
/-! MADE BY PROGRAM (witnessworld.py) out of the Statement's table words and the real class files: 9 classes; the members and pool entries that the words name. The judged class is class 1, her method 1. -/
namespace start1
open Jvm.ClassFile
def u (s : String) : CpInfo := .utf8 (stringToUtf16 s)
/-- a pool by its gaps: so many unusable entries, then the entry; so many at the end -/
def gap : Nat → List CpInfo → List CpInfo
  | 0, r => r
  | n + 1, r => .unusable :: gap n r
def poolList (es : List (Nat × CpInfo)) (last : Nat) : List CpInfo := es.foldr (fun e r => gap e.1 (e.2 :: r)) (gap last [])
def pool (es : List (Nat × CpInfo)) (last : Nat) : Array CpInfo := ⟨poolList es last⟩
def fileOf (pool : Array CpInfo) (this : Nat) (attrs : Array Attribute := #[]) (ms : Array MethodInfo := #[]) (fl : Nat := 33) (sup : Nat := 0) (ifs : Array Nat := #[]) (fds : Array FieldInfo := #[]) : ClassFile where
  minorVersion := 0
  majorVersion := 65
  constantPool := pool
  accessFlags := fl
  thisClass := this
  superClass := sup
  interfaces := ifs
  fields := fds
  methods := ms
  attributes := attrs
def plain (name : String) (sup : Option ClassId) : Class where
  name := name
  kind := .ordinary
  loader := none
  accessFlags := 33
  super := sup
  interfaces := #[]
  cf := none
  fields := #[]
  methods := #[]
  instanceTypes := #[]
  staticTypes := #[]
  resolved := #[]
  callSites := []
  init := .initialized
  statics := none
  mirror := none

def pool0 : Array CpInfo := pool [(5, u "<init>"), (0, u "()V"), (1, .class_ 10), (1, u "java/lang/Object")] 113

def k0m0 : Method := { name := "<init>", desc := "()V", sig := { parameters := [], returnType := none }, accessFlags := 1, code := none }
/-- java/lang/Object -/
def k0 : Class := { plain "java/lang/Object" none with
  accessFlags := 33
  interfaces := #[]
  cf := some (fileOf pool0 8 #[] #[{ accessFlags := 1, nameIndex := 5, descriptorIndex := 6, attributes := #[] }] 33 0 #[] #[])
  fields := #[]
  methods := #[k0m0]
  instanceTypes := #[]
  staticTypes := #[]
  resolved := Array.replicate 124 none
  statics := none }

def pool1 : Array CpInfo := pool [(2, .class_ 4), (1, u "java/lang/Object"), (0, u "<init>"), (0, u "()V"), (0, .integer 55295), (0, .integer 63744), (0, .integer 64975), (0, .integer 65008), (0, .integer 65533), (0, .integer 65536), (0, .integer 983039), (2, .integer 2147483647), (0, .integer 2147483648), (0, .methodref 19 20), (0, .class_ 21), (0, .nameAndType 22 23), (0, u "com/example/solmap/solmap/rdf/TermSyntax"), (0, u "isPnCharsBase"), (0, u "(I)Z"), (0, .methodref 25 26), (0, .class_ 27), (0, .nameAndType 28 23), (0, u "com/example/solmap/solmap/rdf/TermSyntaxIsPnCharsBasePinLaw"), (0, u "ref"), (0, .methodref 25 30), (0, .nameAndType 31 32), (0, u "in"), (0, u "(III)Z"), (0, .integer 55296), (0, .integer 63743), (0, .integer 64976), (0, .integer 65007), (0, .integer 65534), (0, .integer 65535), (2, u "law")] 5

def k1m0 : Method := { name := "<init>", desc := "()V", sig := { parameters := [], returnType := none }, accessFlags := 2, code := none }
def k1c1 : Code := { maxStack := 4, maxLocals := 5, code := code, exceptionTable := #[], attributes := #[] }
def k1m1 : Method := { name := "law", desc := "(III)Z", sig := { parameters := [.int, .int, .int], returnType := some .boolean }, accessFlags := 9, code := some k1c1 }
def k1c2 : Code := { maxStack := 2, maxLocals := 3, code := method_3_code, exceptionTable := #[], attributes := #[] }
def k1m2 : Method := { name := "in", desc := "(III)Z", sig := { parameters := [.int, .int, .int], returnType := some .boolean }, accessFlags := 10, code := some k1c2 }
def k1c3 : Code := { maxStack := 3, maxLocals := 1, code := method_4_code, exceptionTable := #[], attributes := #[] }
def k1m3 : Method := { name := "ref", desc := "(I)Z", sig := { parameters := [.int], returnType := some .boolean }, accessFlags := 10, code := some k1c3 }
/-- com/example/solmap/solmap/rdf/TermSyntaxIsPnCharsBasePinLaw -/
def k1 : Class := { plain "com/example/solmap/solmap/rdf/TermSyntaxIsPnCharsBasePinLaw" (some 0) with
  accessFlags := 49
  interfaces := #[]
  cf := some (fileOf pool1 25 #[] #[{ accessFlags := 2, nameIndex := 5, descriptorIndex := 6, attributes := #[] }, { accessFlags := 9, nameIndex := 41, descriptorIndex := 32, attributes := #[] }, { accessFlags := 10, nameIndex := 31, descriptorIndex := 32, attributes := #[] }, { accessFlags := 10, nameIndex := 28, descriptorIndex := 23, attributes := #[] }] 49 2 #[] #[])
  fields := #[]
  methods := #[k1m0, k1m1, k1m2, k1m3]
  instanceTypes := #[]
  staticTypes := #[]
  resolved := Array.replicate 47 none
  statics := none }

def pool2 : Array CpInfo := pool [(2, .class_ 4), (1, u "java/lang/Object"), (0, u "<init>"), (0, u "()V"), (12, u "(I)Z"), (11, .class_ 33), (1, u "com/example/solmap/solmap/rdf/TermSyntax"), (101, u "isPnCharsBase"), (41, .integer 55295), (0, .integer 63744), (0, .integer 64975), (0, .integer 65008), (0, .integer 65533), (0, .integer 65536), (0, .integer 983039)] 54

def k2m0 : Method := { name := "<init>", desc := "()V", sig := { parameters := [], returnType := none }, accessFlags := 2, code := none }
def k2c1 : Code := { maxStack := 2, maxLocals := 1, code := prog_52_method_22_code, exceptionTable := #[], attributes := #[] }
def k2m1 : Method := { name := "isPnCharsBase", desc := "(I)Z", sig := { parameters := [.int], returnType := some .boolean }, accessFlags := 9, code := some k2c1 }
/-- com/example/solmap/solmap/rdf/TermSyntax -/
def k2 : Class := { plain "com/example/solmap/solmap/rdf/TermSyntax" (some 0) with
  accessFlags := 49
  interfaces := #[]
  cf := some (fileOf pool2 31 #[] #[{ accessFlags := 2, nameIndex := 5, descriptorIndex := 6, attributes := #[] }, { accessFlags := 9, nameIndex := 135, descriptorIndex := 19, attributes := #[] }] 49 2 #[] #[])
  fields := #[]
  methods := #[k2m0, k2m1]
  instanceTypes := #[]
  staticTypes := #[]
  resolved := Array.replicate 238 none
  statics := none }

def pool3 : Array CpInfo := pool [(1, u "java/lang/Cloneable"), (0, .class_ 1), (0, u "java/lang/Object"), (0, .class_ 3)] 3

/-- java/lang/Cloneable -/
def k3 : Class := { plain "java/lang/Cloneable" (some 0) with
  accessFlags := 1537
  interfaces := #[]
  cf := some (fileOf pool3 2 #[] #[] 1537 4 #[] #[])
  fields := #[]
  methods := #[]
  instanceTypes := #[]
  staticTypes := #[]
  resolved := Array.replicate 8 none
  statics := none }

def pool4 : Array CpInfo := pool [(1, u "java/io/Serializable"), (0, .class_ 1), (0, u "java/lang/Object"), (0, .class_ 3)] 3

/-- java/io/Serializable -/
def k4 : Class := { plain "java/io/Serializable" (some 0) with
  accessFlags := 1537
  interfaces := #[]
  cf := some (fileOf pool4 2 #[] #[] 1537 4 #[] #[])
  fields := #[]
  methods := #[]
  instanceTypes := #[]
  staticTypes := #[]
  resolved := Array.replicate 8 none
  statics := none }

/-- the primitive byte -/
def k5 : Class := { plain "byte" none with kind := .primitive 'B', accessFlags := 0x411 }
/-- [B -/
def k6 : Class := { plain "[B" (some 0) with kind := .array 5 .byte, interfaces := #[3, 4], accessFlags := 1041 }

/-- the primitive int -/
def k7 : Class := { plain "int" none with kind := .primitive 'I', accessFlags := 0x411 }
/-- [I -/
def k8 : Class := { plain "[I" (some 0) with kind := .array 7 .int, interfaces := #[3, 4], accessFlags := 1041 }

def heap : Heap := #[]
def classes : Array Class := #[k0, k1, k2, k3, k4, k5, k6, k7, k8]
def interned : List (Array UInt16 × Addr) := []
def slotsUsed : Nat := 0
def theMethod : MethodId := ⟨1, 1⟩
def args0 : Array Value := #[.int 5, .int 9, .int 3]
def aboutOver (below : List Frame) : State where
  vm := { classes := classes, interned := interned.toArray }
  heap := heap
  slotsUsed := slotsUsed
  threads := #[{ frames := .invoking theMethod args0 :: below }]
def below0 : List Frame := [.native { method := ⟨0, 0⟩, args := #[] }]
def about1 : State := aboutOver below0
def p0 : Program := .bare "" "" ""
def e0 : Env := launch0.env 0 0 0
theorem w_frames : about1.frames = Frame.invoking theMethod args0 :: below0 := rfl
set_option maxRecDepth 65536 in
theorem w_args : argsFit about1.vm theMethod args0 = true := by decide +kernel
set_option maxRecDepth 65536 in
theorem w_heap : heapFits about1 = true := by decide +kernel
set_option maxRecDepth 65536 in
theorem w_runnable : about1.curStatus? = some .runnable := by decide +kernel
set_option maxRecDepth 65536 in
theorem w_alone : about1.alone = true := by decide +kernel
set_option maxRecDepth 65536 in
theorem w_named : about1.methodNamed? x = some theMethod := by decide +kernel
set_option maxRecDepth 65536 in
theorem w_hears : about1.hears theMethod below0 = true := by decide +kernel
set_option maxRecDepth 65536 in
theorem w_ripe : about1.ripe theMethod args0 below0 = true := by decide +kernel
theorem w_running : about1.status = .running := rfl
set_option maxRecDepth 65536 in
theorem w_room : about1.hasRoom e0.platform room_1 = true :=
  launch0.hasRoom_least _ room_1 (by decide +kernel) (by decide +kernel) (by decide +kernel) (by decide +kernel) (by decide +kernel) (by decide +kernel)
theorem allAtoms_all (ts : List Jvm.Cond) (a : Array Jvm.Value) (st : Jvm.State) : (allAtoms ts).before a st = ts.all (fun c => c.before a st) := by
  induction ts with
  | nil => rfl
  | cons c t ih =>
    show (Jvm.Cond.and c (allAtoms t)).before a st = _
    rw [Jvm.Cond.before_and, ih, List.all_cons]
def words1 : List Jvm.Cond := Jvm.Cond.code x code maxLocals ret :: tables_1
/-- a 'code' word, met by the world's own term for the bytes: nothing is compared byte by byte -/
theorem code_word {y : MethodName} {bytes : ByteArray} {mx : Nat} {rt : Option FieldType} {a : Array Value} {s : State} {m : MethodId} {meth : Method} {c : Code} (h1 : s.methodNamed? y = some m) (h2 : s.vm.method? m = some meth) (h3 : meth.code = some c) (h4 : c.code = bytes)
    (h5 : (c.maxLocals == mx && c.exceptionTable.isEmpty && decide (c.maxStack ≤ mostOperands) && decide (meth.sig.returnType = rt) && !meth.locks && decide (parseMethodDescriptor y.desc = some meth.sig)) = true) : (Jvm.Cond.code y bytes mx rt).before a s = true := by
  simp only [Bool.and_eq_true, beq_iff_eq, Bool.not_eq_true', decide_eq_true_eq] at h5
  obtain ⟨⟨⟨⟨⟨g1, g2⟩, g3⟩, g4⟩, g5⟩, g6⟩ := h5
  simp [Cond.before, Cond.holds, Cond.value, h1, h2, h3, h4, g1, g2, g3, g4, g5, g6]
def isCode : Jvm.Cond → Bool
  | .code _ _ _ _ => true
  | _ => false
theorem all_split {L : List Jvm.Cond} {P : Jvm.Cond → Bool} (h1 : L.all (fun c => isCode c || P c) = true) (h2 : ∀ c ∈ L.filter isCode, P c = true) : L.all P = true := by
  refine List.all_eq_true.mpr fun c hc => ?_
  have h := List.all_eq_true.mp h1 c hc
  rcases Bool.eq_false_or_eq_true (isCode c) with hi | hi
  · exact h2 c (List.mem_filter.mpr ⟨hc, hi⟩)
  · simpa [hi] using h
set_option maxRecDepth 65536 in
theorem w_c0 : (Jvm.Cond.code x code maxLocals ret).before args0 about1 = true := code_word (m := ⟨1, 1⟩) (meth := k1m1) (c := k1c1) (by decide +kernel) rfl rfl rfl (by decide +kernel)
set_option maxRecDepth 65536 in
theorem w_c1 : (Jvm.Cond.code ({ cls := "com/example/solmap/solmap/rdf/TermSyntax", name := "isPnCharsBase", desc := "(I)Z" } : Jvm.MethodName) prog_52_method_22_code (1 : Nat) (Option.some Jvm.ClassFile.FieldType.boolean)).before args0 about1 = true := code_word (m := ⟨2, 1⟩) (meth := k2m1) (c := k2c1) (by decide +kernel) rfl rfl rfl (by decide +kernel)
set_option maxRecDepth 65536 in
theorem w_c2 : (Jvm.Cond.code ({ cls := "com/example/solmap/solmap/rdf/TermSyntaxIsPnCharsBasePinLaw", name := "ref", desc := "(I)Z" } : Jvm.MethodName) method_4_code (1 : Nat) (Option.some Jvm.ClassFile.FieldType.boolean)).before args0 about1 = true := code_word (m := ⟨1, 3⟩) (meth := k1m3) (c := k1c3) (by decide +kernel) rfl rfl rfl (by decide +kernel)
set_option maxRecDepth 65536 in
theorem w_c3 : (Jvm.Cond.code ({ cls := "com/example/solmap/solmap/rdf/TermSyntaxIsPnCharsBasePinLaw", name := "in", desc := "(III)Z" } : Jvm.MethodName) method_3_code (3 : Nat) (Option.some Jvm.ClassFile.FieldType.boolean)).before args0 about1 = true := code_word (m := ⟨1, 2⟩) (meth := k1m2) (c := k1c2) (by decide +kernel) rfl rfl rfl (by decide +kernel)
def codes1 : List Jvm.Cond := [Jvm.Cond.code x code maxLocals ret, Jvm.Cond.code ({ cls := "com/example/solmap/solmap/rdf/TermSyntax", name := "isPnCharsBase", desc := "(I)Z" } : Jvm.MethodName) prog_52_method_22_code (1 : Nat) (Option.some Jvm.ClassFile.FieldType.boolean), Jvm.Cond.code ({ cls := "com/example/solmap/solmap/rdf/TermSyntaxIsPnCharsBasePinLaw", name := "ref", desc := "(I)Z" } : Jvm.MethodName) method_4_code (1 : Nat) (Option.some Jvm.ClassFile.FieldType.boolean), Jvm.Cond.code ({ cls := "com/example/solmap/solmap/rdf/TermSyntaxIsPnCharsBasePinLaw", name := "in", desc := "(III)Z" } : Jvm.MethodName) method_3_code (3 : Nat) (Option.some Jvm.ClassFile.FieldType.boolean)]
set_option maxRecDepth 65536 in
theorem codes_eq : words1.filter isCode = codes1 := rfl
theorem w_codes : ∀ c ∈ words1.filter isCode, c.before args0 about1 = true := by
  rw [codes_eq]
  intro c hc
  simp only [codes1, List.mem_cons, List.not_mem_nil, or_false] at hc
  rcases hc with rfl | rfl | rfl | rfl
  · exact w_c0
  · exact w_c1
  · exact w_c2
  · exact w_c3
set_option maxRecDepth 65536 in
theorem w_t1 : (words1.take 24).all (fun c => isCode c || c.before args0 about1) = true := by decide +kernel
set_option maxRecDepth 65536 in
theorem w_t2 : (words1.drop 24).all (fun c => isCode c || c.before args0 about1) = true := by decide +kernel
theorem w_tables : (allAtoms (Jvm.Cond.code x code maxLocals ret :: tables_1)).before args0 about1 = true := by
  rw [allAtoms_all]
  show words1.all (fun c => c.before args0 about1) = true
  refine all_split ?_ w_codes
  rw [← List.take_append_drop 24 words1, List.all_append, w_t1, w_t2]
  rfl
set_option maxRecDepth 65536 in
theorem w_case : (Jvm.Cond.and given_1 narrow_1).before args0 about1 = true := by decide +kernel
theorem w_applies : (headSpec (Jvm.Cond.code x code maxLocals ret :: tables_1) room_1).applies x e0.platform about1 = true :=
  (Spec.applies_iff w_frames).mpr ⟨w_running, w_runnable, w_alone, w_named, w_hears, w_ripe, w_room, w_tables⟩
theorem atStart : AtStart classFile x code maxLocals ret World_1 tables_1 room_1 Calls_1 rest_1 Pre_1 launch0 p0 e0 about1 theMethod args0 below0 :=
  ⟨lists_1, trivial, launch0.admits_env _ _ _, launch0.least_env, fairChoices_fair.cas, fairChoices_fair.clock, w_frames, w_args, w_heap, w_applies, trivial, trivial, w_case⟩
end start1
theorem witness_1 : WitnessClaimed_1 := ⟨start1.p0, start1.e0, start1.about1, start1.theMethod, start1.args0, start1.below0, start1.atStart⟩
end Jvm.Pilot.@@N@@
