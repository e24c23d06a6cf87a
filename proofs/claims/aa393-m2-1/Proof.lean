import JvmDerived
import JvmDerived.Pilot.@@N@@Statement
import JvmDerived.Pilot.@@N@@Code
set_option linter.unusedVariables false
set_option linter.unusedSimpArgs false
namespace Jvm.RoadKit
open Sem ClassFile Op Lib Jvm.Stand Jvm.Free Jvm.LawKit
section New
variable {p : Program} {l : Launch} {e : Env} {R : Room} {s : State} {m : MethodId} {args : Array Value} {below : List Frame} {meth : Method} {c : Code} {T : State} {locs : List Loc} {cells slots : Nat}
theorem retI (X : Stand p l e R s m args below meth c T locs cells slots) (hx : p.tables.exec = Jvm.exec) {pc : Nat} {Ls : Array Slot} {z : Int32} {rest : List Value} (hret : meth.sig.returnType = some .int) (hd : decode c.code pc = .ok (.ireturn, 1)) {fs : List Frame}
    (hl : ∀ (f : JFrame) (acts : List Action), f.method = m → f.locked = none → f.entered = [] → (doReturn e (T.setTop f) acts (some (.int z))).1 = T.setFrames fs) : Steps p.tables e below (T.setTop (mkF m pc Ls (.int z :: rest))) (T.setFrames fs) := by
  have hm' : T.vm.method? m = some meth := X.method'
  have hn : narrow .int (.int z) = .int z := rfl
  show Steps p.tables e below (T.setTop { method := m, pc := pc, locals := Ls, stack := _ :: rest, locked := none }) _
  jvm_step X.here [X.here.top, hx, hd, hm', hret, hn]
  first | (intro acts; rw [hl _ acts rfl rfl rfl]) | rw [hl _ _ rfl rfl rfl]
  exact Steps.refl _
end New
/-- the run from the state A ends as asked: what is left of the goal while one walks -/
def own_End (p : Program) (e : Env) (below : List Frame) (s A : State) (W : Option Value → Heap → List Loc → Prop) (k n : Nat) : Prop :=
  ∃ s₂ o, Steps p.tables e below A s₂ ∧ s₂.status = .running ∧ Ended s₂ below o ∧ ∃ v L, o = .returned v ∧ W v s₂.heap L ∧ FrameEnd s o s₂ L k n
theorem own_pre {p : Program} {e : Env} {below : List Frame} {s A B : State} {W : Option Value → Heap → List Loc → Prop} {k n : Nat} (f : ∀ t, Steps p.tables e below A t → Steps p.tables e below B t) (h : own_End p e below s A W k n) : own_End p e below s B W k n := by
  obtain ⟨s₂, o, h1, h2⟩ := h; exact ⟨s₂, o, f _ h1, h2⟩
end Jvm.RoadKit
namespace Jvm.RoadKit
open Sem ClassFile Op Lib Jvm.Stand Jvm.Free Jvm.LawKit
/-- an array of n places, the i-th of which holds f i -/
def own_Arr (Z : State) (h : Heap) (a : Addr) (ty : FieldType) (n : Int32) (f : Nat → Value) : Prop := ∃ c : Cell, Arr Z h a c ty ∧ c.slots.size = n.toNatClampNeg ∧ ¬ n < 0 ∧ ∀ i, i < n.toNatClampNeg → c.slots[i]? = some (f i)
section Arrays
variable {Z : State} {h h' : Heap} {a b : Addr} {ty : FieldType} {n j : Int32} {f f' : Nat → Value} {sl : Nat} {v : Value} {ws : List Addr}
theorem own_Arr.lt (F : own_Arr Z h a ty n f) : a < h.size := by obtain ⟨c, A, -⟩ := F; exact A.lt
theorem own_Arr.ext (F : own_Arr Z h a ty n f) (E : Ext h h') : own_Arr Z h' a ty n f := by obtain ⟨c, A, r⟩ := F; exact ⟨c, A.ext E, r⟩
theorem own_Arr.other (F : own_Arr Z h b ty n f) (W : Wr h h' a sl v) (q : b ≠ a) : own_Arr Z h' b ty n f := by obtain ⟨c, A, r⟩ := F; exact ⟨c, A.other W q, r⟩
theorem own_Arr.keep (F : own_Arr Z h a ty n f) (K : Keep h h' ws) (q : a ∉ ws) : own_Arr Z h' a ty n f := by obtain ⟨c, A, r⟩ := F; exact ⟨c, ⟨K.2.1 a c A.1 q, A.2⟩, r⟩
theorem own_Arr.new {k : ClassId} (A : Arr Z h a (newA k ty n) ty) (q : ¬ n < 0) (hf : ∀ i, f i = defaultValue ty) : own_Arr Z h a ty n f :=
  ⟨_, A, sz_new _ _ _, q, fun i hi => by rw [hf]; simp [newA, hi]⟩
theorem own_Arr.set {α : Type} (w : α → Value) {g g' : Nat → α} {x : α} {q : Nat} (F : own_Arr Z h a ty n (fun i => w (g i))) (W : Wr h h' a j.toNatClampNeg (w x)) (hj : j.toNatClampNeg = q) (hg : ∀ i, g' i = if i = q then x else g i) : own_Arr Z h' a ty n (fun i => w (g' i)) := by
  obtain ⟨c, A, r1, r2, r3⟩ := F
  subst hj
  refine ⟨_, A.same W, by rw [sz_set]; exact r1, r2, fun i hi => ?_⟩
  show _ = some (w (g' i))
  rw [hg]
  by_cases e : i = j.toNatClampNeg
  · subst e
    rw [if_pos rfl]; simp [Cell.setSlot, r1, hi]
  · rw [if_neg e]
    rw [← r3 i hi]; exact Array.getElem?_setIfInBounds_ne (Ne.symm e)
theorem own_Arr.congr {α : Type} (w : α → Value) {g g' : Nat → α} (F : own_Arr Z h a ty n (fun i => w (g i))) (hg : ∀ i, i < n.toNatClampNeg → g' i = g i) : own_Arr Z h a ty n (fun i => w (g' i)) := by
  obtain ⟨c, A, r1, r2, r3⟩ := F
  exact ⟨c, A, r1, r2, fun i hi => by show _ = some (w (g' i)); rw [hg i hi]; exact r3 i hi⟩
theorem own_at {c : Cell} (S : c.slots.size = n.toNatClampNeg) (G : ∀ i, i < n.toNatClampNeg → c.slots[i]? = some (f i)) (hj : ¬ (j < 0 ∨ c.slots.size ≤ j.toNatClampNeg)) : c.slots[j.toNatClampNeg]? = some (f j.toNatClampNeg) := G _ (by rw [← S]; exact Nat.lt_of_not_le fun y => hj (Or.inr y))
theorem own_nn {n : Int32} (h : ¬ n < 0) : 0 ≤ n.toInt ∧ n.toInt = n.toNatClampNeg := by
  have e := nat_of h
  exact ⟨by omega, e⟩
theorem own_Arr.nn (F : own_Arr Z h a ty n f) : 0 ≤ n.toInt ∧ n.toInt = n.toNatClampNeg := by obtain ⟨c, A, r1, r2, r3⟩ := F; exact own_nn r2
theorem own_ge0 {i : Int32} (h : 0 ≤ i.toInt) : ¬ i < 0 := fun q => by
  have := Int32.lt_iff_toInt_lt.mp q
  have z : (0 : Int32).toInt = 0 := by decide
  omega
theorem own_inb {i n : Int32} (h0 : 0 ≤ i.toInt) (h : i < n) : ¬ i < 0 ∧ i < n := ⟨own_ge0 h0, h⟩
theorem own_inb2 {i n : Int32} (h0 : 0 ≤ i.toInt) (h : i.toInt < n.toInt) : ¬ i < 0 ∧ i < n := ⟨own_ge0 h0, Int32.lt_iff_toInt_lt.mpr h⟩
theorem own_next {i n : Int32} (h0 : 0 ≤ i.toInt) (h : i < n) : (i + 1).toInt = i.toInt + 1 ∧ i.toInt < n.toInt := by
  have q := Int32.lt_iff_toInt_lt.mp h
  have a := c_iadd i 1
  have z : (1 : Int32).toInt = 1 := by decide
  have r1 := rng32 (i + 1)
  have r2 := rng32 n
  omega
end Arrays
end Jvm.RoadKit
namespace Jvm.Pilot.@@N@@
open Jvm Jvm.ClassFile Sem Op Lib Jvm.Free Jvm.Stand Jvm.LawKit Jvm.RoadKit Bundle Jvm.Pilot.@@N@@.Jvm.D
def own_Obj0 (Z : State) (h : Heap) (a : Addr) (v0 : Int32) (v2 : Int32) (v7 : Int32) (v8 : Int32) : Prop := Exa Z h a "com/example/libfacet/libfacet/regex/StateSet" ∧ Fld Z h a "com/example/libfacet/libfacet/regex/StateSet" "stamp" "I" (.int v0) ∧ Fld Z h a "com/example/libfacet/libfacet/regex/StateSet" "stack" "[I" .null ∧ Fld Z h a "com/example/libfacet/libfacet/regex/StateSet" "instructions" "I" (.int v2) ∧ Fld Z h a "com/example/libfacet/libfacet/regex/StateSet" "members" "[I" .null ∧ Fld Z h a "com/example/libfacet/libfacet/regex/StateSet" "marks" "[C" .null ∧ Fld Z h a "com/example/libfacet/libfacet/regex/StateSet" "markBits" "[J" .null ∧ Fld Z h a "com/example/libfacet/libfacet/regex/StateSet" "marked" "[I" .null ∧ Fld Z h a "com/example/libfacet/libfacet/regex/StateSet" "markedCount" "I" (.int v7) ∧ Fld Z h a "com/example/libfacet/libfacet/regex/StateSet" "size" "I" (.int v8)
def own_ObjN (Z : State) (h : Heap) (a : Addr) (v0 : Int32) (v1 : Addr) (v4 : Int32) (v5 : Int32) : Prop := Exa Z h a "com/example/libfacet/libfacet/regex/StateSet" ∧ Fld Z h a "com/example/libfacet/libfacet/regex/StateSet" "stamp" "I" (.int v0) ∧ Fld Z h a "com/example/libfacet/libfacet/regex/StateSet" "marks" "[C" (.ref v1) ∧ Fld Z h a "com/example/libfacet/libfacet/regex/StateSet" "markBits" "[J" .null ∧ Fld Z h a "com/example/libfacet/libfacet/regex/StateSet" "marked" "[I" .null ∧ Fld Z h a "com/example/libfacet/libfacet/regex/StateSet" "markedCount" "I" (.int v4) ∧ Fld Z h a "com/example/libfacet/libfacet/regex/StateSet" "size" "I" (.int v5)
def own_ObjL (Z : State) (h : Heap) (a : Addr) (v0 : Addr) (v1 : Addr) (v2 : Int32) (v3 : Int32) : Prop := Exa Z h a "com/example/libfacet/libfacet/regex/StateSet" ∧ Fld Z h a "com/example/libfacet/libfacet/regex/StateSet" "markBits" "[J" (.ref v0) ∧ Fld Z h a "com/example/libfacet/libfacet/regex/StateSet" "marked" "[I" (.ref v1) ∧ Fld Z h a "com/example/libfacet/libfacet/regex/StateSet" "markedCount" "I" (.int v2) ∧ Fld Z h a "com/example/libfacet/libfacet/regex/StateSet" "size" "I" (.int v3)
def own_put (g : Nat → Int32) (j x : Int32) : Nat → Int32 := fun i => if i = j.toNatClampNeg then x else g i
def own_ch (x : Int32) : Int32 := nar .char (x.toUInt32.toUInt16.toUInt32.toInt32)
def own_orb (g : Nat → Int64) (x : Int32) : Nat → Int64 := fun i => if i = ((x.toUInt32 >>> ((6 : Int32) &&& 31).toUInt32).toInt32).toNatClampNeg then ((g ((x.toUInt32 >>> ((6 : Int32) &&& 31).toUInt32).toInt32).toNatClampNeg) ||| ((1 : Int64) <<< (x &&& 0x3f).toInt64)) else g i
def own_zero (g : Nat → Int64) (x : Int32) : Nat → Int64 := fun i => if i = ((x.toUInt32 >>> ((6 : Int32) &&& 31).toUInt32).toInt32).toNatClampNeg then (0 : Int64) else g i
theorem own_lt16 {v : Int32} (h : v.toInt < 16) : ¬ v = (16 : Int32) := fun q => by subst q; exact absurd h (by decide)
theorem own_zand (x : Int64) : (0 : Int64) &&& x = 0 := Int64.zero_and
theorem own_cap {n : Int32} {k : Nat} (h : n.toInt ≤ k) : n.toNatClampNeg ≤ k := by
  show n.toInt.toNat ≤ k
  omega
theorem own_six (x : Int32) : ((x.toUInt32 >>> ((6 : Int32) &&& 31).toUInt32).toInt32).toInt = (x.toInt % 4294967296) / (2 ^ 6 : Nat) := c_iushr x 6 6 (by decide) (by decide)
theorem own_words {n : Int32} (h0 : 1 ≤ n.toInt) (h1 : n.toInt ≤ 256) : 0 ≤ (((n + (63 : Int32)).toUInt32 >>> ((6 : Int32) &&& 31).toUInt32).toInt32).toInt ∧ (((n + (63 : Int32)).toUInt32 >>> ((6 : Int32) &&& 31).toUInt32).toInt32).toInt ≤ 4 := by
  have z : (63 : Int32).toInt = 63 := by decide
  have a := c_iadd n 63
  have r := rng32 (n + 63)
  have s := own_six (n + 63)
  omega
theorem own_wd {n x : Int32} (h0 : 1 ≤ n.toInt) (h1 : n.toInt ≤ 256) (hx0 : 0 ≤ x.toInt) (hx1 : x.toInt < n.toInt) : ¬ ((x.toUInt32 >>> ((6 : Int32) &&& 31).toUInt32).toInt32) < 0 ∧ ((x.toUInt32 >>> ((6 : Int32) &&& 31).toUInt32).toInt32) < (((n + (63 : Int32)).toUInt32 >>> ((6 : Int32) &&& 31).toUInt32).toInt32) := by
  have z : (63 : Int32).toInt = 63 := by decide
  have a := c_iadd n 63
  have r := rng32 (n + 63)
  have s := own_six (n + 63)
  have s2 := own_six x
  exact own_inb2 (by omega) (by omega)
theorem own_n (x : Int32) : 1 ≤ ((1 : Int32) + (x &&& (255 : Int32))).toInt ∧ ((1 : Int32) + (x &&& (255 : Int32))).toInt ≤ 256 := by
  have e1 : (x &&& (255 : Int32)).toInt = x.toInt % (2 ^ 8 : Nat) := c_mask x 255 8 (by decide) (by decide)
  have z : (1 : Int32).toInt = 1 := by decide
  have a := c_iadd 1 (x &&& (255 : Int32))
  have r := rng32 (1 + (x &&& (255 : Int32)))
  omega
theorem own_nz {n : Int32} (h : 1 ≤ n.toInt) : ¬ n = (0 : Int32) := fun q => by subst q; exact absurd h (by decide)
theorem own_i (x n : Int32) (h : 1 ≤ n.toInt) : 0 ≤ ((x &&& (2147483647 : Int32)) % n).toInt ∧ ((x &&& (2147483647 : Int32)) % n).toInt < n.toInt := by
  have e1 : (x &&& (2147483647 : Int32)).toInt = x.toInt % (2 ^ 31 : Nat) := c_mask x 2147483647 31 (by decide) (by decide)
  have e2 := (c_iremV (x &&& (2147483647 : Int32)) n).1 (by omega) (by omega)
  omega
theorem d1N_0 : decode prog_95_method_2_code 0 = .ok (.aload_n 0, 1) := by decide +kernel
theorem d1N_1 : decode prog_95_method_2_code 1 = .ok (.invokespecial 7, 3) := by decide +kernel
theorem d1N_4 : decode prog_95_method_2_code 4 = .ok (.aload_n 0, 1) := by decide +kernel
theorem d1N_5 : decode prog_95_method_2_code 5 = .ok (.iconst 1, 1) := by decide +kernel
theorem d1N_6 : decode prog_95_method_2_code 6 = .ok (.putfield 12, 3) := by decide +kernel
theorem d1N_9 : decode prog_95_method_2_code 9 = .ok (.aload_n 0, 1) := by decide +kernel
theorem d1N_10 : decode prog_95_method_2_code 10 = .ok (.bipush 16, 2) := by decide +kernel
theorem d1N_12 : decode prog_95_method_2_code 12 = .ok (.newarray .int, 2) := by decide +kernel
theorem d1N_14 : decode prog_95_method_2_code 14 = .ok (.putfield 16, 3) := by decide +kernel
theorem d1N_17 : decode prog_95_method_2_code 17 = .ok (.aload_n 0, 1) := by decide +kernel
theorem d1N_18 : decode prog_95_method_2_code 18 = .ok (.iload_n 1, 1) := by decide +kernel
theorem d1N_19 : decode prog_95_method_2_code 19 = .ok (.putfield 20, 3) := by decide +kernel
theorem d1N_22 : decode prog_95_method_2_code 22 = .ok (.aload_n 0, 1) := by decide +kernel
theorem d1N_23 : decode prog_95_method_2_code 23 = .ok (.iload_n 2, 1) := by decide +kernel
theorem d1N_24 : decode prog_95_method_2_code 24 = .ok (.ifCond .eq 7, 3) := by decide +kernel
theorem d1N_31 : decode prog_95_method_2_code 31 = .ok (.bipush 16, 2) := by decide +kernel
theorem d1N_33 : decode prog_95_method_2_code 33 = .ok (.newarray .int, 2) := by decide +kernel
theorem d1N_35 : decode prog_95_method_2_code 35 = .ok (.putfield 23, 3) := by decide +kernel
theorem d1N_38 : decode prog_95_method_2_code 38 = .ok (.aload_n 0, 1) := by decide +kernel
theorem d1N_39 : decode prog_95_method_2_code 39 = .ok (.iload_n 2, 1) := by decide +kernel
theorem d1N_40 : decode prog_95_method_2_code 40 = .ok (.ifCond .eq 7, 3) := by decide +kernel
theorem d1N_47 : decode prog_95_method_2_code 47 = .ok (.iload_n 1, 1) := by decide +kernel
theorem d1N_48 : decode prog_95_method_2_code 48 = .ok (.newarray .char, 2) := by decide +kernel
theorem d1N_50 : decode prog_95_method_2_code 50 = .ok (.putfield 26, 3) := by decide +kernel
theorem d1N_53 : decode prog_95_method_2_code 53 = .ok (.aload_n 0, 1) := by decide +kernel
theorem d1N_54 : decode prog_95_method_2_code 54 = .ok (.iload_n 2, 1) := by decide +kernel
theorem d1N_55 : decode prog_95_method_2_code 55 = .ok (.ifCond .eq 15, 3) := by decide +kernel
theorem d1N_70 : decode prog_95_method_2_code 70 = .ok (.aconst_null, 1) := by decide +kernel
theorem d1N_71 : decode prog_95_method_2_code 71 = .ok (.putfield 30, 3) := by decide +kernel
theorem d1N_74 : decode prog_95_method_2_code 74 = .ok (.aload_n 0, 1) := by decide +kernel
theorem d1N_75 : decode prog_95_method_2_code 75 = .ok (.iload_n 2, 1) := by decide +kernel
theorem d1N_76 : decode prog_95_method_2_code 76 = .ok (.ifCond .eq 10, 3) := by decide +kernel
theorem d1N_86 : decode prog_95_method_2_code 86 = .ok (.aconst_null, 1) := by decide +kernel
theorem d1N_87 : decode prog_95_method_2_code 87 = .ok (.putfield 34, 3) := by decide +kernel
theorem d1N_90 : decode prog_95_method_2_code 90 = .ok (.return_, 1) := by decide +kernel
theorem pn_1N : plainName "com/example/libfacet/libfacet/regex/StateSet" = true := by first | (simp [plainName, overriddenIn]; done) | decide +kernel
theorem ef_1N (m : MethodId) (x0 : Addr) (x1 : Int32) (x2 : Int32) : entryFrame m #[(.ref x0), (.int x1), (.int x2)] 3 = mkF m 0 #[.val (.ref x0), .val (.int x1), .val (.int x2)] [] := by first | (simp [entryFrame, mkF, argsToLocals, Value.category]; done) | rfl
def Q1N (Z : State) (a1 : Addr) (p2 : Int32) (v1 : Int32) (v2 : Int32) (v3 : Int32) (v4 : Int32) (h0 : Heap) (n0 : Nat) (v : Option Value) (h : Heap) (L : List Loc) : Prop := v = none ∧ Fr n0 L ∧ (∃ ak : Addr, Keep h0 h [a1] ∧ own_ObjN Z h a1 (1 : Int32) ak v3 v4 ∧ h0.size ≤ ak ∧ own_Arr Z h ak .char p2 (fun i => Value.int ((fun _ => (0 : Int32)) i)))
set_option maxRecDepth 65536 in
set_option maxHeartbeats 40000000 in
theorem rm1N (l : Launch) (Z : State) (a0 : Array Value) (hw : ∀ d ∈ tables_1, d.before a0 Z = true) (ws : List Jvm.Cond) (a1 : Addr) (p2 : Int32) (v1 : Int32) (v2 : Int32) (v3 : Int32) (v4 : Int32) (h0 : Heap) (n0 : Nat) (Z0 : n0 ≤ h0.size) (O_a1 : own_Obj0 Z h0 a1 v1 v2 v3 v4) (g_a1 : n0 ≤ a1) (hn0 : 1 ≤ p2.toInt) (hn1 : p2.toInt ≤ 256) :
    MetFree l (⟨"com/example/libfacet/libfacet/regex/StateSet", "<init>", "(IZ)V"⟩ : MethodName) (head1 (Jvm.Cond.code (⟨"com/example/libfacet/libfacet/regex/StateSet", "<init>", "(IZ)V"⟩ : MethodName) prog_95_method_2_code 3 none :: ws) ({ frames := 1, cells := 3, slots := 288, locals := 12 } : Room)) (fun a U => a = #[(.ref a1), (.int p2), (.int (0 : Int32))] ∧ Z.Warmed39 U.vm ∧ U.heap = h0) (fun _ _ _ _ _ => True) (fun _ U o U' => ∃ v L, o = .returned v ∧ Q1N Z a1 p2 v1 v2 v3 v4 h0 n0 v U'.heap L ∧ FrameEnd U o U' L ({ frames := 1, cells := 3, slots := 288, locals := 12 } : Room).cells ({ frames := 1, cells := 3, slots := 288, locals := 12 } : Room).slots) := by
  refine MetFree.of_bodySF (plainFor_of_name pn_1N) hisR ?_
  intro p e s m args below meth c s₁ Bd hml0 hP hK
  obtain ⟨rfl, hZ, hh⟩ := hP
  have hx := Bd.exec
  have hby := Bd.bytes
  have hml : c.maxLocals = 3 := hml0
  have hown : s.vm.findClass "com/example/libfacet/libfacet/regex/StateSet" = some m.cls := findClass_of_methodNamed Bd.named
  have hnm := (name_of_methodNamed Bd.named Bd.method).1
  have X0 : Stand p l e ({ frames := 1, cells := 3, slots := 288, locals := 12 } : Room) s m #[(.ref a1), (.int p2), (.int (0 : Int32))] below meth c s₁ [] 0 0 := Stand.of_body Bd
  have e0 : s₁.heap = h0 := by rw [← hh, Bd.state]; rfl
  have N0 := Fr.nil n0
  show own_End p e below s (s₁.setTop (entryFrame m #[(.ref a1), (.int p2), (.int (0 : Int32))] 3)) (Q1N Z a1 p2 v1 v2 v3 v4 h0 n0) ({ frames := 1, cells := 3, slots := 288, locals := 12 } : Room).cells ({ frames := 1, cells := 3, slots := 288, locals := 12 } : Room).slots
  obtain ⟨E_a1_1, F_stamp_a1_2, F_stack_a1_3, F_instructions_a1_4, F_members_a1_5, F_marks_a1_6, F_markBits_a1_7, F_marked_a1_8, F_markedCount_a1_9, F_size_a1_10⟩ := O_a1
  refine own_pre (A := s₁.setTop (mkF m 0 #[.val (.ref a1), .val (.int p2), .val (.int (0 : Int32))] [])) (fun tt kt => castTop (ef_1N m a1 p2 (0 : Int32)) kt) ?_
  show own_End p e below s (s₁.setTop (mkF m 0 #[.val (.ref a1), .val (.int p2), .val (.int (0 : Int32))] [])) (Q1N Z a1 p2 v1 v2 v3 v4 h0 n0) ({ frames := 1, cells := 3, slots := 288, locals := 12 } : Room).cells ({ frames := 1, cells := 3, slots := 288, locals := 12 } : Room).slots
  obtain ⟨T11, X11, e11, st11⟩ := initO X0 hx hZ hown (hw _ (List.mem_of_getElem? (i := 7) rfl)) (hw _ (List.mem_of_getElem? (i := 8) rfl)) (hw _ (List.mem_of_getElem? (i := 9) rfl)) e0 (g := (mkF m 1 #[.val (.ref a1), .val (.int p2), .val (.int (0 : Int32))] [(.ref a1)])) rfl (by rw [hml]; rfl) rfl (hb hby d1N_1) (by decide) (W := 0) (by show 2 * 0 + _ ≤ _; exact Nat.le_of_eq rfl) (by decide)
  obtain ⟨T12, h12, X12, e12, W12, st12⟩ := putF X11 hx hZ hown (host := "") (Or.inl (hw _ (List.mem_of_getElem? (i := 10) rfl))) Via.refl e11 F_stamp_a1_2 E_a1_1 (Or.inl (hw _ (List.mem_of_getElem? (i := 11) rfl))) (hw _ (List.mem_of_getElem? (i := 2) rfl)) (ty := .int) (by decide) rfl rfl (g := (mkF m 6 #[.val (.ref a1), .val (.int p2), .val (.int (0 : Int32))] [(.int (1 : Int32)), (.ref a1)])) rfl rfl (hb hby d1N_6)
  have Fw12 := Fld.same W12 F_stamp_a1_2
  have fE_a1_x12 := (E_a1_1.wr W12)
  have fF_a1_stack_x12 := (Fld.other W12 F_stack_a1_3 (Or.inr (slot_ne (Or.inl (hw _ (List.mem_of_getElem? (i := 14) rfl))) (Or.inl (hw _ (List.mem_of_getElem? (i := 11) rfl))) (by decide) (t := (.array .int)) (t' := .int) (by decide) (by decide))))
  have fF_a1_instructions_x12 := (Fld.other W12 F_instructions_a1_4 (Or.inr (slot_ne (Or.inr (hw _ (List.mem_of_getElem? (i := 16) rfl))) (Or.inl (hw _ (List.mem_of_getElem? (i := 11) rfl))) (by decide) (t := .int) (t' := .int) (by decide) (by decide))))
  have fF_a1_members_x12 := (Fld.other W12 F_members_a1_5 (Or.inr (slot_ne (Or.inl (hw _ (List.mem_of_getElem? (i := 18) rfl))) (Or.inl (hw _ (List.mem_of_getElem? (i := 11) rfl))) (by decide) (t := (.array .int)) (t' := .int) (by decide) (by decide))))
  have fF_a1_marks_x12 := (Fld.other W12 F_marks_a1_6 (Or.inr (slot_ne (Or.inr (hw _ (List.mem_of_getElem? (i := 20) rfl))) (Or.inl (hw _ (List.mem_of_getElem? (i := 11) rfl))) (by decide) (t := (.array .char)) (t' := .int) (by decide) (by decide))))
  have fF_a1_markBits_x12 := (Fld.other W12 F_markBits_a1_7 (Or.inr (slot_ne (Or.inr (hw _ (List.mem_of_getElem? (i := 23) rfl))) (Or.inl (hw _ (List.mem_of_getElem? (i := 11) rfl))) (by decide) (t := (.array .long)) (t' := .int) (by decide) (by decide))))
  have fF_a1_marked_x12 := (Fld.other W12 F_marked_a1_8 (Or.inr (slot_ne (Or.inl (hw _ (List.mem_of_getElem? (i := 25) rfl))) (Or.inl (hw _ (List.mem_of_getElem? (i := 11) rfl))) (by decide) (t := (.array .int)) (t' := .int) (by decide) (by decide))))
  have fF_a1_markedCount_x12 := (Fld.other W12 F_markedCount_a1_9 (Or.inr (slot_ne (Or.inl (hw _ (List.mem_of_getElem? (i := 37) rfl))) (Or.inl (hw _ (List.mem_of_getElem? (i := 11) rfl))) (by decide) (t := .int) (t' := .int) (by decide) (by decide))))
  have fF_a1_size_x12 := (Fld.other W12 F_size_a1_10 (Or.inr (slot_ne (Or.inl (hw _ (List.mem_of_getElem? (i := 44) rfl))) (Or.inl (hw _ (List.mem_of_getElem? (i := 11) rfl))) (by decide) (t := .int) (t' := .int) (by decide) (by decide))))
  have N12 := Fr.snoc X12 N0 g_a1
  have K12 : Keep h0 h12 [a1] := Keep.wr (Keep.refl h0 _) W12 (Or.inl (List.mem_of_getElem? (i := 0) rfl))
  have Z12 : n0 ≤ h12.size := Nat.le_trans Z0 (Nat.le_of_eq W12.size.symm)
  obtain ⟨T13, h13, k13, X13, e13, E13, A13, st13⟩ := newP X12 hx hZ (hw _ (List.mem_of_getElem? (i := 12) rfl)) e12 (g := (mkF m 12 #[.val (.ref a1), .val (.int p2), .val (.int (0 : Int32))] [(.int (16 : Int32)), (.ref a1)])) rfl (hb hby d1N_12) rfl (by decide) (cap := 16) (by decide) (by decide) (by decide) (by decide)
  obtain ⟨b13, g13⟩ : ∃ z, z = h12.size := ⟨_, rfl⟩
  rw [← g13] at A13 st13
  have ne_a1_b13 : a1 ≠ b13 := Nat.ne_of_lt (Nat.lt_of_lt_of_le fE_a1_x12.lt (Nat.le_of_eq g13.symm))
  have g_b13 : n0 ≤ b13 := Nat.le_trans Z12 (Nat.le_of_eq g13.symm)
  have sz_b13 : h0.size ≤ b13 := Nat.le_trans (show Keep h0 h12 [a1] from K12).1 (Nat.le_of_eq g13.symm)
  have fE_a1_x13 := (fE_a1_x12.ext E13)
  have fF_a1_stamp_x13 := (Fw12.ext E13)
  have fF_a1_stack_x13 := (fF_a1_stack_x12.ext E13)
  have fF_a1_instructions_x13 := (fF_a1_instructions_x12.ext E13)
  have fF_a1_members_x13 := (fF_a1_members_x12.ext E13)
  have fF_a1_marks_x13 := (fF_a1_marks_x12.ext E13)
  have fF_a1_markBits_x13 := (fF_a1_markBits_x12.ext E13)
  have fF_a1_marked_x13 := (fF_a1_marked_x12.ext E13)
  have fF_a1_markedCount_x13 := (fF_a1_markedCount_x12.ext E13)
  have fF_a1_size_x13 := (fF_a1_size_x12.ext E13)
  have K13 : Keep h0 h13 [a1] := Keep.ext K12 E13
  have Z13 : n0 ≤ h13.size := Nat.le_trans Z12 E13.1
  have V13 : own_Arr Z h13 b13 .int (16 : Int32) (fun i => Value.int ((fun _ => (0 : Int32)) i)) := own_Arr.new A13 (by decide) (fun _ => rfl)
  obtain ⟨T14, h14, X14, e14, W14, st14⟩ := putF X13 hx hZ hown (host := "") (Or.inl (hw _ (List.mem_of_getElem? (i := 13) rfl))) Via.refl e13 fF_a1_stack_x13 fE_a1_x13 (Or.inl (hw _ (List.mem_of_getElem? (i := 14) rfl))) (hw _ (List.mem_of_getElem? (i := 2) rfl)) (ty := (.array .int)) (by decide) rfl rfl (g := (mkF m 14 #[.val (.ref a1), .val (.int p2), .val (.int (0 : Int32))] [(.ref b13), (.ref a1)])) rfl rfl (hb hby d1N_14)
  have Fw14 := Fld.same W14 fF_a1_stack_x13
  have fE_a1_x14 := (fE_a1_x13.wr W14)
  have fF_a1_stamp_x14 := (Fld.other W14 fF_a1_stamp_x13 (Or.inr (slot_ne (Or.inl (hw _ (List.mem_of_getElem? (i := 11) rfl))) (Or.inl (hw _ (List.mem_of_getElem? (i := 14) rfl))) (by decide) (t := .int) (t' := (.array .int)) (by decide) (by decide))))
  have fF_a1_instructions_x14 := (Fld.other W14 fF_a1_instructions_x13 (Or.inr (slot_ne (Or.inr (hw _ (List.mem_of_getElem? (i := 16) rfl))) (Or.inl (hw _ (List.mem_of_getElem? (i := 14) rfl))) (by decide) (t := .int) (t' := (.array .int)) (by decide) (by decide))))
  have fF_a1_members_x14 := (Fld.other W14 fF_a1_members_x13 (Or.inr (slot_ne (Or.inl (hw _ (List.mem_of_getElem? (i := 18) rfl))) (Or.inl (hw _ (List.mem_of_getElem? (i := 14) rfl))) (by decide) (t := (.array .int)) (t' := (.array .int)) (by decide) (by decide))))
  have fF_a1_marks_x14 := (Fld.other W14 fF_a1_marks_x13 (Or.inr (slot_ne (Or.inr (hw _ (List.mem_of_getElem? (i := 20) rfl))) (Or.inl (hw _ (List.mem_of_getElem? (i := 14) rfl))) (by decide) (t := (.array .char)) (t' := (.array .int)) (by decide) (by decide))))
  have fF_a1_markBits_x14 := (Fld.other W14 fF_a1_markBits_x13 (Or.inr (slot_ne (Or.inr (hw _ (List.mem_of_getElem? (i := 23) rfl))) (Or.inl (hw _ (List.mem_of_getElem? (i := 14) rfl))) (by decide) (t := (.array .long)) (t' := (.array .int)) (by decide) (by decide))))
  have fF_a1_marked_x14 := (Fld.other W14 fF_a1_marked_x13 (Or.inr (slot_ne (Or.inl (hw _ (List.mem_of_getElem? (i := 25) rfl))) (Or.inl (hw _ (List.mem_of_getElem? (i := 14) rfl))) (by decide) (t := (.array .int)) (t' := (.array .int)) (by decide) (by decide))))
  have fF_a1_markedCount_x14 := (Fld.other W14 fF_a1_markedCount_x13 (Or.inr (slot_ne (Or.inl (hw _ (List.mem_of_getElem? (i := 37) rfl))) (Or.inl (hw _ (List.mem_of_getElem? (i := 14) rfl))) (by decide) (t := .int) (t' := (.array .int)) (by decide) (by decide))))
  have fF_a1_size_x14 := (Fld.other W14 fF_a1_size_x13 (Or.inr (slot_ne (Or.inl (hw _ (List.mem_of_getElem? (i := 44) rfl))) (Or.inl (hw _ (List.mem_of_getElem? (i := 14) rfl))) (by decide) (t := .int) (t' := (.array .int)) (by decide) (by decide))))
  have fA_b13_x14 := (V13.other W14 (Ne.symm ne_a1_b13))
  have N14 := Fr.snoc X14 N12 g_a1
  have K14 : Keep h0 h14 [a1] := Keep.wr K13 W14 (Or.inl (List.mem_of_getElem? (i := 0) rfl))
  have Z14 : n0 ≤ h14.size := Nat.le_trans Z13 (Nat.le_of_eq W14.size.symm)
  obtain ⟨T15, h15, X15, e15, W15, st15⟩ := putF X14 hx hZ hown (host := "") (Or.inl (hw _ (List.mem_of_getElem? (i := 15) rfl))) Via.refl e14 fF_a1_instructions_x14 fE_a1_x14 (Or.inr ⟨(hw _ (List.mem_of_getElem? (i := 16) rfl)), rfl, hnm⟩) (hw _ (List.mem_of_getElem? (i := 2) rfl)) (ty := .int) (by decide) rfl rfl (g := (mkF m 19 #[.val (.ref a1), .val (.int p2), .val (.int (0 : Int32))] [(.int p2), (.ref a1)])) rfl rfl (hb hby d1N_19)
  have Fw15 := Fld.same W15 fF_a1_instructions_x14
  have fE_a1_x15 := (fE_a1_x14.wr W15)
  have fF_a1_stamp_x15 := (Fld.other W15 fF_a1_stamp_x14 (Or.inr (slot_ne (Or.inl (hw _ (List.mem_of_getElem? (i := 11) rfl))) (Or.inr (hw _ (List.mem_of_getElem? (i := 16) rfl))) (by decide) (t := .int) (t' := .int) (by decide) (by decide))))
  have fF_a1_stack_x15 := (Fld.other W15 Fw14 (Or.inr (slot_ne (Or.inl (hw _ (List.mem_of_getElem? (i := 14) rfl))) (Or.inr (hw _ (List.mem_of_getElem? (i := 16) rfl))) (by decide) (t := (.array .int)) (t' := .int) (by decide) (by decide))))
  have fF_a1_members_x15 := (Fld.other W15 fF_a1_members_x14 (Or.inr (slot_ne (Or.inl (hw _ (List.mem_of_getElem? (i := 18) rfl))) (Or.inr (hw _ (List.mem_of_getElem? (i := 16) rfl))) (by decide) (t := (.array .int)) (t' := .int) (by decide) (by decide))))
  have fF_a1_marks_x15 := (Fld.other W15 fF_a1_marks_x14 (Or.inr (slot_ne (Or.inr (hw _ (List.mem_of_getElem? (i := 20) rfl))) (Or.inr (hw _ (List.mem_of_getElem? (i := 16) rfl))) (by decide) (t := (.array .char)) (t' := .int) (by decide) (by decide))))
  have fF_a1_markBits_x15 := (Fld.other W15 fF_a1_markBits_x14 (Or.inr (slot_ne (Or.inr (hw _ (List.mem_of_getElem? (i := 23) rfl))) (Or.inr (hw _ (List.mem_of_getElem? (i := 16) rfl))) (by decide) (t := (.array .long)) (t' := .int) (by decide) (by decide))))
  have fF_a1_marked_x15 := (Fld.other W15 fF_a1_marked_x14 (Or.inr (slot_ne (Or.inl (hw _ (List.mem_of_getElem? (i := 25) rfl))) (Or.inr (hw _ (List.mem_of_getElem? (i := 16) rfl))) (by decide) (t := (.array .int)) (t' := .int) (by decide) (by decide))))
  have fF_a1_markedCount_x15 := (Fld.other W15 fF_a1_markedCount_x14 (Or.inr (slot_ne (Or.inl (hw _ (List.mem_of_getElem? (i := 37) rfl))) (Or.inr (hw _ (List.mem_of_getElem? (i := 16) rfl))) (by decide) (t := .int) (t' := .int) (by decide) (by decide))))
  have fF_a1_size_x15 := (Fld.other W15 fF_a1_size_x14 (Or.inr (slot_ne (Or.inl (hw _ (List.mem_of_getElem? (i := 44) rfl))) (Or.inr (hw _ (List.mem_of_getElem? (i := 16) rfl))) (by decide) (t := .int) (t' := .int) (by decide) (by decide))))
  have fA_b13_x15 := (fA_b13_x14.other W15 (Ne.symm ne_a1_b13))
  have N15 := Fr.snoc X15 N14 g_a1
  have K15 : Keep h0 h15 [a1] := Keep.wr K14 W15 (Or.inl (List.mem_of_getElem? (i := 0) rfl))
  have Z15 : n0 ≤ h15.size := Nat.le_trans Z14 (Nat.le_of_eq W15.size.symm)
  obtain ⟨T16, h16, k16, X16, e16, E16, A16, st16⟩ := newP X15 hx hZ (hw _ (List.mem_of_getElem? (i := 12) rfl)) e15 (g := (mkF m 33 #[.val (.ref a1), .val (.int p2), .val (.int (0 : Int32))] [(.int (16 : Int32)), (.ref a1)])) rfl (hb hby d1N_33) rfl (by decide) (cap := 16) (by decide) (by decide) (by decide) (by decide)
  obtain ⟨b16, g16⟩ : ∃ z, z = h15.size := ⟨_, rfl⟩
  rw [← g16] at A16 st16
  have ne_b13_b16 : b13 ≠ b16 := Nat.ne_of_lt (Nat.lt_of_lt_of_le fA_b13_x15.lt (Nat.le_of_eq g16.symm))
  have ne_a1_b16 : a1 ≠ b16 := Nat.ne_of_lt (Nat.lt_of_lt_of_le fE_a1_x15.lt (Nat.le_of_eq g16.symm))
  have g_b16 : n0 ≤ b16 := Nat.le_trans Z15 (Nat.le_of_eq g16.symm)
  have sz_b16 : h0.size ≤ b16 := Nat.le_trans (show Keep h0 h15 [a1] from K15).1 (Nat.le_of_eq g16.symm)
  have fE_a1_x16 := (fE_a1_x15.ext E16)
  have fF_a1_stamp_x16 := (fF_a1_stamp_x15.ext E16)
  have fF_a1_stack_x16 := (fF_a1_stack_x15.ext E16)
  have fF_a1_instructions_x16 := (Fw15.ext E16)
  have fF_a1_members_x16 := (fF_a1_members_x15.ext E16)
  have fF_a1_marks_x16 := (fF_a1_marks_x15.ext E16)
  have fF_a1_markBits_x16 := (fF_a1_markBits_x15.ext E16)
  have fF_a1_marked_x16 := (fF_a1_marked_x15.ext E16)
  have fF_a1_markedCount_x16 := (fF_a1_markedCount_x15.ext E16)
  have fF_a1_size_x16 := (fF_a1_size_x15.ext E16)
  have fA_b13_x16 := (fA_b13_x15.ext E16)
  have K16 : Keep h0 h16 [a1] := Keep.ext K15 E16
  have Z16 : n0 ≤ h16.size := Nat.le_trans Z15 E16.1
  have V16 : own_Arr Z h16 b16 .int (16 : Int32) (fun i => Value.int ((fun _ => (0 : Int32)) i)) := own_Arr.new A16 (by decide) (fun _ => rfl)
  obtain ⟨T17, h17, X17, e17, W17, st17⟩ := putF X16 hx hZ hown (host := "") (Or.inl (hw _ (List.mem_of_getElem? (i := 17) rfl))) Via.refl e16 fF_a1_members_x16 fE_a1_x16 (Or.inl (hw _ (List.mem_of_getElem? (i := 18) rfl))) (hw _ (List.mem_of_getElem? (i := 2) rfl)) (ty := (.array .int)) (by decide) rfl rfl (g := (mkF m 35 #[.val (.ref a1), .val (.int p2), .val (.int (0 : Int32))] [(.ref b16), (.ref a1)])) rfl rfl (hb hby d1N_35)
  have Fw17 := Fld.same W17 fF_a1_members_x16
  have fE_a1_x17 := (fE_a1_x16.wr W17)
  have fF_a1_stamp_x17 := (Fld.other W17 fF_a1_stamp_x16 (Or.inr (slot_ne (Or.inl (hw _ (List.mem_of_getElem? (i := 11) rfl))) (Or.inl (hw _ (List.mem_of_getElem? (i := 18) rfl))) (by decide) (t := .int) (t' := (.array .int)) (by decide) (by decide))))
  have fF_a1_stack_x17 := (Fld.other W17 fF_a1_stack_x16 (Or.inr (slot_ne (Or.inl (hw _ (List.mem_of_getElem? (i := 14) rfl))) (Or.inl (hw _ (List.mem_of_getElem? (i := 18) rfl))) (by decide) (t := (.array .int)) (t' := (.array .int)) (by decide) (by decide))))
  have fF_a1_instructions_x17 := (Fld.other W17 fF_a1_instructions_x16 (Or.inr (slot_ne (Or.inr (hw _ (List.mem_of_getElem? (i := 16) rfl))) (Or.inl (hw _ (List.mem_of_getElem? (i := 18) rfl))) (by decide) (t := .int) (t' := (.array .int)) (by decide) (by decide))))
  have fF_a1_marks_x17 := (Fld.other W17 fF_a1_marks_x16 (Or.inr (slot_ne (Or.inr (hw _ (List.mem_of_getElem? (i := 20) rfl))) (Or.inl (hw _ (List.mem_of_getElem? (i := 18) rfl))) (by decide) (t := (.array .char)) (t' := (.array .int)) (by decide) (by decide))))
  have fF_a1_markBits_x17 := (Fld.other W17 fF_a1_markBits_x16 (Or.inr (slot_ne (Or.inr (hw _ (List.mem_of_getElem? (i := 23) rfl))) (Or.inl (hw _ (List.mem_of_getElem? (i := 18) rfl))) (by decide) (t := (.array .long)) (t' := (.array .int)) (by decide) (by decide))))
  have fF_a1_marked_x17 := (Fld.other W17 fF_a1_marked_x16 (Or.inr (slot_ne (Or.inl (hw _ (List.mem_of_getElem? (i := 25) rfl))) (Or.inl (hw _ (List.mem_of_getElem? (i := 18) rfl))) (by decide) (t := (.array .int)) (t' := (.array .int)) (by decide) (by decide))))
  have fF_a1_markedCount_x17 := (Fld.other W17 fF_a1_markedCount_x16 (Or.inr (slot_ne (Or.inl (hw _ (List.mem_of_getElem? (i := 37) rfl))) (Or.inl (hw _ (List.mem_of_getElem? (i := 18) rfl))) (by decide) (t := .int) (t' := (.array .int)) (by decide) (by decide))))
  have fF_a1_size_x17 := (Fld.other W17 fF_a1_size_x16 (Or.inr (slot_ne (Or.inl (hw _ (List.mem_of_getElem? (i := 44) rfl))) (Or.inl (hw _ (List.mem_of_getElem? (i := 18) rfl))) (by decide) (t := .int) (t' := (.array .int)) (by decide) (by decide))))
  have fA_b13_x17 := (fA_b13_x16.other W17 (Ne.symm ne_a1_b13))
  have fA_b16_x17 := (V16.other W17 (Ne.symm ne_a1_b16))
  have N17 := Fr.snoc X17 N15 g_a1
  have K17 : Keep h0 h17 [a1] := Keep.wr K16 W17 (Or.inl (List.mem_of_getElem? (i := 0) rfl))
  have Z17 : n0 ≤ h17.size := Nat.le_trans Z16 (Nat.le_of_eq W17.size.symm)
  obtain ⟨T18, h18, k18, X18, e18, E18, A18, st18⟩ := newP X17 hx hZ (hw _ (List.mem_of_getElem? (i := 45) rfl)) e17 (g := (mkF m 48 #[.val (.ref a1), .val (.int p2), .val (.int (0 : Int32))] [(.int p2), (.ref a1)])) rfl (hb hby d1N_48) rfl (own_ge0 (by omega)) (cap := 256) (own_cap (by omega)) (by decide) (by decide) (by decide)
  obtain ⟨b18, g18⟩ : ∃ z, z = h17.size := ⟨_, rfl⟩
  rw [← g18] at A18 st18
  have ne_b13_b18 : b13 ≠ b18 := Nat.ne_of_lt (Nat.lt_of_lt_of_le fA_b13_x17.lt (Nat.le_of_eq g18.symm))
  have ne_b16_b18 : b16 ≠ b18 := Nat.ne_of_lt (Nat.lt_of_lt_of_le fA_b16_x17.lt (Nat.le_of_eq g18.symm))
  have ne_a1_b18 : a1 ≠ b18 := Nat.ne_of_lt (Nat.lt_of_lt_of_le fE_a1_x17.lt (Nat.le_of_eq g18.symm))
  have g_b18 : n0 ≤ b18 := Nat.le_trans Z17 (Nat.le_of_eq g18.symm)
  have sz_b18 : h0.size ≤ b18 := Nat.le_trans (show Keep h0 h17 [a1] from K17).1 (Nat.le_of_eq g18.symm)
  have fE_a1_x18 := (fE_a1_x17.ext E18)
  have fF_a1_stamp_x18 := (fF_a1_stamp_x17.ext E18)
  have fF_a1_stack_x18 := (fF_a1_stack_x17.ext E18)
  have fF_a1_instructions_x18 := (fF_a1_instructions_x17.ext E18)
  have fF_a1_members_x18 := (Fw17.ext E18)
  have fF_a1_marks_x18 := (fF_a1_marks_x17.ext E18)
  have fF_a1_markBits_x18 := (fF_a1_markBits_x17.ext E18)
  have fF_a1_marked_x18 := (fF_a1_marked_x17.ext E18)
  have fF_a1_markedCount_x18 := (fF_a1_markedCount_x17.ext E18)
  have fF_a1_size_x18 := (fF_a1_size_x17.ext E18)
  have fA_b13_x18 := (fA_b13_x17.ext E18)
  have fA_b16_x18 := (fA_b16_x17.ext E18)
  have K18 : Keep h0 h18 [a1] := Keep.ext K17 E18
  have Z18 : n0 ≤ h18.size := Nat.le_trans Z17 E18.1
  have V18 : own_Arr Z h18 b18 .char p2 (fun i => Value.int ((fun _ => (0 : Int32)) i)) := own_Arr.new A18 (own_ge0 (by omega)) (fun _ => rfl)
  obtain ⟨T19, h19, X19, e19, W19, st19⟩ := putF X18 hx hZ hown (host := "") (Or.inl (hw _ (List.mem_of_getElem? (i := 19) rfl))) Via.refl e18 fF_a1_marks_x18 fE_a1_x18 (Or.inr ⟨(hw _ (List.mem_of_getElem? (i := 20) rfl)), rfl, hnm⟩) (hw _ (List.mem_of_getElem? (i := 2) rfl)) (ty := (.array .char)) (by decide) rfl rfl (g := (mkF m 50 #[.val (.ref a1), .val (.int p2), .val (.int (0 : Int32))] [(.ref b18), (.ref a1)])) rfl rfl (hb hby d1N_50)
  have Fw19 := Fld.same W19 fF_a1_marks_x18
  have fE_a1_x19 := (fE_a1_x18.wr W19)
  have fF_a1_stamp_x19 := (Fld.other W19 fF_a1_stamp_x18 (Or.inr (slot_ne (Or.inl (hw _ (List.mem_of_getElem? (i := 11) rfl))) (Or.inr (hw _ (List.mem_of_getElem? (i := 20) rfl))) (by decide) (t := .int) (t' := (.array .char)) (by decide) (by decide))))
  have fF_a1_stack_x19 := (Fld.other W19 fF_a1_stack_x18 (Or.inr (slot_ne (Or.inl (hw _ (List.mem_of_getElem? (i := 14) rfl))) (Or.inr (hw _ (List.mem_of_getElem? (i := 20) rfl))) (by decide) (t := (.array .int)) (t' := (.array .char)) (by decide) (by decide))))
  have fF_a1_instructions_x19 := (Fld.other W19 fF_a1_instructions_x18 (Or.inr (slot_ne (Or.inr (hw _ (List.mem_of_getElem? (i := 16) rfl))) (Or.inr (hw _ (List.mem_of_getElem? (i := 20) rfl))) (by decide) (t := .int) (t' := (.array .char)) (by decide) (by decide))))
  have fF_a1_members_x19 := (Fld.other W19 fF_a1_members_x18 (Or.inr (slot_ne (Or.inl (hw _ (List.mem_of_getElem? (i := 18) rfl))) (Or.inr (hw _ (List.mem_of_getElem? (i := 20) rfl))) (by decide) (t := (.array .int)) (t' := (.array .char)) (by decide) (by decide))))
  have fF_a1_markBits_x19 := (Fld.other W19 fF_a1_markBits_x18 (Or.inr (slot_ne (Or.inr (hw _ (List.mem_of_getElem? (i := 23) rfl))) (Or.inr (hw _ (List.mem_of_getElem? (i := 20) rfl))) (by decide) (t := (.array .long)) (t' := (.array .char)) (by decide) (by decide))))
  have fF_a1_marked_x19 := (Fld.other W19 fF_a1_marked_x18 (Or.inr (slot_ne (Or.inl (hw _ (List.mem_of_getElem? (i := 25) rfl))) (Or.inr (hw _ (List.mem_of_getElem? (i := 20) rfl))) (by decide) (t := (.array .int)) (t' := (.array .char)) (by decide) (by decide))))
  have fF_a1_markedCount_x19 := (Fld.other W19 fF_a1_markedCount_x18 (Or.inr (slot_ne (Or.inl (hw _ (List.mem_of_getElem? (i := 37) rfl))) (Or.inr (hw _ (List.mem_of_getElem? (i := 20) rfl))) (by decide) (t := .int) (t' := (.array .char)) (by decide) (by decide))))
  have fF_a1_size_x19 := (Fld.other W19 fF_a1_size_x18 (Or.inr (slot_ne (Or.inl (hw _ (List.mem_of_getElem? (i := 44) rfl))) (Or.inr (hw _ (List.mem_of_getElem? (i := 20) rfl))) (by decide) (t := .int) (t' := (.array .char)) (by decide) (by decide))))
  have fA_b13_x19 := (fA_b13_x18.other W19 (Ne.symm ne_a1_b13))
  have fA_b16_x19 := (fA_b16_x18.other W19 (Ne.symm ne_a1_b16))
  have fA_b18_x19 := (V18.other W19 (Ne.symm ne_a1_b18))
  have N19 := Fr.snoc X19 N17 g_a1
  have K19 : Keep h0 h19 [a1] := Keep.wr K18 W19 (Or.inl (List.mem_of_getElem? (i := 0) rfl))
  have Z19 : n0 ≤ h19.size := Nat.le_trans Z18 (Nat.le_of_eq W19.size.symm)
  obtain ⟨T20, h20, X20, e20, W20, st20⟩ := putF X19 hx hZ hown (host := "") (Or.inl (hw _ (List.mem_of_getElem? (i := 22) rfl))) Via.refl e19 fF_a1_markBits_x19 fE_a1_x19 (Or.inr ⟨(hw _ (List.mem_of_getElem? (i := 23) rfl)), rfl, hnm⟩) (hw _ (List.mem_of_getElem? (i := 2) rfl)) (ty := (.array .long)) (by decide) rfl rfl (g := (mkF m 71 #[.val (.ref a1), .val (.int p2), .val (.int (0 : Int32))] [.null, (.ref a1)])) rfl rfl (hb hby d1N_71)
  have Fw20 := Fld.same W20 fF_a1_markBits_x19
  have fE_a1_x20 := (fE_a1_x19.wr W20)
  have fF_a1_stamp_x20 := (Fld.other W20 fF_a1_stamp_x19 (Or.inr (slot_ne (Or.inl (hw _ (List.mem_of_getElem? (i := 11) rfl))) (Or.inr (hw _ (List.mem_of_getElem? (i := 23) rfl))) (by decide) (t := .int) (t' := (.array .long)) (by decide) (by decide))))
  have fF_a1_stack_x20 := (Fld.other W20 fF_a1_stack_x19 (Or.inr (slot_ne (Or.inl (hw _ (List.mem_of_getElem? (i := 14) rfl))) (Or.inr (hw _ (List.mem_of_getElem? (i := 23) rfl))) (by decide) (t := (.array .int)) (t' := (.array .long)) (by decide) (by decide))))
  have fF_a1_instructions_x20 := (Fld.other W20 fF_a1_instructions_x19 (Or.inr (slot_ne (Or.inr (hw _ (List.mem_of_getElem? (i := 16) rfl))) (Or.inr (hw _ (List.mem_of_getElem? (i := 23) rfl))) (by decide) (t := .int) (t' := (.array .long)) (by decide) (by decide))))
  have fF_a1_members_x20 := (Fld.other W20 fF_a1_members_x19 (Or.inr (slot_ne (Or.inl (hw _ (List.mem_of_getElem? (i := 18) rfl))) (Or.inr (hw _ (List.mem_of_getElem? (i := 23) rfl))) (by decide) (t := (.array .int)) (t' := (.array .long)) (by decide) (by decide))))
  have fF_a1_marks_x20 := (Fld.other W20 Fw19 (Or.inr (slot_ne (Or.inr (hw _ (List.mem_of_getElem? (i := 20) rfl))) (Or.inr (hw _ (List.mem_of_getElem? (i := 23) rfl))) (by decide) (t := (.array .char)) (t' := (.array .long)) (by decide) (by decide))))
  have fF_a1_marked_x20 := (Fld.other W20 fF_a1_marked_x19 (Or.inr (slot_ne (Or.inl (hw _ (List.mem_of_getElem? (i := 25) rfl))) (Or.inr (hw _ (List.mem_of_getElem? (i := 23) rfl))) (by decide) (t := (.array .int)) (t' := (.array .long)) (by decide) (by decide))))
  have fF_a1_markedCount_x20 := (Fld.other W20 fF_a1_markedCount_x19 (Or.inr (slot_ne (Or.inl (hw _ (List.mem_of_getElem? (i := 37) rfl))) (Or.inr (hw _ (List.mem_of_getElem? (i := 23) rfl))) (by decide) (t := .int) (t' := (.array .long)) (by decide) (by decide))))
  have fF_a1_size_x20 := (Fld.other W20 fF_a1_size_x19 (Or.inr (slot_ne (Or.inl (hw _ (List.mem_of_getElem? (i := 44) rfl))) (Or.inr (hw _ (List.mem_of_getElem? (i := 23) rfl))) (by decide) (t := .int) (t' := (.array .long)) (by decide) (by decide))))
  have fA_b13_x20 := (fA_b13_x19.other W20 (Ne.symm ne_a1_b13))
  have fA_b16_x20 := (fA_b16_x19.other W20 (Ne.symm ne_a1_b16))
  have fA_b18_x20 := (fA_b18_x19.other W20 (Ne.symm ne_a1_b18))
  have N20 := Fr.snoc X20 N19 g_a1
  have K20 : Keep h0 h20 [a1] := Keep.wr K19 W20 (Or.inl (List.mem_of_getElem? (i := 0) rfl))
  have Z20 : n0 ≤ h20.size := Nat.le_trans Z19 (Nat.le_of_eq W20.size.symm)
  obtain ⟨T21, h21, X21, e21, W21, st21⟩ := putF X20 hx hZ hown (host := "") (Or.inl (hw _ (List.mem_of_getElem? (i := 24) rfl))) Via.refl e20 fF_a1_marked_x20 fE_a1_x20 (Or.inl (hw _ (List.mem_of_getElem? (i := 25) rfl))) (hw _ (List.mem_of_getElem? (i := 2) rfl)) (ty := (.array .int)) (by decide) rfl rfl (g := (mkF m 87 #[.val (.ref a1), .val (.int p2), .val (.int (0 : Int32))] [.null, (.ref a1)])) rfl rfl (hb hby d1N_87)
  have Fw21 := Fld.same W21 fF_a1_marked_x20
  have fE_a1_x21 := (fE_a1_x20.wr W21)
  have fF_a1_stamp_x21 := (Fld.other W21 fF_a1_stamp_x20 (Or.inr (slot_ne (Or.inl (hw _ (List.mem_of_getElem? (i := 11) rfl))) (Or.inl (hw _ (List.mem_of_getElem? (i := 25) rfl))) (by decide) (t := .int) (t' := (.array .int)) (by decide) (by decide))))
  have fF_a1_stack_x21 := (Fld.other W21 fF_a1_stack_x20 (Or.inr (slot_ne (Or.inl (hw _ (List.mem_of_getElem? (i := 14) rfl))) (Or.inl (hw _ (List.mem_of_getElem? (i := 25) rfl))) (by decide) (t := (.array .int)) (t' := (.array .int)) (by decide) (by decide))))
  have fF_a1_instructions_x21 := (Fld.other W21 fF_a1_instructions_x20 (Or.inr (slot_ne (Or.inr (hw _ (List.mem_of_getElem? (i := 16) rfl))) (Or.inl (hw _ (List.mem_of_getElem? (i := 25) rfl))) (by decide) (t := .int) (t' := (.array .int)) (by decide) (by decide))))
  have fF_a1_members_x21 := (Fld.other W21 fF_a1_members_x20 (Or.inr (slot_ne (Or.inl (hw _ (List.mem_of_getElem? (i := 18) rfl))) (Or.inl (hw _ (List.mem_of_getElem? (i := 25) rfl))) (by decide) (t := (.array .int)) (t' := (.array .int)) (by decide) (by decide))))
  have fF_a1_marks_x21 := (Fld.other W21 fF_a1_marks_x20 (Or.inr (slot_ne (Or.inr (hw _ (List.mem_of_getElem? (i := 20) rfl))) (Or.inl (hw _ (List.mem_of_getElem? (i := 25) rfl))) (by decide) (t := (.array .char)) (t' := (.array .int)) (by decide) (by decide))))
  have fF_a1_markBits_x21 := (Fld.other W21 Fw20 (Or.inr (slot_ne (Or.inr (hw _ (List.mem_of_getElem? (i := 23) rfl))) (Or.inl (hw _ (List.mem_of_getElem? (i := 25) rfl))) (by decide) (t := (.array .long)) (t' := (.array .int)) (by decide) (by decide))))
  have fF_a1_markedCount_x21 := (Fld.other W21 fF_a1_markedCount_x20 (Or.inr (slot_ne (Or.inl (hw _ (List.mem_of_getElem? (i := 37) rfl))) (Or.inl (hw _ (List.mem_of_getElem? (i := 25) rfl))) (by decide) (t := .int) (t' := (.array .int)) (by decide) (by decide))))
  have fF_a1_size_x21 := (Fld.other W21 fF_a1_size_x20 (Or.inr (slot_ne (Or.inl (hw _ (List.mem_of_getElem? (i := 44) rfl))) (Or.inl (hw _ (List.mem_of_getElem? (i := 25) rfl))) (by decide) (t := .int) (t' := (.array .int)) (by decide) (by decide))))
  have fA_b13_x21 := (fA_b13_x20.other W21 (Ne.symm ne_a1_b13))
  have fA_b16_x21 := (fA_b16_x20.other W21 (Ne.symm ne_a1_b16))
  have fA_b18_x21 := (fA_b18_x20.other W21 (Ne.symm ne_a1_b18))
  have N21 := Fr.snoc X21 N20 g_a1
  have K21 : Keep h0 h21 [a1] := Keep.wr K20 W21 (Or.inl (List.mem_of_getElem? (i := 0) rfl))
  have Z21 : n0 ≤ h21.size := Nat.le_trans Z20 (Nat.le_of_eq W21.size.symm)
  refine own_pre (A := T21.setTop (mkF m 90 #[.val (.ref a1), .val (.int p2), .val (.int (0 : Int32))] [])) (fun tt kt => ?_) ?_
  · show Steps p.tables e below (s₁.setTop (mkF m 0 #[.val (.ref a1), .val (.int p2), .val (.int (0 : Int32))] [])) _
    refine XS.aloadN X0.here hx rfl (hb hby d1N_0) rfl rfl ?_
    show Steps p.tables e below (s₁.setTop (mkF m 1 #[.val (.ref a1), .val (.int p2), .val (.int (0 : Int32))] [(.ref a1)])) _
    refine st11 _ ?_
    show Steps p.tables e below (T11.setTop (mkF m 4 #[.val (.ref a1), .val (.int p2), .val (.int (0 : Int32))] [])) _
    refine XS.aloadN X11.here hx rfl (hb hby d1N_4) rfl rfl ?_
    refine XS.iconst X11.here hx rfl (hb hby d1N_5) ?_
    show Steps p.tables e below (T11.setTop (mkF m 6 #[.val (.ref a1), .val (.int p2), .val (.int (0 : Int32))] [(.int (1 : Int32)), (.ref a1)])) _
    refine st12 _ ?_
    show Steps p.tables e below (T12.setTop (mkF m 9 #[.val (.ref a1), .val (.int p2), .val (.int (0 : Int32))] [])) _
    refine XS.aloadN X12.here hx rfl (hb hby d1N_9) rfl rfl ?_
    refine XS.bipush X12.here hx rfl (hb hby d1N_10) ?_
    show Steps p.tables e below (T12.setTop (mkF m 12 #[.val (.ref a1), .val (.int p2), .val (.int (0 : Int32))] [(.int (16 : Int32)), (.ref a1)])) _
    refine st13 _ ?_
    show Steps p.tables e below (T13.setTop (mkF m 14 #[.val (.ref a1), .val (.int p2), .val (.int (0 : Int32))] [(.ref b13), (.ref a1)])) _
    refine st14 _ ?_
    show Steps p.tables e below (T14.setTop (mkF m 17 #[.val (.ref a1), .val (.int p2), .val (.int (0 : Int32))] [])) _
    refine XS.aloadN X14.here hx rfl (hb hby d1N_17) rfl rfl ?_
    refine XS.iloadN X14.here hx rfl (hb hby d1N_18) rfl ?_
    show Steps p.tables e below (T14.setTop (mkF m 19 #[.val (.ref a1), .val (.int p2), .val (.int (0 : Int32))] [(.int p2), (.ref a1)])) _
    refine st15 _ ?_
    show Steps p.tables e below (T15.setTop (mkF m 22 #[.val (.ref a1), .val (.int p2), .val (.int (0 : Int32))] [])) _
    refine XS.aloadN X15.here hx rfl (hb hby d1N_22) rfl rfl ?_
    refine XS.iloadN X15.here hx rfl (hb hby d1N_23) rfl ?_
    refine XS.ifYes X15.here hx rfl (pc0 := 24) (pc' := 31) rfl (hb hby d1N_24) rfl ((if0 _ _).trans (teq ((by decide) : (0 : Int32) = (0 : Int32))).1) (by decide) (by decide) ?_
    refine XS.bipush X15.here hx rfl (hb hby d1N_31) ?_
    show Steps p.tables e below (T15.setTop (mkF m 33 #[.val (.ref a1), .val (.int p2), .val (.int (0 : Int32))] [(.int (16 : Int32)), (.ref a1)])) _
    refine st16 _ ?_
    show Steps p.tables e below (T16.setTop (mkF m 35 #[.val (.ref a1), .val (.int p2), .val (.int (0 : Int32))] [(.ref b16), (.ref a1)])) _
    refine st17 _ ?_
    show Steps p.tables e below (T17.setTop (mkF m 38 #[.val (.ref a1), .val (.int p2), .val (.int (0 : Int32))] [])) _
    refine XS.aloadN X17.here hx rfl (hb hby d1N_38) rfl rfl ?_
    refine XS.iloadN X17.here hx rfl (hb hby d1N_39) rfl ?_
    refine XS.ifYes X17.here hx rfl (pc0 := 40) (pc' := 47) rfl (hb hby d1N_40) rfl ((if0 _ _).trans (teq ((by decide) : (0 : Int32) = (0 : Int32))).1) (by decide) (by decide) ?_
    refine XS.iloadN X17.here hx rfl (hb hby d1N_47) rfl ?_
    show Steps p.tables e below (T17.setTop (mkF m 48 #[.val (.ref a1), .val (.int p2), .val (.int (0 : Int32))] [(.int p2), (.ref a1)])) _
    refine st18 _ ?_
    show Steps p.tables e below (T18.setTop (mkF m 50 #[.val (.ref a1), .val (.int p2), .val (.int (0 : Int32))] [(.ref b18), (.ref a1)])) _
    refine st19 _ ?_
    show Steps p.tables e below (T19.setTop (mkF m 53 #[.val (.ref a1), .val (.int p2), .val (.int (0 : Int32))] [])) _
    refine XS.aloadN X19.here hx rfl (hb hby d1N_53) rfl rfl ?_
    refine XS.iloadN X19.here hx rfl (hb hby d1N_54) rfl ?_
    refine XS.ifYes X19.here hx rfl (pc0 := 55) (pc' := 70) rfl (hb hby d1N_55) rfl ((if0 _ _).trans (teq ((by decide) : (0 : Int32) = (0 : Int32))).1) (by decide) (by decide) ?_
    refine XS.aconstNull X19.here hx rfl (hb hby d1N_70) ?_
    show Steps p.tables e below (T19.setTop (mkF m 71 #[.val (.ref a1), .val (.int p2), .val (.int (0 : Int32))] [.null, (.ref a1)])) _
    refine st20 _ ?_
    show Steps p.tables e below (T20.setTop (mkF m 74 #[.val (.ref a1), .val (.int p2), .val (.int (0 : Int32))] [])) _
    refine XS.aloadN X20.here hx rfl (hb hby d1N_74) rfl rfl ?_
    refine XS.iloadN X20.here hx rfl (hb hby d1N_75) rfl ?_
    refine XS.ifYes X20.here hx rfl (pc0 := 76) (pc' := 86) rfl (hb hby d1N_76) rfl ((if0 _ _).trans (teq ((by decide) : (0 : Int32) = (0 : Int32))).1) (by decide) (by decide) ?_
    refine XS.aconstNull X20.here hx rfl (hb hby d1N_86) ?_
    show Steps p.tables e below (T20.setTop (mkF m 87 #[.val (.ref a1), .val (.int p2), .val (.int (0 : Int32))] [.null, (.ref a1)])) _
    refine st21 _ ?_
    exact kt
  show own_End p e below s (T21.setTop (mkF m 90 #[.val (.ref a1), .val (.int p2), .val (.int (0 : Int32))] [])) (Q1N Z a1 p2 v1 v2 v3 v4 h0 n0) ({ frames := 1, cells := 3, slots := 288, locals := 12 } : Room).cells ({ frames := 1, cells := 3, slots := 288, locals := 12 } : Room).slots
  obtain ⟨fs, hr, hrun, hended, hW, hsame⟩ := X21.leave (v := none) (fun _ => rfl)
  refine ⟨_, _, ?_, hrun, hended, _, _, rfl, ?_, ⟨_, rfl⟩, hW, hsame.mono (by decide) (by decide)⟩
  · exact X21.returnOut hx Bd.returns (hb hby d1N_90) hr
  · show Q1N Z a1 p2 v1 v2 v3 v4 h0 n0 _ T21.heap _
    rw [e21]
    exact ⟨rfl, N21, b18, K21, ⟨fE_a1_x21, fF_a1_stamp_x21, fF_a1_marks_x21, fF_a1_markBits_x21, Fw21, fF_a1_markedCount_x21, fF_a1_size_x21⟩, sz_b18, fA_b18_x21⟩
theorem d1L_0 : decode prog_95_method_2_code 0 = .ok (.aload_n 0, 1) := by decide +kernel
theorem d1L_1 : decode prog_95_method_2_code 1 = .ok (.invokespecial 7, 3) := by decide +kernel
theorem d1L_4 : decode prog_95_method_2_code 4 = .ok (.aload_n 0, 1) := by decide +kernel
theorem d1L_5 : decode prog_95_method_2_code 5 = .ok (.iconst 1, 1) := by decide +kernel
theorem d1L_6 : decode prog_95_method_2_code 6 = .ok (.putfield 12, 3) := by decide +kernel
theorem d1L_9 : decode prog_95_method_2_code 9 = .ok (.aload_n 0, 1) := by decide +kernel
theorem d1L_10 : decode prog_95_method_2_code 10 = .ok (.bipush 16, 2) := by decide +kernel
theorem d1L_12 : decode prog_95_method_2_code 12 = .ok (.newarray .int, 2) := by decide +kernel
theorem d1L_14 : decode prog_95_method_2_code 14 = .ok (.putfield 16, 3) := by decide +kernel
theorem d1L_17 : decode prog_95_method_2_code 17 = .ok (.aload_n 0, 1) := by decide +kernel
theorem d1L_18 : decode prog_95_method_2_code 18 = .ok (.iload_n 1, 1) := by decide +kernel
theorem d1L_19 : decode prog_95_method_2_code 19 = .ok (.putfield 20, 3) := by decide +kernel
theorem d1L_22 : decode prog_95_method_2_code 22 = .ok (.aload_n 0, 1) := by decide +kernel
theorem d1L_23 : decode prog_95_method_2_code 23 = .ok (.iload_n 2, 1) := by decide +kernel
theorem d1L_24 : decode prog_95_method_2_code 24 = .ok (.ifCond .eq 7, 3) := by decide +kernel
theorem d1L_27 : decode prog_95_method_2_code 27 = .ok (.aconst_null, 1) := by decide +kernel
theorem d1L_28 : decode prog_95_method_2_code 28 = .ok (.goto 7, 3) := by decide +kernel
theorem d1L_35 : decode prog_95_method_2_code 35 = .ok (.putfield 23, 3) := by decide +kernel
theorem d1L_38 : decode prog_95_method_2_code 38 = .ok (.aload_n 0, 1) := by decide +kernel
theorem d1L_39 : decode prog_95_method_2_code 39 = .ok (.iload_n 2, 1) := by decide +kernel
theorem d1L_40 : decode prog_95_method_2_code 40 = .ok (.ifCond .eq 7, 3) := by decide +kernel
theorem d1L_43 : decode prog_95_method_2_code 43 = .ok (.aconst_null, 1) := by decide +kernel
theorem d1L_44 : decode prog_95_method_2_code 44 = .ok (.goto 6, 3) := by decide +kernel
theorem d1L_50 : decode prog_95_method_2_code 50 = .ok (.putfield 26, 3) := by decide +kernel
theorem d1L_53 : decode prog_95_method_2_code 53 = .ok (.aload_n 0, 1) := by decide +kernel
theorem d1L_54 : decode prog_95_method_2_code 54 = .ok (.iload_n 2, 1) := by decide +kernel
theorem d1L_55 : decode prog_95_method_2_code 55 = .ok (.ifCond .eq 15, 3) := by decide +kernel
theorem d1L_58 : decode prog_95_method_2_code 58 = .ok (.iload_n 1, 1) := by decide +kernel
theorem d1L_59 : decode prog_95_method_2_code 59 = .ok (.bipush 63, 2) := by decide +kernel
theorem d1L_61 : decode prog_95_method_2_code 61 = .ok (.iadd, 1) := by decide +kernel
theorem d1L_62 : decode prog_95_method_2_code 62 = .ok (.bipush 6, 2) := by decide +kernel
theorem d1L_64 : decode prog_95_method_2_code 64 = .ok (.iushr, 1) := by decide +kernel
theorem d1L_65 : decode prog_95_method_2_code 65 = .ok (.newarray .long, 2) := by decide +kernel
theorem d1L_67 : decode prog_95_method_2_code 67 = .ok (.goto 4, 3) := by decide +kernel
theorem d1L_71 : decode prog_95_method_2_code 71 = .ok (.putfield 30, 3) := by decide +kernel
theorem d1L_74 : decode prog_95_method_2_code 74 = .ok (.aload_n 0, 1) := by decide +kernel
theorem d1L_75 : decode prog_95_method_2_code 75 = .ok (.iload_n 2, 1) := by decide +kernel
theorem d1L_76 : decode prog_95_method_2_code 76 = .ok (.ifCond .eq 10, 3) := by decide +kernel
theorem d1L_79 : decode prog_95_method_2_code 79 = .ok (.bipush 16, 2) := by decide +kernel
theorem d1L_81 : decode prog_95_method_2_code 81 = .ok (.newarray .int, 2) := by decide +kernel
theorem d1L_83 : decode prog_95_method_2_code 83 = .ok (.goto 4, 3) := by decide +kernel
theorem d1L_87 : decode prog_95_method_2_code 87 = .ok (.putfield 34, 3) := by decide +kernel
theorem d1L_90 : decode prog_95_method_2_code 90 = .ok (.return_, 1) := by decide +kernel
theorem pn_1L : plainName "com/example/libfacet/libfacet/regex/StateSet" = true := by first | (simp [plainName, overriddenIn]; done) | decide +kernel
theorem ef_1L (m : MethodId) (x0 : Addr) (x1 : Int32) (x2 : Int32) : entryFrame m #[(.ref x0), (.int x1), (.int x2)] 3 = mkF m 0 #[.val (.ref x0), .val (.int x1), .val (.int x2)] [] := by first | (simp [entryFrame, mkF, argsToLocals, Value.category]; done) | rfl
def Q1L (Z : State) (a1 : Addr) (p2 : Int32) (v1 : Int32) (v2 : Int32) (v3 : Int32) (v4 : Int32) (h0 : Heap) (n0 : Nat) (v : Option Value) (h : Heap) (L : List Loc) : Prop := v = none ∧ Fr n0 L ∧ (∃ ab : Addr, ∃ am : Addr, Keep h0 h [a1] ∧ own_ObjL Z h a1 ab am v3 v4 ∧ h0.size ≤ ab ∧ own_Arr Z h ab .long (((p2 + (63 : Int32)).toUInt32 >>> ((6 : Int32) &&& 31).toUInt32).toInt32) (fun i => Value.long ((fun _ => (0 : Int64)) i)) ∧ h0.size ≤ am ∧ own_Arr Z h am .int (16 : Int32) (fun i => Value.int ((fun _ => (0 : Int32)) i)) ∧ ab ≠ am)
set_option maxRecDepth 65536 in
set_option maxHeartbeats 40000000 in
theorem rm1L (l : Launch) (Z : State) (a0 : Array Value) (hw : ∀ d ∈ tables_1, d.before a0 Z = true) (ws : List Jvm.Cond) (a1 : Addr) (p2 : Int32) (v1 : Int32) (v2 : Int32) (v3 : Int32) (v4 : Int32) (h0 : Heap) (n0 : Nat) (Z0 : n0 ≤ h0.size) (O_a1 : own_Obj0 Z h0 a1 v1 v2 v3 v4) (g_a1 : n0 ≤ a1) (hn0 : 1 ≤ p2.toInt) (hn1 : p2.toInt ≤ 256) :
    MetFree l (⟨"com/example/libfacet/libfacet/regex/StateSet", "<init>", "(IZ)V"⟩ : MethodName) (head1 (Jvm.Cond.code (⟨"com/example/libfacet/libfacet/regex/StateSet", "<init>", "(IZ)V"⟩ : MethodName) prog_95_method_2_code 3 none :: ws) ({ frames := 1, cells := 3, slots := 36, locals := 12 } : Room)) (fun a U => a = #[(.ref a1), (.int p2), (.int (1 : Int32))] ∧ Z.Warmed39 U.vm ∧ U.heap = h0) (fun _ _ _ _ _ => True) (fun _ U o U' => ∃ v L, o = .returned v ∧ Q1L Z a1 p2 v1 v2 v3 v4 h0 n0 v U'.heap L ∧ FrameEnd U o U' L ({ frames := 1, cells := 3, slots := 36, locals := 12 } : Room).cells ({ frames := 1, cells := 3, slots := 36, locals := 12 } : Room).slots) := by
  refine MetFree.of_bodySF (plainFor_of_name pn_1L) hisR ?_
  intro p e s m args below meth c s₁ Bd hml0 hP hK
  obtain ⟨rfl, hZ, hh⟩ := hP
  have hx := Bd.exec
  have hby := Bd.bytes
  have hml : c.maxLocals = 3 := hml0
  have hown : s.vm.findClass "com/example/libfacet/libfacet/regex/StateSet" = some m.cls := findClass_of_methodNamed Bd.named
  have hnm := (name_of_methodNamed Bd.named Bd.method).1
  have X0 : Stand p l e ({ frames := 1, cells := 3, slots := 36, locals := 12 } : Room) s m #[(.ref a1), (.int p2), (.int (1 : Int32))] below meth c s₁ [] 0 0 := Stand.of_body Bd
  have e0 : s₁.heap = h0 := by rw [← hh, Bd.state]; rfl
  have N0 := Fr.nil n0
  show own_End p e below s (s₁.setTop (entryFrame m #[(.ref a1), (.int p2), (.int (1 : Int32))] 3)) (Q1L Z a1 p2 v1 v2 v3 v4 h0 n0) ({ frames := 1, cells := 3, slots := 36, locals := 12 } : Room).cells ({ frames := 1, cells := 3, slots := 36, locals := 12 } : Room).slots
  obtain ⟨E_a1_1, F_stamp_a1_2, F_stack_a1_3, F_instructions_a1_4, F_members_a1_5, F_marks_a1_6, F_markBits_a1_7, F_marked_a1_8, F_markedCount_a1_9, F_size_a1_10⟩ := O_a1
  refine own_pre (A := s₁.setTop (mkF m 0 #[.val (.ref a1), .val (.int p2), .val (.int (1 : Int32))] [])) (fun tt kt => castTop (ef_1L m a1 p2 (1 : Int32)) kt) ?_
  show own_End p e below s (s₁.setTop (mkF m 0 #[.val (.ref a1), .val (.int p2), .val (.int (1 : Int32))] [])) (Q1L Z a1 p2 v1 v2 v3 v4 h0 n0) ({ frames := 1, cells := 3, slots := 36, locals := 12 } : Room).cells ({ frames := 1, cells := 3, slots := 36, locals := 12 } : Room).slots
  obtain ⟨T11, X11, e11, st11⟩ := initO X0 hx hZ hown (hw _ (List.mem_of_getElem? (i := 7) rfl)) (hw _ (List.mem_of_getElem? (i := 8) rfl)) (hw _ (List.mem_of_getElem? (i := 9) rfl)) e0 (g := (mkF m 1 #[.val (.ref a1), .val (.int p2), .val (.int (1 : Int32))] [(.ref a1)])) rfl (by rw [hml]; rfl) rfl (hb hby d1L_1) (by decide) (W := 0) (by show 2 * 0 + _ ≤ _; exact Nat.le_of_eq rfl) (by decide)
  obtain ⟨T12, h12, X12, e12, W12, st12⟩ := putF X11 hx hZ hown (host := "") (Or.inl (hw _ (List.mem_of_getElem? (i := 10) rfl))) Via.refl e11 F_stamp_a1_2 E_a1_1 (Or.inl (hw _ (List.mem_of_getElem? (i := 11) rfl))) (hw _ (List.mem_of_getElem? (i := 2) rfl)) (ty := .int) (by decide) rfl rfl (g := (mkF m 6 #[.val (.ref a1), .val (.int p2), .val (.int (1 : Int32))] [(.int (1 : Int32)), (.ref a1)])) rfl rfl (hb hby d1L_6)
  have Fw12 := Fld.same W12 F_stamp_a1_2
  have fE_a1_x12 := (E_a1_1.wr W12)
  have fF_a1_stack_x12 := (Fld.other W12 F_stack_a1_3 (Or.inr (slot_ne (Or.inl (hw _ (List.mem_of_getElem? (i := 14) rfl))) (Or.inl (hw _ (List.mem_of_getElem? (i := 11) rfl))) (by decide) (t := (.array .int)) (t' := .int) (by decide) (by decide))))
  have fF_a1_instructions_x12 := (Fld.other W12 F_instructions_a1_4 (Or.inr (slot_ne (Or.inr (hw _ (List.mem_of_getElem? (i := 16) rfl))) (Or.inl (hw _ (List.mem_of_getElem? (i := 11) rfl))) (by decide) (t := .int) (t' := .int) (by decide) (by decide))))
  have fF_a1_members_x12 := (Fld.other W12 F_members_a1_5 (Or.inr (slot_ne (Or.inl (hw _ (List.mem_of_getElem? (i := 18) rfl))) (Or.inl (hw _ (List.mem_of_getElem? (i := 11) rfl))) (by decide) (t := (.array .int)) (t' := .int) (by decide) (by decide))))
  have fF_a1_marks_x12 := (Fld.other W12 F_marks_a1_6 (Or.inr (slot_ne (Or.inr (hw _ (List.mem_of_getElem? (i := 20) rfl))) (Or.inl (hw _ (List.mem_of_getElem? (i := 11) rfl))) (by decide) (t := (.array .char)) (t' := .int) (by decide) (by decide))))
  have fF_a1_markBits_x12 := (Fld.other W12 F_markBits_a1_7 (Or.inr (slot_ne (Or.inr (hw _ (List.mem_of_getElem? (i := 23) rfl))) (Or.inl (hw _ (List.mem_of_getElem? (i := 11) rfl))) (by decide) (t := (.array .long)) (t' := .int) (by decide) (by decide))))
  have fF_a1_marked_x12 := (Fld.other W12 F_marked_a1_8 (Or.inr (slot_ne (Or.inl (hw _ (List.mem_of_getElem? (i := 25) rfl))) (Or.inl (hw _ (List.mem_of_getElem? (i := 11) rfl))) (by decide) (t := (.array .int)) (t' := .int) (by decide) (by decide))))
  have fF_a1_markedCount_x12 := (Fld.other W12 F_markedCount_a1_9 (Or.inr (slot_ne (Or.inl (hw _ (List.mem_of_getElem? (i := 37) rfl))) (Or.inl (hw _ (List.mem_of_getElem? (i := 11) rfl))) (by decide) (t := .int) (t' := .int) (by decide) (by decide))))
  have fF_a1_size_x12 := (Fld.other W12 F_size_a1_10 (Or.inr (slot_ne (Or.inl (hw _ (List.mem_of_getElem? (i := 44) rfl))) (Or.inl (hw _ (List.mem_of_getElem? (i := 11) rfl))) (by decide) (t := .int) (t' := .int) (by decide) (by decide))))
  have N12 := Fr.snoc X12 N0 g_a1
  have K12 : Keep h0 h12 [a1] := Keep.wr (Keep.refl h0 _) W12 (Or.inl (List.mem_of_getElem? (i := 0) rfl))
  have Z12 : n0 ≤ h12.size := Nat.le_trans Z0 (Nat.le_of_eq W12.size.symm)
  obtain ⟨T13, h13, k13, X13, e13, E13, A13, st13⟩ := newP X12 hx hZ (hw _ (List.mem_of_getElem? (i := 12) rfl)) e12 (g := (mkF m 12 #[.val (.ref a1), .val (.int p2), .val (.int (1 : Int32))] [(.int (16 : Int32)), (.ref a1)])) rfl (hb hby d1L_12) rfl (by decide) (cap := 16) (by decide) (by decide) (by decide) (by decide)
  obtain ⟨b13, g13⟩ : ∃ z, z = h12.size := ⟨_, rfl⟩
  rw [← g13] at A13 st13
  have ne_a1_b13 : a1 ≠ b13 := Nat.ne_of_lt (Nat.lt_of_lt_of_le fE_a1_x12.lt (Nat.le_of_eq g13.symm))
  have g_b13 : n0 ≤ b13 := Nat.le_trans Z12 (Nat.le_of_eq g13.symm)
  have sz_b13 : h0.size ≤ b13 := Nat.le_trans (show Keep h0 h12 [a1] from K12).1 (Nat.le_of_eq g13.symm)
  have fE_a1_x13 := (fE_a1_x12.ext E13)
  have fF_a1_stamp_x13 := (Fw12.ext E13)
  have fF_a1_stack_x13 := (fF_a1_stack_x12.ext E13)
  have fF_a1_instructions_x13 := (fF_a1_instructions_x12.ext E13)
  have fF_a1_members_x13 := (fF_a1_members_x12.ext E13)
  have fF_a1_marks_x13 := (fF_a1_marks_x12.ext E13)
  have fF_a1_markBits_x13 := (fF_a1_markBits_x12.ext E13)
  have fF_a1_marked_x13 := (fF_a1_marked_x12.ext E13)
  have fF_a1_markedCount_x13 := (fF_a1_markedCount_x12.ext E13)
  have fF_a1_size_x13 := (fF_a1_size_x12.ext E13)
  have K13 : Keep h0 h13 [a1] := Keep.ext K12 E13
  have Z13 : n0 ≤ h13.size := Nat.le_trans Z12 E13.1
  have V13 : own_Arr Z h13 b13 .int (16 : Int32) (fun i => Value.int ((fun _ => (0 : Int32)) i)) := own_Arr.new A13 (by decide) (fun _ => rfl)
  obtain ⟨T14, h14, X14, e14, W14, st14⟩ := putF X13 hx hZ hown (host := "") (Or.inl (hw _ (List.mem_of_getElem? (i := 13) rfl))) Via.refl e13 fF_a1_stack_x13 fE_a1_x13 (Or.inl (hw _ (List.mem_of_getElem? (i := 14) rfl))) (hw _ (List.mem_of_getElem? (i := 2) rfl)) (ty := (.array .int)) (by decide) rfl rfl (g := (mkF m 14 #[.val (.ref a1), .val (.int p2), .val (.int (1 : Int32))] [(.ref b13), (.ref a1)])) rfl rfl (hb hby d1L_14)
  have Fw14 := Fld.same W14 fF_a1_stack_x13
  have fE_a1_x14 := (fE_a1_x13.wr W14)
  have fF_a1_stamp_x14 := (Fld.other W14 fF_a1_stamp_x13 (Or.inr (slot_ne (Or.inl (hw _ (List.mem_of_getElem? (i := 11) rfl))) (Or.inl (hw _ (List.mem_of_getElem? (i := 14) rfl))) (by decide) (t := .int) (t' := (.array .int)) (by decide) (by decide))))
  have fF_a1_instructions_x14 := (Fld.other W14 fF_a1_instructions_x13 (Or.inr (slot_ne (Or.inr (hw _ (List.mem_of_getElem? (i := 16) rfl))) (Or.inl (hw _ (List.mem_of_getElem? (i := 14) rfl))) (by decide) (t := .int) (t' := (.array .int)) (by decide) (by decide))))
  have fF_a1_members_x14 := (Fld.other W14 fF_a1_members_x13 (Or.inr (slot_ne (Or.inl (hw _ (List.mem_of_getElem? (i := 18) rfl))) (Or.inl (hw _ (List.mem_of_getElem? (i := 14) rfl))) (by decide) (t := (.array .int)) (t' := (.array .int)) (by decide) (by decide))))
  have fF_a1_marks_x14 := (Fld.other W14 fF_a1_marks_x13 (Or.inr (slot_ne (Or.inr (hw _ (List.mem_of_getElem? (i := 20) rfl))) (Or.inl (hw _ (List.mem_of_getElem? (i := 14) rfl))) (by decide) (t := (.array .char)) (t' := (.array .int)) (by decide) (by decide))))
  have fF_a1_markBits_x14 := (Fld.other W14 fF_a1_markBits_x13 (Or.inr (slot_ne (Or.inr (hw _ (List.mem_of_getElem? (i := 23) rfl))) (Or.inl (hw _ (List.mem_of_getElem? (i := 14) rfl))) (by decide) (t := (.array .long)) (t' := (.array .int)) (by decide) (by decide))))
  have fF_a1_marked_x14 := (Fld.other W14 fF_a1_marked_x13 (Or.inr (slot_ne (Or.inl (hw _ (List.mem_of_getElem? (i := 25) rfl))) (Or.inl (hw _ (List.mem_of_getElem? (i := 14) rfl))) (by decide) (t := (.array .int)) (t' := (.array .int)) (by decide) (by decide))))
  have fF_a1_markedCount_x14 := (Fld.other W14 fF_a1_markedCount_x13 (Or.inr (slot_ne (Or.inl (hw _ (List.mem_of_getElem? (i := 37) rfl))) (Or.inl (hw _ (List.mem_of_getElem? (i := 14) rfl))) (by decide) (t := .int) (t' := (.array .int)) (by decide) (by decide))))
  have fF_a1_size_x14 := (Fld.other W14 fF_a1_size_x13 (Or.inr (slot_ne (Or.inl (hw _ (List.mem_of_getElem? (i := 44) rfl))) (Or.inl (hw _ (List.mem_of_getElem? (i := 14) rfl))) (by decide) (t := .int) (t' := (.array .int)) (by decide) (by decide))))
  have fA_b13_x14 := (V13.other W14 (Ne.symm ne_a1_b13))
  have N14 := Fr.snoc X14 N12 g_a1
  have K14 : Keep h0 h14 [a1] := Keep.wr K13 W14 (Or.inl (List.mem_of_getElem? (i := 0) rfl))
  have Z14 : n0 ≤ h14.size := Nat.le_trans Z13 (Nat.le_of_eq W14.size.symm)
  obtain ⟨T15, h15, X15, e15, W15, st15⟩ := putF X14 hx hZ hown (host := "") (Or.inl (hw _ (List.mem_of_getElem? (i := 15) rfl))) Via.refl e14 fF_a1_instructions_x14 fE_a1_x14 (Or.inr ⟨(hw _ (List.mem_of_getElem? (i := 16) rfl)), rfl, hnm⟩) (hw _ (List.mem_of_getElem? (i := 2) rfl)) (ty := .int) (by decide) rfl rfl (g := (mkF m 19 #[.val (.ref a1), .val (.int p2), .val (.int (1 : Int32))] [(.int p2), (.ref a1)])) rfl rfl (hb hby d1L_19)
  have Fw15 := Fld.same W15 fF_a1_instructions_x14
  have fE_a1_x15 := (fE_a1_x14.wr W15)
  have fF_a1_stamp_x15 := (Fld.other W15 fF_a1_stamp_x14 (Or.inr (slot_ne (Or.inl (hw _ (List.mem_of_getElem? (i := 11) rfl))) (Or.inr (hw _ (List.mem_of_getElem? (i := 16) rfl))) (by decide) (t := .int) (t' := .int) (by decide) (by decide))))
  have fF_a1_stack_x15 := (Fld.other W15 Fw14 (Or.inr (slot_ne (Or.inl (hw _ (List.mem_of_getElem? (i := 14) rfl))) (Or.inr (hw _ (List.mem_of_getElem? (i := 16) rfl))) (by decide) (t := (.array .int)) (t' := .int) (by decide) (by decide))))
  have fF_a1_members_x15 := (Fld.other W15 fF_a1_members_x14 (Or.inr (slot_ne (Or.inl (hw _ (List.mem_of_getElem? (i := 18) rfl))) (Or.inr (hw _ (List.mem_of_getElem? (i := 16) rfl))) (by decide) (t := (.array .int)) (t' := .int) (by decide) (by decide))))
  have fF_a1_marks_x15 := (Fld.other W15 fF_a1_marks_x14 (Or.inr (slot_ne (Or.inr (hw _ (List.mem_of_getElem? (i := 20) rfl))) (Or.inr (hw _ (List.mem_of_getElem? (i := 16) rfl))) (by decide) (t := (.array .char)) (t' := .int) (by decide) (by decide))))
  have fF_a1_markBits_x15 := (Fld.other W15 fF_a1_markBits_x14 (Or.inr (slot_ne (Or.inr (hw _ (List.mem_of_getElem? (i := 23) rfl))) (Or.inr (hw _ (List.mem_of_getElem? (i := 16) rfl))) (by decide) (t := (.array .long)) (t' := .int) (by decide) (by decide))))
  have fF_a1_marked_x15 := (Fld.other W15 fF_a1_marked_x14 (Or.inr (slot_ne (Or.inl (hw _ (List.mem_of_getElem? (i := 25) rfl))) (Or.inr (hw _ (List.mem_of_getElem? (i := 16) rfl))) (by decide) (t := (.array .int)) (t' := .int) (by decide) (by decide))))
  have fF_a1_markedCount_x15 := (Fld.other W15 fF_a1_markedCount_x14 (Or.inr (slot_ne (Or.inl (hw _ (List.mem_of_getElem? (i := 37) rfl))) (Or.inr (hw _ (List.mem_of_getElem? (i := 16) rfl))) (by decide) (t := .int) (t' := .int) (by decide) (by decide))))
  have fF_a1_size_x15 := (Fld.other W15 fF_a1_size_x14 (Or.inr (slot_ne (Or.inl (hw _ (List.mem_of_getElem? (i := 44) rfl))) (Or.inr (hw _ (List.mem_of_getElem? (i := 16) rfl))) (by decide) (t := .int) (t' := .int) (by decide) (by decide))))
  have fA_b13_x15 := (fA_b13_x14.other W15 (Ne.symm ne_a1_b13))
  have N15 := Fr.snoc X15 N14 g_a1
  have K15 : Keep h0 h15 [a1] := Keep.wr K14 W15 (Or.inl (List.mem_of_getElem? (i := 0) rfl))
  have Z15 : n0 ≤ h15.size := Nat.le_trans Z14 (Nat.le_of_eq W15.size.symm)
  obtain ⟨T16, h16, X16, e16, W16, st16⟩ := putF X15 hx hZ hown (host := "") (Or.inl (hw _ (List.mem_of_getElem? (i := 17) rfl))) Via.refl e15 fF_a1_members_x15 fE_a1_x15 (Or.inl (hw _ (List.mem_of_getElem? (i := 18) rfl))) (hw _ (List.mem_of_getElem? (i := 2) rfl)) (ty := (.array .int)) (by decide) rfl rfl (g := (mkF m 35 #[.val (.ref a1), .val (.int p2), .val (.int (1 : Int32))] [.null, (.ref a1)])) rfl rfl (hb hby d1L_35)
  have Fw16 := Fld.same W16 fF_a1_members_x15
  have fE_a1_x16 := (fE_a1_x15.wr W16)
  have fF_a1_stamp_x16 := (Fld.other W16 fF_a1_stamp_x15 (Or.inr (slot_ne (Or.inl (hw _ (List.mem_of_getElem? (i := 11) rfl))) (Or.inl (hw _ (List.mem_of_getElem? (i := 18) rfl))) (by decide) (t := .int) (t' := (.array .int)) (by decide) (by decide))))
  have fF_a1_stack_x16 := (Fld.other W16 fF_a1_stack_x15 (Or.inr (slot_ne (Or.inl (hw _ (List.mem_of_getElem? (i := 14) rfl))) (Or.inl (hw _ (List.mem_of_getElem? (i := 18) rfl))) (by decide) (t := (.array .int)) (t' := (.array .int)) (by decide) (by decide))))
  have fF_a1_instructions_x16 := (Fld.other W16 Fw15 (Or.inr (slot_ne (Or.inr (hw _ (List.mem_of_getElem? (i := 16) rfl))) (Or.inl (hw _ (List.mem_of_getElem? (i := 18) rfl))) (by decide) (t := .int) (t' := (.array .int)) (by decide) (by decide))))
  have fF_a1_marks_x16 := (Fld.other W16 fF_a1_marks_x15 (Or.inr (slot_ne (Or.inr (hw _ (List.mem_of_getElem? (i := 20) rfl))) (Or.inl (hw _ (List.mem_of_getElem? (i := 18) rfl))) (by decide) (t := (.array .char)) (t' := (.array .int)) (by decide) (by decide))))
  have fF_a1_markBits_x16 := (Fld.other W16 fF_a1_markBits_x15 (Or.inr (slot_ne (Or.inr (hw _ (List.mem_of_getElem? (i := 23) rfl))) (Or.inl (hw _ (List.mem_of_getElem? (i := 18) rfl))) (by decide) (t := (.array .long)) (t' := (.array .int)) (by decide) (by decide))))
  have fF_a1_marked_x16 := (Fld.other W16 fF_a1_marked_x15 (Or.inr (slot_ne (Or.inl (hw _ (List.mem_of_getElem? (i := 25) rfl))) (Or.inl (hw _ (List.mem_of_getElem? (i := 18) rfl))) (by decide) (t := (.array .int)) (t' := (.array .int)) (by decide) (by decide))))
  have fF_a1_markedCount_x16 := (Fld.other W16 fF_a1_markedCount_x15 (Or.inr (slot_ne (Or.inl (hw _ (List.mem_of_getElem? (i := 37) rfl))) (Or.inl (hw _ (List.mem_of_getElem? (i := 18) rfl))) (by decide) (t := .int) (t' := (.array .int)) (by decide) (by decide))))
  have fF_a1_size_x16 := (Fld.other W16 fF_a1_size_x15 (Or.inr (slot_ne (Or.inl (hw _ (List.mem_of_getElem? (i := 44) rfl))) (Or.inl (hw _ (List.mem_of_getElem? (i := 18) rfl))) (by decide) (t := .int) (t' := (.array .int)) (by decide) (by decide))))
  have fA_b13_x16 := (fA_b13_x15.other W16 (Ne.symm ne_a1_b13))
  have N16 := Fr.snoc X16 N15 g_a1
  have K16 : Keep h0 h16 [a1] := Keep.wr K15 W16 (Or.inl (List.mem_of_getElem? (i := 0) rfl))
  have Z16 : n0 ≤ h16.size := Nat.le_trans Z15 (Nat.le_of_eq W16.size.symm)
  obtain ⟨T17, h17, X17, e17, W17, st17⟩ := putF X16 hx hZ hown (host := "") (Or.inl (hw _ (List.mem_of_getElem? (i := 19) rfl))) Via.refl e16 fF_a1_marks_x16 fE_a1_x16 (Or.inr ⟨(hw _ (List.mem_of_getElem? (i := 20) rfl)), rfl, hnm⟩) (hw _ (List.mem_of_getElem? (i := 2) rfl)) (ty := (.array .char)) (by decide) rfl rfl (g := (mkF m 50 #[.val (.ref a1), .val (.int p2), .val (.int (1 : Int32))] [.null, (.ref a1)])) rfl rfl (hb hby d1L_50)
  have Fw17 := Fld.same W17 fF_a1_marks_x16
  have fE_a1_x17 := (fE_a1_x16.wr W17)
  have fF_a1_stamp_x17 := (Fld.other W17 fF_a1_stamp_x16 (Or.inr (slot_ne (Or.inl (hw _ (List.mem_of_getElem? (i := 11) rfl))) (Or.inr (hw _ (List.mem_of_getElem? (i := 20) rfl))) (by decide) (t := .int) (t' := (.array .char)) (by decide) (by decide))))
  have fF_a1_stack_x17 := (Fld.other W17 fF_a1_stack_x16 (Or.inr (slot_ne (Or.inl (hw _ (List.mem_of_getElem? (i := 14) rfl))) (Or.inr (hw _ (List.mem_of_getElem? (i := 20) rfl))) (by decide) (t := (.array .int)) (t' := (.array .char)) (by decide) (by decide))))
  have fF_a1_instructions_x17 := (Fld.other W17 fF_a1_instructions_x16 (Or.inr (slot_ne (Or.inr (hw _ (List.mem_of_getElem? (i := 16) rfl))) (Or.inr (hw _ (List.mem_of_getElem? (i := 20) rfl))) (by decide) (t := .int) (t' := (.array .char)) (by decide) (by decide))))
  have fF_a1_members_x17 := (Fld.other W17 Fw16 (Or.inr (slot_ne (Or.inl (hw _ (List.mem_of_getElem? (i := 18) rfl))) (Or.inr (hw _ (List.mem_of_getElem? (i := 20) rfl))) (by decide) (t := (.array .int)) (t' := (.array .char)) (by decide) (by decide))))
  have fF_a1_markBits_x17 := (Fld.other W17 fF_a1_markBits_x16 (Or.inr (slot_ne (Or.inr (hw _ (List.mem_of_getElem? (i := 23) rfl))) (Or.inr (hw _ (List.mem_of_getElem? (i := 20) rfl))) (by decide) (t := (.array .long)) (t' := (.array .char)) (by decide) (by decide))))
  have fF_a1_marked_x17 := (Fld.other W17 fF_a1_marked_x16 (Or.inr (slot_ne (Or.inl (hw _ (List.mem_of_getElem? (i := 25) rfl))) (Or.inr (hw _ (List.mem_of_getElem? (i := 20) rfl))) (by decide) (t := (.array .int)) (t' := (.array .char)) (by decide) (by decide))))
  have fF_a1_markedCount_x17 := (Fld.other W17 fF_a1_markedCount_x16 (Or.inr (slot_ne (Or.inl (hw _ (List.mem_of_getElem? (i := 37) rfl))) (Or.inr (hw _ (List.mem_of_getElem? (i := 20) rfl))) (by decide) (t := .int) (t' := (.array .char)) (by decide) (by decide))))
  have fF_a1_size_x17 := (Fld.other W17 fF_a1_size_x16 (Or.inr (slot_ne (Or.inl (hw _ (List.mem_of_getElem? (i := 44) rfl))) (Or.inr (hw _ (List.mem_of_getElem? (i := 20) rfl))) (by decide) (t := .int) (t' := (.array .char)) (by decide) (by decide))))
  have fA_b13_x17 := (fA_b13_x16.other W17 (Ne.symm ne_a1_b13))
  have N17 := Fr.snoc X17 N16 g_a1
  have K17 : Keep h0 h17 [a1] := Keep.wr K16 W17 (Or.inl (List.mem_of_getElem? (i := 0) rfl))
  have Z17 : n0 ≤ h17.size := Nat.le_trans Z16 (Nat.le_of_eq W17.size.symm)
  obtain ⟨T18, h18, k18, X18, e18, E18, A18, st18⟩ := newP X17 hx hZ (hw _ (List.mem_of_getElem? (i := 21) rfl)) e17 (g := (mkF m 65 #[.val (.ref a1), .val (.int p2), .val (.int (1 : Int32))] [(.int (((p2 + (63 : Int32)).toUInt32 >>> ((6 : Int32) &&& 31).toUInt32).toInt32)), (.ref a1)])) rfl (hb hby d1L_65) rfl (own_ge0 (own_words hn0 hn1).1) (cap := 4) (own_cap (own_words hn0 hn1).2) (by decide) (by decide) (by decide)
  obtain ⟨b18, g18⟩ : ∃ z, z = h17.size := ⟨_, rfl⟩
  rw [← g18] at A18 st18
  have ne_b13_b18 : b13 ≠ b18 := Nat.ne_of_lt (Nat.lt_of_lt_of_le fA_b13_x17.lt (Nat.le_of_eq g18.symm))
  have ne_a1_b18 : a1 ≠ b18 := Nat.ne_of_lt (Nat.lt_of_lt_of_le fE_a1_x17.lt (Nat.le_of_eq g18.symm))
  have g_b18 : n0 ≤ b18 := Nat.le_trans Z17 (Nat.le_of_eq g18.symm)
  have sz_b18 : h0.size ≤ b18 := Nat.le_trans (show Keep h0 h17 [a1] from K17).1 (Nat.le_of_eq g18.symm)
  have fE_a1_x18 := (fE_a1_x17.ext E18)
  have fF_a1_stamp_x18 := (fF_a1_stamp_x17.ext E18)
  have fF_a1_stack_x18 := (fF_a1_stack_x17.ext E18)
  have fF_a1_instructions_x18 := (fF_a1_instructions_x17.ext E18)
  have fF_a1_members_x18 := (fF_a1_members_x17.ext E18)
  have fF_a1_marks_x18 := (Fw17.ext E18)
  have fF_a1_markBits_x18 := (fF_a1_markBits_x17.ext E18)
  have fF_a1_marked_x18 := (fF_a1_marked_x17.ext E18)
  have fF_a1_markedCount_x18 := (fF_a1_markedCount_x17.ext E18)
  have fF_a1_size_x18 := (fF_a1_size_x17.ext E18)
  have fA_b13_x18 := (fA_b13_x17.ext E18)
  have K18 : Keep h0 h18 [a1] := Keep.ext K17 E18
  have Z18 : n0 ≤ h18.size := Nat.le_trans Z17 E18.1
  have V18 : own_Arr Z h18 b18 .long (((p2 + (63 : Int32)).toUInt32 >>> ((6 : Int32) &&& 31).toUInt32).toInt32) (fun i => Value.long ((fun _ => (0 : Int64)) i)) := own_Arr.new A18 (own_ge0 (own_words hn0 hn1).1) (fun _ => rfl)
  obtain ⟨T19, h19, X19, e19, W19, st19⟩ := putF X18 hx hZ hown (host := "") (Or.inl (hw _ (List.mem_of_getElem? (i := 22) rfl))) Via.refl e18 fF_a1_markBits_x18 fE_a1_x18 (Or.inr ⟨(hw _ (List.mem_of_getElem? (i := 23) rfl)), rfl, hnm⟩) (hw _ (List.mem_of_getElem? (i := 2) rfl)) (ty := (.array .long)) (by decide) rfl rfl (g := (mkF m 71 #[.val (.ref a1), .val (.int p2), .val (.int (1 : Int32))] [(.ref b18), (.ref a1)])) rfl rfl (hb hby d1L_71)
  have Fw19 := Fld.same W19 fF_a1_markBits_x18
  have fE_a1_x19 := (fE_a1_x18.wr W19)
  have fF_a1_stamp_x19 := (Fld.other W19 fF_a1_stamp_x18 (Or.inr (slot_ne (Or.inl (hw _ (List.mem_of_getElem? (i := 11) rfl))) (Or.inr (hw _ (List.mem_of_getElem? (i := 23) rfl))) (by decide) (t := .int) (t' := (.array .long)) (by decide) (by decide))))
  have fF_a1_stack_x19 := (Fld.other W19 fF_a1_stack_x18 (Or.inr (slot_ne (Or.inl (hw _ (List.mem_of_getElem? (i := 14) rfl))) (Or.inr (hw _ (List.mem_of_getElem? (i := 23) rfl))) (by decide) (t := (.array .int)) (t' := (.array .long)) (by decide) (by decide))))
  have fF_a1_instructions_x19 := (Fld.other W19 fF_a1_instructions_x18 (Or.inr (slot_ne (Or.inr (hw _ (List.mem_of_getElem? (i := 16) rfl))) (Or.inr (hw _ (List.mem_of_getElem? (i := 23) rfl))) (by decide) (t := .int) (t' := (.array .long)) (by decide) (by decide))))
  have fF_a1_members_x19 := (Fld.other W19 fF_a1_members_x18 (Or.inr (slot_ne (Or.inl (hw _ (List.mem_of_getElem? (i := 18) rfl))) (Or.inr (hw _ (List.mem_of_getElem? (i := 23) rfl))) (by decide) (t := (.array .int)) (t' := (.array .long)) (by decide) (by decide))))
  have fF_a1_marks_x19 := (Fld.other W19 fF_a1_marks_x18 (Or.inr (slot_ne (Or.inr (hw _ (List.mem_of_getElem? (i := 20) rfl))) (Or.inr (hw _ (List.mem_of_getElem? (i := 23) rfl))) (by decide) (t := (.array .char)) (t' := (.array .long)) (by decide) (by decide))))
  have fF_a1_marked_x19 := (Fld.other W19 fF_a1_marked_x18 (Or.inr (slot_ne (Or.inl (hw _ (List.mem_of_getElem? (i := 25) rfl))) (Or.inr (hw _ (List.mem_of_getElem? (i := 23) rfl))) (by decide) (t := (.array .int)) (t' := (.array .long)) (by decide) (by decide))))
  have fF_a1_markedCount_x19 := (Fld.other W19 fF_a1_markedCount_x18 (Or.inr (slot_ne (Or.inl (hw _ (List.mem_of_getElem? (i := 37) rfl))) (Or.inr (hw _ (List.mem_of_getElem? (i := 23) rfl))) (by decide) (t := .int) (t' := (.array .long)) (by decide) (by decide))))
  have fF_a1_size_x19 := (Fld.other W19 fF_a1_size_x18 (Or.inr (slot_ne (Or.inl (hw _ (List.mem_of_getElem? (i := 44) rfl))) (Or.inr (hw _ (List.mem_of_getElem? (i := 23) rfl))) (by decide) (t := .int) (t' := (.array .long)) (by decide) (by decide))))
  have fA_b13_x19 := (fA_b13_x18.other W19 (Ne.symm ne_a1_b13))
  have fA_b18_x19 := (V18.other W19 (Ne.symm ne_a1_b18))
  have N19 := Fr.snoc X19 N17 g_a1
  have K19 : Keep h0 h19 [a1] := Keep.wr K18 W19 (Or.inl (List.mem_of_getElem? (i := 0) rfl))
  have Z19 : n0 ≤ h19.size := Nat.le_trans Z18 (Nat.le_of_eq W19.size.symm)
  obtain ⟨T20, h20, k20, X20, e20, E20, A20, st20⟩ := newP X19 hx hZ (hw _ (List.mem_of_getElem? (i := 12) rfl)) e19 (g := (mkF m 81 #[.val (.ref a1), .val (.int p2), .val (.int (1 : Int32))] [(.int (16 : Int32)), (.ref a1)])) rfl (hb hby d1L_81) rfl (by decide) (cap := 16) (by decide) (by decide) (by decide) (by decide)
  obtain ⟨b20, g20⟩ : ∃ z, z = h19.size := ⟨_, rfl⟩
  rw [← g20] at A20 st20
  have ne_b13_b20 : b13 ≠ b20 := Nat.ne_of_lt (Nat.lt_of_lt_of_le fA_b13_x19.lt (Nat.le_of_eq g20.symm))
  have ne_b18_b20 : b18 ≠ b20 := Nat.ne_of_lt (Nat.lt_of_lt_of_le fA_b18_x19.lt (Nat.le_of_eq g20.symm))
  have ne_a1_b20 : a1 ≠ b20 := Nat.ne_of_lt (Nat.lt_of_lt_of_le fE_a1_x19.lt (Nat.le_of_eq g20.symm))
  have g_b20 : n0 ≤ b20 := Nat.le_trans Z19 (Nat.le_of_eq g20.symm)
  have sz_b20 : h0.size ≤ b20 := Nat.le_trans (show Keep h0 h19 [a1] from K19).1 (Nat.le_of_eq g20.symm)
  have fE_a1_x20 := (fE_a1_x19.ext E20)
  have fF_a1_stamp_x20 := (fF_a1_stamp_x19.ext E20)
  have fF_a1_stack_x20 := (fF_a1_stack_x19.ext E20)
  have fF_a1_instructions_x20 := (fF_a1_instructions_x19.ext E20)
  have fF_a1_members_x20 := (fF_a1_members_x19.ext E20)
  have fF_a1_marks_x20 := (fF_a1_marks_x19.ext E20)
  have fF_a1_markBits_x20 := (Fw19.ext E20)
  have fF_a1_marked_x20 := (fF_a1_marked_x19.ext E20)
  have fF_a1_markedCount_x20 := (fF_a1_markedCount_x19.ext E20)
  have fF_a1_size_x20 := (fF_a1_size_x19.ext E20)
  have fA_b13_x20 := (fA_b13_x19.ext E20)
  have fA_b18_x20 := (fA_b18_x19.ext E20)
  have K20 : Keep h0 h20 [a1] := Keep.ext K19 E20
  have Z20 : n0 ≤ h20.size := Nat.le_trans Z19 E20.1
  have V20 : own_Arr Z h20 b20 .int (16 : Int32) (fun i => Value.int ((fun _ => (0 : Int32)) i)) := own_Arr.new A20 (by decide) (fun _ => rfl)
  obtain ⟨T21, h21, X21, e21, W21, st21⟩ := putF X20 hx hZ hown (host := "") (Or.inl (hw _ (List.mem_of_getElem? (i := 24) rfl))) Via.refl e20 fF_a1_marked_x20 fE_a1_x20 (Or.inl (hw _ (List.mem_of_getElem? (i := 25) rfl))) (hw _ (List.mem_of_getElem? (i := 2) rfl)) (ty := (.array .int)) (by decide) rfl rfl (g := (mkF m 87 #[.val (.ref a1), .val (.int p2), .val (.int (1 : Int32))] [(.ref b20), (.ref a1)])) rfl rfl (hb hby d1L_87)
  have Fw21 := Fld.same W21 fF_a1_marked_x20
  have fE_a1_x21 := (fE_a1_x20.wr W21)
  have fF_a1_stamp_x21 := (Fld.other W21 fF_a1_stamp_x20 (Or.inr (slot_ne (Or.inl (hw _ (List.mem_of_getElem? (i := 11) rfl))) (Or.inl (hw _ (List.mem_of_getElem? (i := 25) rfl))) (by decide) (t := .int) (t' := (.array .int)) (by decide) (by decide))))
  have fF_a1_stack_x21 := (Fld.other W21 fF_a1_stack_x20 (Or.inr (slot_ne (Or.inl (hw _ (List.mem_of_getElem? (i := 14) rfl))) (Or.inl (hw _ (List.mem_of_getElem? (i := 25) rfl))) (by decide) (t := (.array .int)) (t' := (.array .int)) (by decide) (by decide))))
  have fF_a1_instructions_x21 := (Fld.other W21 fF_a1_instructions_x20 (Or.inr (slot_ne (Or.inr (hw _ (List.mem_of_getElem? (i := 16) rfl))) (Or.inl (hw _ (List.mem_of_getElem? (i := 25) rfl))) (by decide) (t := .int) (t' := (.array .int)) (by decide) (by decide))))
  have fF_a1_members_x21 := (Fld.other W21 fF_a1_members_x20 (Or.inr (slot_ne (Or.inl (hw _ (List.mem_of_getElem? (i := 18) rfl))) (Or.inl (hw _ (List.mem_of_getElem? (i := 25) rfl))) (by decide) (t := (.array .int)) (t' := (.array .int)) (by decide) (by decide))))
  have fF_a1_marks_x21 := (Fld.other W21 fF_a1_marks_x20 (Or.inr (slot_ne (Or.inr (hw _ (List.mem_of_getElem? (i := 20) rfl))) (Or.inl (hw _ (List.mem_of_getElem? (i := 25) rfl))) (by decide) (t := (.array .char)) (t' := (.array .int)) (by decide) (by decide))))
  have fF_a1_markBits_x21 := (Fld.other W21 fF_a1_markBits_x20 (Or.inr (slot_ne (Or.inr (hw _ (List.mem_of_getElem? (i := 23) rfl))) (Or.inl (hw _ (List.mem_of_getElem? (i := 25) rfl))) (by decide) (t := (.array .long)) (t' := (.array .int)) (by decide) (by decide))))
  have fF_a1_markedCount_x21 := (Fld.other W21 fF_a1_markedCount_x20 (Or.inr (slot_ne (Or.inl (hw _ (List.mem_of_getElem? (i := 37) rfl))) (Or.inl (hw _ (List.mem_of_getElem? (i := 25) rfl))) (by decide) (t := .int) (t' := (.array .int)) (by decide) (by decide))))
  have fF_a1_size_x21 := (Fld.other W21 fF_a1_size_x20 (Or.inr (slot_ne (Or.inl (hw _ (List.mem_of_getElem? (i := 44) rfl))) (Or.inl (hw _ (List.mem_of_getElem? (i := 25) rfl))) (by decide) (t := .int) (t' := (.array .int)) (by decide) (by decide))))
  have fA_b13_x21 := (fA_b13_x20.other W21 (Ne.symm ne_a1_b13))
  have fA_b18_x21 := (fA_b18_x20.other W21 (Ne.symm ne_a1_b18))
  have fA_b20_x21 := (V20.other W21 (Ne.symm ne_a1_b20))
  have N21 := Fr.snoc X21 N19 g_a1
  have K21 : Keep h0 h21 [a1] := Keep.wr K20 W21 (Or.inl (List.mem_of_getElem? (i := 0) rfl))
  have Z21 : n0 ≤ h21.size := Nat.le_trans Z20 (Nat.le_of_eq W21.size.symm)
  refine own_pre (A := T21.setTop (mkF m 90 #[.val (.ref a1), .val (.int p2), .val (.int (1 : Int32))] [])) (fun tt kt => ?_) ?_
  · show Steps p.tables e below (s₁.setTop (mkF m 0 #[.val (.ref a1), .val (.int p2), .val (.int (1 : Int32))] [])) _
    refine XS.aloadN X0.here hx rfl (hb hby d1L_0) rfl rfl ?_
    show Steps p.tables e below (s₁.setTop (mkF m 1 #[.val (.ref a1), .val (.int p2), .val (.int (1 : Int32))] [(.ref a1)])) _
    refine st11 _ ?_
    show Steps p.tables e below (T11.setTop (mkF m 4 #[.val (.ref a1), .val (.int p2), .val (.int (1 : Int32))] [])) _
    refine XS.aloadN X11.here hx rfl (hb hby d1L_4) rfl rfl ?_
    refine XS.iconst X11.here hx rfl (hb hby d1L_5) ?_
    show Steps p.tables e below (T11.setTop (mkF m 6 #[.val (.ref a1), .val (.int p2), .val (.int (1 : Int32))] [(.int (1 : Int32)), (.ref a1)])) _
    refine st12 _ ?_
    show Steps p.tables e below (T12.setTop (mkF m 9 #[.val (.ref a1), .val (.int p2), .val (.int (1 : Int32))] [])) _
    refine XS.aloadN X12.here hx rfl (hb hby d1L_9) rfl rfl ?_
    refine XS.bipush X12.here hx rfl (hb hby d1L_10) ?_
    show Steps p.tables e below (T12.setTop (mkF m 12 #[.val (.ref a1), .val (.int p2), .val (.int (1 : Int32))] [(.int (16 : Int32)), (.ref a1)])) _
    refine st13 _ ?_
    show Steps p.tables e below (T13.setTop (mkF m 14 #[.val (.ref a1), .val (.int p2), .val (.int (1 : Int32))] [(.ref b13), (.ref a1)])) _
    refine st14 _ ?_
    show Steps p.tables e below (T14.setTop (mkF m 17 #[.val (.ref a1), .val (.int p2), .val (.int (1 : Int32))] [])) _
    refine XS.aloadN X14.here hx rfl (hb hby d1L_17) rfl rfl ?_
    refine XS.iloadN X14.here hx rfl (hb hby d1L_18) rfl ?_
    show Steps p.tables e below (T14.setTop (mkF m 19 #[.val (.ref a1), .val (.int p2), .val (.int (1 : Int32))] [(.int p2), (.ref a1)])) _
    refine st15 _ ?_
    show Steps p.tables e below (T15.setTop (mkF m 22 #[.val (.ref a1), .val (.int p2), .val (.int (1 : Int32))] [])) _
    refine XS.aloadN X15.here hx rfl (hb hby d1L_22) rfl rfl ?_
    refine XS.iloadN X15.here hx rfl (hb hby d1L_23) rfl ?_
    refine XS.ifNo X15.here hx rfl (hb hby d1L_24) rfl ((if0 _ _).trans (feq ((by decide) : ¬ ((1 : Int32) = (0 : Int32)))).1) ?_
    refine XS.aconstNull X15.here hx rfl (hb hby d1L_27) ?_
    show Steps p.tables e below (T15.setTop (mkF m 28 #[.val (.ref a1), .val (.int p2), .val (.int (1 : Int32))] [.null, (.ref a1)])) _
    refine XS.goto X15.here hx rfl (pc0 := 28) (pc' := 35) rfl (hb hby d1L_28) (by decide) (by decide) ?_
    show Steps p.tables e below (T15.setTop (mkF m 35 #[.val (.ref a1), .val (.int p2), .val (.int (1 : Int32))] [.null, (.ref a1)])) _
    refine st16 _ ?_
    show Steps p.tables e below (T16.setTop (mkF m 38 #[.val (.ref a1), .val (.int p2), .val (.int (1 : Int32))] [])) _
    refine XS.aloadN X16.here hx rfl (hb hby d1L_38) rfl rfl ?_
    refine XS.iloadN X16.here hx rfl (hb hby d1L_39) rfl ?_
    refine XS.ifNo X16.here hx rfl (hb hby d1L_40) rfl ((if0 _ _).trans (feq ((by decide) : ¬ ((1 : Int32) = (0 : Int32)))).1) ?_
    refine XS.aconstNull X16.here hx rfl (hb hby d1L_43) ?_
    show Steps p.tables e below (T16.setTop (mkF m 44 #[.val (.ref a1), .val (.int p2), .val (.int (1 : Int32))] [.null, (.ref a1)])) _
    refine XS.goto X16.here hx rfl (pc0 := 44) (pc' := 50) rfl (hb hby d1L_44) (by decide) (by decide) ?_
    show Steps p.tables e below (T16.setTop (mkF m 50 #[.val (.ref a1), .val (.int p2), .val (.int (1 : Int32))] [.null, (.ref a1)])) _
    refine st17 _ ?_
    show Steps p.tables e below (T17.setTop (mkF m 53 #[.val (.ref a1), .val (.int p2), .val (.int (1 : Int32))] [])) _
    refine XS.aloadN X17.here hx rfl (hb hby d1L_53) rfl rfl ?_
    refine XS.iloadN X17.here hx rfl (hb hby d1L_54) rfl ?_
    refine XS.ifNo X17.here hx rfl (hb hby d1L_55) rfl ((if0 _ _).trans (feq ((by decide) : ¬ ((1 : Int32) = (0 : Int32)))).1) ?_
    refine XS.iloadN X17.here hx rfl (hb hby d1L_58) rfl ?_
    show Steps p.tables e below (T17.setTop (mkF m 59 #[.val (.ref a1), .val (.int p2), .val (.int (1 : Int32))] [(.int p2), (.ref a1)])) _
    refine XS.bipush X17.here hx rfl (hb hby d1L_59) ?_
    refine XS.iadd X17.here hx rfl (hb hby d1L_61) rfl ?_
    refine XS.bipush X17.here hx rfl (hb hby d1L_62) ?_
    refine XS.iushr X17.here hx rfl (hb hby d1L_64) rfl ?_
    show Steps p.tables e below (T17.setTop (mkF m 65 #[.val (.ref a1), .val (.int p2), .val (.int (1 : Int32))] [(.int (((p2 + (63 : Int32)).toUInt32 >>> ((6 : Int32) &&& 31).toUInt32).toInt32)), (.ref a1)])) _
    refine st18 _ ?_
    show Steps p.tables e below (T18.setTop (mkF m 67 #[.val (.ref a1), .val (.int p2), .val (.int (1 : Int32))] [(.ref b18), (.ref a1)])) _
    refine XS.goto X18.here hx rfl (pc0 := 67) (pc' := 71) rfl (hb hby d1L_67) (by decide) (by decide) ?_
    show Steps p.tables e below (T18.setTop (mkF m 71 #[.val (.ref a1), .val (.int p2), .val (.int (1 : Int32))] [(.ref b18), (.ref a1)])) _
    refine st19 _ ?_
    show Steps p.tables e below (T19.setTop (mkF m 74 #[.val (.ref a1), .val (.int p2), .val (.int (1 : Int32))] [])) _
    refine XS.aloadN X19.here hx rfl (hb hby d1L_74) rfl rfl ?_
    refine XS.iloadN X19.here hx rfl (hb hby d1L_75) rfl ?_
    refine XS.ifNo X19.here hx rfl (hb hby d1L_76) rfl ((if0 _ _).trans (feq ((by decide) : ¬ ((1 : Int32) = (0 : Int32)))).1) ?_
    refine XS.bipush X19.here hx rfl (hb hby d1L_79) ?_
    show Steps p.tables e below (T19.setTop (mkF m 81 #[.val (.ref a1), .val (.int p2), .val (.int (1 : Int32))] [(.int (16 : Int32)), (.ref a1)])) _
    refine st20 _ ?_
    show Steps p.tables e below (T20.setTop (mkF m 83 #[.val (.ref a1), .val (.int p2), .val (.int (1 : Int32))] [(.ref b20), (.ref a1)])) _
    refine XS.goto X20.here hx rfl (pc0 := 83) (pc' := 87) rfl (hb hby d1L_83) (by decide) (by decide) ?_
    show Steps p.tables e below (T20.setTop (mkF m 87 #[.val (.ref a1), .val (.int p2), .val (.int (1 : Int32))] [(.ref b20), (.ref a1)])) _
    refine st21 _ ?_
    exact kt
  show own_End p e below s (T21.setTop (mkF m 90 #[.val (.ref a1), .val (.int p2), .val (.int (1 : Int32))] [])) (Q1L Z a1 p2 v1 v2 v3 v4 h0 n0) ({ frames := 1, cells := 3, slots := 36, locals := 12 } : Room).cells ({ frames := 1, cells := 3, slots := 36, locals := 12 } : Room).slots
  obtain ⟨fs, hr, hrun, hended, hW, hsame⟩ := X21.leave (v := none) (fun _ => rfl)
  refine ⟨_, _, ?_, hrun, hended, _, _, rfl, ?_, ⟨_, rfl⟩, hW, hsame.mono (by decide) (by decide)⟩
  · exact X21.returnOut hx Bd.returns (hb hby d1L_90) hr
  · show Q1L Z a1 p2 v1 v2 v3 v4 h0 n0 _ T21.heap _
    rw [e21]
    exact ⟨rfl, N21, b18, b20, K21, ⟨fE_a1_x21, fF_a1_markBits_x21, Fw21, fF_a1_markedCount_x21, fF_a1_size_x21⟩, sz_b18, fA_b18_x21, sz_b20, fA_b20_x21, ne_b18_b20⟩
def own_isN (p2 : Int32) (g : Nat → Int32) (n : Int32) (vt : Int32) (vc : Int32) (vz : Int32) : Int32 := (if (g p2.toNatClampNeg) = vt then (1 : Int32) else (0 : Int32))
theorem d3N_0 : decode prog_95_method_8_code 0 = .ok (.aload_n 0, 1) := by decide +kernel
theorem d3N_1 : decode prog_95_method_8_code 1 = .ok (.getfield 30, 3) := by decide +kernel
theorem d3N_4 : decode prog_95_method_8_code 4 = .ok (.ifnull 29, 3) := by decide +kernel
theorem d3N_33 : decode prog_95_method_8_code 33 = .ok (.aload_n 0, 1) := by decide +kernel
theorem d3N_34 : decode prog_95_method_8_code 34 = .ok (.getfield 26, 3) := by decide +kernel
theorem d3N_37 : decode prog_95_method_8_code 37 = .ok (.iload_n 1, 1) := by decide +kernel
theorem d3N_38 : decode prog_95_method_8_code 38 = .ok (.caload, 1) := by decide +kernel
theorem d3N_39 : decode prog_95_method_8_code 39 = .ok (.aload_n 0, 1) := by decide +kernel
theorem d3N_40 : decode prog_95_method_8_code 40 = .ok (.getfield 12, 3) := by decide +kernel
theorem d3N_43 : decode prog_95_method_8_code 43 = .ok (.if_icmp .ne 7, 3) := by decide +kernel
theorem d3N_46 : decode prog_95_method_8_code 46 = .ok (.iconst 1, 1) := by decide +kernel
theorem d3N_47 : decode prog_95_method_8_code 47 = .ok (.goto 4, 3) := by decide +kernel
theorem d3N_50 : decode prog_95_method_8_code 50 = .ok (.iconst 0, 1) := by decide +kernel
theorem d3N_51 : decode prog_95_method_8_code 51 = .ok (.ireturn, 1) := by decide +kernel
theorem pn_3N : plainName "com/example/libfacet/libfacet/regex/StateSet" = true := by first | (simp [plainName, overriddenIn]; done) | decide +kernel
theorem ef_3N (m : MethodId) (x0 : Addr) (x1 : Int32) : entryFrame m #[(.ref x0), (.int x1)] 2 = mkF m 0 #[.val (.ref x0), .val (.int x1)] [] := by first | (simp [entryFrame, mkF, argsToLocals, Value.category]; done) | rfl
def Q3N (Z : State) (a1 : Addr) (p2 : Int32) (vt : Int32) (vk : Addr) (vc : Int32) (vz : Int32) (g : Nat → Int32) (n : Int32) (h0 : Heap) (n0 : Nat) (v : Option Value) (h : Heap) (L : List Loc) : Prop := v = some (.int (own_isN p2 g n vt vc vz)) ∧ Fr n0 L ∧ h = h0
set_option maxRecDepth 65536 in
set_option maxHeartbeats 40000000 in
theorem rm3N (l : Launch) (Z : State) (a0 : Array Value) (hw : ∀ d ∈ tables_1, d.before a0 Z = true) (ws : List Jvm.Cond) (a1 : Addr) (p2 : Int32) (vt : Int32) (vk : Addr) (vc : Int32) (vz : Int32) (g : Nat → Int32) (n : Int32) (h0 : Heap) (n0 : Nat) (Z0 : n0 ≤ h0.size) (O_a1 : own_ObjN Z h0 a1 vt vk vc vz) (V_vk : own_Arr Z h0 vk .char n (fun i => Value.int (g i))) (hp0 : 0 ≤ p2.toInt) (hp1 : p2.toInt < n.toInt) :
    MetFree l (⟨"com/example/libfacet/libfacet/regex/StateSet", "isMarked", "(I)Z"⟩ : MethodName) (head1 (Jvm.Cond.code (⟨"com/example/libfacet/libfacet/regex/StateSet", "isMarked", "(I)Z"⟩ : MethodName) prog_95_method_8_code 2 (some .boolean) :: ws) ({ frames := 0, cells := 0, slots := 0, locals := 0 } : Room)) (fun a U => a = #[(.ref a1), (.int p2)] ∧ Z.Warmed39 U.vm ∧ U.heap = h0) (fun _ _ _ _ _ => True) (fun _ U o U' => ∃ v L, o = .returned v ∧ Q3N Z a1 p2 vt vk vc vz g n h0 n0 v U'.heap L ∧ FrameEnd U o U' L ({ frames := 0, cells := 0, slots := 0, locals := 0 } : Room).cells ({ frames := 0, cells := 0, slots := 0, locals := 0 } : Room).slots) := by
  refine MetFree.of_bodySF (plainFor_of_name pn_3N) hisR ?_
  intro p e s m args below meth c s₁ Bd hml0 hP hK
  obtain ⟨rfl, hZ, hh⟩ := hP
  have hx := Bd.exec
  have hby := Bd.bytes
  have hml : c.maxLocals = 2 := hml0
  have hown : s.vm.findClass "com/example/libfacet/libfacet/regex/StateSet" = some m.cls := findClass_of_methodNamed Bd.named
  have hnm := (name_of_methodNamed Bd.named Bd.method).1
  have X0 : Stand p l e ({ frames := 0, cells := 0, slots := 0, locals := 0 } : Room) s m #[(.ref a1), (.int p2)] below meth c s₁ [] 0 0 := Stand.of_body Bd
  have e0 : s₁.heap = h0 := by rw [← hh, Bd.state]; rfl
  have N0 := Fr.nil n0
  show own_End p e below s (s₁.setTop (entryFrame m #[(.ref a1), (.int p2)] 2)) (Q3N Z a1 p2 vt vk vc vz g n h0 n0) ({ frames := 0, cells := 0, slots := 0, locals := 0 } : Room).cells ({ frames := 0, cells := 0, slots := 0, locals := 0 } : Room).slots
  obtain ⟨E_a1_1, F_stamp_a1_2, F_marks_a1_3, F_markBits_a1_4, F_marked_a1_5, F_markedCount_a1_6, F_size_a1_7⟩ := O_a1
  refine own_pre (A := s₁.setTop (mkF m 0 #[.val (.ref a1), .val (.int p2)] [])) (fun tt kt => castTop (ef_3N m a1 p2) kt) ?_
  show own_End p e below s (s₁.setTop (mkF m 0 #[.val (.ref a1), .val (.int p2)] [])) (Q3N Z a1 p2 vt vk vc vz g n h0 n0) ({ frames := 0, cells := 0, slots := 0, locals := 0 } : Room).cells ({ frames := 0, cells := 0, slots := 0, locals := 0 } : Room).slots
  have hj : own_isN p2 g n vt vc vz = own_isN p2 g n vt vc vz := rfl
  obtain ⟨T8, X8, e8, st8⟩ := getF X0 hx hZ hown (host := "") (Or.inl (hw _ (List.mem_of_getElem? (i := 22) rfl))) Via.refl e0 F_markBits_a1_4 (g := (mkF m 1 #[.val (.ref a1), .val (.int p2)] [(.ref a1)])) rfl rfl (hb hby d3N_1)
  obtain ⟨T9, X9, e9, st9⟩ := getF X8 hx hZ hown (host := "") (Or.inl (hw _ (List.mem_of_getElem? (i := 19) rfl))) Via.refl e8 F_marks_a1_3 (g := (mkF m 34 #[.val (.ref a1), .val (.int p2)] [(.ref a1)])) rfl rfl (hb hby d3N_34)
  obtain ⟨cl10, Ar10, S10, Nn10, G10⟩ := id V_vk
  have hin10 : ¬ (p2 < 0 ∨ cl10.slots.size ≤ p2.toNatClampNeg) := inb_of S10 (own_inb2 hp0 hp1 : ¬ p2 < 0 ∧ p2 < n)
  have hat10 : cl10.slots[p2.toNatClampNeg]? = some (.int (g p2.toNatClampNeg)) := own_at S10 G10 hin10
  obtain ⟨T11, X11, e11, st11⟩ := getF X9 hx hZ hown (host := "") (Or.inl (hw _ (List.mem_of_getElem? (i := 10) rfl))) Via.refl e9 F_stamp_a1_2 (g := (mkF m 40 #[.val (.ref a1), .val (.int p2)] [(.ref a1), (.int (g p2.toNatClampNeg))])) rfl rfl (hb hby d3N_40)
  refine own_pre (A := T11.setTop (mkF m 43 #[.val (.ref a1), .val (.int p2)] [(.int vt), (.int (g p2.toNatClampNeg))])) (fun tt kt => ?_) ?_
  · show Steps p.tables e below (s₁.setTop (mkF m 0 #[.val (.ref a1), .val (.int p2)] [])) _
    refine XS.aloadN X0.here hx rfl (hb hby d3N_0) rfl rfl ?_
    show Steps p.tables e below (s₁.setTop (mkF m 1 #[.val (.ref a1), .val (.int p2)] [(.ref a1)])) _
    refine st8 _ ?_
    show Steps p.tables e below (T8.setTop (mkF m 4 #[.val (.ref a1), .val (.int p2)] [.null])) _
    refine XS.ifnullYes X8.here hx rfl (pc0 := 4) (pc' := 33) rfl (hb hby d3N_4) rfl (by decide) (by decide) ?_
    refine XS.aloadN X8.here hx rfl (hb hby d3N_33) rfl rfl ?_
    show Steps p.tables e below (T8.setTop (mkF m 34 #[.val (.ref a1), .val (.int p2)] [(.ref a1)])) _
    refine st9 _ ?_
    show Steps p.tables e below (T9.setTop (mkF m 37 #[.val (.ref a1), .val (.int p2)] [(.ref vk)])) _
    refine XS.iloadN X9.here hx rfl (hb hby d3N_37) rfl ?_
    show Steps p.tables e below (T9.setTop (mkF m 38 #[.val (.ref a1), .val (.int p2)] [(.int p2), (.ref vk)])) _
    refine X9.caload hx (j := p2) (v := (.int (g p2.toNatClampNeg))) (by rw [e9]; exact Ar10.1) (State.isArrayOf_alike hZ.alike Ar10.2.1) Ar10.2.2 hin10 hat10 (g := (mkF m 38 #[.val (.ref a1), .val (.int p2)] [(.int p2), (.ref vk)])) rfl rfl (hb hby d3N_38) _ ?_
    show Steps p.tables e below (T9.setTop (mkF m 39 #[.val (.ref a1), .val (.int p2)] [(.int (g p2.toNatClampNeg))])) _
    refine XS.aloadN X9.here hx rfl (hb hby d3N_39) rfl rfl ?_
    show Steps p.tables e below (T9.setTop (mkF m 40 #[.val (.ref a1), .val (.int p2)] [(.ref a1), (.int (g p2.toNatClampNeg))])) _
    refine st11 _ ?_
    exact kt
  show own_End p e below s (T11.setTop (mkF m 43 #[.val (.ref a1), .val (.int p2)] [(.int vt), (.int (g p2.toNatClampNeg))])) (Q3N Z a1 p2 vt vk vc vz g n h0 n0) ({ frames := 0, cells := 0, slots := 0, locals := 0 } : Room).cells ({ frames := 0, cells := 0, slots := 0, locals := 0 } : Room).slots
  by_cases hc43_12 : (g p2.toNatClampNeg) = vt
  · refine own_pre (A := T11.setTop (mkF m 51 #[.val (.ref a1), .val (.int p2)] [(.int (1 : Int32))])) (fun tt kt => ?_) ?_
    · show Steps p.tables e below (T11.setTop (mkF m 43 #[.val (.ref a1), .val (.int p2)] [(.int vt), (.int (g p2.toNatClampNeg))])) _
      refine XS.icmpNo X11.here hx rfl (hb hby d3N_43) rfl (teq hc43_12).2 ?_
      refine XS.iconst X11.here hx rfl (hb hby d3N_46) ?_
      refine XS.goto X11.here hx rfl (pc0 := 47) (pc' := 51) rfl (hb hby d3N_47) (by decide) (by decide) ?_
      exact kt
    show own_End p e below s (T11.setTop (mkF m 51 #[.val (.ref a1), .val (.int p2)] [(.int (1 : Int32))])) (Q3N Z a1 p2 vt vk vc vz g n h0 n0) ({ frames := 0, cells := 0, slots := 0, locals := 0 } : Room).cells ({ frames := 0, cells := 0, slots := 0, locals := 0 } : Room).slots
    have hv : (own_isN p2 g n vt vc vz) = (1 : Int32) := hj.trans (by simp only [own_isN, if_pos hc43_12])
    obtain ⟨fs, hr, hrun, hended, hW, hsame⟩ := X11.leave (v := some (.int (1 : Int32))) (fun h => by rw [Bd.returns] at h; cases h)
    refine ⟨_, _, ?_, hrun, hended, _, _, rfl, ?_, ⟨_, rfl⟩, hW, hsame.mono (by decide) (by decide)⟩
    · exact retN X11 hx (t := .boolean) Bd.returns (by simp) (hb hby d3N_51) hr
    · show Q3N Z a1 p2 vt vk vc vz g n h0 n0 _ T11.heap _
      rw [e11]
      exact ⟨(congrArg (fun z => some (Value.int z)) hv.symm), N0, rfl⟩
  · refine own_pre (A := T11.setTop (mkF m 51 #[.val (.ref a1), .val (.int p2)] [(.int (0 : Int32))])) (fun tt kt => ?_) ?_
    · show Steps p.tables e below (T11.setTop (mkF m 43 #[.val (.ref a1), .val (.int p2)] [(.int vt), (.int (g p2.toNatClampNeg))])) _
      refine XS.icmpYes X11.here hx rfl (pc0 := 43) (pc' := 50) rfl (hb hby d3N_43) rfl (feq hc43_12).2 (by decide) (by decide) ?_
      refine XS.iconst X11.here hx rfl (hb hby d3N_50) ?_
      exact kt
    show own_End p e below s (T11.setTop (mkF m 51 #[.val (.ref a1), .val (.int p2)] [(.int (0 : Int32))])) (Q3N Z a1 p2 vt vk vc vz g n h0 n0) ({ frames := 0, cells := 0, slots := 0, locals := 0 } : Room).cells ({ frames := 0, cells := 0, slots := 0, locals := 0 } : Room).slots
    have hv : (own_isN p2 g n vt vc vz) = (0 : Int32) := hj.trans (by simp only [own_isN, if_neg hc43_12])
    obtain ⟨fs, hr, hrun, hended, hW, hsame⟩ := X11.leave (v := some (.int (0 : Int32))) (fun h => by rw [Bd.returns] at h; cases h)
    refine ⟨_, _, ?_, hrun, hended, _, _, rfl, ?_, ⟨_, rfl⟩, hW, hsame.mono (by decide) (by decide)⟩
    · exact retN X11 hx (t := .boolean) Bd.returns (by simp) (hb hby d3N_51) hr
    · show Q3N Z a1 p2 vt vk vc vz g n h0 n0 _ T11.heap _
      rw [e11]
      exact ⟨(congrArg (fun z => some (Value.int z)) hv.symm), N0, rfl⟩
def own_isL (p2 : Int32) (g : Nat → Int64) (n : Int32) (vc : Int32) (vz : Int32) : Int32 := (if ((g ((p2.toUInt32 >>> ((6 : Int32) &&& 31).toUInt32).toInt32).toNatClampNeg) &&& ((1 : Int64) <<< (p2 &&& 0x3f).toInt64)) = (0 : Int64) then (0 : Int32) else (1 : Int32))
theorem d3L_0 : decode prog_95_method_8_code 0 = .ok (.aload_n 0, 1) := by decide +kernel
theorem d3L_1 : decode prog_95_method_8_code 1 = .ok (.getfield 30, 3) := by decide +kernel
theorem d3L_4 : decode prog_95_method_8_code 4 = .ok (.ifnull 29, 3) := by decide +kernel
theorem d3L_7 : decode prog_95_method_8_code 7 = .ok (.aload_n 0, 1) := by decide +kernel
theorem d3L_8 : decode prog_95_method_8_code 8 = .ok (.getfield 30, 3) := by decide +kernel
theorem d3L_11 : decode prog_95_method_8_code 11 = .ok (.iload_n 1, 1) := by decide +kernel
theorem d3L_12 : decode prog_95_method_8_code 12 = .ok (.bipush 6, 2) := by decide +kernel
theorem d3L_14 : decode prog_95_method_8_code 14 = .ok (.iushr, 1) := by decide +kernel
theorem d3L_15 : decode prog_95_method_8_code 15 = .ok (.laload, 1) := by decide +kernel
theorem d3L_16 : decode prog_95_method_8_code 16 = .ok (.lconst 1, 1) := by decide +kernel
theorem d3L_17 : decode prog_95_method_8_code 17 = .ok (.iload_n 1, 1) := by decide +kernel
theorem d3L_18 : decode prog_95_method_8_code 18 = .ok (.lshl, 1) := by decide +kernel
theorem d3L_19 : decode prog_95_method_8_code 19 = .ok (.land, 1) := by decide +kernel
theorem d3L_20 : decode prog_95_method_8_code 20 = .ok (.lconst 0, 1) := by decide +kernel
theorem d3L_21 : decode prog_95_method_8_code 21 = .ok (.lcmp, 1) := by decide +kernel
theorem d3L_22 : decode prog_95_method_8_code 22 = .ok (.ifCond .eq 7, 3) := by decide +kernel
theorem d3L_25 : decode prog_95_method_8_code 25 = .ok (.iconst 1, 1) := by decide +kernel
theorem d3L_26 : decode prog_95_method_8_code 26 = .ok (.goto 25, 3) := by decide +kernel
theorem d3L_29 : decode prog_95_method_8_code 29 = .ok (.iconst 0, 1) := by decide +kernel
theorem d3L_30 : decode prog_95_method_8_code 30 = .ok (.goto 21, 3) := by decide +kernel
theorem d3L_51 : decode prog_95_method_8_code 51 = .ok (.ireturn, 1) := by decide +kernel
theorem pn_3L : plainName "com/example/libfacet/libfacet/regex/StateSet" = true := by first | (simp [plainName, overriddenIn]; done) | decide +kernel
theorem ef_3L (m : MethodId) (x0 : Addr) (x1 : Int32) : entryFrame m #[(.ref x0), (.int x1)] 2 = mkF m 0 #[.val (.ref x0), .val (.int x1)] [] := by first | (simp [entryFrame, mkF, argsToLocals, Value.category]; done) | rfl
def Q3L (Z : State) (a1 : Addr) (p2 : Int32) (vb : Addr) (vm : Addr) (vc : Int32) (vz : Int32) (g : Nat → Int64) (n : Int32) (h0 : Heap) (n0 : Nat) (v : Option Value) (h : Heap) (L : List Loc) : Prop := v = some (.int (own_isL p2 g n vc vz)) ∧ Fr n0 L ∧ h = h0
set_option maxRecDepth 65536 in
set_option maxHeartbeats 40000000 in
theorem rm3L (l : Launch) (Z : State) (a0 : Array Value) (hw : ∀ d ∈ tables_1, d.before a0 Z = true) (ws : List Jvm.Cond) (a1 : Addr) (p2 : Int32) (vb : Addr) (vm : Addr) (vc : Int32) (vz : Int32) (g : Nat → Int64) (n : Int32) (h0 : Heap) (n0 : Nat) (Z0 : n0 ≤ h0.size) (O_a1 : own_ObjL Z h0 a1 vb vm vc vz) (V_vb : own_Arr Z h0 vb .long n (fun i => Value.long (g i))) (hix : ¬ ((p2.toUInt32 >>> ((6 : Int32) &&& 31).toUInt32).toInt32) < 0 ∧ ((p2.toUInt32 >>> ((6 : Int32) &&& 31).toUInt32).toInt32) < n) :
    MetFree l (⟨"com/example/libfacet/libfacet/regex/StateSet", "isMarked", "(I)Z"⟩ : MethodName) (head1 (Jvm.Cond.code (⟨"com/example/libfacet/libfacet/regex/StateSet", "isMarked", "(I)Z"⟩ : MethodName) prog_95_method_8_code 2 (some .boolean) :: ws) ({ frames := 0, cells := 0, slots := 0, locals := 0 } : Room)) (fun a U => a = #[(.ref a1), (.int p2)] ∧ Z.Warmed39 U.vm ∧ U.heap = h0) (fun _ _ _ _ _ => True) (fun _ U o U' => ∃ v L, o = .returned v ∧ Q3L Z a1 p2 vb vm vc vz g n h0 n0 v U'.heap L ∧ FrameEnd U o U' L ({ frames := 0, cells := 0, slots := 0, locals := 0 } : Room).cells ({ frames := 0, cells := 0, slots := 0, locals := 0 } : Room).slots) := by
  refine MetFree.of_bodySF (plainFor_of_name pn_3L) hisR ?_
  intro p e s m args below meth c s₁ Bd hml0 hP hK
  obtain ⟨rfl, hZ, hh⟩ := hP
  have hx := Bd.exec
  have hby := Bd.bytes
  have hml : c.maxLocals = 2 := hml0
  have hown : s.vm.findClass "com/example/libfacet/libfacet/regex/StateSet" = some m.cls := findClass_of_methodNamed Bd.named
  have hnm := (name_of_methodNamed Bd.named Bd.method).1
  have X0 : Stand p l e ({ frames := 0, cells := 0, slots := 0, locals := 0 } : Room) s m #[(.ref a1), (.int p2)] below meth c s₁ [] 0 0 := Stand.of_body Bd
  have e0 : s₁.heap = h0 := by rw [← hh, Bd.state]; rfl
  have N0 := Fr.nil n0
  show own_End p e below s (s₁.setTop (entryFrame m #[(.ref a1), (.int p2)] 2)) (Q3L Z a1 p2 vb vm vc vz g n h0 n0) ({ frames := 0, cells := 0, slots := 0, locals := 0 } : Room).cells ({ frames := 0, cells := 0, slots := 0, locals := 0 } : Room).slots
  obtain ⟨E_a1_1, F_markBits_a1_2, F_marked_a1_3, F_markedCount_a1_4, F_size_a1_5⟩ := O_a1
  refine own_pre (A := s₁.setTop (mkF m 0 #[.val (.ref a1), .val (.int p2)] [])) (fun tt kt => castTop (ef_3L m a1 p2) kt) ?_
  show own_End p e below s (s₁.setTop (mkF m 0 #[.val (.ref a1), .val (.int p2)] [])) (Q3L Z a1 p2 vb vm vc vz g n h0 n0) ({ frames := 0, cells := 0, slots := 0, locals := 0 } : Room).cells ({ frames := 0, cells := 0, slots := 0, locals := 0 } : Room).slots
  have hj : own_isL p2 g n vc vz = own_isL p2 g n vc vz := rfl
  obtain ⟨T6, X6, e6, st6⟩ := getF X0 hx hZ hown (host := "") (Or.inl (hw _ (List.mem_of_getElem? (i := 22) rfl))) Via.refl e0 F_markBits_a1_2 (g := (mkF m 1 #[.val (.ref a1), .val (.int p2)] [(.ref a1)])) rfl rfl (hb hby d3L_1)
  obtain ⟨T7, X7, e7, st7⟩ := getF X6 hx hZ hown (host := "") (Or.inl (hw _ (List.mem_of_getElem? (i := 22) rfl))) Via.refl e6 F_markBits_a1_2 (g := (mkF m 8 #[.val (.ref a1), .val (.int p2)] [(.ref a1)])) rfl rfl (hb hby d3L_8)
  obtain ⟨cl8, Ar8, S8, Nn8, G8⟩ := id V_vb
  have hin8 : ¬ (((p2.toUInt32 >>> ((6 : Int32) &&& 31).toUInt32).toInt32) < 0 ∨ cl8.slots.size ≤ ((p2.toUInt32 >>> ((6 : Int32) &&& 31).toUInt32).toInt32).toNatClampNeg) := inb_of S8 (hix : ¬ ((p2.toUInt32 >>> ((6 : Int32) &&& 31).toUInt32).toInt32) < 0 ∧ ((p2.toUInt32 >>> ((6 : Int32) &&& 31).toUInt32).toInt32) < n)
  have hat8 : cl8.slots[((p2.toUInt32 >>> ((6 : Int32) &&& 31).toUInt32).toInt32).toNatClampNeg]? = some (.long (g ((p2.toUInt32 >>> ((6 : Int32) &&& 31).toUInt32).toInt32).toNatClampNeg)) := own_at S8 G8 hin8
  refine own_pre (A := T7.setTop (mkF m 22 #[.val (.ref a1), .val (.int p2)] [(.int (lcmpW ((g ((p2.toUInt32 >>> ((6 : Int32) &&& 31).toUInt32).toInt32).toNatClampNeg) &&& ((1 : Int64) <<< (p2 &&& 0x3f).toInt64)) (0 : Int64)))])) (fun tt kt => ?_) ?_
  · show Steps p.tables e below (s₁.setTop (mkF m 0 #[.val (.ref a1), .val (.int p2)] [])) _
    refine XS.aloadN X0.here hx rfl (hb hby d3L_0) rfl rfl ?_
    show Steps p.tables e below (s₁.setTop (mkF m 1 #[.val (.ref a1), .val (.int p2)] [(.ref a1)])) _
    refine st6 _ ?_
    show Steps p.tables e below (T6.setTop (mkF m 4 #[.val (.ref a1), .val (.int p2)] [(.ref vb)])) _
    refine XS.ifnullNo X6.here hx rfl (hb hby d3L_4) rfl ?_
    refine XS.aloadN X6.here hx rfl (hb hby d3L_7) rfl rfl ?_
    show Steps p.tables e below (T6.setTop (mkF m 8 #[.val (.ref a1), .val (.int p2)] [(.ref a1)])) _
    refine st7 _ ?_
    show Steps p.tables e below (T7.setTop (mkF m 11 #[.val (.ref a1), .val (.int p2)] [(.ref vb)])) _
    refine XS.iloadN X7.here hx rfl (hb hby d3L_11) rfl ?_
    refine XS.bipush X7.here hx rfl (hb hby d3L_12) ?_
    refine XS.iushr X7.here hx rfl (hb hby d3L_14) rfl ?_
    show Steps p.tables e below (T7.setTop (mkF m 15 #[.val (.ref a1), .val (.int p2)] [(.int ((p2.toUInt32 >>> ((6 : Int32) &&& 31).toUInt32).toInt32)), (.ref vb)])) _
    refine X7.laload hx (j := ((p2.toUInt32 >>> ((6 : Int32) &&& 31).toUInt32).toInt32)) (v := (.long (g ((p2.toUInt32 >>> ((6 : Int32) &&& 31).toUInt32).toInt32).toNatClampNeg))) (by rw [e7]; exact Ar8.1) (State.isArrayOf_alike hZ.alike Ar8.2.1) Ar8.2.2 hin8 hat8 (g := (mkF m 15 #[.val (.ref a1), .val (.int p2)] [(.int ((p2.toUInt32 >>> ((6 : Int32) &&& 31).toUInt32).toInt32)), (.ref vb)])) rfl rfl (hb hby d3L_15) _ ?_
    show Steps p.tables e below (T7.setTop (mkF m 16 #[.val (.ref a1), .val (.int p2)] [(.long (g ((p2.toUInt32 >>> ((6 : Int32) &&& 31).toUInt32).toInt32).toNatClampNeg))])) _
    refine XS.lconst X7.here hx rfl (hb hby d3L_16) ?_
    refine XS.iloadN X7.here hx rfl (hb hby d3L_17) rfl ?_
    refine XS.lshl X7.here hx rfl (hb hby d3L_18) rfl ?_
    refine XS.land X7.here hx rfl (hb hby d3L_19) rfl ?_
    show Steps p.tables e below (T7.setTop (mkF m 20 #[.val (.ref a1), .val (.int p2)] [(.long ((g ((p2.toUInt32 >>> ((6 : Int32) &&& 31).toUInt32).toInt32).toNatClampNeg) &&& ((1 : Int64) <<< (p2 &&& 0x3f).toInt64)))])) _
    refine XS.lconst X7.here hx rfl (hb hby d3L_20) ?_
    refine XS.lcmp X7.here hx rfl (hb hby d3L_21) rfl ?_
    exact kt
  show own_End p e below s (T7.setTop (mkF m 22 #[.val (.ref a1), .val (.int p2)] [(.int (lcmpW ((g ((p2.toUInt32 >>> ((6 : Int32) &&& 31).toUInt32).toInt32).toNatClampNeg) &&& ((1 : Int64) <<< (p2 &&& 0x3f).toInt64)) (0 : Int64)))])) (Q3L Z a1 p2 vb vm vc vz g n h0 n0) ({ frames := 0, cells := 0, slots := 0, locals := 0 } : Room).cells ({ frames := 0, cells := 0, slots := 0, locals := 0 } : Room).slots
  by_cases hc22_9 : ((g ((p2.toUInt32 >>> ((6 : Int32) &&& 31).toUInt32).toInt32).toNatClampNeg) &&& ((1 : Int64) <<< (p2 &&& 0x3f).toInt64)) = (0 : Int64)
  · refine own_pre (A := T7.setTop (mkF m 51 #[.val (.ref a1), .val (.int p2)] [(.int (0 : Int32))])) (fun tt kt => ?_) ?_
    · show Steps p.tables e below (T7.setTop (mkF m 22 #[.val (.ref a1), .val (.int p2)] [(.int (lcmpW ((g ((p2.toUInt32 >>> ((6 : Int32) &&& 31).toUInt32).toInt32).toNatClampNeg) &&& ((1 : Int64) <<< (p2 &&& 0x3f).toInt64)) (0 : Int64)))])) _
      refine XS.ifYes X7.here hx rfl (pc0 := 22) (pc' := 29) rfl (hb hby d3L_22) rfl ((if0 _ _).trans (teq ((lw_eq ((g ((p2.toUInt32 >>> ((6 : Int32) &&& 31).toUInt32).toInt32).toNatClampNeg) &&& ((1 : Int64) <<< (p2 &&& 0x3f).toInt64)) (0 : Int64)).mpr hc22_9)).1) (by decide) (by decide) ?_
      refine XS.iconst X7.here hx rfl (hb hby d3L_29) ?_
      refine XS.goto X7.here hx rfl (pc0 := 30) (pc' := 51) rfl (hb hby d3L_30) (by decide) (by decide) ?_
      exact kt
    show own_End p e below s (T7.setTop (mkF m 51 #[.val (.ref a1), .val (.int p2)] [(.int (0 : Int32))])) (Q3L Z a1 p2 vb vm vc vz g n h0 n0) ({ frames := 0, cells := 0, slots := 0, locals := 0 } : Room).cells ({ frames := 0, cells := 0, slots := 0, locals := 0 } : Room).slots
    have hv : (own_isL p2 g n vc vz) = (0 : Int32) := hj.trans (by simp only [own_isL, if_pos hc22_9])
    obtain ⟨fs, hr, hrun, hended, hW, hsame⟩ := X7.leave (v := some (.int (0 : Int32))) (fun h => by rw [Bd.returns] at h; cases h)
    refine ⟨_, _, ?_, hrun, hended, _, _, rfl, ?_, ⟨_, rfl⟩, hW, hsame.mono (by decide) (by decide)⟩
    · exact retN X7 hx (t := .boolean) Bd.returns (by simp) (hb hby d3L_51) hr
    · show Q3L Z a1 p2 vb vm vc vz g n h0 n0 _ T7.heap _
      rw [e7]
      exact ⟨(congrArg (fun z => some (Value.int z)) hv.symm), N0, rfl⟩
  · refine own_pre (A := T7.setTop (mkF m 51 #[.val (.ref a1), .val (.int p2)] [(.int (1 : Int32))])) (fun tt kt => ?_) ?_
    · show Steps p.tables e below (T7.setTop (mkF m 22 #[.val (.ref a1), .val (.int p2)] [(.int (lcmpW ((g ((p2.toUInt32 >>> ((6 : Int32) &&& 31).toUInt32).toInt32).toNatClampNeg) &&& ((1 : Int64) <<< (p2 &&& 0x3f).toInt64)) (0 : Int64)))])) _
      refine XS.ifNo X7.here hx rfl (hb hby d3L_22) rfl ((if0 _ _).trans (feq (fun q => hc22_9 ((lw_eq ((g ((p2.toUInt32 >>> ((6 : Int32) &&& 31).toUInt32).toInt32).toNatClampNeg) &&& ((1 : Int64) <<< (p2 &&& 0x3f).toInt64)) (0 : Int64)).mp q))).1) ?_
      refine XS.iconst X7.here hx rfl (hb hby d3L_25) ?_
      refine XS.goto X7.here hx rfl (pc0 := 26) (pc' := 51) rfl (hb hby d3L_26) (by decide) (by decide) ?_
      exact kt
    show own_End p e below s (T7.setTop (mkF m 51 #[.val (.ref a1), .val (.int p2)] [(.int (1 : Int32))])) (Q3L Z a1 p2 vb vm vc vz g n h0 n0) ({ frames := 0, cells := 0, slots := 0, locals := 0 } : Room).cells ({ frames := 0, cells := 0, slots := 0, locals := 0 } : Room).slots
    have hv : (own_isL p2 g n vc vz) = (1 : Int32) := hj.trans (by simp only [own_isL, if_neg hc22_9])
    obtain ⟨fs, hr, hrun, hended, hW, hsame⟩ := X7.leave (v := some (.int (1 : Int32))) (fun h => by rw [Bd.returns] at h; cases h)
    refine ⟨_, _, ?_, hrun, hended, _, _, rfl, ?_, ⟨_, rfl⟩, hW, hsame.mono (by decide) (by decide)⟩
    · exact retN X7 hx (t := .boolean) Bd.returns (by simp) (hb hby d3L_51) hr
    · show Q3L Z a1 p2 vb vm vc vz g n h0 n0 _ T7.heap _
      rw [e7]
      exact ⟨(congrArg (fun z => some (Value.int z)) hv.symm), N0, rfl⟩
def own_markN (p2 : Int32) (g : Nat → Int32) (n : Int32) (vt : Int32) (vc : Int32) (vz : Int32) : Int32 := (if (g p2.toNatClampNeg) = vt then (0 : Int32) else (1 : Int32))
theorem d4N_0 : decode prog_95_method_5_code 0 = .ok (.aload_n 0, 1) := by decide +kernel
theorem d4N_1 : decode prog_95_method_5_code 1 = .ok (.getfield 30, 3) := by decide +kernel
theorem d4N_4 : decode prog_95_method_5_code 4 = .ok (.ifnull 45, 3) := by decide +kernel
theorem d4N_49 : decode prog_95_method_5_code 49 = .ok (.aload_n 0, 1) := by decide +kernel
theorem d4N_50 : decode prog_95_method_5_code 50 = .ok (.getfield 26, 3) := by decide +kernel
theorem d4N_53 : decode prog_95_method_5_code 53 = .ok (.iload_n 1, 1) := by decide +kernel
theorem d4N_54 : decode prog_95_method_5_code 54 = .ok (.caload, 1) := by decide +kernel
theorem d4N_55 : decode prog_95_method_5_code 55 = .ok (.aload_n 0, 1) := by decide +kernel
theorem d4N_56 : decode prog_95_method_5_code 56 = .ok (.getfield 12, 3) := by decide +kernel
theorem d4N_59 : decode prog_95_method_5_code 59 = .ok (.if_icmp .eq 7, 3) := by decide +kernel
theorem d4N_62 : decode prog_95_method_5_code 62 = .ok (.iconst 1, 1) := by decide +kernel
theorem d4N_63 : decode prog_95_method_5_code 63 = .ok (.goto 4, 3) := by decide +kernel
theorem d4N_66 : decode prog_95_method_5_code 66 = .ok (.iconst 0, 1) := by decide +kernel
theorem d4N_67 : decode prog_95_method_5_code 67 = .ok (.istore_n 2, 1) := by decide +kernel
theorem d4N_68 : decode prog_95_method_5_code 68 = .ok (.aload_n 0, 1) := by decide +kernel
theorem d4N_69 : decode prog_95_method_5_code 69 = .ok (.getfield 26, 3) := by decide +kernel
theorem d4N_72 : decode prog_95_method_5_code 72 = .ok (.iload_n 1, 1) := by decide +kernel
theorem d4N_73 : decode prog_95_method_5_code 73 = .ok (.aload_n 0, 1) := by decide +kernel
theorem d4N_74 : decode prog_95_method_5_code 74 = .ok (.getfield 12, 3) := by decide +kernel
theorem d4N_77 : decode prog_95_method_5_code 77 = .ok (.i2c, 1) := by decide +kernel
theorem d4N_78 : decode prog_95_method_5_code 78 = .ok (.castore, 1) := by decide +kernel
theorem d4N_79 : decode prog_95_method_5_code 79 = .ok (.iload_n 2, 1) := by decide +kernel
theorem d4N_80 : decode prog_95_method_5_code 80 = .ok (.ifCond .eq 63, 3) := by decide +kernel
theorem d4N_83 : decode prog_95_method_5_code 83 = .ok (.aload_n 0, 1) := by decide +kernel
theorem d4N_84 : decode prog_95_method_5_code 84 = .ok (.getfield 34, 3) := by decide +kernel
theorem d4N_87 : decode prog_95_method_5_code 87 = .ok (.ifnull 56, 3) := by decide +kernel
theorem d4N_143 : decode prog_95_method_5_code 143 = .ok (.iload_n 2, 1) := by decide +kernel
theorem d4N_144 : decode prog_95_method_5_code 144 = .ok (.ireturn, 1) := by decide +kernel
theorem pn_4N : plainName "com/example/libfacet/libfacet/regex/StateSet" = true := by first | (simp [plainName, overriddenIn]; done) | decide +kernel
theorem ef_4N (m : MethodId) (x0 : Addr) (x1 : Int32) : entryFrame m #[(.ref x0), (.int x1)] 3 = mkF m 0 #[.val (.ref x0), .val (.int x1), .unset] [] := by first | (simp [entryFrame, mkF, argsToLocals, Value.category]; done) | rfl
def Q4N (Z : State) (a1 : Addr) (p2 : Int32) (vt : Int32) (vk : Addr) (vc : Int32) (vz : Int32) (g : Nat → Int32) (n : Int32) (h0 : Heap) (n0 : Nat) (v : Option Value) (h : Heap) (L : List Loc) : Prop := v = some (.int (own_markN p2 g n vt vc vz)) ∧ Fr n0 L ∧ Keep h0 h [vk] ∧ own_Arr Z h vk .char n (fun i => Value.int ((own_put g p2 (own_ch vt)) i))
set_option maxRecDepth 65536 in
set_option maxHeartbeats 40000000 in
theorem rm4N (l : Launch) (Z : State) (a0 : Array Value) (hw : ∀ d ∈ tables_1, d.before a0 Z = true) (ws : List Jvm.Cond) (a1 : Addr) (p2 : Int32) (vt : Int32) (vk : Addr) (vc : Int32) (vz : Int32) (g : Nat → Int32) (n : Int32) (h0 : Heap) (n0 : Nat) (Z0 : n0 ≤ h0.size) (O_a1 : own_ObjN Z h0 a1 vt vk vc vz) (V_vk : own_Arr Z h0 vk .char n (fun i => Value.int (g i))) (ne_a1_vk : a1 ≠ vk) (g_vk : n0 ≤ vk) (hp0 : 0 ≤ p2.toInt) (hp1 : p2.toInt < n.toInt) :
    MetFree l (⟨"com/example/libfacet/libfacet/regex/StateSet", "mark", "(I)Z"⟩ : MethodName) (head1 (Jvm.Cond.code (⟨"com/example/libfacet/libfacet/regex/StateSet", "mark", "(I)Z"⟩ : MethodName) prog_95_method_5_code 3 (some .boolean) :: ws) ({ frames := 0, cells := 0, slots := 0, locals := 0 } : Room)) (fun a U => a = #[(.ref a1), (.int p2)] ∧ Z.Warmed39 U.vm ∧ U.heap = h0) (fun _ _ _ _ _ => True) (fun _ U o U' => ∃ v L, o = .returned v ∧ Q4N Z a1 p2 vt vk vc vz g n h0 n0 v U'.heap L ∧ FrameEnd U o U' L ({ frames := 0, cells := 0, slots := 0, locals := 0 } : Room).cells ({ frames := 0, cells := 0, slots := 0, locals := 0 } : Room).slots) := by
  refine MetFree.of_bodySF (plainFor_of_name pn_4N) hisR ?_
  intro p e s m args below meth c s₁ Bd hml0 hP hK
  obtain ⟨rfl, hZ, hh⟩ := hP
  have hx := Bd.exec
  have hby := Bd.bytes
  have hml : c.maxLocals = 3 := hml0
  have hown : s.vm.findClass "com/example/libfacet/libfacet/regex/StateSet" = some m.cls := findClass_of_methodNamed Bd.named
  have hnm := (name_of_methodNamed Bd.named Bd.method).1
  have X0 : Stand p l e ({ frames := 0, cells := 0, slots := 0, locals := 0 } : Room) s m #[(.ref a1), (.int p2)] below meth c s₁ [] 0 0 := Stand.of_body Bd
  have e0 : s₁.heap = h0 := by rw [← hh, Bd.state]; rfl
  have N0 := Fr.nil n0
  show own_End p e below s (s₁.setTop (entryFrame m #[(.ref a1), (.int p2)] 3)) (Q4N Z a1 p2 vt vk vc vz g n h0 n0) ({ frames := 0, cells := 0, slots := 0, locals := 0 } : Room).cells ({ frames := 0, cells := 0, slots := 0, locals := 0 } : Room).slots
  obtain ⟨E_a1_1, F_stamp_a1_2, F_marks_a1_3, F_markBits_a1_4, F_marked_a1_5, F_markedCount_a1_6, F_size_a1_7⟩ := O_a1
  refine own_pre (A := s₁.setTop (mkF m 0 #[.val (.ref a1), .val (.int p2), .unset] [])) (fun tt kt => castTop (ef_4N m a1 p2) kt) ?_
  show own_End p e below s (s₁.setTop (mkF m 0 #[.val (.ref a1), .val (.int p2), .unset] [])) (Q4N Z a1 p2 vt vk vc vz g n h0 n0) ({ frames := 0, cells := 0, slots := 0, locals := 0 } : Room).cells ({ frames := 0, cells := 0, slots := 0, locals := 0 } : Room).slots
  have hj : own_markN p2 g n vt vc vz = own_markN p2 g n vt vc vz := rfl
  obtain ⟨T8, X8, e8, st8⟩ := getF X0 hx hZ hown (host := "") (Or.inl (hw _ (List.mem_of_getElem? (i := 22) rfl))) Via.refl e0 F_markBits_a1_4 (g := (mkF m 1 #[.val (.ref a1), .val (.int p2), .unset] [(.ref a1)])) rfl rfl (hb hby d4N_1)
  obtain ⟨T9, X9, e9, st9⟩ := getF X8 hx hZ hown (host := "") (Or.inl (hw _ (List.mem_of_getElem? (i := 19) rfl))) Via.refl e8 F_marks_a1_3 (g := (mkF m 50 #[.val (.ref a1), .val (.int p2), .unset] [(.ref a1)])) rfl rfl (hb hby d4N_50)
  obtain ⟨cl10, Ar10, S10, Nn10, G10⟩ := id V_vk
  have hin10 : ¬ (p2 < 0 ∨ cl10.slots.size ≤ p2.toNatClampNeg) := inb_of S10 (own_inb2 hp0 hp1 : ¬ p2 < 0 ∧ p2 < n)
  have hat10 : cl10.slots[p2.toNatClampNeg]? = some (.int (g p2.toNatClampNeg)) := own_at S10 G10 hin10
  obtain ⟨T11, X11, e11, st11⟩ := getF X9 hx hZ hown (host := "") (Or.inl (hw _ (List.mem_of_getElem? (i := 10) rfl))) Via.refl e9 F_stamp_a1_2 (g := (mkF m 56 #[.val (.ref a1), .val (.int p2), .unset] [(.ref a1), (.int (g p2.toNatClampNeg))])) rfl rfl (hb hby d4N_56)
  refine own_pre (A := T11.setTop (mkF m 59 #[.val (.ref a1), .val (.int p2), .unset] [(.int vt), (.int (g p2.toNatClampNeg))])) (fun tt kt => ?_) ?_
  · show Steps p.tables e below (s₁.setTop (mkF m 0 #[.val (.ref a1), .val (.int p2), .unset] [])) _
    refine XS.aloadN X0.here hx rfl (hb hby d4N_0) rfl rfl ?_
    show Steps p.tables e below (s₁.setTop (mkF m 1 #[.val (.ref a1), .val (.int p2), .unset] [(.ref a1)])) _
    refine st8 _ ?_
    show Steps p.tables e below (T8.setTop (mkF m 4 #[.val (.ref a1), .val (.int p2), .unset] [.null])) _
    refine XS.ifnullYes X8.here hx rfl (pc0 := 4) (pc' := 49) rfl (hb hby d4N_4) rfl (by decide) (by decide) ?_
    refine XS.aloadN X8.here hx rfl (hb hby d4N_49) rfl rfl ?_
    show Steps p.tables e below (T8.setTop (mkF m 50 #[.val (.ref a1), .val (.int p2), .unset] [(.ref a1)])) _
    refine st9 _ ?_
    show Steps p.tables e below (T9.setTop (mkF m 53 #[.val (.ref a1), .val (.int p2), .unset] [(.ref vk)])) _
    refine XS.iloadN X9.here hx rfl (hb hby d4N_53) rfl ?_
    show Steps p.tables e below (T9.setTop (mkF m 54 #[.val (.ref a1), .val (.int p2), .unset] [(.int p2), (.ref vk)])) _
    refine X9.caload hx (j := p2) (v := (.int (g p2.toNatClampNeg))) (by rw [e9]; exact Ar10.1) (State.isArrayOf_alike hZ.alike Ar10.2.1) Ar10.2.2 hin10 hat10 (g := (mkF m 54 #[.val (.ref a1), .val (.int p2), .unset] [(.int p2), (.ref vk)])) rfl rfl (hb hby d4N_54) _ ?_
    show Steps p.tables e below (T9.setTop (mkF m 55 #[.val (.ref a1), .val (.int p2), .unset] [(.int (g p2.toNatClampNeg))])) _
    refine XS.aloadN X9.here hx rfl (hb hby d4N_55) rfl rfl ?_
    show Steps p.tables e below (T9.setTop (mkF m 56 #[.val (.ref a1), .val (.int p2), .unset] [(.ref a1), (.int (g p2.toNatClampNeg))])) _
    refine st11 _ ?_
    exact kt
  show own_End p e below s (T11.setTop (mkF m 59 #[.val (.ref a1), .val (.int p2), .unset] [(.int vt), (.int (g p2.toNatClampNeg))])) (Q4N Z a1 p2 vt vk vc vz g n h0 n0) ({ frames := 0, cells := 0, slots := 0, locals := 0 } : Room).cells ({ frames := 0, cells := 0, slots := 0, locals := 0 } : Room).slots
  by_cases hc59_12 : (g p2.toNatClampNeg) = vt
  · obtain ⟨T13, X13, e13, st13⟩ := getF X11 hx hZ hown (host := "") (Or.inl (hw _ (List.mem_of_getElem? (i := 19) rfl))) Via.refl e11 F_marks_a1_3 (g := (mkF m 69 #[.val (.ref a1), .val (.int p2), .val (.int (0 : Int32))] [(.ref a1)])) rfl rfl (hb hby d4N_69)
    obtain ⟨T14, X14, e14, st14⟩ := getF X13 hx hZ hown (host := "") (Or.inl (hw _ (List.mem_of_getElem? (i := 10) rfl))) Via.refl e13 F_stamp_a1_2 (g := (mkF m 74 #[.val (.ref a1), .val (.int p2), .val (.int (0 : Int32))] [(.ref a1), (.int p2), (.ref vk)])) rfl rfl (hb hby d4N_74)
    obtain ⟨cl15, Ar15, S15, Nn15, G15⟩ := id V_vk
    have hin15 : ¬ (p2 < 0 ∨ cl15.slots.size ≤ p2.toNatClampNeg) := inb_of S15 (own_inb2 hp0 hp1 : ¬ p2 < 0 ∧ p2 < n)
    obtain ⟨T16, h16, X16, e16, W16, st16⟩ := stC X14 hx hZ e14 Ar15 (j := p2) hin15 (g := (mkF m 78 #[.val (.ref a1), .val (.int p2), .val (.int (0 : Int32))] [(.int (vt.toUInt32.toUInt16.toUInt32.toInt32)), (.int p2), (.ref vk)])) rfl rfl (hb hby d4N_78)
    have fE_a1_x16 := (E_a1_1.wr W16)
    have fF_a1_stamp_x16 := (Fld.other W16 F_stamp_a1_2 (Or.inl ne_a1_vk))
    have fF_a1_marks_x16 := (Fld.other W16 F_marks_a1_3 (Or.inl ne_a1_vk))
    have fF_a1_markBits_x16 := (Fld.other W16 F_markBits_a1_4 (Or.inl ne_a1_vk))
    have fF_a1_marked_x16 := (Fld.other W16 F_marked_a1_5 (Or.inl ne_a1_vk))
    have fF_a1_markedCount_x16 := (Fld.other W16 F_markedCount_a1_6 (Or.inl ne_a1_vk))
    have fF_a1_size_x16 := (Fld.other W16 F_size_a1_7 (Or.inl ne_a1_vk))
    have V16 : own_Arr Z h16 vk .char n (fun i => Value.int ((own_put g p2 (own_ch vt)) i)) := own_Arr.set (w := Value.int) (g := g) (x := (own_ch vt)) V_vk W16 rfl (fun i => rfl)
    have N16 := Fr.snoc X16 N0 g_vk
    have K16 : Keep h0 h16 [vk] := Keep.wr (Keep.refl h0 _) W16 (Or.inl (List.mem_of_getElem? (i := 0) rfl))
    have Z16 : n0 ≤ h16.size := Nat.le_trans Z0 (Nat.le_of_eq W16.size.symm)
    refine own_pre (A := T16.setTop (mkF m 144 #[.val (.ref a1), .val (.int p2), .val (.int (0 : Int32))] [(.int (0 : Int32))])) (fun tt kt => ?_) ?_
    · show Steps p.tables e below (T11.setTop (mkF m 59 #[.val (.ref a1), .val (.int p2), .unset] [(.int vt), (.int (g p2.toNatClampNeg))])) _
      refine XS.icmpYes X11.here hx rfl (pc0 := 59) (pc' := 66) rfl (hb hby d4N_59) rfl (teq hc59_12).1 (by decide) (by decide) ?_
      refine XS.iconst X11.here hx rfl (hb hby d4N_66) ?_
      refine XS.istoreN X11.here hx rfl (hb hby d4N_67) rfl (l' := #[.val (.ref a1), .val (.int p2), .val (.int (0 : Int32))]) rfl ?_
      refine XS.aloadN X11.here hx rfl (hb hby d4N_68) rfl rfl ?_
      show Steps p.tables e below (T11.setTop (mkF m 69 #[.val (.ref a1), .val (.int p2), .val (.int (0 : Int32))] [(.ref a1)])) _
      refine st13 _ ?_
      show Steps p.tables e below (T13.setTop (mkF m 72 #[.val (.ref a1), .val (.int p2), .val (.int (0 : Int32))] [(.ref vk)])) _
      refine XS.iloadN X13.here hx rfl (hb hby d4N_72) rfl ?_
      refine XS.aloadN X13.here hx rfl (hb hby d4N_73) rfl rfl ?_
      show Steps p.tables e below (T13.setTop (mkF m 74 #[.val (.ref a1), .val (.int p2), .val (.int (0 : Int32))] [(.ref a1), (.int p2), (.ref vk)])) _
      refine st14 _ ?_
      show Steps p.tables e below (T14.setTop (mkF m 77 #[.val (.ref a1), .val (.int p2), .val (.int (0 : Int32))] [(.int vt), (.int p2), (.ref vk)])) _
      refine XS.i2c X14.here hx rfl (hb hby d4N_77) rfl ?_
      show Steps p.tables e below (T14.setTop (mkF m 78 #[.val (.ref a1), .val (.int p2), .val (.int (0 : Int32))] [(.int (vt.toUInt32.toUInt16.toUInt32.toInt32)), (.int p2), (.ref vk)])) _
      refine st16 _ ?_
      show Steps p.tables e below (T16.setTop (mkF m 79 #[.val (.ref a1), .val (.int p2), .val (.int (0 : Int32))] [])) _
      refine XS.iloadN X16.here hx rfl (hb hby d4N_79) rfl ?_
      refine XS.ifYes X16.here hx rfl (pc0 := 80) (pc' := 143) rfl (hb hby d4N_80) rfl ((if0 _ _).trans (teq ((by decide) : (0 : Int32) = (0 : Int32))).1) (by decide) (by decide) ?_
      refine XS.iloadN X16.here hx rfl (hb hby d4N_143) rfl ?_
      exact kt
    show own_End p e below s (T16.setTop (mkF m 144 #[.val (.ref a1), .val (.int p2), .val (.int (0 : Int32))] [(.int (0 : Int32))])) (Q4N Z a1 p2 vt vk vc vz g n h0 n0) ({ frames := 0, cells := 0, slots := 0, locals := 0 } : Room).cells ({ frames := 0, cells := 0, slots := 0, locals := 0 } : Room).slots
    have hv : (own_markN p2 g n vt vc vz) = (0 : Int32) := hj.trans (by simp only [own_markN, if_pos hc59_12])
    obtain ⟨fs, hr, hrun, hended, hW, hsame⟩ := X16.leave (v := some (.int (0 : Int32))) (fun h => by rw [Bd.returns] at h; cases h)
    refine ⟨_, _, ?_, hrun, hended, _, _, rfl, ?_, ⟨_, rfl⟩, hW, hsame.mono (by decide) (by decide)⟩
    · exact retN X16 hx (t := .boolean) Bd.returns (by simp) (hb hby d4N_144) hr
    · show Q4N Z a1 p2 vt vk vc vz g n h0 n0 _ T16.heap _
      rw [e16]
      exact ⟨(congrArg (fun z => some (Value.int z)) hv.symm), N16, K16, V16⟩
  · obtain ⟨T17, X17, e17, st17⟩ := getF X11 hx hZ hown (host := "") (Or.inl (hw _ (List.mem_of_getElem? (i := 19) rfl))) Via.refl e11 F_marks_a1_3 (g := (mkF m 69 #[.val (.ref a1), .val (.int p2), .val (.int (1 : Int32))] [(.ref a1)])) rfl rfl (hb hby d4N_69)
    obtain ⟨T18, X18, e18, st18⟩ := getF X17 hx hZ hown (host := "") (Or.inl (hw _ (List.mem_of_getElem? (i := 10) rfl))) Via.refl e17 F_stamp_a1_2 (g := (mkF m 74 #[.val (.ref a1), .val (.int p2), .val (.int (1 : Int32))] [(.ref a1), (.int p2), (.ref vk)])) rfl rfl (hb hby d4N_74)
    obtain ⟨cl19, Ar19, S19, Nn19, G19⟩ := id V_vk
    have hin19 : ¬ (p2 < 0 ∨ cl19.slots.size ≤ p2.toNatClampNeg) := inb_of S19 (own_inb2 hp0 hp1 : ¬ p2 < 0 ∧ p2 < n)
    obtain ⟨T20, h20, X20, e20, W20, st20⟩ := stC X18 hx hZ e18 Ar19 (j := p2) hin19 (g := (mkF m 78 #[.val (.ref a1), .val (.int p2), .val (.int (1 : Int32))] [(.int (vt.toUInt32.toUInt16.toUInt32.toInt32)), (.int p2), (.ref vk)])) rfl rfl (hb hby d4N_78)
    have fE_a1_x20 := (E_a1_1.wr W20)
    have fF_a1_stamp_x20 := (Fld.other W20 F_stamp_a1_2 (Or.inl ne_a1_vk))
    have fF_a1_marks_x20 := (Fld.other W20 F_marks_a1_3 (Or.inl ne_a1_vk))
    have fF_a1_markBits_x20 := (Fld.other W20 F_markBits_a1_4 (Or.inl ne_a1_vk))
    have fF_a1_marked_x20 := (Fld.other W20 F_marked_a1_5 (Or.inl ne_a1_vk))
    have fF_a1_markedCount_x20 := (Fld.other W20 F_markedCount_a1_6 (Or.inl ne_a1_vk))
    have fF_a1_size_x20 := (Fld.other W20 F_size_a1_7 (Or.inl ne_a1_vk))
    have V20 : own_Arr Z h20 vk .char n (fun i => Value.int ((own_put g p2 (own_ch vt)) i)) := own_Arr.set (w := Value.int) (g := g) (x := (own_ch vt)) V_vk W20 rfl (fun i => rfl)
    have N20 := Fr.snoc X20 N0 g_vk
    have K20 : Keep h0 h20 [vk] := Keep.wr (Keep.refl h0 _) W20 (Or.inl (List.mem_of_getElem? (i := 0) rfl))
    have Z20 : n0 ≤ h20.size := Nat.le_trans Z0 (Nat.le_of_eq W20.size.symm)
    obtain ⟨T21, X21, e21, st21⟩ := getF X20 hx hZ hown (host := "") (Or.inl (hw _ (List.mem_of_getElem? (i := 24) rfl))) Via.refl e20 fF_a1_marked_x20 (g := (mkF m 84 #[.val (.ref a1), .val (.int p2), .val (.int (1 : Int32))] [(.ref a1)])) rfl rfl (hb hby d4N_84)
    refine own_pre (A := T21.setTop (mkF m 144 #[.val (.ref a1), .val (.int p2), .val (.int (1 : Int32))] [(.int (1 : Int32))])) (fun tt kt => ?_) ?_
    · show Steps p.tables e below (T11.setTop (mkF m 59 #[.val (.ref a1), .val (.int p2), .unset] [(.int vt), (.int (g p2.toNatClampNeg))])) _
      refine XS.icmpNo X11.here hx rfl (hb hby d4N_59) rfl (feq hc59_12).1 ?_
      refine XS.iconst X11.here hx rfl (hb hby d4N_62) ?_
      refine XS.goto X11.here hx rfl (pc0 := 63) (pc' := 67) rfl (hb hby d4N_63) (by decide) (by decide) ?_
      refine XS.istoreN X11.here hx rfl (hb hby d4N_67) rfl (l' := #[.val (.ref a1), .val (.int p2), .val (.int (1 : Int32))]) rfl ?_
      show Steps p.tables e below (T11.setTop (mkF m 68 #[.val (.ref a1), .val (.int p2), .val (.int (1 : Int32))] [])) _
      refine XS.aloadN X11.here hx rfl (hb hby d4N_68) rfl rfl ?_
      show Steps p.tables e below (T11.setTop (mkF m 69 #[.val (.ref a1), .val (.int p2), .val (.int (1 : Int32))] [(.ref a1)])) _
      refine st17 _ ?_
      show Steps p.tables e below (T17.setTop (mkF m 72 #[.val (.ref a1), .val (.int p2), .val (.int (1 : Int32))] [(.ref vk)])) _
      refine XS.iloadN X17.here hx rfl (hb hby d4N_72) rfl ?_
      refine XS.aloadN X17.here hx rfl (hb hby d4N_73) rfl rfl ?_
      show Steps p.tables e below (T17.setTop (mkF m 74 #[.val (.ref a1), .val (.int p2), .val (.int (1 : Int32))] [(.ref a1), (.int p2), (.ref vk)])) _
      refine st18 _ ?_
      show Steps p.tables e below (T18.setTop (mkF m 77 #[.val (.ref a1), .val (.int p2), .val (.int (1 : Int32))] [(.int vt), (.int p2), (.ref vk)])) _
      refine XS.i2c X18.here hx rfl (hb hby d4N_77) rfl ?_
      show Steps p.tables e below (T18.setTop (mkF m 78 #[.val (.ref a1), .val (.int p2), .val (.int (1 : Int32))] [(.int (vt.toUInt32.toUInt16.toUInt32.toInt32)), (.int p2), (.ref vk)])) _
      refine st20 _ ?_
      show Steps p.tables e below (T20.setTop (mkF m 79 #[.val (.ref a1), .val (.int p2), .val (.int (1 : Int32))] [])) _
      refine XS.iloadN X20.here hx rfl (hb hby d4N_79) rfl ?_
      refine XS.ifNo X20.here hx rfl (hb hby d4N_80) rfl ((if0 _ _).trans (feq ((by decide) : ¬ ((1 : Int32) = (0 : Int32)))).1) ?_
      refine XS.aloadN X20.here hx rfl (hb hby d4N_83) rfl rfl ?_
      show Steps p.tables e below (T20.setTop (mkF m 84 #[.val (.ref a1), .val (.int p2), .val (.int (1 : Int32))] [(.ref a1)])) _
      refine st21 _ ?_
      show Steps p.tables e below (T21.setTop (mkF m 87 #[.val (.ref a1), .val (.int p2), .val (.int (1 : Int32))] [.null])) _
      refine XS.ifnullYes X21.here hx rfl (pc0 := 87) (pc' := 143) rfl (hb hby d4N_87) rfl (by decide) (by decide) ?_
      refine XS.iloadN X21.here hx rfl (hb hby d4N_143) rfl ?_
      exact kt
    show own_End p e below s (T21.setTop (mkF m 144 #[.val (.ref a1), .val (.int p2), .val (.int (1 : Int32))] [(.int (1 : Int32))])) (Q4N Z a1 p2 vt vk vc vz g n h0 n0) ({ frames := 0, cells := 0, slots := 0, locals := 0 } : Room).cells ({ frames := 0, cells := 0, slots := 0, locals := 0 } : Room).slots
    have hv : (own_markN p2 g n vt vc vz) = (1 : Int32) := hj.trans (by simp only [own_markN, if_neg hc59_12])
    obtain ⟨fs, hr, hrun, hended, hW, hsame⟩ := X21.leave (v := some (.int (1 : Int32))) (fun h => by rw [Bd.returns] at h; cases h)
    refine ⟨_, _, ?_, hrun, hended, _, _, rfl, ?_, ⟨_, rfl⟩, hW, hsame.mono (by decide) (by decide)⟩
    · exact retN X21 hx (t := .boolean) Bd.returns (by simp) (hb hby d4N_144) hr
    · show Q4N Z a1 p2 vt vk vc vz g n h0 n0 _ T21.heap _
      rw [e21]
      exact ⟨(congrArg (fun z => some (Value.int z)) hv.symm), N20, K20, V20⟩
theorem d4Lu_0 : decode prog_95_method_5_code 0 = .ok (.aload_n 0, 1) := by decide +kernel
theorem d4Lu_1 : decode prog_95_method_5_code 1 = .ok (.getfield 30, 3) := by decide +kernel
theorem d4Lu_4 : decode prog_95_method_5_code 4 = .ok (.ifnull 45, 3) := by decide +kernel
theorem d4Lu_7 : decode prog_95_method_5_code 7 = .ok (.aload_n 0, 1) := by decide +kernel
theorem d4Lu_8 : decode prog_95_method_5_code 8 = .ok (.getfield 30, 3) := by decide +kernel
theorem d4Lu_11 : decode prog_95_method_5_code 11 = .ok (.iload_n 1, 1) := by decide +kernel
theorem d4Lu_12 : decode prog_95_method_5_code 12 = .ok (.bipush 6, 2) := by decide +kernel
theorem d4Lu_14 : decode prog_95_method_5_code 14 = .ok (.iushr, 1) := by decide +kernel
theorem d4Lu_15 : decode prog_95_method_5_code 15 = .ok (.laload, 1) := by decide +kernel
theorem d4Lu_16 : decode prog_95_method_5_code 16 = .ok (.lconst 1, 1) := by decide +kernel
theorem d4Lu_17 : decode prog_95_method_5_code 17 = .ok (.iload_n 1, 1) := by decide +kernel
theorem d4Lu_18 : decode prog_95_method_5_code 18 = .ok (.lshl, 1) := by decide +kernel
theorem d4Lu_19 : decode prog_95_method_5_code 19 = .ok (.land, 1) := by decide +kernel
theorem d4Lu_20 : decode prog_95_method_5_code 20 = .ok (.lconst 0, 1) := by decide +kernel
theorem d4Lu_21 : decode prog_95_method_5_code 21 = .ok (.lcmp, 1) := by decide +kernel
theorem d4Lu_22 : decode prog_95_method_5_code 22 = .ok (.ifCond .ne 7, 3) := by decide +kernel
theorem d4Lu_25 : decode prog_95_method_5_code 25 = .ok (.iconst 1, 1) := by decide +kernel
theorem d4Lu_26 : decode prog_95_method_5_code 26 = .ok (.goto 4, 3) := by decide +kernel
theorem d4Lu_30 : decode prog_95_method_5_code 30 = .ok (.istore_n 2, 1) := by decide +kernel
theorem d4Lu_31 : decode prog_95_method_5_code 31 = .ok (.aload_n 0, 1) := by decide +kernel
theorem d4Lu_32 : decode prog_95_method_5_code 32 = .ok (.getfield 30, 3) := by decide +kernel
theorem d4Lu_35 : decode prog_95_method_5_code 35 = .ok (.iload_n 1, 1) := by decide +kernel
theorem d4Lu_36 : decode prog_95_method_5_code 36 = .ok (.bipush 6, 2) := by decide +kernel
theorem d4Lu_38 : decode prog_95_method_5_code 38 = .ok (.iushr, 1) := by decide +kernel
theorem d4Lu_39 : decode prog_95_method_5_code 39 = .ok (.dup2, 1) := by decide +kernel
theorem d4Lu_40 : decode prog_95_method_5_code 40 = .ok (.laload, 1) := by decide +kernel
theorem d4Lu_41 : decode prog_95_method_5_code 41 = .ok (.lconst 1, 1) := by decide +kernel
theorem d4Lu_42 : decode prog_95_method_5_code 42 = .ok (.iload_n 1, 1) := by decide +kernel
theorem d4Lu_43 : decode prog_95_method_5_code 43 = .ok (.lshl, 1) := by decide +kernel
theorem d4Lu_44 : decode prog_95_method_5_code 44 = .ok (.lor, 1) := by decide +kernel
theorem d4Lu_45 : decode prog_95_method_5_code 45 = .ok (.lastore, 1) := by decide +kernel
theorem d4Lu_46 : decode prog_95_method_5_code 46 = .ok (.goto 33, 3) := by decide +kernel
theorem d4Lu_79 : decode prog_95_method_5_code 79 = .ok (.iload_n 2, 1) := by decide +kernel
theorem d4Lu_80 : decode prog_95_method_5_code 80 = .ok (.ifCond .eq 63, 3) := by decide +kernel
theorem d4Lu_83 : decode prog_95_method_5_code 83 = .ok (.aload_n 0, 1) := by decide +kernel
theorem d4Lu_84 : decode prog_95_method_5_code 84 = .ok (.getfield 34, 3) := by decide +kernel
theorem d4Lu_87 : decode prog_95_method_5_code 87 = .ok (.ifnull 56, 3) := by decide +kernel
theorem d4Lu_90 : decode prog_95_method_5_code 90 = .ok (.aload_n 0, 1) := by decide +kernel
theorem d4Lu_91 : decode prog_95_method_5_code 91 = .ok (.getfield 40, 3) := by decide +kernel
theorem d4Lu_94 : decode prog_95_method_5_code 94 = .ok (.aload_n 0, 1) := by decide +kernel
theorem d4Lu_95 : decode prog_95_method_5_code 95 = .ok (.getfield 34, 3) := by decide +kernel
theorem d4Lu_98 : decode prog_95_method_5_code 98 = .ok (.arraylength, 1) := by decide +kernel
theorem d4Lu_99 : decode prog_95_method_5_code 99 = .ok (.if_icmp .ne 27, 3) := by decide +kernel
theorem d4Lu_126 : decode prog_95_method_5_code 126 = .ok (.aload_n 0, 1) := by decide +kernel
theorem d4Lu_127 : decode prog_95_method_5_code 127 = .ok (.getfield 34, 3) := by decide +kernel
theorem d4Lu_130 : decode prog_95_method_5_code 130 = .ok (.aload_n 0, 1) := by decide +kernel
theorem d4Lu_131 : decode prog_95_method_5_code 131 = .ok (.dup, 1) := by decide +kernel
theorem d4Lu_132 : decode prog_95_method_5_code 132 = .ok (.getfield 40, 3) := by decide +kernel
theorem d4Lu_135 : decode prog_95_method_5_code 135 = .ok (.dup_x1, 1) := by decide +kernel
theorem d4Lu_136 : decode prog_95_method_5_code 136 = .ok (.iconst 1, 1) := by decide +kernel
theorem d4Lu_137 : decode prog_95_method_5_code 137 = .ok (.iadd, 1) := by decide +kernel
theorem d4Lu_138 : decode prog_95_method_5_code 138 = .ok (.putfield 40, 3) := by decide +kernel
theorem d4Lu_141 : decode prog_95_method_5_code 141 = .ok (.iload_n 1, 1) := by decide +kernel
theorem d4Lu_142 : decode prog_95_method_5_code 142 = .ok (.iastore, 1) := by decide +kernel
theorem d4Lu_143 : decode prog_95_method_5_code 143 = .ok (.iload_n 2, 1) := by decide +kernel
theorem d4Lu_144 : decode prog_95_method_5_code 144 = .ok (.ireturn, 1) := by decide +kernel
theorem pn_4Lu : plainName "com/example/libfacet/libfacet/regex/StateSet" = true := by first | (simp [plainName, overriddenIn]; done) | decide +kernel
theorem ef_4Lu (m : MethodId) (x0 : Addr) (x1 : Int32) : entryFrame m #[(.ref x0), (.int x1)] 3 = mkF m 0 #[.val (.ref x0), .val (.int x1), .unset] [] := by first | (simp [entryFrame, mkF, argsToLocals, Value.category]; done) | rfl
def Q4Lu (Z : State) (a1 : Addr) (p2 : Int32) (vb : Addr) (vm : Addr) (vc : Int32) (vz : Int32) (g : Nat → Int64) (n : Int32) (gm : Nat → Int32) (h0 : Heap) (n0 : Nat) (v : Option Value) (h : Heap) (L : List Loc) : Prop := v = some (.int (1 : Int32)) ∧ Fr n0 L ∧ Keep h0 h [a1, vb, vm] ∧ own_ObjL Z h a1 vb vm (vc + (1 : Int32)) vz ∧ own_Arr Z h vb .long n (fun i => Value.long ((own_orb g p2) i)) ∧ own_Arr Z h vm .int (16 : Int32) (fun i => Value.int ((own_put gm vc p2) i))
set_option maxRecDepth 65536 in
set_option maxHeartbeats 40000000 in
theorem rm4Lu (l : Launch) (Z : State) (a0 : Array Value) (hw : ∀ d ∈ tables_1, d.before a0 Z = true) (ws : List Jvm.Cond) (a1 : Addr) (p2 : Int32) (vb : Addr) (vm : Addr) (vc : Int32) (vz : Int32) (g : Nat → Int64) (n : Int32) (gm : Nat → Int32) (h0 : Heap) (n0 : Nat) (Z0 : n0 ≤ h0.size) (O_a1 : own_ObjL Z h0 a1 vb vm vc vz) (V_vb : own_Arr Z h0 vb .long n (fun i => Value.long (g i))) (V_vm : own_Arr Z h0 vm .int (16 : Int32) (fun i => Value.int (gm i))) (ne_a1_vb : a1 ≠ vb) (ne_a1_vm : a1 ≠ vm) (ne_vb_vm : vb ≠ vm) (g_a1 : n0 ≤ a1) (g_vb : n0 ≤ vb) (g_vm : n0 ≤ vm) (hix : ¬ ((p2.toUInt32 >>> ((6 : Int32) &&& 31).toUInt32).toInt32) < 0 ∧ ((p2.toUInt32 >>> ((6 : Int32) &&& 31).toUInt32).toInt32) < n) (hU : (((g ((p2.toUInt32 >>> ((6 : Int32) &&& 31).toUInt32).toInt32).toNatClampNeg) &&& ((1 : Int64) <<< (p2 &&& 0x3f).toInt64)) = (0 : Int64))) (hc0 : 0 ≤ vc.toInt) (hc1 : vc.toInt < 16) :
    MetFree l (⟨"com/example/libfacet/libfacet/regex/StateSet", "mark", "(I)Z"⟩ : MethodName) (head1 (Jvm.Cond.code (⟨"com/example/libfacet/libfacet/regex/StateSet", "mark", "(I)Z"⟩ : MethodName) prog_95_method_5_code 3 (some .boolean) :: ws) ({ frames := 0, cells := 0, slots := 0, locals := 0 } : Room)) (fun a U => a = #[(.ref a1), (.int p2)] ∧ Z.Warmed39 U.vm ∧ U.heap = h0) (fun _ _ _ _ _ => True) (fun _ U o U' => ∃ v L, o = .returned v ∧ Q4Lu Z a1 p2 vb vm vc vz g n gm h0 n0 v U'.heap L ∧ FrameEnd U o U' L ({ frames := 0, cells := 0, slots := 0, locals := 0 } : Room).cells ({ frames := 0, cells := 0, slots := 0, locals := 0 } : Room).slots) := by
  refine MetFree.of_bodySF (plainFor_of_name pn_4Lu) hisR ?_
  intro p e s m args below meth c s₁ Bd hml0 hP hK
  obtain ⟨rfl, hZ, hh⟩ := hP
  have hx := Bd.exec
  have hby := Bd.bytes
  have hml : c.maxLocals = 3 := hml0
  have hown : s.vm.findClass "com/example/libfacet/libfacet/regex/StateSet" = some m.cls := findClass_of_methodNamed Bd.named
  have hnm := (name_of_methodNamed Bd.named Bd.method).1
  have X0 : Stand p l e ({ frames := 0, cells := 0, slots := 0, locals := 0 } : Room) s m #[(.ref a1), (.int p2)] below meth c s₁ [] 0 0 := Stand.of_body Bd
  have e0 : s₁.heap = h0 := by rw [← hh, Bd.state]; rfl
  have N0 := Fr.nil n0
  show own_End p e below s (s₁.setTop (entryFrame m #[(.ref a1), (.int p2)] 3)) (Q4Lu Z a1 p2 vb vm vc vz g n gm h0 n0) ({ frames := 0, cells := 0, slots := 0, locals := 0 } : Room).cells ({ frames := 0, cells := 0, slots := 0, locals := 0 } : Room).slots
  obtain ⟨E_a1_1, F_markBits_a1_2, F_marked_a1_3, F_markedCount_a1_4, F_size_a1_5⟩ := O_a1
  refine own_pre (A := s₁.setTop (mkF m 0 #[.val (.ref a1), .val (.int p2), .unset] [])) (fun tt kt => castTop (ef_4Lu m a1 p2) kt) ?_
  show own_End p e below s (s₁.setTop (mkF m 0 #[.val (.ref a1), .val (.int p2), .unset] [])) (Q4Lu Z a1 p2 vb vm vc vz g n gm h0 n0) ({ frames := 0, cells := 0, slots := 0, locals := 0 } : Room).cells ({ frames := 0, cells := 0, slots := 0, locals := 0 } : Room).slots
  obtain ⟨T6, X6, e6, st6⟩ := getF X0 hx hZ hown (host := "") (Or.inl (hw _ (List.mem_of_getElem? (i := 22) rfl))) Via.refl e0 F_markBits_a1_2 (g := (mkF m 1 #[.val (.ref a1), .val (.int p2), .unset] [(.ref a1)])) rfl rfl (hb hby d4Lu_1)
  obtain ⟨T7, X7, e7, st7⟩ := getF X6 hx hZ hown (host := "") (Or.inl (hw _ (List.mem_of_getElem? (i := 22) rfl))) Via.refl e6 F_markBits_a1_2 (g := (mkF m 8 #[.val (.ref a1), .val (.int p2), .unset] [(.ref a1)])) rfl rfl (hb hby d4Lu_8)
  obtain ⟨cl8, Ar8, S8, Nn8, G8⟩ := id V_vb
  have hin8 : ¬ (((p2.toUInt32 >>> ((6 : Int32) &&& 31).toUInt32).toInt32) < 0 ∨ cl8.slots.size ≤ ((p2.toUInt32 >>> ((6 : Int32) &&& 31).toUInt32).toInt32).toNatClampNeg) := inb_of S8 (hix : ¬ ((p2.toUInt32 >>> ((6 : Int32) &&& 31).toUInt32).toInt32) < 0 ∧ ((p2.toUInt32 >>> ((6 : Int32) &&& 31).toUInt32).toInt32) < n)
  have hat8 : cl8.slots[((p2.toUInt32 >>> ((6 : Int32) &&& 31).toUInt32).toInt32).toNatClampNeg]? = some (.long (g ((p2.toUInt32 >>> ((6 : Int32) &&& 31).toUInt32).toInt32).toNatClampNeg)) := own_at S8 G8 hin8
  obtain ⟨T9, X9, e9, st9⟩ := getF X7 hx hZ hown (host := "") (Or.inl (hw _ (List.mem_of_getElem? (i := 22) rfl))) Via.refl e7 F_markBits_a1_2 (g := (mkF m 32 #[.val (.ref a1), .val (.int p2), .val (.int (1 : Int32))] [(.ref a1)])) rfl rfl (hb hby d4Lu_32)
  obtain ⟨cl10, Ar10, S10, Nn10, G10⟩ := id V_vb
  have hin10 : ¬ (((p2.toUInt32 >>> ((6 : Int32) &&& 31).toUInt32).toInt32) < 0 ∨ cl10.slots.size ≤ ((p2.toUInt32 >>> ((6 : Int32) &&& 31).toUInt32).toInt32).toNatClampNeg) := inb_of S10 (hix : ¬ ((p2.toUInt32 >>> ((6 : Int32) &&& 31).toUInt32).toInt32) < 0 ∧ ((p2.toUInt32 >>> ((6 : Int32) &&& 31).toUInt32).toInt32) < n)
  have hat10 : cl10.slots[((p2.toUInt32 >>> ((6 : Int32) &&& 31).toUInt32).toInt32).toNatClampNeg]? = some (.long (g ((p2.toUInt32 >>> ((6 : Int32) &&& 31).toUInt32).toInt32).toNatClampNeg)) := own_at S10 G10 hin10
  obtain ⟨cl11, Ar11, S11, Nn11, G11⟩ := id V_vb
  have hin11 : ¬ (((p2.toUInt32 >>> ((6 : Int32) &&& 31).toUInt32).toInt32) < 0 ∨ cl11.slots.size ≤ ((p2.toUInt32 >>> ((6 : Int32) &&& 31).toUInt32).toInt32).toNatClampNeg) := inb_of S11 (hix : ¬ ((p2.toUInt32 >>> ((6 : Int32) &&& 31).toUInt32).toInt32) < 0 ∧ ((p2.toUInt32 >>> ((6 : Int32) &&& 31).toUInt32).toInt32) < n)
  obtain ⟨T12, h12, X12, e12, W12, st12⟩ := stJ X9 hx hZ e9 Ar11 (j := ((p2.toUInt32 >>> ((6 : Int32) &&& 31).toUInt32).toInt32)) hin11 (g := (mkF m 45 #[.val (.ref a1), .val (.int p2), .val (.int (1 : Int32))] [(.long ((g ((p2.toUInt32 >>> ((6 : Int32) &&& 31).toUInt32).toInt32).toNatClampNeg) ||| ((1 : Int64) <<< (p2 &&& 0x3f).toInt64))), (.int ((p2.toUInt32 >>> ((6 : Int32) &&& 31).toUInt32).toInt32)), (.ref vb)])) rfl rfl (hb hby d4Lu_45)
  have fE_a1_x12 := (E_a1_1.wr W12)
  have fF_a1_markBits_x12 := (Fld.other W12 F_markBits_a1_2 (Or.inl ne_a1_vb))
  have fF_a1_marked_x12 := (Fld.other W12 F_marked_a1_3 (Or.inl ne_a1_vb))
  have fF_a1_markedCount_x12 := (Fld.other W12 F_markedCount_a1_4 (Or.inl ne_a1_vb))
  have fF_a1_size_x12 := (Fld.other W12 F_size_a1_5 (Or.inl ne_a1_vb))
  have fA_vm_x12 := (V_vm.other W12 (Ne.symm ne_vb_vm))
  have V12 : own_Arr Z h12 vb .long n (fun i => Value.long ((own_orb g p2) i)) := own_Arr.set (w := Value.long) (g := g) (x := ((g ((p2.toUInt32 >>> ((6 : Int32) &&& 31).toUInt32).toInt32).toNatClampNeg) ||| ((1 : Int64) <<< (p2 &&& 0x3f).toInt64))) V_vb W12 rfl (fun i => rfl)
  have N12 := Fr.snoc X12 N0 g_vb
  have K12 : Keep h0 h12 [a1, vb, vm] := Keep.wr (Keep.refl h0 _) W12 (Or.inl (List.mem_of_getElem? (i := 1) rfl))
  have Z12 : n0 ≤ h12.size := Nat.le_trans Z0 (Nat.le_of_eq W12.size.symm)
  obtain ⟨T13, X13, e13, st13⟩ := getF X12 hx hZ hown (host := "") (Or.inl (hw _ (List.mem_of_getElem? (i := 24) rfl))) Via.refl e12 fF_a1_marked_x12 (g := (mkF m 84 #[.val (.ref a1), .val (.int p2), .val (.int (1 : Int32))] [(.ref a1)])) rfl rfl (hb hby d4Lu_84)
  obtain ⟨T14, X14, e14, st14⟩ := getF X13 hx hZ hown (host := "") (Or.inl (hw _ (List.mem_of_getElem? (i := 36) rfl))) Via.refl e13 fF_a1_markedCount_x12 (g := (mkF m 91 #[.val (.ref a1), .val (.int p2), .val (.int (1 : Int32))] [(.ref a1)])) rfl rfl (hb hby d4Lu_91)
  obtain ⟨T15, X15, e15, st15⟩ := getF X14 hx hZ hown (host := "") (Or.inl (hw _ (List.mem_of_getElem? (i := 24) rfl))) Via.refl e14 fF_a1_marked_x12 (g := (mkF m 95 #[.val (.ref a1), .val (.int p2), .val (.int (1 : Int32))] [(.ref a1), (.int vc)])) rfl rfl (hb hby d4Lu_95)
  obtain ⟨cl16, Ar16, S16, Nn16, G16⟩ := id fA_vm_x12
  obtain ⟨T17, X17, e17, st17⟩ := getF X15 hx hZ hown (host := "") (Or.inl (hw _ (List.mem_of_getElem? (i := 24) rfl))) Via.refl e15 fF_a1_marked_x12 (g := (mkF m 127 #[.val (.ref a1), .val (.int p2), .val (.int (1 : Int32))] [(.ref a1)])) rfl rfl (hb hby d4Lu_127)
  obtain ⟨T18, X18, e18, st18⟩ := getF X17 hx hZ hown (host := "") (Or.inl (hw _ (List.mem_of_getElem? (i := 36) rfl))) Via.refl e17 fF_a1_markedCount_x12 (g := (mkF m 132 #[.val (.ref a1), .val (.int p2), .val (.int (1 : Int32))] [(.ref a1), (.ref a1), (.ref vm)])) rfl rfl (hb hby d4Lu_132)
  obtain ⟨T19, h19, X19, e19, W19, st19⟩ := putF X18 hx hZ hown (host := "") (Or.inl (hw _ (List.mem_of_getElem? (i := 36) rfl))) Via.refl e18 fF_a1_markedCount_x12 fE_a1_x12 (Or.inl (hw _ (List.mem_of_getElem? (i := 37) rfl))) (hw _ (List.mem_of_getElem? (i := 2) rfl)) (ty := .int) (by decide) rfl rfl (g := (mkF m 138 #[.val (.ref a1), .val (.int p2), .val (.int (1 : Int32))] [(.int (vc + (1 : Int32))), (.ref a1), (.int vc), (.ref vm)])) rfl rfl (hb hby d4Lu_138)
  have Fw19 := Fld.same W19 fF_a1_markedCount_x12
  have fE_a1_x19 := (fE_a1_x12.wr W19)
  have fF_a1_markBits_x19 := (Fld.other W19 fF_a1_markBits_x12 (Or.inr (slot_ne (Or.inr (hw _ (List.mem_of_getElem? (i := 23) rfl))) (Or.inl (hw _ (List.mem_of_getElem? (i := 37) rfl))) (by decide) (t := (.array .long)) (t' := .int) (by decide) (by decide))))
  have fF_a1_marked_x19 := (Fld.other W19 fF_a1_marked_x12 (Or.inr (slot_ne (Or.inl (hw _ (List.mem_of_getElem? (i := 25) rfl))) (Or.inl (hw _ (List.mem_of_getElem? (i := 37) rfl))) (by decide) (t := (.array .int)) (t' := .int) (by decide) (by decide))))
  have fF_a1_size_x19 := (Fld.other W19 fF_a1_size_x12 (Or.inr (slot_ne (Or.inl (hw _ (List.mem_of_getElem? (i := 44) rfl))) (Or.inl (hw _ (List.mem_of_getElem? (i := 37) rfl))) (by decide) (t := .int) (t' := .int) (by decide) (by decide))))
  have fA_vb_x19 := (V12.other W19 (Ne.symm ne_a1_vb))
  have fA_vm_x19 := (fA_vm_x12.other W19 (Ne.symm ne_a1_vm))
  have N19 := Fr.snoc X19 N12 g_a1
  have K19 : Keep h0 h19 [a1, vb, vm] := Keep.wr K12 W19 (Or.inl (List.mem_of_getElem? (i := 0) rfl))
  have Z19 : n0 ≤ h19.size := Nat.le_trans Z12 (Nat.le_of_eq W19.size.symm)
  obtain ⟨cl20, Ar20, S20, Nn20, G20⟩ := id fA_vm_x19
  have hin20 : ¬ (vc < 0 ∨ cl20.slots.size ≤ vc.toNatClampNeg) := inb_of S20 (own_inb2 hc0 (by have z : (16 : Int32).toInt = 16 := (by decide); omega) : ¬ vc < 0 ∧ vc < (16 : Int32))
  obtain ⟨T21, h21, X21, e21, W21, st21⟩ := stI X19 hx hZ e19 Ar20 (j := vc) hin20 (g := (mkF m 142 #[.val (.ref a1), .val (.int p2), .val (.int (1 : Int32))] [(.int p2), (.int vc), (.ref vm)])) rfl rfl (hb hby d4Lu_142)
  have fE_a1_x21 := (fE_a1_x19.wr W21)
  have fF_a1_markBits_x21 := (Fld.other W21 fF_a1_markBits_x19 (Or.inl ne_a1_vm))
  have fF_a1_marked_x21 := (Fld.other W21 fF_a1_marked_x19 (Or.inl ne_a1_vm))
  have fF_a1_markedCount_x21 := (Fld.other W21 Fw19 (Or.inl ne_a1_vm))
  have fF_a1_size_x21 := (Fld.other W21 fF_a1_size_x19 (Or.inl ne_a1_vm))
  have fA_vb_x21 := (fA_vb_x19.other W21 ne_vb_vm)
  have V21 : own_Arr Z h21 vm .int (16 : Int32) (fun i => Value.int ((own_put gm vc p2) i)) := own_Arr.set (w := Value.int) (g := gm) (x := p2) fA_vm_x19 W21 rfl (fun i => rfl)
  have N21 := Fr.snoc X21 N19 g_vm
  have K21 : Keep h0 h21 [a1, vb, vm] := Keep.wr K19 W21 (Or.inl (List.mem_of_getElem? (i := 2) rfl))
  have Z21 : n0 ≤ h21.size := Nat.le_trans Z19 (Nat.le_of_eq W21.size.symm)
  refine own_pre (A := T21.setTop (mkF m 144 #[.val (.ref a1), .val (.int p2), .val (.int (1 : Int32))] [(.int (1 : Int32))])) (fun tt kt => ?_) ?_
  · show Steps p.tables e below (s₁.setTop (mkF m 0 #[.val (.ref a1), .val (.int p2), .unset] [])) _
    refine XS.aloadN X0.here hx rfl (hb hby d4Lu_0) rfl rfl ?_
    show Steps p.tables e below (s₁.setTop (mkF m 1 #[.val (.ref a1), .val (.int p2), .unset] [(.ref a1)])) _
    refine st6 _ ?_
    show Steps p.tables e below (T6.setTop (mkF m 4 #[.val (.ref a1), .val (.int p2), .unset] [(.ref vb)])) _
    refine XS.ifnullNo X6.here hx rfl (hb hby d4Lu_4) rfl ?_
    refine XS.aloadN X6.here hx rfl (hb hby d4Lu_7) rfl rfl ?_
    show Steps p.tables e below (T6.setTop (mkF m 8 #[.val (.ref a1), .val (.int p2), .unset] [(.ref a1)])) _
    refine st7 _ ?_
    show Steps p.tables e below (T7.setTop (mkF m 11 #[.val (.ref a1), .val (.int p2), .unset] [(.ref vb)])) _
    refine XS.iloadN X7.here hx rfl (hb hby d4Lu_11) rfl ?_
    refine XS.bipush X7.here hx rfl (hb hby d4Lu_12) ?_
    refine XS.iushr X7.here hx rfl (hb hby d4Lu_14) rfl ?_
    show Steps p.tables e below (T7.setTop (mkF m 15 #[.val (.ref a1), .val (.int p2), .unset] [(.int ((p2.toUInt32 >>> ((6 : Int32) &&& 31).toUInt32).toInt32)), (.ref vb)])) _
    refine X7.laload hx (j := ((p2.toUInt32 >>> ((6 : Int32) &&& 31).toUInt32).toInt32)) (v := (.long (g ((p2.toUInt32 >>> ((6 : Int32) &&& 31).toUInt32).toInt32).toNatClampNeg))) (by rw [e7]; exact Ar8.1) (State.isArrayOf_alike hZ.alike Ar8.2.1) Ar8.2.2 hin8 hat8 (g := (mkF m 15 #[.val (.ref a1), .val (.int p2), .unset] [(.int ((p2.toUInt32 >>> ((6 : Int32) &&& 31).toUInt32).toInt32)), (.ref vb)])) rfl rfl (hb hby d4Lu_15) _ ?_
    show Steps p.tables e below (T7.setTop (mkF m 16 #[.val (.ref a1), .val (.int p2), .unset] [(.long (g ((p2.toUInt32 >>> ((6 : Int32) &&& 31).toUInt32).toInt32).toNatClampNeg))])) _
    refine XS.lconst X7.here hx rfl (hb hby d4Lu_16) ?_
    refine XS.iloadN X7.here hx rfl (hb hby d4Lu_17) rfl ?_
    refine XS.lshl X7.here hx rfl (hb hby d4Lu_18) rfl ?_
    refine XS.land X7.here hx rfl (hb hby d4Lu_19) rfl ?_
    show Steps p.tables e below (T7.setTop (mkF m 20 #[.val (.ref a1), .val (.int p2), .unset] [(.long ((g ((p2.toUInt32 >>> ((6 : Int32) &&& 31).toUInt32).toInt32).toNatClampNeg) &&& ((1 : Int64) <<< (p2 &&& 0x3f).toInt64)))])) _
    refine XS.lconst X7.here hx rfl (hb hby d4Lu_20) ?_
    refine XS.lcmp X7.here hx rfl (hb hby d4Lu_21) rfl ?_
    refine XS.ifNo X7.here hx rfl (hb hby d4Lu_22) rfl ((if0 _ _).trans (teq ((lw_eq ((g ((p2.toUInt32 >>> ((6 : Int32) &&& 31).toUInt32).toInt32).toNatClampNeg) &&& ((1 : Int64) <<< (p2 &&& 0x3f).toInt64)) (0 : Int64)).mpr (hU : ((g ((p2.toUInt32 >>> ((6 : Int32) &&& 31).toUInt32).toInt32).toNatClampNeg) &&& ((1 : Int64) <<< (p2 &&& 0x3f).toInt64)) = (0 : Int64)))).2) ?_
    refine XS.iconst X7.here hx rfl (hb hby d4Lu_25) ?_
    show Steps p.tables e below (T7.setTop (mkF m 26 #[.val (.ref a1), .val (.int p2), .unset] [(.int (1 : Int32))])) _
    refine XS.goto X7.here hx rfl (pc0 := 26) (pc' := 30) rfl (hb hby d4Lu_26) (by decide) (by decide) ?_
    refine XS.istoreN X7.here hx rfl (hb hby d4Lu_30) rfl (l' := #[.val (.ref a1), .val (.int p2), .val (.int (1 : Int32))]) rfl ?_
    refine XS.aloadN X7.here hx rfl (hb hby d4Lu_31) rfl rfl ?_
    show Steps p.tables e below (T7.setTop (mkF m 32 #[.val (.ref a1), .val (.int p2), .val (.int (1 : Int32))] [(.ref a1)])) _
    refine st9 _ ?_
    show Steps p.tables e below (T9.setTop (mkF m 35 #[.val (.ref a1), .val (.int p2), .val (.int (1 : Int32))] [(.ref vb)])) _
    refine XS.iloadN X9.here hx rfl (hb hby d4Lu_35) rfl ?_
    refine XS.bipush X9.here hx rfl (hb hby d4Lu_36) ?_
    refine XS.iushr X9.here hx rfl (hb hby d4Lu_38) rfl ?_
    refine XT.dup2 X9.here hx rfl (hb hby d4Lu_39) rfl rfl rfl ?_
    show Steps p.tables e below (T9.setTop (mkF m 40 #[.val (.ref a1), .val (.int p2), .val (.int (1 : Int32))] [(.int ((p2.toUInt32 >>> ((6 : Int32) &&& 31).toUInt32).toInt32)), (.ref vb), (.int ((p2.toUInt32 >>> ((6 : Int32) &&& 31).toUInt32).toInt32)), (.ref vb)])) _
    refine X9.laload hx (j := ((p2.toUInt32 >>> ((6 : Int32) &&& 31).toUInt32).toInt32)) (v := (.long (g ((p2.toUInt32 >>> ((6 : Int32) &&& 31).toUInt32).toInt32).toNatClampNeg))) (by rw [e9]; exact Ar10.1) (State.isArrayOf_alike hZ.alike Ar10.2.1) Ar10.2.2 hin10 hat10 (g := (mkF m 40 #[.val (.ref a1), .val (.int p2), .val (.int (1 : Int32))] [(.int ((p2.toUInt32 >>> ((6 : Int32) &&& 31).toUInt32).toInt32)), (.ref vb), (.int ((p2.toUInt32 >>> ((6 : Int32) &&& 31).toUInt32).toInt32)), (.ref vb)])) rfl rfl (hb hby d4Lu_40) _ ?_
    show Steps p.tables e below (T9.setTop (mkF m 41 #[.val (.ref a1), .val (.int p2), .val (.int (1 : Int32))] [(.long (g ((p2.toUInt32 >>> ((6 : Int32) &&& 31).toUInt32).toInt32).toNatClampNeg)), (.int ((p2.toUInt32 >>> ((6 : Int32) &&& 31).toUInt32).toInt32)), (.ref vb)])) _
    refine XS.lconst X9.here hx rfl (hb hby d4Lu_41) ?_
    refine XS.iloadN X9.here hx rfl (hb hby d4Lu_42) rfl ?_
    refine XS.lshl X9.here hx rfl (hb hby d4Lu_43) rfl ?_
    refine XS.lor X9.here hx rfl (hb hby d4Lu_44) rfl ?_
    show Steps p.tables e below (T9.setTop (mkF m 45 #[.val (.ref a1), .val (.int p2), .val (.int (1 : Int32))] [(.long ((g ((p2.toUInt32 >>> ((6 : Int32) &&& 31).toUInt32).toInt32).toNatClampNeg) ||| ((1 : Int64) <<< (p2 &&& 0x3f).toInt64))), (.int ((p2.toUInt32 >>> ((6 : Int32) &&& 31).toUInt32).toInt32)), (.ref vb)])) _
    refine st12 _ ?_
    show Steps p.tables e below (T12.setTop (mkF m 46 #[.val (.ref a1), .val (.int p2), .val (.int (1 : Int32))] [])) _
    refine XS.goto X12.here hx rfl (pc0 := 46) (pc' := 79) rfl (hb hby d4Lu_46) (by decide) (by decide) ?_
    refine XS.iloadN X12.here hx rfl (hb hby d4Lu_79) rfl ?_
    refine XS.ifNo X12.here hx rfl (hb hby d4Lu_80) rfl ((if0 _ _).trans (feq ((by decide) : ¬ ((1 : Int32) = (0 : Int32)))).1) ?_
    refine XS.aloadN X12.here hx rfl (hb hby d4Lu_83) rfl rfl ?_
    show Steps p.tables e below (T12.setTop (mkF m 84 #[.val (.ref a1), .val (.int p2), .val (.int (1 : Int32))] [(.ref a1)])) _
    refine st13 _ ?_
    show Steps p.tables e below (T13.setTop (mkF m 87 #[.val (.ref a1), .val (.int p2), .val (.int (1 : Int32))] [(.ref vm)])) _
    refine XS.ifnullNo X13.here hx rfl (hb hby d4Lu_87) rfl ?_
    refine XS.aloadN X13.here hx rfl (hb hby d4Lu_90) rfl rfl ?_
    show Steps p.tables e below (T13.setTop (mkF m 91 #[.val (.ref a1), .val (.int p2), .val (.int (1 : Int32))] [(.ref a1)])) _
    refine st14 _ ?_
    show Steps p.tables e below (T14.setTop (mkF m 94 #[.val (.ref a1), .val (.int p2), .val (.int (1 : Int32))] [(.int vc)])) _
    refine XS.aloadN X14.here hx rfl (hb hby d4Lu_94) rfl rfl ?_
    show Steps p.tables e below (T14.setTop (mkF m 95 #[.val (.ref a1), .val (.int p2), .val (.int (1 : Int32))] [(.ref a1), (.int vc)])) _
    refine st15 _ ?_
    show Steps p.tables e below (T15.setTop (mkF m 98 #[.val (.ref a1), .val (.int p2), .val (.int (1 : Int32))] [(.ref vm), (.int vc)])) _
    refine X15.arraylength hx (by rw [e15]; exact Ar16.1) (State.isArrayOf_alike hZ.alike Ar16.2.1) (g := (mkF m 98 #[.val (.ref a1), .val (.int p2), .val (.int (1 : Int32))] [(.ref vm), (.int vc)])) rfl rfl (hb hby d4Lu_98) _ ?_
    rw [len_of S16 Nn16]
    show Steps p.tables e below (T15.setTop (mkF m 99 #[.val (.ref a1), .val (.int p2), .val (.int (1 : Int32))] [(.int (16 : Int32)), (.int vc)])) _
    refine XS.icmpYes X15.here hx rfl (pc0 := 99) (pc' := 126) rfl (hb hby d4Lu_99) rfl (feq (own_lt16 hc1 : ¬ (vc = (16 : Int32)))).2 (by decide) (by decide) ?_
    refine XS.aloadN X15.here hx rfl (hb hby d4Lu_126) rfl rfl ?_
    show Steps p.tables e below (T15.setTop (mkF m 127 #[.val (.ref a1), .val (.int p2), .val (.int (1 : Int32))] [(.ref a1)])) _
    refine st17 _ ?_
    show Steps p.tables e below (T17.setTop (mkF m 130 #[.val (.ref a1), .val (.int p2), .val (.int (1 : Int32))] [(.ref vm)])) _
    refine XS.aloadN X17.here hx rfl (hb hby d4Lu_130) rfl rfl ?_
    refine XS.dup X17.here hx rfl (hb hby d4Lu_131) rfl rfl ?_
    show Steps p.tables e below (T17.setTop (mkF m 132 #[.val (.ref a1), .val (.int p2), .val (.int (1 : Int32))] [(.ref a1), (.ref a1), (.ref vm)])) _
    refine st18 _ ?_
    show Steps p.tables e below (T18.setTop (mkF m 135 #[.val (.ref a1), .val (.int p2), .val (.int (1 : Int32))] [(.int vc), (.ref a1), (.ref vm)])) _
    refine XS.dupX1 X18.here hx rfl (hb hby d4Lu_135) rfl rfl rfl ?_
    refine XS.iconst X18.here hx rfl (hb hby d4Lu_136) ?_
    refine XS.iadd X18.here hx rfl (hb hby d4Lu_137) rfl ?_
    show Steps p.tables e below (T18.setTop (mkF m 138 #[.val (.ref a1), .val (.int p2), .val (.int (1 : Int32))] [(.int (vc + (1 : Int32))), (.ref a1), (.int vc), (.ref vm)])) _
    refine st19 _ ?_
    show Steps p.tables e below (T19.setTop (mkF m 141 #[.val (.ref a1), .val (.int p2), .val (.int (1 : Int32))] [(.int vc), (.ref vm)])) _
    refine XS.iloadN X19.here hx rfl (hb hby d4Lu_141) rfl ?_
    show Steps p.tables e below (T19.setTop (mkF m 142 #[.val (.ref a1), .val (.int p2), .val (.int (1 : Int32))] [(.int p2), (.int vc), (.ref vm)])) _
    refine st21 _ ?_
    show Steps p.tables e below (T21.setTop (mkF m 143 #[.val (.ref a1), .val (.int p2), .val (.int (1 : Int32))] [])) _
    refine XS.iloadN X21.here hx rfl (hb hby d4Lu_143) rfl ?_
    exact kt
  show own_End p e below s (T21.setTop (mkF m 144 #[.val (.ref a1), .val (.int p2), .val (.int (1 : Int32))] [(.int (1 : Int32))])) (Q4Lu Z a1 p2 vb vm vc vz g n gm h0 n0) ({ frames := 0, cells := 0, slots := 0, locals := 0 } : Room).cells ({ frames := 0, cells := 0, slots := 0, locals := 0 } : Room).slots
  obtain ⟨fs, hr, hrun, hended, hW, hsame⟩ := X21.leave (v := some (.int (1 : Int32))) (fun h => by rw [Bd.returns] at h; cases h)
  refine ⟨_, _, ?_, hrun, hended, _, _, rfl, ?_, ⟨_, rfl⟩, hW, hsame.mono (by decide) (by decide)⟩
  · exact retN X21 hx (t := .boolean) Bd.returns (by simp) (hb hby d4Lu_144) hr
  · show Q4Lu Z a1 p2 vb vm vc vz g n gm h0 n0 _ T21.heap _
    rw [e21]
    exact ⟨rfl, N21, K21, ⟨fE_a1_x21, fF_a1_markBits_x21, fF_a1_marked_x21, fF_a1_markedCount_x21, fF_a1_size_x21⟩, fA_vb_x21, V21⟩
theorem d4Lm_0 : decode prog_95_method_5_code 0 = .ok (.aload_n 0, 1) := by decide +kernel
theorem d4Lm_1 : decode prog_95_method_5_code 1 = .ok (.getfield 30, 3) := by decide +kernel
theorem d4Lm_4 : decode prog_95_method_5_code 4 = .ok (.ifnull 45, 3) := by decide +kernel
theorem d4Lm_7 : decode prog_95_method_5_code 7 = .ok (.aload_n 0, 1) := by decide +kernel
theorem d4Lm_8 : decode prog_95_method_5_code 8 = .ok (.getfield 30, 3) := by decide +kernel
theorem d4Lm_11 : decode prog_95_method_5_code 11 = .ok (.iload_n 1, 1) := by decide +kernel
theorem d4Lm_12 : decode prog_95_method_5_code 12 = .ok (.bipush 6, 2) := by decide +kernel
theorem d4Lm_14 : decode prog_95_method_5_code 14 = .ok (.iushr, 1) := by decide +kernel
theorem d4Lm_15 : decode prog_95_method_5_code 15 = .ok (.laload, 1) := by decide +kernel
theorem d4Lm_16 : decode prog_95_method_5_code 16 = .ok (.lconst 1, 1) := by decide +kernel
theorem d4Lm_17 : decode prog_95_method_5_code 17 = .ok (.iload_n 1, 1) := by decide +kernel
theorem d4Lm_18 : decode prog_95_method_5_code 18 = .ok (.lshl, 1) := by decide +kernel
theorem d4Lm_19 : decode prog_95_method_5_code 19 = .ok (.land, 1) := by decide +kernel
theorem d4Lm_20 : decode prog_95_method_5_code 20 = .ok (.lconst 0, 1) := by decide +kernel
theorem d4Lm_21 : decode prog_95_method_5_code 21 = .ok (.lcmp, 1) := by decide +kernel
theorem d4Lm_22 : decode prog_95_method_5_code 22 = .ok (.ifCond .ne 7, 3) := by decide +kernel
theorem d4Lm_29 : decode prog_95_method_5_code 29 = .ok (.iconst 0, 1) := by decide +kernel
theorem d4Lm_30 : decode prog_95_method_5_code 30 = .ok (.istore_n 2, 1) := by decide +kernel
theorem d4Lm_31 : decode prog_95_method_5_code 31 = .ok (.aload_n 0, 1) := by decide +kernel
theorem d4Lm_32 : decode prog_95_method_5_code 32 = .ok (.getfield 30, 3) := by decide +kernel
theorem d4Lm_35 : decode prog_95_method_5_code 35 = .ok (.iload_n 1, 1) := by decide +kernel
theorem d4Lm_36 : decode prog_95_method_5_code 36 = .ok (.bipush 6, 2) := by decide +kernel
theorem d4Lm_38 : decode prog_95_method_5_code 38 = .ok (.iushr, 1) := by decide +kernel
theorem d4Lm_39 : decode prog_95_method_5_code 39 = .ok (.dup2, 1) := by decide +kernel
theorem d4Lm_40 : decode prog_95_method_5_code 40 = .ok (.laload, 1) := by decide +kernel
theorem d4Lm_41 : decode prog_95_method_5_code 41 = .ok (.lconst 1, 1) := by decide +kernel
theorem d4Lm_42 : decode prog_95_method_5_code 42 = .ok (.iload_n 1, 1) := by decide +kernel
theorem d4Lm_43 : decode prog_95_method_5_code 43 = .ok (.lshl, 1) := by decide +kernel
theorem d4Lm_44 : decode prog_95_method_5_code 44 = .ok (.lor, 1) := by decide +kernel
theorem d4Lm_45 : decode prog_95_method_5_code 45 = .ok (.lastore, 1) := by decide +kernel
theorem d4Lm_46 : decode prog_95_method_5_code 46 = .ok (.goto 33, 3) := by decide +kernel
theorem d4Lm_79 : decode prog_95_method_5_code 79 = .ok (.iload_n 2, 1) := by decide +kernel
theorem d4Lm_80 : decode prog_95_method_5_code 80 = .ok (.ifCond .eq 63, 3) := by decide +kernel
theorem d4Lm_143 : decode prog_95_method_5_code 143 = .ok (.iload_n 2, 1) := by decide +kernel
theorem d4Lm_144 : decode prog_95_method_5_code 144 = .ok (.ireturn, 1) := by decide +kernel
theorem pn_4Lm : plainName "com/example/libfacet/libfacet/regex/StateSet" = true := by first | (simp [plainName, overriddenIn]; done) | decide +kernel
theorem ef_4Lm (m : MethodId) (x0 : Addr) (x1 : Int32) : entryFrame m #[(.ref x0), (.int x1)] 3 = mkF m 0 #[.val (.ref x0), .val (.int x1), .unset] [] := by first | (simp [entryFrame, mkF, argsToLocals, Value.category]; done) | rfl
def Q4Lm (Z : State) (a1 : Addr) (p2 : Int32) (vb : Addr) (vm : Addr) (vc : Int32) (vz : Int32) (g : Nat → Int64) (n : Int32) (gm : Nat → Int32) (h0 : Heap) (n0 : Nat) (v : Option Value) (h : Heap) (L : List Loc) : Prop := v = some (.int (0 : Int32)) ∧ Fr n0 L ∧ Keep h0 h [vb] ∧ own_Arr Z h vb .long n (fun i => Value.long ((own_orb g p2) i))
set_option maxRecDepth 65536 in
set_option maxHeartbeats 40000000 in
theorem rm4Lm (l : Launch) (Z : State) (a0 : Array Value) (hw : ∀ d ∈ tables_1, d.before a0 Z = true) (ws : List Jvm.Cond) (a1 : Addr) (p2 : Int32) (vb : Addr) (vm : Addr) (vc : Int32) (vz : Int32) (g : Nat → Int64) (n : Int32) (gm : Nat → Int32) (h0 : Heap) (n0 : Nat) (Z0 : n0 ≤ h0.size) (O_a1 : own_ObjL Z h0 a1 vb vm vc vz) (V_vb : own_Arr Z h0 vb .long n (fun i => Value.long (g i))) (V_vm : own_Arr Z h0 vm .int (16 : Int32) (fun i => Value.int (gm i))) (ne_a1_vb : a1 ≠ vb) (ne_a1_vm : a1 ≠ vm) (ne_vb_vm : vb ≠ vm) (g_vb : n0 ≤ vb) (hix : ¬ ((p2.toUInt32 >>> ((6 : Int32) &&& 31).toUInt32).toInt32) < 0 ∧ ((p2.toUInt32 >>> ((6 : Int32) &&& 31).toUInt32).toInt32) < n) (hU : ¬ (((g ((p2.toUInt32 >>> ((6 : Int32) &&& 31).toUInt32).toInt32).toNatClampNeg) &&& ((1 : Int64) <<< (p2 &&& 0x3f).toInt64)) = (0 : Int64))) (hc0 : 0 ≤ vc.toInt) (hc1 : vc.toInt < 16) :
    MetFree l (⟨"com/example/libfacet/libfacet/regex/StateSet", "mark", "(I)Z"⟩ : MethodName) (head1 (Jvm.Cond.code (⟨"com/example/libfacet/libfacet/regex/StateSet", "mark", "(I)Z"⟩ : MethodName) prog_95_method_5_code 3 (some .boolean) :: ws) ({ frames := 0, cells := 0, slots := 0, locals := 0 } : Room)) (fun a U => a = #[(.ref a1), (.int p2)] ∧ Z.Warmed39 U.vm ∧ U.heap = h0) (fun _ _ _ _ _ => True) (fun _ U o U' => ∃ v L, o = .returned v ∧ Q4Lm Z a1 p2 vb vm vc vz g n gm h0 n0 v U'.heap L ∧ FrameEnd U o U' L ({ frames := 0, cells := 0, slots := 0, locals := 0 } : Room).cells ({ frames := 0, cells := 0, slots := 0, locals := 0 } : Room).slots) := by
  refine MetFree.of_bodySF (plainFor_of_name pn_4Lm) hisR ?_
  intro p e s m args below meth c s₁ Bd hml0 hP hK
  obtain ⟨rfl, hZ, hh⟩ := hP
  have hx := Bd.exec
  have hby := Bd.bytes
  have hml : c.maxLocals = 3 := hml0
  have hown : s.vm.findClass "com/example/libfacet/libfacet/regex/StateSet" = some m.cls := findClass_of_methodNamed Bd.named
  have hnm := (name_of_methodNamed Bd.named Bd.method).1
  have X0 : Stand p l e ({ frames := 0, cells := 0, slots := 0, locals := 0 } : Room) s m #[(.ref a1), (.int p2)] below meth c s₁ [] 0 0 := Stand.of_body Bd
  have e0 : s₁.heap = h0 := by rw [← hh, Bd.state]; rfl
  have N0 := Fr.nil n0
  show own_End p e below s (s₁.setTop (entryFrame m #[(.ref a1), (.int p2)] 3)) (Q4Lm Z a1 p2 vb vm vc vz g n gm h0 n0) ({ frames := 0, cells := 0, slots := 0, locals := 0 } : Room).cells ({ frames := 0, cells := 0, slots := 0, locals := 0 } : Room).slots
  obtain ⟨E_a1_1, F_markBits_a1_2, F_marked_a1_3, F_markedCount_a1_4, F_size_a1_5⟩ := O_a1
  refine own_pre (A := s₁.setTop (mkF m 0 #[.val (.ref a1), .val (.int p2), .unset] [])) (fun tt kt => castTop (ef_4Lm m a1 p2) kt) ?_
  show own_End p e below s (s₁.setTop (mkF m 0 #[.val (.ref a1), .val (.int p2), .unset] [])) (Q4Lm Z a1 p2 vb vm vc vz g n gm h0 n0) ({ frames := 0, cells := 0, slots := 0, locals := 0 } : Room).cells ({ frames := 0, cells := 0, slots := 0, locals := 0 } : Room).slots
  obtain ⟨T6, X6, e6, st6⟩ := getF X0 hx hZ hown (host := "") (Or.inl (hw _ (List.mem_of_getElem? (i := 22) rfl))) Via.refl e0 F_markBits_a1_2 (g := (mkF m 1 #[.val (.ref a1), .val (.int p2), .unset] [(.ref a1)])) rfl rfl (hb hby d4Lm_1)
  obtain ⟨T7, X7, e7, st7⟩ := getF X6 hx hZ hown (host := "") (Or.inl (hw _ (List.mem_of_getElem? (i := 22) rfl))) Via.refl e6 F_markBits_a1_2 (g := (mkF m 8 #[.val (.ref a1), .val (.int p2), .unset] [(.ref a1)])) rfl rfl (hb hby d4Lm_8)
  obtain ⟨cl8, Ar8, S8, Nn8, G8⟩ := id V_vb
  have hin8 : ¬ (((p2.toUInt32 >>> ((6 : Int32) &&& 31).toUInt32).toInt32) < 0 ∨ cl8.slots.size ≤ ((p2.toUInt32 >>> ((6 : Int32) &&& 31).toUInt32).toInt32).toNatClampNeg) := inb_of S8 (hix : ¬ ((p2.toUInt32 >>> ((6 : Int32) &&& 31).toUInt32).toInt32) < 0 ∧ ((p2.toUInt32 >>> ((6 : Int32) &&& 31).toUInt32).toInt32) < n)
  have hat8 : cl8.slots[((p2.toUInt32 >>> ((6 : Int32) &&& 31).toUInt32).toInt32).toNatClampNeg]? = some (.long (g ((p2.toUInt32 >>> ((6 : Int32) &&& 31).toUInt32).toInt32).toNatClampNeg)) := own_at S8 G8 hin8
  obtain ⟨T9, X9, e9, st9⟩ := getF X7 hx hZ hown (host := "") (Or.inl (hw _ (List.mem_of_getElem? (i := 22) rfl))) Via.refl e7 F_markBits_a1_2 (g := (mkF m 32 #[.val (.ref a1), .val (.int p2), .val (.int (0 : Int32))] [(.ref a1)])) rfl rfl (hb hby d4Lm_32)
  obtain ⟨cl10, Ar10, S10, Nn10, G10⟩ := id V_vb
  have hin10 : ¬ (((p2.toUInt32 >>> ((6 : Int32) &&& 31).toUInt32).toInt32) < 0 ∨ cl10.slots.size ≤ ((p2.toUInt32 >>> ((6 : Int32) &&& 31).toUInt32).toInt32).toNatClampNeg) := inb_of S10 (hix : ¬ ((p2.toUInt32 >>> ((6 : Int32) &&& 31).toUInt32).toInt32) < 0 ∧ ((p2.toUInt32 >>> ((6 : Int32) &&& 31).toUInt32).toInt32) < n)
  have hat10 : cl10.slots[((p2.toUInt32 >>> ((6 : Int32) &&& 31).toUInt32).toInt32).toNatClampNeg]? = some (.long (g ((p2.toUInt32 >>> ((6 : Int32) &&& 31).toUInt32).toInt32).toNatClampNeg)) := own_at S10 G10 hin10
  obtain ⟨cl11, Ar11, S11, Nn11, G11⟩ := id V_vb
  have hin11 : ¬ (((p2.toUInt32 >>> ((6 : Int32) &&& 31).toUInt32).toInt32) < 0 ∨ cl11.slots.size ≤ ((p2.toUInt32 >>> ((6 : Int32) &&& 31).toUInt32).toInt32).toNatClampNeg) := inb_of S11 (hix : ¬ ((p2.toUInt32 >>> ((6 : Int32) &&& 31).toUInt32).toInt32) < 0 ∧ ((p2.toUInt32 >>> ((6 : Int32) &&& 31).toUInt32).toInt32) < n)
  obtain ⟨T12, h12, X12, e12, W12, st12⟩ := stJ X9 hx hZ e9 Ar11 (j := ((p2.toUInt32 >>> ((6 : Int32) &&& 31).toUInt32).toInt32)) hin11 (g := (mkF m 45 #[.val (.ref a1), .val (.int p2), .val (.int (0 : Int32))] [(.long ((g ((p2.toUInt32 >>> ((6 : Int32) &&& 31).toUInt32).toInt32).toNatClampNeg) ||| ((1 : Int64) <<< (p2 &&& 0x3f).toInt64))), (.int ((p2.toUInt32 >>> ((6 : Int32) &&& 31).toUInt32).toInt32)), (.ref vb)])) rfl rfl (hb hby d4Lm_45)
  have fE_a1_x12 := (E_a1_1.wr W12)
  have fF_a1_markBits_x12 := (Fld.other W12 F_markBits_a1_2 (Or.inl ne_a1_vb))
  have fF_a1_marked_x12 := (Fld.other W12 F_marked_a1_3 (Or.inl ne_a1_vb))
  have fF_a1_markedCount_x12 := (Fld.other W12 F_markedCount_a1_4 (Or.inl ne_a1_vb))
  have fF_a1_size_x12 := (Fld.other W12 F_size_a1_5 (Or.inl ne_a1_vb))
  have fA_vm_x12 := (V_vm.other W12 (Ne.symm ne_vb_vm))
  have V12 : own_Arr Z h12 vb .long n (fun i => Value.long ((own_orb g p2) i)) := own_Arr.set (w := Value.long) (g := g) (x := ((g ((p2.toUInt32 >>> ((6 : Int32) &&& 31).toUInt32).toInt32).toNatClampNeg) ||| ((1 : Int64) <<< (p2 &&& 0x3f).toInt64))) V_vb W12 rfl (fun i => rfl)
  have N12 := Fr.snoc X12 N0 g_vb
  have K12 : Keep h0 h12 [vb] := Keep.wr (Keep.refl h0 _) W12 (Or.inl (List.mem_of_getElem? (i := 0) rfl))
  have Z12 : n0 ≤ h12.size := Nat.le_trans Z0 (Nat.le_of_eq W12.size.symm)
  refine own_pre (A := T12.setTop (mkF m 144 #[.val (.ref a1), .val (.int p2), .val (.int (0 : Int32))] [(.int (0 : Int32))])) (fun tt kt => ?_) ?_
  · show Steps p.tables e below (s₁.setTop (mkF m 0 #[.val (.ref a1), .val (.int p2), .unset] [])) _
    refine XS.aloadN X0.here hx rfl (hb hby d4Lm_0) rfl rfl ?_
    show Steps p.tables e below (s₁.setTop (mkF m 1 #[.val (.ref a1), .val (.int p2), .unset] [(.ref a1)])) _
    refine st6 _ ?_
    show Steps p.tables e below (T6.setTop (mkF m 4 #[.val (.ref a1), .val (.int p2), .unset] [(.ref vb)])) _
    refine XS.ifnullNo X6.here hx rfl (hb hby d4Lm_4) rfl ?_
    refine XS.aloadN X6.here hx rfl (hb hby d4Lm_7) rfl rfl ?_
    show Steps p.tables e below (T6.setTop (mkF m 8 #[.val (.ref a1), .val (.int p2), .unset] [(.ref a1)])) _
    refine st7 _ ?_
    show Steps p.tables e below (T7.setTop (mkF m 11 #[.val (.ref a1), .val (.int p2), .unset] [(.ref vb)])) _
    refine XS.iloadN X7.here hx rfl (hb hby d4Lm_11) rfl ?_
    refine XS.bipush X7.here hx rfl (hb hby d4Lm_12) ?_
    refine XS.iushr X7.here hx rfl (hb hby d4Lm_14) rfl ?_
    show Steps p.tables e below (T7.setTop (mkF m 15 #[.val (.ref a1), .val (.int p2), .unset] [(.int ((p2.toUInt32 >>> ((6 : Int32) &&& 31).toUInt32).toInt32)), (.ref vb)])) _
    refine X7.laload hx (j := ((p2.toUInt32 >>> ((6 : Int32) &&& 31).toUInt32).toInt32)) (v := (.long (g ((p2.toUInt32 >>> ((6 : Int32) &&& 31).toUInt32).toInt32).toNatClampNeg))) (by rw [e7]; exact Ar8.1) (State.isArrayOf_alike hZ.alike Ar8.2.1) Ar8.2.2 hin8 hat8 (g := (mkF m 15 #[.val (.ref a1), .val (.int p2), .unset] [(.int ((p2.toUInt32 >>> ((6 : Int32) &&& 31).toUInt32).toInt32)), (.ref vb)])) rfl rfl (hb hby d4Lm_15) _ ?_
    show Steps p.tables e below (T7.setTop (mkF m 16 #[.val (.ref a1), .val (.int p2), .unset] [(.long (g ((p2.toUInt32 >>> ((6 : Int32) &&& 31).toUInt32).toInt32).toNatClampNeg))])) _
    refine XS.lconst X7.here hx rfl (hb hby d4Lm_16) ?_
    refine XS.iloadN X7.here hx rfl (hb hby d4Lm_17) rfl ?_
    refine XS.lshl X7.here hx rfl (hb hby d4Lm_18) rfl ?_
    refine XS.land X7.here hx rfl (hb hby d4Lm_19) rfl ?_
    show Steps p.tables e below (T7.setTop (mkF m 20 #[.val (.ref a1), .val (.int p2), .unset] [(.long ((g ((p2.toUInt32 >>> ((6 : Int32) &&& 31).toUInt32).toInt32).toNatClampNeg) &&& ((1 : Int64) <<< (p2 &&& 0x3f).toInt64)))])) _
    refine XS.lconst X7.here hx rfl (hb hby d4Lm_20) ?_
    refine XS.lcmp X7.here hx rfl (hb hby d4Lm_21) rfl ?_
    refine XS.ifYes X7.here hx rfl (pc0 := 22) (pc' := 29) rfl (hb hby d4Lm_22) rfl ((if0 _ _).trans (feq (fun q => (hU : ¬ (((g ((p2.toUInt32 >>> ((6 : Int32) &&& 31).toUInt32).toInt32).toNatClampNeg) &&& ((1 : Int64) <<< (p2 &&& 0x3f).toInt64)) = (0 : Int64))) ((lw_eq ((g ((p2.toUInt32 >>> ((6 : Int32) &&& 31).toUInt32).toInt32).toNatClampNeg) &&& ((1 : Int64) <<< (p2 &&& 0x3f).toInt64)) (0 : Int64)).mp q))).2) (by decide) (by decide) ?_
    refine XS.iconst X7.here hx rfl (hb hby d4Lm_29) ?_
    show Steps p.tables e below (T7.setTop (mkF m 30 #[.val (.ref a1), .val (.int p2), .unset] [(.int (0 : Int32))])) _
    refine XS.istoreN X7.here hx rfl (hb hby d4Lm_30) rfl (l' := #[.val (.ref a1), .val (.int p2), .val (.int (0 : Int32))]) rfl ?_
    refine XS.aloadN X7.here hx rfl (hb hby d4Lm_31) rfl rfl ?_
    show Steps p.tables e below (T7.setTop (mkF m 32 #[.val (.ref a1), .val (.int p2), .val (.int (0 : Int32))] [(.ref a1)])) _
    refine st9 _ ?_
    show Steps p.tables e below (T9.setTop (mkF m 35 #[.val (.ref a1), .val (.int p2), .val (.int (0 : Int32))] [(.ref vb)])) _
    refine XS.iloadN X9.here hx rfl (hb hby d4Lm_35) rfl ?_
    refine XS.bipush X9.here hx rfl (hb hby d4Lm_36) ?_
    refine XS.iushr X9.here hx rfl (hb hby d4Lm_38) rfl ?_
    refine XT.dup2 X9.here hx rfl (hb hby d4Lm_39) rfl rfl rfl ?_
    show Steps p.tables e below (T9.setTop (mkF m 40 #[.val (.ref a1), .val (.int p2), .val (.int (0 : Int32))] [(.int ((p2.toUInt32 >>> ((6 : Int32) &&& 31).toUInt32).toInt32)), (.ref vb), (.int ((p2.toUInt32 >>> ((6 : Int32) &&& 31).toUInt32).toInt32)), (.ref vb)])) _
    refine X9.laload hx (j := ((p2.toUInt32 >>> ((6 : Int32) &&& 31).toUInt32).toInt32)) (v := (.long (g ((p2.toUInt32 >>> ((6 : Int32) &&& 31).toUInt32).toInt32).toNatClampNeg))) (by rw [e9]; exact Ar10.1) (State.isArrayOf_alike hZ.alike Ar10.2.1) Ar10.2.2 hin10 hat10 (g := (mkF m 40 #[.val (.ref a1), .val (.int p2), .val (.int (0 : Int32))] [(.int ((p2.toUInt32 >>> ((6 : Int32) &&& 31).toUInt32).toInt32)), (.ref vb), (.int ((p2.toUInt32 >>> ((6 : Int32) &&& 31).toUInt32).toInt32)), (.ref vb)])) rfl rfl (hb hby d4Lm_40) _ ?_
    show Steps p.tables e below (T9.setTop (mkF m 41 #[.val (.ref a1), .val (.int p2), .val (.int (0 : Int32))] [(.long (g ((p2.toUInt32 >>> ((6 : Int32) &&& 31).toUInt32).toInt32).toNatClampNeg)), (.int ((p2.toUInt32 >>> ((6 : Int32) &&& 31).toUInt32).toInt32)), (.ref vb)])) _
    refine XS.lconst X9.here hx rfl (hb hby d4Lm_41) ?_
    refine XS.iloadN X9.here hx rfl (hb hby d4Lm_42) rfl ?_
    refine XS.lshl X9.here hx rfl (hb hby d4Lm_43) rfl ?_
    refine XS.lor X9.here hx rfl (hb hby d4Lm_44) rfl ?_
    show Steps p.tables e below (T9.setTop (mkF m 45 #[.val (.ref a1), .val (.int p2), .val (.int (0 : Int32))] [(.long ((g ((p2.toUInt32 >>> ((6 : Int32) &&& 31).toUInt32).toInt32).toNatClampNeg) ||| ((1 : Int64) <<< (p2 &&& 0x3f).toInt64))), (.int ((p2.toUInt32 >>> ((6 : Int32) &&& 31).toUInt32).toInt32)), (.ref vb)])) _
    refine st12 _ ?_
    show Steps p.tables e below (T12.setTop (mkF m 46 #[.val (.ref a1), .val (.int p2), .val (.int (0 : Int32))] [])) _
    refine XS.goto X12.here hx rfl (pc0 := 46) (pc' := 79) rfl (hb hby d4Lm_46) (by decide) (by decide) ?_
    refine XS.iloadN X12.here hx rfl (hb hby d4Lm_79) rfl ?_
    refine XS.ifYes X12.here hx rfl (pc0 := 80) (pc' := 143) rfl (hb hby d4Lm_80) rfl ((if0 _ _).trans (teq ((by decide) : (0 : Int32) = (0 : Int32))).1) (by decide) (by decide) ?_
    refine XS.iloadN X12.here hx rfl (hb hby d4Lm_143) rfl ?_
    exact kt
  show own_End p e below s (T12.setTop (mkF m 144 #[.val (.ref a1), .val (.int p2), .val (.int (0 : Int32))] [(.int (0 : Int32))])) (Q4Lm Z a1 p2 vb vm vc vz g n gm h0 n0) ({ frames := 0, cells := 0, slots := 0, locals := 0 } : Room).cells ({ frames := 0, cells := 0, slots := 0, locals := 0 } : Room).slots
  obtain ⟨fs, hr, hrun, hended, hW, hsame⟩ := X12.leave (v := some (.int (0 : Int32))) (fun h => by rw [Bd.returns] at h; cases h)
  refine ⟨_, _, ?_, hrun, hended, _, _, rfl, ?_, ⟨_, rfl⟩, hW, hsame.mono (by decide) (by decide)⟩
  · exact retN X12 hx (t := .boolean) Bd.returns (by simp) (hb hby d4Lm_144) hr
  · show Q4Lm Z a1 p2 vb vm vc vz g n gm h0 n0 _ T12.heap _
    rw [e12]
    exact ⟨rfl, N12, K12, V12⟩
theorem d5N_0 : decode prog_95_method_4_code 0 = .ok (.aload_n 0, 1) := by decide +kernel
theorem d5N_1 : decode prog_95_method_4_code 1 = .ok (.iconst 0, 1) := by decide +kernel
theorem d5N_2 : decode prog_95_method_4_code 2 = .ok (.putfield 37, 3) := by decide +kernel
theorem d5N_5 : decode prog_95_method_4_code 5 = .ok (.aload_n 0, 1) := by decide +kernel
theorem d5N_6 : decode prog_95_method_4_code 6 = .ok (.getfield 30, 3) := by decide +kernel
theorem d5N_9 : decode prog_95_method_4_code 9 = .ok (.ifnull 37, 3) := by decide +kernel
theorem d5N_46 : decode prog_95_method_4_code 46 = .ok (.aload_n 0, 1) := by decide +kernel
theorem d5N_47 : decode prog_95_method_4_code 47 = .ok (.dup, 1) := by decide +kernel
theorem d5N_48 : decode prog_95_method_4_code 48 = .ok (.getfield 12, 3) := by decide +kernel
theorem d5N_51 : decode prog_95_method_4_code 51 = .ok (.iconst 1, 1) := by decide +kernel
theorem d5N_52 : decode prog_95_method_4_code 52 = .ok (.iadd, 1) := by decide +kernel
theorem d5N_53 : decode prog_95_method_4_code 53 = .ok (.putfield 12, 3) := by decide +kernel
theorem d5N_56 : decode prog_95_method_4_code 56 = .ok (.aload_n 0, 1) := by decide +kernel
theorem d5N_57 : decode prog_95_method_4_code 57 = .ok (.getfield 12, 3) := by decide +kernel
theorem d5N_60 : decode prog_95_method_4_code 60 = .ok (.ldc 45, 2) := by decide +kernel
theorem d5N_62 : decode prog_95_method_4_code 62 = .ok (.if_icmp .le 16, 3) := by decide +kernel
theorem d5N_78 : decode prog_95_method_4_code 78 = .ok (.aload_n 0, 1) := by decide +kernel
theorem d5N_79 : decode prog_95_method_4_code 79 = .ok (.iconst 0, 1) := by decide +kernel
theorem d5N_80 : decode prog_95_method_4_code 80 = .ok (.putfield 40, 3) := by decide +kernel
theorem d5N_83 : decode prog_95_method_4_code 83 = .ok (.return_, 1) := by decide +kernel
theorem pn_5N : plainName "com/example/libfacet/libfacet/regex/StateSet" = true := by first | (simp [plainName, overriddenIn]; done) | decide +kernel
theorem ef_5N (m : MethodId) (x0 : Addr) : entryFrame m #[(.ref x0)] 2 = mkF m 0 #[.val (.ref x0), .unset] [] := by first | (simp [entryFrame, mkF, argsToLocals, Value.category]; done) | rfl
def Q5N (Z : State) (a1 : Addr) (vt : Int32) (vk : Addr) (vc : Int32) (vz : Int32) (h0 : Heap) (n0 : Nat) (v : Option Value) (h : Heap) (L : List Loc) : Prop := v = none ∧ Fr n0 L ∧ Keep h0 h [a1] ∧ own_ObjN Z h a1 (vt + (1 : Int32)) vk (0 : Int32) (0 : Int32)
set_option maxRecDepth 65536 in
set_option maxHeartbeats 40000000 in
theorem rm5N (l : Launch) (Z : State) (a0 : Array Value) (hw : ∀ d ∈ tables_1, d.before a0 Z = true) (ws : List Jvm.Cond) (a1 : Addr) (vt : Int32) (vk : Addr) (vc : Int32) (vz : Int32) (h0 : Heap) (n0 : Nat) (Z0 : n0 ≤ h0.size) (O_a1 : own_ObjN Z h0 a1 vt vk vc vz) (g_a1 : n0 ≤ a1) (hst : ¬ (65535 : Int32) < (vt + (1 : Int32))) :
    MetFree l (⟨"com/example/libfacet/libfacet/regex/StateSet", "clear", "()V"⟩ : MethodName) (head1 (Jvm.Cond.code (⟨"com/example/libfacet/libfacet/regex/StateSet", "clear", "()V"⟩ : MethodName) prog_95_method_4_code 2 none :: ws) ({ frames := 0, cells := 0, slots := 0, locals := 0 } : Room)) (fun a U => a = #[(.ref a1)] ∧ Z.Warmed39 U.vm ∧ U.heap = h0) (fun _ _ _ _ _ => True) (fun _ U o U' => ∃ v L, o = .returned v ∧ Q5N Z a1 vt vk vc vz h0 n0 v U'.heap L ∧ FrameEnd U o U' L ({ frames := 0, cells := 0, slots := 0, locals := 0 } : Room).cells ({ frames := 0, cells := 0, slots := 0, locals := 0 } : Room).slots) := by
  refine MetFree.of_bodySF (plainFor_of_name pn_5N) hisR ?_
  intro p e s m args below meth c s₁ Bd hml0 hP hK
  obtain ⟨rfl, hZ, hh⟩ := hP
  have hx := Bd.exec
  have hby := Bd.bytes
  have hml : c.maxLocals = 2 := hml0
  have hown : s.vm.findClass "com/example/libfacet/libfacet/regex/StateSet" = some m.cls := findClass_of_methodNamed Bd.named
  have hnm := (name_of_methodNamed Bd.named Bd.method).1
  have X0 : Stand p l e ({ frames := 0, cells := 0, slots := 0, locals := 0 } : Room) s m #[(.ref a1)] below meth c s₁ [] 0 0 := Stand.of_body Bd
  have e0 : s₁.heap = h0 := by rw [← hh, Bd.state]; rfl
  have N0 := Fr.nil n0
  show own_End p e below s (s₁.setTop (entryFrame m #[(.ref a1)] 2)) (Q5N Z a1 vt vk vc vz h0 n0) ({ frames := 0, cells := 0, slots := 0, locals := 0 } : Room).cells ({ frames := 0, cells := 0, slots := 0, locals := 0 } : Room).slots
  obtain ⟨E_a1_1, F_stamp_a1_2, F_marks_a1_3, F_markBits_a1_4, F_marked_a1_5, F_markedCount_a1_6, F_size_a1_7⟩ := O_a1
  refine own_pre (A := s₁.setTop (mkF m 0 #[.val (.ref a1), .unset] [])) (fun tt kt => castTop (ef_5N m a1) kt) ?_
  show own_End p e below s (s₁.setTop (mkF m 0 #[.val (.ref a1), .unset] [])) (Q5N Z a1 vt vk vc vz h0 n0) ({ frames := 0, cells := 0, slots := 0, locals := 0 } : Room).cells ({ frames := 0, cells := 0, slots := 0, locals := 0 } : Room).slots
  obtain ⟨T8, h8, X8, e8, W8, st8⟩ := putF X0 hx hZ hown (host := "") (Or.inl (hw _ (List.mem_of_getElem? (i := 43) rfl))) Via.refl e0 F_size_a1_7 E_a1_1 (Or.inl (hw _ (List.mem_of_getElem? (i := 44) rfl))) (hw _ (List.mem_of_getElem? (i := 2) rfl)) (ty := .int) (by decide) rfl rfl (g := (mkF m 2 #[.val (.ref a1), .unset] [(.int (0 : Int32)), (.ref a1)])) rfl rfl (hb hby d5N_2)
  have Fw8 := Fld.same W8 F_size_a1_7
  have fE_a1_x8 := (E_a1_1.wr W8)
  have fF_a1_stamp_x8 := (Fld.other W8 F_stamp_a1_2 (Or.inr (slot_ne (Or.inl (hw _ (List.mem_of_getElem? (i := 11) rfl))) (Or.inl (hw _ (List.mem_of_getElem? (i := 44) rfl))) (by decide) (t := .int) (t' := .int) (by decide) (by decide))))
  have fF_a1_marks_x8 := (Fld.other W8 F_marks_a1_3 (Or.inr (slot_ne (Or.inr (hw _ (List.mem_of_getElem? (i := 20) rfl))) (Or.inl (hw _ (List.mem_of_getElem? (i := 44) rfl))) (by decide) (t := (.array .char)) (t' := .int) (by decide) (by decide))))
  have fF_a1_markBits_x8 := (Fld.other W8 F_markBits_a1_4 (Or.inr (slot_ne (Or.inr (hw _ (List.mem_of_getElem? (i := 23) rfl))) (Or.inl (hw _ (List.mem_of_getElem? (i := 44) rfl))) (by decide) (t := (.array .long)) (t' := .int) (by decide) (by decide))))
  have fF_a1_marked_x8 := (Fld.other W8 F_marked_a1_5 (Or.inr (slot_ne (Or.inl (hw _ (List.mem_of_getElem? (i := 25) rfl))) (Or.inl (hw _ (List.mem_of_getElem? (i := 44) rfl))) (by decide) (t := (.array .int)) (t' := .int) (by decide) (by decide))))
  have fF_a1_markedCount_x8 := (Fld.other W8 F_markedCount_a1_6 (Or.inr (slot_ne (Or.inl (hw _ (List.mem_of_getElem? (i := 37) rfl))) (Or.inl (hw _ (List.mem_of_getElem? (i := 44) rfl))) (by decide) (t := .int) (t' := .int) (by decide) (by decide))))
  have N8 := Fr.snoc X8 N0 g_a1
  have K8 : Keep h0 h8 [a1] := Keep.wr (Keep.refl h0 _) W8 (Or.inl (List.mem_of_getElem? (i := 0) rfl))
  have Z8 : n0 ≤ h8.size := Nat.le_trans Z0 (Nat.le_of_eq W8.size.symm)
  obtain ⟨T9, X9, e9, st9⟩ := getF X8 hx hZ hown (host := "") (Or.inl (hw _ (List.mem_of_getElem? (i := 22) rfl))) Via.refl e8 fF_a1_markBits_x8 (g := (mkF m 6 #[.val (.ref a1), .unset] [(.ref a1)])) rfl rfl (hb hby d5N_6)
  obtain ⟨T10, X10, e10, st10⟩ := getF X9 hx hZ hown (host := "") (Or.inl (hw _ (List.mem_of_getElem? (i := 10) rfl))) Via.refl e9 fF_a1_stamp_x8 (g := (mkF m 48 #[.val (.ref a1), .unset] [(.ref a1), (.ref a1)])) rfl rfl (hb hby d5N_48)
  obtain ⟨T11, h11, X11, e11, W11, st11⟩ := putF X10 hx hZ hown (host := "") (Or.inl (hw _ (List.mem_of_getElem? (i := 10) rfl))) Via.refl e10 fF_a1_stamp_x8 fE_a1_x8 (Or.inl (hw _ (List.mem_of_getElem? (i := 11) rfl))) (hw _ (List.mem_of_getElem? (i := 2) rfl)) (ty := .int) (by decide) rfl rfl (g := (mkF m 53 #[.val (.ref a1), .unset] [(.int (vt + (1 : Int32))), (.ref a1)])) rfl rfl (hb hby d5N_53)
  have Fw11 := Fld.same W11 fF_a1_stamp_x8
  have fE_a1_x11 := (fE_a1_x8.wr W11)
  have fF_a1_marks_x11 := (Fld.other W11 fF_a1_marks_x8 (Or.inr (slot_ne (Or.inr (hw _ (List.mem_of_getElem? (i := 20) rfl))) (Or.inl (hw _ (List.mem_of_getElem? (i := 11) rfl))) (by decide) (t := (.array .char)) (t' := .int) (by decide) (by decide))))
  have fF_a1_markBits_x11 := (Fld.other W11 fF_a1_markBits_x8 (Or.inr (slot_ne (Or.inr (hw _ (List.mem_of_getElem? (i := 23) rfl))) (Or.inl (hw _ (List.mem_of_getElem? (i := 11) rfl))) (by decide) (t := (.array .long)) (t' := .int) (by decide) (by decide))))
  have fF_a1_marked_x11 := (Fld.other W11 fF_a1_marked_x8 (Or.inr (slot_ne (Or.inl (hw _ (List.mem_of_getElem? (i := 25) rfl))) (Or.inl (hw _ (List.mem_of_getElem? (i := 11) rfl))) (by decide) (t := (.array .int)) (t' := .int) (by decide) (by decide))))
  have fF_a1_markedCount_x11 := (Fld.other W11 fF_a1_markedCount_x8 (Or.inr (slot_ne (Or.inl (hw _ (List.mem_of_getElem? (i := 37) rfl))) (Or.inl (hw _ (List.mem_of_getElem? (i := 11) rfl))) (by decide) (t := .int) (t' := .int) (by decide) (by decide))))
  have fF_a1_size_x11 := (Fld.other W11 Fw8 (Or.inr (slot_ne (Or.inl (hw _ (List.mem_of_getElem? (i := 44) rfl))) (Or.inl (hw _ (List.mem_of_getElem? (i := 11) rfl))) (by decide) (t := .int) (t' := .int) (by decide) (by decide))))
  have N11 := Fr.snoc X11 N8 g_a1
  have K11 : Keep h0 h11 [a1] := Keep.wr K8 W11 (Or.inl (List.mem_of_getElem? (i := 0) rfl))
  have Z11 : n0 ≤ h11.size := Nat.le_trans Z8 (Nat.le_of_eq W11.size.symm)
  obtain ⟨T12, X12, e12, st12⟩ := getF X11 hx hZ hown (host := "") (Or.inl (hw _ (List.mem_of_getElem? (i := 10) rfl))) Via.refl e11 Fw11 (g := (mkF m 57 #[.val (.ref a1), .unset] [(.ref a1)])) rfl rfl (hb hby d5N_57)
  obtain ⟨T13, h13, X13, e13, W13, st13⟩ := putF X12 hx hZ hown (host := "") (Or.inl (hw _ (List.mem_of_getElem? (i := 36) rfl))) Via.refl e12 fF_a1_markedCount_x11 fE_a1_x11 (Or.inl (hw _ (List.mem_of_getElem? (i := 37) rfl))) (hw _ (List.mem_of_getElem? (i := 2) rfl)) (ty := .int) (by decide) rfl rfl (g := (mkF m 80 #[.val (.ref a1), .unset] [(.int (0 : Int32)), (.ref a1)])) rfl rfl (hb hby d5N_80)
  have Fw13 := Fld.same W13 fF_a1_markedCount_x11
  have fE_a1_x13 := (fE_a1_x11.wr W13)
  have fF_a1_stamp_x13 := (Fld.other W13 Fw11 (Or.inr (slot_ne (Or.inl (hw _ (List.mem_of_getElem? (i := 11) rfl))) (Or.inl (hw _ (List.mem_of_getElem? (i := 37) rfl))) (by decide) (t := .int) (t' := .int) (by decide) (by decide))))
  have fF_a1_marks_x13 := (Fld.other W13 fF_a1_marks_x11 (Or.inr (slot_ne (Or.inr (hw _ (List.mem_of_getElem? (i := 20) rfl))) (Or.inl (hw _ (List.mem_of_getElem? (i := 37) rfl))) (by decide) (t := (.array .char)) (t' := .int) (by decide) (by decide))))
  have fF_a1_markBits_x13 := (Fld.other W13 fF_a1_markBits_x11 (Or.inr (slot_ne (Or.inr (hw _ (List.mem_of_getElem? (i := 23) rfl))) (Or.inl (hw _ (List.mem_of_getElem? (i := 37) rfl))) (by decide) (t := (.array .long)) (t' := .int) (by decide) (by decide))))
  have fF_a1_marked_x13 := (Fld.other W13 fF_a1_marked_x11 (Or.inr (slot_ne (Or.inl (hw _ (List.mem_of_getElem? (i := 25) rfl))) (Or.inl (hw _ (List.mem_of_getElem? (i := 37) rfl))) (by decide) (t := (.array .int)) (t' := .int) (by decide) (by decide))))
  have fF_a1_size_x13 := (Fld.other W13 fF_a1_size_x11 (Or.inr (slot_ne (Or.inl (hw _ (List.mem_of_getElem? (i := 44) rfl))) (Or.inl (hw _ (List.mem_of_getElem? (i := 37) rfl))) (by decide) (t := .int) (t' := .int) (by decide) (by decide))))
  have N13 := Fr.snoc X13 N11 g_a1
  have K13 : Keep h0 h13 [a1] := Keep.wr K11 W13 (Or.inl (List.mem_of_getElem? (i := 0) rfl))
  have Z13 : n0 ≤ h13.size := Nat.le_trans Z11 (Nat.le_of_eq W13.size.symm)
  refine own_pre (A := T13.setTop (mkF m 83 #[.val (.ref a1), .unset] [])) (fun tt kt => ?_) ?_
  · show Steps p.tables e below (s₁.setTop (mkF m 0 #[.val (.ref a1), .unset] [])) _
    refine XS.aloadN X0.here hx rfl (hb hby d5N_0) rfl rfl ?_
    refine XS.iconst X0.here hx rfl (hb hby d5N_1) ?_
    show Steps p.tables e below (s₁.setTop (mkF m 2 #[.val (.ref a1), .unset] [(.int (0 : Int32)), (.ref a1)])) _
    refine st8 _ ?_
    show Steps p.tables e below (T8.setTop (mkF m 5 #[.val (.ref a1), .unset] [])) _
    refine XS.aloadN X8.here hx rfl (hb hby d5N_5) rfl rfl ?_
    show Steps p.tables e below (T8.setTop (mkF m 6 #[.val (.ref a1), .unset] [(.ref a1)])) _
    refine st9 _ ?_
    show Steps p.tables e below (T9.setTop (mkF m 9 #[.val (.ref a1), .unset] [.null])) _
    refine XS.ifnullYes X9.here hx rfl (pc0 := 9) (pc' := 46) rfl (hb hby d5N_9) rfl (by decide) (by decide) ?_
    refine XS.aloadN X9.here hx rfl (hb hby d5N_46) rfl rfl ?_
    refine XS.dup X9.here hx rfl (hb hby d5N_47) rfl rfl ?_
    show Steps p.tables e below (T9.setTop (mkF m 48 #[.val (.ref a1), .unset] [(.ref a1), (.ref a1)])) _
    refine st10 _ ?_
    show Steps p.tables e below (T10.setTop (mkF m 51 #[.val (.ref a1), .unset] [(.int vt), (.ref a1)])) _
    refine XS.iconst X10.here hx rfl (hb hby d5N_51) ?_
    refine XS.iadd X10.here hx rfl (hb hby d5N_52) rfl ?_
    show Steps p.tables e below (T10.setTop (mkF m 53 #[.val (.ref a1), .unset] [(.int (vt + (1 : Int32))), (.ref a1)])) _
    refine st11 _ ?_
    show Steps p.tables e below (T11.setTop (mkF m 56 #[.val (.ref a1), .unset] [])) _
    refine XS.aloadN X11.here hx rfl (hb hby d5N_56) rfl rfl ?_
    show Steps p.tables e below (T11.setTop (mkF m 57 #[.val (.ref a1), .unset] [(.ref a1)])) _
    refine st12 _ ?_
    show Steps p.tables e below (T12.setTop (mkF m 60 #[.val (.ref a1), .unset] [(.int (vt + (1 : Int32)))])) _
    refine X12.ldcInt hx hown (mvT hZ (hw _ (List.mem_of_getElem? (i := 46) rfl))) (g := (mkF m 60 #[.val (.ref a1), .unset] [(.int (vt + (1 : Int32)))])) rfl (hb hby d5N_60) _ ?_
    show Steps p.tables e below (T12.setTop (mkF m 62 #[.val (.ref a1), .unset] [(.int (65535 : Int32)), (.int (vt + (1 : Int32)))])) _
    refine XS.icmpYes X12.here hx rfl (pc0 := 62) (pc' := 78) rfl (hb hby d5N_62) rfl (flt (hst : ¬ ((65535 : Int32) < (vt + (1 : Int32))))).2.2.2 (by decide) (by decide) ?_
    refine XS.aloadN X12.here hx rfl (hb hby d5N_78) rfl rfl ?_
    refine XS.iconst X12.here hx rfl (hb hby d5N_79) ?_
    show Steps p.tables e below (T12.setTop (mkF m 80 #[.val (.ref a1), .unset] [(.int (0 : Int32)), (.ref a1)])) _
    refine st13 _ ?_
    exact kt
  show own_End p e below s (T13.setTop (mkF m 83 #[.val (.ref a1), .unset] [])) (Q5N Z a1 vt vk vc vz h0 n0) ({ frames := 0, cells := 0, slots := 0, locals := 0 } : Room).cells ({ frames := 0, cells := 0, slots := 0, locals := 0 } : Room).slots
  obtain ⟨fs, hr, hrun, hended, hW, hsame⟩ := X13.leave (v := none) (fun _ => rfl)
  refine ⟨_, _, ?_, hrun, hended, _, _, rfl, ?_, ⟨_, rfl⟩, hW, hsame.mono (by decide) (by decide)⟩
  · exact X13.returnOut hx Bd.returns (hb hby d5N_83) hr
  · show Q5N Z a1 vt vk vc vz h0 n0 _ T13.heap _
    rw [e13]
    exact ⟨rfl, N13, K13, ⟨fE_a1_x13, fF_a1_stamp_x13, fF_a1_marks_x13, fF_a1_markBits_x13, fF_a1_marked_x13, Fw13, fF_a1_size_x13⟩⟩
theorem d5L0_0 : decode prog_95_method_4_code 0 = .ok (.aload_n 0, 1) := by decide +kernel
theorem d5L0_1 : decode prog_95_method_4_code 1 = .ok (.iconst 0, 1) := by decide +kernel
theorem d5L0_2 : decode prog_95_method_4_code 2 = .ok (.putfield 37, 3) := by decide +kernel
theorem d5L0_5 : decode prog_95_method_4_code 5 = .ok (.aload_n 0, 1) := by decide +kernel
theorem d5L0_6 : decode prog_95_method_4_code 6 = .ok (.getfield 30, 3) := by decide +kernel
theorem d5L0_9 : decode prog_95_method_4_code 9 = .ok (.ifnull 37, 3) := by decide +kernel
theorem d5L0_12 : decode prog_95_method_4_code 12 = .ok (.iconst 0, 1) := by decide +kernel
theorem d5L0_13 : decode prog_95_method_4_code 13 = .ok (.istore_n 1, 1) := by decide +kernel
theorem d5L0_14 : decode prog_95_method_4_code 14 = .ok (.iload_n 1, 1) := by decide +kernel
theorem d5L0_15 : decode prog_95_method_4_code 15 = .ok (.aload_n 0, 1) := by decide +kernel
theorem d5L0_16 : decode prog_95_method_4_code 16 = .ok (.getfield 40, 3) := by decide +kernel
theorem d5L0_19 : decode prog_95_method_4_code 19 = .ok (.if_icmp .ge 24, 3) := by decide +kernel
theorem d5L0_43 : decode prog_95_method_4_code 43 = .ok (.goto 35, 3) := by decide +kernel
theorem d5L0_78 : decode prog_95_method_4_code 78 = .ok (.aload_n 0, 1) := by decide +kernel
theorem d5L0_79 : decode prog_95_method_4_code 79 = .ok (.iconst 0, 1) := by decide +kernel
theorem d5L0_80 : decode prog_95_method_4_code 80 = .ok (.putfield 40, 3) := by decide +kernel
theorem d5L0_83 : decode prog_95_method_4_code 83 = .ok (.return_, 1) := by decide +kernel
theorem pn_5L0 : plainName "com/example/libfacet/libfacet/regex/StateSet" = true := by first | (simp [plainName, overriddenIn]; done) | decide +kernel
theorem ef_5L0 (m : MethodId) (x0 : Addr) : entryFrame m #[(.ref x0)] 2 = mkF m 0 #[.val (.ref x0), .unset] [] := by first | (simp [entryFrame, mkF, argsToLocals, Value.category]; done) | rfl
def Q5L0 (Z : State) (a1 : Addr) (vb : Addr) (vm : Addr) (vz : Int32) (g : Nat → Int64) (n : Int32) (gm : Nat → Int32) (h0 : Heap) (n0 : Nat) (v : Option Value) (h : Heap) (L : List Loc) : Prop := v = none ∧ Fr n0 L ∧ Keep h0 h [a1] ∧ own_ObjL Z h a1 vb vm (0 : Int32) (0 : Int32)
set_option maxRecDepth 65536 in
set_option maxHeartbeats 40000000 in
theorem rm5L0 (l : Launch) (Z : State) (a0 : Array Value) (hw : ∀ d ∈ tables_1, d.before a0 Z = true) (ws : List Jvm.Cond) (a1 : Addr) (vb : Addr) (vm : Addr) (vz : Int32) (g : Nat → Int64) (n : Int32) (gm : Nat → Int32) (h0 : Heap) (n0 : Nat) (Z0 : n0 ≤ h0.size) (O_a1 : own_ObjL Z h0 a1 vb vm (0 : Int32) vz) (V_vb : own_Arr Z h0 vb .long n (fun i => Value.long (g i))) (V_vm : own_Arr Z h0 vm .int (16 : Int32) (fun i => Value.int (gm i))) (ne_a1_vb : a1 ≠ vb) (ne_a1_vm : a1 ≠ vm) (ne_vb_vm : vb ≠ vm) (g_a1 : n0 ≤ a1) :
    MetFree l (⟨"com/example/libfacet/libfacet/regex/StateSet", "clear", "()V"⟩ : MethodName) (head1 (Jvm.Cond.code (⟨"com/example/libfacet/libfacet/regex/StateSet", "clear", "()V"⟩ : MethodName) prog_95_method_4_code 2 none :: ws) ({ frames := 0, cells := 0, slots := 0, locals := 0 } : Room)) (fun a U => a = #[(.ref a1)] ∧ Z.Warmed39 U.vm ∧ U.heap = h0) (fun _ _ _ _ _ => True) (fun _ U o U' => ∃ v L, o = .returned v ∧ Q5L0 Z a1 vb vm vz g n gm h0 n0 v U'.heap L ∧ FrameEnd U o U' L ({ frames := 0, cells := 0, slots := 0, locals := 0 } : Room).cells ({ frames := 0, cells := 0, slots := 0, locals := 0 } : Room).slots) := by
  refine MetFree.of_bodySF (plainFor_of_name pn_5L0) hisR ?_
  intro p e s m args below meth c s₁ Bd hml0 hP hK
  obtain ⟨rfl, hZ, hh⟩ := hP
  have hx := Bd.exec
  have hby := Bd.bytes
  have hml : c.maxLocals = 2 := hml0
  have hown : s.vm.findClass "com/example/libfacet/libfacet/regex/StateSet" = some m.cls := findClass_of_methodNamed Bd.named
  have hnm := (name_of_methodNamed Bd.named Bd.method).1
  have X0 : Stand p l e ({ frames := 0, cells := 0, slots := 0, locals := 0 } : Room) s m #[(.ref a1)] below meth c s₁ [] 0 0 := Stand.of_body Bd
  have e0 : s₁.heap = h0 := by rw [← hh, Bd.state]; rfl
  have N0 := Fr.nil n0
  show own_End p e below s (s₁.setTop (entryFrame m #[(.ref a1)] 2)) (Q5L0 Z a1 vb vm vz g n gm h0 n0) ({ frames := 0, cells := 0, slots := 0, locals := 0 } : Room).cells ({ frames := 0, cells := 0, slots := 0, locals := 0 } : Room).slots
  obtain ⟨E_a1_1, F_markBits_a1_2, F_marked_a1_3, F_markedCount_a1_4, F_size_a1_5⟩ := O_a1
  refine own_pre (A := s₁.setTop (mkF m 0 #[.val (.ref a1), .unset] [])) (fun tt kt => castTop (ef_5L0 m a1) kt) ?_
  show own_End p e below s (s₁.setTop (mkF m 0 #[.val (.ref a1), .unset] [])) (Q5L0 Z a1 vb vm vz g n gm h0 n0) ({ frames := 0, cells := 0, slots := 0, locals := 0 } : Room).cells ({ frames := 0, cells := 0, slots := 0, locals := 0 } : Room).slots
  obtain ⟨T6, h6, X6, e6, W6, st6⟩ := putF X0 hx hZ hown (host := "") (Or.inl (hw _ (List.mem_of_getElem? (i := 43) rfl))) Via.refl e0 F_size_a1_5 E_a1_1 (Or.inl (hw _ (List.mem_of_getElem? (i := 44) rfl))) (hw _ (List.mem_of_getElem? (i := 2) rfl)) (ty := .int) (by decide) rfl rfl (g := (mkF m 2 #[.val (.ref a1), .unset] [(.int (0 : Int32)), (.ref a1)])) rfl rfl (hb hby d5L0_2)
  have Fw6 := Fld.same W6 F_size_a1_5
  have fE_a1_x6 := (E_a1_1.wr W6)
  have fF_a1_markBits_x6 := (Fld.other W6 F_markBits_a1_2 (Or.inr (slot_ne (Or.inr (hw _ (List.mem_of_getElem? (i := 23) rfl))) (Or.inl (hw _ (List.mem_of_getElem? (i := 44) rfl))) (by decide) (t := (.array .long)) (t' := .int) (by decide) (by decide))))
  have fF_a1_marked_x6 := (Fld.other W6 F_marked_a1_3 (Or.inr (slot_ne (Or.inl (hw _ (List.mem_of_getElem? (i := 25) rfl))) (Or.inl (hw _ (List.mem_of_getElem? (i := 44) rfl))) (by decide) (t := (.array .int)) (t' := .int) (by decide) (by decide))))
  have fF_a1_markedCount_x6 := (Fld.other W6 F_markedCount_a1_4 (Or.inr (slot_ne (Or.inl (hw _ (List.mem_of_getElem? (i := 37) rfl))) (Or.inl (hw _ (List.mem_of_getElem? (i := 44) rfl))) (by decide) (t := .int) (t' := .int) (by decide) (by decide))))
  have fA_vb_x6 := (V_vb.other W6 (Ne.symm ne_a1_vb))
  have fA_vm_x6 := (V_vm.other W6 (Ne.symm ne_a1_vm))
  have N6 := Fr.snoc X6 N0 g_a1
  have K6 : Keep h0 h6 [a1] := Keep.wr (Keep.refl h0 _) W6 (Or.inl (List.mem_of_getElem? (i := 0) rfl))
  have Z6 : n0 ≤ h6.size := Nat.le_trans Z0 (Nat.le_of_eq W6.size.symm)
  obtain ⟨T7, X7, e7, st7⟩ := getF X6 hx hZ hown (host := "") (Or.inl (hw _ (List.mem_of_getElem? (i := 22) rfl))) Via.refl e6 fF_a1_markBits_x6 (g := (mkF m 6 #[.val (.ref a1), .unset] [(.ref a1)])) rfl rfl (hb hby d5L0_6)
  obtain ⟨T8, X8, e8, st8⟩ := getF X7 hx hZ hown (host := "") (Or.inl (hw _ (List.mem_of_getElem? (i := 36) rfl))) Via.refl e7 fF_a1_markedCount_x6 (g := (mkF m 16 #[.val (.ref a1), .val (.int (0 : Int32))] [(.ref a1), (.int (0 : Int32))])) rfl rfl (hb hby d5L0_16)
  obtain ⟨T9, h9, X9, e9, W9, st9⟩ := putF X8 hx hZ hown (host := "") (Or.inl (hw _ (List.mem_of_getElem? (i := 36) rfl))) Via.refl e8 fF_a1_markedCount_x6 fE_a1_x6 (Or.inl (hw _ (List.mem_of_getElem? (i := 37) rfl))) (hw _ (List.mem_of_getElem? (i := 2) rfl)) (ty := .int) (by decide) rfl rfl (g := (mkF m 80 #[.val (.ref a1), .val (.int (0 : Int32))] [(.int (0 : Int32)), (.ref a1)])) rfl rfl (hb hby d5L0_80)
  have Fw9 := Fld.same W9 fF_a1_markedCount_x6
  have fE_a1_x9 := (fE_a1_x6.wr W9)
  have fF_a1_markBits_x9 := (Fld.other W9 fF_a1_markBits_x6 (Or.inr (slot_ne (Or.inr (hw _ (List.mem_of_getElem? (i := 23) rfl))) (Or.inl (hw _ (List.mem_of_getElem? (i := 37) rfl))) (by decide) (t := (.array .long)) (t' := .int) (by decide) (by decide))))
  have fF_a1_marked_x9 := (Fld.other W9 fF_a1_marked_x6 (Or.inr (slot_ne (Or.inl (hw _ (List.mem_of_getElem? (i := 25) rfl))) (Or.inl (hw _ (List.mem_of_getElem? (i := 37) rfl))) (by decide) (t := (.array .int)) (t' := .int) (by decide) (by decide))))
  have fF_a1_size_x9 := (Fld.other W9 Fw6 (Or.inr (slot_ne (Or.inl (hw _ (List.mem_of_getElem? (i := 44) rfl))) (Or.inl (hw _ (List.mem_of_getElem? (i := 37) rfl))) (by decide) (t := .int) (t' := .int) (by decide) (by decide))))
  have fA_vb_x9 := (fA_vb_x6.other W9 (Ne.symm ne_a1_vb))
  have fA_vm_x9 := (fA_vm_x6.other W9 (Ne.symm ne_a1_vm))
  have N9 := Fr.snoc X9 N6 g_a1
  have K9 : Keep h0 h9 [a1] := Keep.wr K6 W9 (Or.inl (List.mem_of_getElem? (i := 0) rfl))
  have Z9 : n0 ≤ h9.size := Nat.le_trans Z6 (Nat.le_of_eq W9.size.symm)
  refine own_pre (A := T9.setTop (mkF m 83 #[.val (.ref a1), .val (.int (0 : Int32))] [])) (fun tt kt => ?_) ?_
  · show Steps p.tables e below (s₁.setTop (mkF m 0 #[.val (.ref a1), .unset] [])) _
    refine XS.aloadN X0.here hx rfl (hb hby d5L0_0) rfl rfl ?_
    refine XS.iconst X0.here hx rfl (hb hby d5L0_1) ?_
    show Steps p.tables e below (s₁.setTop (mkF m 2 #[.val (.ref a1), .unset] [(.int (0 : Int32)), (.ref a1)])) _
    refine st6 _ ?_
    show Steps p.tables e below (T6.setTop (mkF m 5 #[.val (.ref a1), .unset] [])) _
    refine XS.aloadN X6.here hx rfl (hb hby d5L0_5) rfl rfl ?_
    show Steps p.tables e below (T6.setTop (mkF m 6 #[.val (.ref a1), .unset] [(.ref a1)])) _
    refine st7 _ ?_
    show Steps p.tables e below (T7.setTop (mkF m 9 #[.val (.ref a1), .unset] [(.ref vb)])) _
    refine XS.ifnullNo X7.here hx rfl (hb hby d5L0_9) rfl ?_
    refine XS.iconst X7.here hx rfl (hb hby d5L0_12) ?_
    refine XS.istoreN X7.here hx rfl (hb hby d5L0_13) rfl (l' := #[.val (.ref a1), .val (.int (0 : Int32))]) rfl ?_
    refine XS.iloadN X7.here hx rfl (hb hby d5L0_14) rfl ?_
    show Steps p.tables e below (T7.setTop (mkF m 15 #[.val (.ref a1), .val (.int (0 : Int32))] [(.int (0 : Int32))])) _
    refine XS.aloadN X7.here hx rfl (hb hby d5L0_15) rfl rfl ?_
    show Steps p.tables e below (T7.setTop (mkF m 16 #[.val (.ref a1), .val (.int (0 : Int32))] [(.ref a1), (.int (0 : Int32))])) _
    refine st8 _ ?_
    show Steps p.tables e below (T8.setTop (mkF m 19 #[.val (.ref a1), .val (.int (0 : Int32))] [(.int (0 : Int32)), (.int (0 : Int32))])) _
    refine XS.icmpYes X8.here hx rfl (pc0 := 19) (pc' := 43) rfl (hb hby d5L0_19) rfl (flt ((by decide) : ¬ ((0 : Int32) < (0 : Int32)))).2.1 (by decide) (by decide) ?_
    refine XS.goto X8.here hx rfl (pc0 := 43) (pc' := 78) rfl (hb hby d5L0_43) (by decide) (by decide) ?_
    refine XS.aloadN X8.here hx rfl (hb hby d5L0_78) rfl rfl ?_
    refine XS.iconst X8.here hx rfl (hb hby d5L0_79) ?_
    show Steps p.tables e below (T8.setTop (mkF m 80 #[.val (.ref a1), .val (.int (0 : Int32))] [(.int (0 : Int32)), (.ref a1)])) _
    refine st9 _ ?_
    exact kt
  show own_End p e below s (T9.setTop (mkF m 83 #[.val (.ref a1), .val (.int (0 : Int32))] [])) (Q5L0 Z a1 vb vm vz g n gm h0 n0) ({ frames := 0, cells := 0, slots := 0, locals := 0 } : Room).cells ({ frames := 0, cells := 0, slots := 0, locals := 0 } : Room).slots
  obtain ⟨fs, hr, hrun, hended, hW, hsame⟩ := X9.leave (v := none) (fun _ => rfl)
  refine ⟨_, _, ?_, hrun, hended, _, _, rfl, ?_, ⟨_, rfl⟩, hW, hsame.mono (by decide) (by decide)⟩
  · exact X9.returnOut hx Bd.returns (hb hby d5L0_83) hr
  · show Q5L0 Z a1 vb vm vz g n gm h0 n0 _ T9.heap _
    rw [e9]
    exact ⟨rfl, N9, K9, ⟨fE_a1_x9, fF_a1_markBits_x9, fF_a1_marked_x9, Fw9, fF_a1_size_x9⟩⟩
theorem d5L1_0 : decode prog_95_method_4_code 0 = .ok (.aload_n 0, 1) := by decide +kernel
theorem d5L1_1 : decode prog_95_method_4_code 1 = .ok (.iconst 0, 1) := by decide +kernel
theorem d5L1_2 : decode prog_95_method_4_code 2 = .ok (.putfield 37, 3) := by decide +kernel
theorem d5L1_5 : decode prog_95_method_4_code 5 = .ok (.aload_n 0, 1) := by decide +kernel
theorem d5L1_6 : decode prog_95_method_4_code 6 = .ok (.getfield 30, 3) := by decide +kernel
theorem d5L1_9 : decode prog_95_method_4_code 9 = .ok (.ifnull 37, 3) := by decide +kernel
theorem d5L1_12 : decode prog_95_method_4_code 12 = .ok (.iconst 0, 1) := by decide +kernel
theorem d5L1_13 : decode prog_95_method_4_code 13 = .ok (.istore_n 1, 1) := by decide +kernel
theorem d5L1_14 : decode prog_95_method_4_code 14 = .ok (.iload_n 1, 1) := by decide +kernel
theorem d5L1_15 : decode prog_95_method_4_code 15 = .ok (.aload_n 0, 1) := by decide +kernel
theorem d5L1_16 : decode prog_95_method_4_code 16 = .ok (.getfield 40, 3) := by decide +kernel
theorem d5L1_19 : decode prog_95_method_4_code 19 = .ok (.if_icmp .ge 24, 3) := by decide +kernel
theorem d5L1_22 : decode prog_95_method_4_code 22 = .ok (.aload_n 0, 1) := by decide +kernel
theorem d5L1_23 : decode prog_95_method_4_code 23 = .ok (.getfield 30, 3) := by decide +kernel
theorem d5L1_26 : decode prog_95_method_4_code 26 = .ok (.aload_n 0, 1) := by decide +kernel
theorem d5L1_27 : decode prog_95_method_4_code 27 = .ok (.getfield 34, 3) := by decide +kernel
theorem d5L1_30 : decode prog_95_method_4_code 30 = .ok (.iload_n 1, 1) := by decide +kernel
theorem d5L1_31 : decode prog_95_method_4_code 31 = .ok (.iaload, 1) := by decide +kernel
theorem d5L1_32 : decode prog_95_method_4_code 32 = .ok (.bipush 6, 2) := by decide +kernel
theorem d5L1_34 : decode prog_95_method_4_code 34 = .ok (.iushr, 1) := by decide +kernel
theorem d5L1_35 : decode prog_95_method_4_code 35 = .ok (.lconst 0, 1) := by decide +kernel
theorem d5L1_36 : decode prog_95_method_4_code 36 = .ok (.lastore, 1) := by decide +kernel
theorem d5L1_37 : decode prog_95_method_4_code 37 = .ok (.iinc 1 1, 3) := by decide +kernel
theorem d5L1_40 : decode prog_95_method_4_code 40 = .ok (.goto (-26), 3) := by decide +kernel
theorem d5L1_43 : decode prog_95_method_4_code 43 = .ok (.goto 35, 3) := by decide +kernel
theorem d5L1_78 : decode prog_95_method_4_code 78 = .ok (.aload_n 0, 1) := by decide +kernel
theorem d5L1_79 : decode prog_95_method_4_code 79 = .ok (.iconst 0, 1) := by decide +kernel
theorem d5L1_80 : decode prog_95_method_4_code 80 = .ok (.putfield 40, 3) := by decide +kernel
theorem d5L1_83 : decode prog_95_method_4_code 83 = .ok (.return_, 1) := by decide +kernel
theorem pn_5L1 : plainName "com/example/libfacet/libfacet/regex/StateSet" = true := by first | (simp [plainName, overriddenIn]; done) | decide +kernel
theorem ef_5L1 (m : MethodId) (x0 : Addr) : entryFrame m #[(.ref x0)] 2 = mkF m 0 #[.val (.ref x0), .unset] [] := by first | (simp [entryFrame, mkF, argsToLocals, Value.category]; done) | rfl
def Q5L1 (Z : State) (a1 : Addr) (vb : Addr) (vm : Addr) (vz : Int32) (g : Nat → Int64) (n : Int32) (gm : Nat → Int32) (h0 : Heap) (n0 : Nat) (v : Option Value) (h : Heap) (L : List Loc) : Prop := v = none ∧ Fr n0 L ∧ Keep h0 h [a1, vb] ∧ own_ObjL Z h a1 vb vm (0 : Int32) (0 : Int32) ∧ own_Arr Z h vb .long n (fun i => Value.long ((own_zero g (gm 0)) i))
set_option maxRecDepth 65536 in
set_option maxHeartbeats 40000000 in
theorem rm5L1 (l : Launch) (Z : State) (a0 : Array Value) (hw : ∀ d ∈ tables_1, d.before a0 Z = true) (ws : List Jvm.Cond) (a1 : Addr) (vb : Addr) (vm : Addr) (vz : Int32) (g : Nat → Int64) (n : Int32) (gm : Nat → Int32) (h0 : Heap) (n0 : Nat) (Z0 : n0 ≤ h0.size) (O_a1 : own_ObjL Z h0 a1 vb vm (1 : Int32) vz) (V_vb : own_Arr Z h0 vb .long n (fun i => Value.long (g i))) (V_vm : own_Arr Z h0 vm .int (16 : Int32) (fun i => Value.int (gm i))) (ne_a1_vb : a1 ≠ vb) (ne_a1_vm : a1 ≠ vm) (ne_vb_vm : vb ≠ vm) (g_a1 : n0 ≤ a1) (g_vb : n0 ≤ vb) (hz0 : ¬ (((gm 0).toUInt32 >>> ((6 : Int32) &&& 31).toUInt32).toInt32) < 0 ∧ (((gm 0).toUInt32 >>> ((6 : Int32) &&& 31).toUInt32).toInt32) < n) :
    MetFree l (⟨"com/example/libfacet/libfacet/regex/StateSet", "clear", "()V"⟩ : MethodName) (head1 (Jvm.Cond.code (⟨"com/example/libfacet/libfacet/regex/StateSet", "clear", "()V"⟩ : MethodName) prog_95_method_4_code 2 none :: ws) ({ frames := 0, cells := 0, slots := 0, locals := 0 } : Room)) (fun a U => a = #[(.ref a1)] ∧ Z.Warmed39 U.vm ∧ U.heap = h0) (fun _ _ _ _ _ => True) (fun _ U o U' => ∃ v L, o = .returned v ∧ Q5L1 Z a1 vb vm vz g n gm h0 n0 v U'.heap L ∧ FrameEnd U o U' L ({ frames := 0, cells := 0, slots := 0, locals := 0 } : Room).cells ({ frames := 0, cells := 0, slots := 0, locals := 0 } : Room).slots) := by
  refine MetFree.of_bodySF (plainFor_of_name pn_5L1) hisR ?_
  intro p e s m args below meth c s₁ Bd hml0 hP hK
  obtain ⟨rfl, hZ, hh⟩ := hP
  have hx := Bd.exec
  have hby := Bd.bytes
  have hml : c.maxLocals = 2 := hml0
  have hown : s.vm.findClass "com/example/libfacet/libfacet/regex/StateSet" = some m.cls := findClass_of_methodNamed Bd.named
  have hnm := (name_of_methodNamed Bd.named Bd.method).1
  have X0 : Stand p l e ({ frames := 0, cells := 0, slots := 0, locals := 0 } : Room) s m #[(.ref a1)] below meth c s₁ [] 0 0 := Stand.of_body Bd
  have e0 : s₁.heap = h0 := by rw [← hh, Bd.state]; rfl
  have N0 := Fr.nil n0
  show own_End p e below s (s₁.setTop (entryFrame m #[(.ref a1)] 2)) (Q5L1 Z a1 vb vm vz g n gm h0 n0) ({ frames := 0, cells := 0, slots := 0, locals := 0 } : Room).cells ({ frames := 0, cells := 0, slots := 0, locals := 0 } : Room).slots
  obtain ⟨E_a1_1, F_markBits_a1_2, F_marked_a1_3, F_markedCount_a1_4, F_size_a1_5⟩ := O_a1
  refine own_pre (A := s₁.setTop (mkF m 0 #[.val (.ref a1), .unset] [])) (fun tt kt => castTop (ef_5L1 m a1) kt) ?_
  show own_End p e below s (s₁.setTop (mkF m 0 #[.val (.ref a1), .unset] [])) (Q5L1 Z a1 vb vm vz g n gm h0 n0) ({ frames := 0, cells := 0, slots := 0, locals := 0 } : Room).cells ({ frames := 0, cells := 0, slots := 0, locals := 0 } : Room).slots
  obtain ⟨T6, h6, X6, e6, W6, st6⟩ := putF X0 hx hZ hown (host := "") (Or.inl (hw _ (List.mem_of_getElem? (i := 43) rfl))) Via.refl e0 F_size_a1_5 E_a1_1 (Or.inl (hw _ (List.mem_of_getElem? (i := 44) rfl))) (hw _ (List.mem_of_getElem? (i := 2) rfl)) (ty := .int) (by decide) rfl rfl (g := (mkF m 2 #[.val (.ref a1), .unset] [(.int (0 : Int32)), (.ref a1)])) rfl rfl (hb hby d5L1_2)
  have Fw6 := Fld.same W6 F_size_a1_5
  have fE_a1_x6 := (E_a1_1.wr W6)
  have fF_a1_markBits_x6 := (Fld.other W6 F_markBits_a1_2 (Or.inr (slot_ne (Or.inr (hw _ (List.mem_of_getElem? (i := 23) rfl))) (Or.inl (hw _ (List.mem_of_getElem? (i := 44) rfl))) (by decide) (t := (.array .long)) (t' := .int) (by decide) (by decide))))
  have fF_a1_marked_x6 := (Fld.other W6 F_marked_a1_3 (Or.inr (slot_ne (Or.inl (hw _ (List.mem_of_getElem? (i := 25) rfl))) (Or.inl (hw _ (List.mem_of_getElem? (i := 44) rfl))) (by decide) (t := (.array .int)) (t' := .int) (by decide) (by decide))))
  have fF_a1_markedCount_x6 := (Fld.other W6 F_markedCount_a1_4 (Or.inr (slot_ne (Or.inl (hw _ (List.mem_of_getElem? (i := 37) rfl))) (Or.inl (hw _ (List.mem_of_getElem? (i := 44) rfl))) (by decide) (t := .int) (t' := .int) (by decide) (by decide))))
  have fA_vb_x6 := (V_vb.other W6 (Ne.symm ne_a1_vb))
  have fA_vm_x6 := (V_vm.other W6 (Ne.symm ne_a1_vm))
  have N6 := Fr.snoc X6 N0 g_a1
  have K6 : Keep h0 h6 [a1, vb] := Keep.wr (Keep.refl h0 _) W6 (Or.inl (List.mem_of_getElem? (i := 0) rfl))
  have Z6 : n0 ≤ h6.size := Nat.le_trans Z0 (Nat.le_of_eq W6.size.symm)
  obtain ⟨T7, X7, e7, st7⟩ := getF X6 hx hZ hown (host := "") (Or.inl (hw _ (List.mem_of_getElem? (i := 22) rfl))) Via.refl e6 fF_a1_markBits_x6 (g := (mkF m 6 #[.val (.ref a1), .unset] [(.ref a1)])) rfl rfl (hb hby d5L1_6)
  obtain ⟨T8, X8, e8, st8⟩ := getF X7 hx hZ hown (host := "") (Or.inl (hw _ (List.mem_of_getElem? (i := 36) rfl))) Via.refl e7 fF_a1_markedCount_x6 (g := (mkF m 16 #[.val (.ref a1), .val (.int (0 : Int32))] [(.ref a1), (.int (0 : Int32))])) rfl rfl (hb hby d5L1_16)
  obtain ⟨T9, X9, e9, st9⟩ := getF X8 hx hZ hown (host := "") (Or.inl (hw _ (List.mem_of_getElem? (i := 22) rfl))) Via.refl e8 fF_a1_markBits_x6 (g := (mkF m 23 #[.val (.ref a1), .val (.int (0 : Int32))] [(.ref a1)])) rfl rfl (hb hby d5L1_23)
  obtain ⟨T10, X10, e10, st10⟩ := getF X9 hx hZ hown (host := "") (Or.inl (hw _ (List.mem_of_getElem? (i := 24) rfl))) Via.refl e9 fF_a1_marked_x6 (g := (mkF m 27 #[.val (.ref a1), .val (.int (0 : Int32))] [(.ref a1), (.ref vb)])) rfl rfl (hb hby d5L1_27)
  obtain ⟨cl11, Ar11, S11, Nn11, G11⟩ := id fA_vm_x6
  have hin11 : ¬ ((0 : Int32) < 0 ∨ cl11.slots.size ≤ (0 : Int32).toNatClampNeg) := inb_of S11 (⟨by decide, by decide⟩ : ¬ (0 : Int32) < 0 ∧ (0 : Int32) < (16 : Int32))
  have hat11 : cl11.slots[(0 : Int32).toNatClampNeg]? = some (.int (gm 0)) := own_at S11 G11 hin11
  obtain ⟨cl12, Ar12, S12, Nn12, G12⟩ := id fA_vb_x6
  have hin12 : ¬ ((((gm 0).toUInt32 >>> ((6 : Int32) &&& 31).toUInt32).toInt32) < 0 ∨ cl12.slots.size ≤ (((gm 0).toUInt32 >>> ((6 : Int32) &&& 31).toUInt32).toInt32).toNatClampNeg) := inb_of S12 (hz0 : ¬ (((gm 0).toUInt32 >>> ((6 : Int32) &&& 31).toUInt32).toInt32) < 0 ∧ (((gm 0).toUInt32 >>> ((6 : Int32) &&& 31).toUInt32).toInt32) < n)
  obtain ⟨T13, h13, X13, e13, W13, st13⟩ := stJ X10 hx hZ e10 Ar12 (j := (((gm 0).toUInt32 >>> ((6 : Int32) &&& 31).toUInt32).toInt32)) hin12 (g := (mkF m 36 #[.val (.ref a1), .val (.int (0 : Int32))] [(.long (0 : Int64)), (.int (((gm 0).toUInt32 >>> ((6 : Int32) &&& 31).toUInt32).toInt32)), (.ref vb)])) rfl rfl (hb hby d5L1_36)
  have fE_a1_x13 := (fE_a1_x6.wr W13)
  have fF_a1_markBits_x13 := (Fld.other W13 fF_a1_markBits_x6 (Or.inl ne_a1_vb))
  have fF_a1_marked_x13 := (Fld.other W13 fF_a1_marked_x6 (Or.inl ne_a1_vb))
  have fF_a1_markedCount_x13 := (Fld.other W13 fF_a1_markedCount_x6 (Or.inl ne_a1_vb))
  have fF_a1_size_x13 := (Fld.other W13 Fw6 (Or.inl ne_a1_vb))
  have fA_vm_x13 := (fA_vm_x6.other W13 (Ne.symm ne_vb_vm))
  have V13 : own_Arr Z h13 vb .long n (fun i => Value.long ((own_zero g (gm 0)) i)) := own_Arr.set (w := Value.long) (g := g) (x := (0 : Int64)) fA_vb_x6 W13 rfl (fun i => rfl)
  have N13 := Fr.snoc X13 N6 g_vb
  have K13 : Keep h0 h13 [a1, vb] := Keep.wr K6 W13 (Or.inl (List.mem_of_getElem? (i := 1) rfl))
  have Z13 : n0 ≤ h13.size := Nat.le_trans Z6 (Nat.le_of_eq W13.size.symm)
  obtain ⟨T14, X14, e14, st14⟩ := getF X13 hx hZ hown (host := "") (Or.inl (hw _ (List.mem_of_getElem? (i := 36) rfl))) Via.refl e13 fF_a1_markedCount_x13 (g := (mkF m 16 #[.val (.ref a1), .val (.int (1 : Int32))] [(.ref a1), (.int (1 : Int32))])) rfl rfl (hb hby d5L1_16)
  obtain ⟨T15, h15, X15, e15, W15, st15⟩ := putF X14 hx hZ hown (host := "") (Or.inl (hw _ (List.mem_of_getElem? (i := 36) rfl))) Via.refl e14 fF_a1_markedCount_x13 fE_a1_x13 (Or.inl (hw _ (List.mem_of_getElem? (i := 37) rfl))) (hw _ (List.mem_of_getElem? (i := 2) rfl)) (ty := .int) (by decide) rfl rfl (g := (mkF m 80 #[.val (.ref a1), .val (.int (1 : Int32))] [(.int (0 : Int32)), (.ref a1)])) rfl rfl (hb hby d5L1_80)
  have Fw15 := Fld.same W15 fF_a1_markedCount_x13
  have fE_a1_x15 := (fE_a1_x13.wr W15)
  have fF_a1_markBits_x15 := (Fld.other W15 fF_a1_markBits_x13 (Or.inr (slot_ne (Or.inr (hw _ (List.mem_of_getElem? (i := 23) rfl))) (Or.inl (hw _ (List.mem_of_getElem? (i := 37) rfl))) (by decide) (t := (.array .long)) (t' := .int) (by decide) (by decide))))
  have fF_a1_marked_x15 := (Fld.other W15 fF_a1_marked_x13 (Or.inr (slot_ne (Or.inl (hw _ (List.mem_of_getElem? (i := 25) rfl))) (Or.inl (hw _ (List.mem_of_getElem? (i := 37) rfl))) (by decide) (t := (.array .int)) (t' := .int) (by decide) (by decide))))
  have fF_a1_size_x15 := (Fld.other W15 fF_a1_size_x13 (Or.inr (slot_ne (Or.inl (hw _ (List.mem_of_getElem? (i := 44) rfl))) (Or.inl (hw _ (List.mem_of_getElem? (i := 37) rfl))) (by decide) (t := .int) (t' := .int) (by decide) (by decide))))
  have fA_vb_x15 := (V13.other W15 (Ne.symm ne_a1_vb))
  have fA_vm_x15 := (fA_vm_x13.other W15 (Ne.symm ne_a1_vm))
  have N15 := Fr.snoc X15 N13 g_a1
  have K15 : Keep h0 h15 [a1, vb] := Keep.wr K13 W15 (Or.inl (List.mem_of_getElem? (i := 0) rfl))
  have Z15 : n0 ≤ h15.size := Nat.le_trans Z13 (Nat.le_of_eq W15.size.symm)
  refine own_pre (A := T15.setTop (mkF m 83 #[.val (.ref a1), .val (.int (1 : Int32))] [])) (fun tt kt => ?_) ?_
  · show Steps p.tables e below (s₁.setTop (mkF m 0 #[.val (.ref a1), .unset] [])) _
    refine XS.aloadN X0.here hx rfl (hb hby d5L1_0) rfl rfl ?_
    refine XS.iconst X0.here hx rfl (hb hby d5L1_1) ?_
    show Steps p.tables e below (s₁.setTop (mkF m 2 #[.val (.ref a1), .unset] [(.int (0 : Int32)), (.ref a1)])) _
    refine st6 _ ?_
    show Steps p.tables e below (T6.setTop (mkF m 5 #[.val (.ref a1), .unset] [])) _
    refine XS.aloadN X6.here hx rfl (hb hby d5L1_5) rfl rfl ?_
    show Steps p.tables e below (T6.setTop (mkF m 6 #[.val (.ref a1), .unset] [(.ref a1)])) _
    refine st7 _ ?_
    show Steps p.tables e below (T7.setTop (mkF m 9 #[.val (.ref a1), .unset] [(.ref vb)])) _
    refine XS.ifnullNo X7.here hx rfl (hb hby d5L1_9) rfl ?_
    refine XS.iconst X7.here hx rfl (hb hby d5L1_12) ?_
    refine XS.istoreN X7.here hx rfl (hb hby d5L1_13) rfl (l' := #[.val (.ref a1), .val (.int (0 : Int32))]) rfl ?_
    refine XS.iloadN X7.here hx rfl (hb hby d5L1_14) rfl ?_
    show Steps p.tables e below (T7.setTop (mkF m 15 #[.val (.ref a1), .val (.int (0 : Int32))] [(.int (0 : Int32))])) _
    refine XS.aloadN X7.here hx rfl (hb hby d5L1_15) rfl rfl ?_
    show Steps p.tables e below (T7.setTop (mkF m 16 #[.val (.ref a1), .val (.int (0 : Int32))] [(.ref a1), (.int (0 : Int32))])) _
    refine st8 _ ?_
    show Steps p.tables e below (T8.setTop (mkF m 19 #[.val (.ref a1), .val (.int (0 : Int32))] [(.int (1 : Int32)), (.int (0 : Int32))])) _
    refine XS.icmpNo X8.here hx rfl (hb hby d5L1_19) rfl (tlt ((by decide) : (0 : Int32) < (1 : Int32))).2.1 ?_
    refine XS.aloadN X8.here hx rfl (hb hby d5L1_22) rfl rfl ?_
    show Steps p.tables e below (T8.setTop (mkF m 23 #[.val (.ref a1), .val (.int (0 : Int32))] [(.ref a1)])) _
    refine st9 _ ?_
    show Steps p.tables e below (T9.setTop (mkF m 26 #[.val (.ref a1), .val (.int (0 : Int32))] [(.ref vb)])) _
    refine XS.aloadN X9.here hx rfl (hb hby d5L1_26) rfl rfl ?_
    show Steps p.tables e below (T9.setTop (mkF m 27 #[.val (.ref a1), .val (.int (0 : Int32))] [(.ref a1), (.ref vb)])) _
    refine st10 _ ?_
    show Steps p.tables e below (T10.setTop (mkF m 30 #[.val (.ref a1), .val (.int (0 : Int32))] [(.ref vm), (.ref vb)])) _
    refine XS.iloadN X10.here hx rfl (hb hby d5L1_30) rfl ?_
    show Steps p.tables e below (T10.setTop (mkF m 31 #[.val (.ref a1), .val (.int (0 : Int32))] [(.int (0 : Int32)), (.ref vm), (.ref vb)])) _
    refine X10.iaload hx (j := (0 : Int32)) (v := (.int (gm 0))) (by rw [e10]; exact Ar11.1) (State.isArrayOf_alike hZ.alike Ar11.2.1) Ar11.2.2 hin11 hat11 (g := (mkF m 31 #[.val (.ref a1), .val (.int (0 : Int32))] [(.int (0 : Int32)), (.ref vm), (.ref vb)])) rfl rfl (hb hby d5L1_31) _ ?_
    show Steps p.tables e below (T10.setTop (mkF m 32 #[.val (.ref a1), .val (.int (0 : Int32))] [(.int (gm 0)), (.ref vb)])) _
    refine XS.bipush X10.here hx rfl (hb hby d5L1_32) ?_
    refine XS.iushr X10.here hx rfl (hb hby d5L1_34) rfl ?_
    refine XS.lconst X10.here hx rfl (hb hby d5L1_35) ?_
    show Steps p.tables e below (T10.setTop (mkF m 36 #[.val (.ref a1), .val (.int (0 : Int32))] [(.long (0 : Int64)), (.int (((gm 0).toUInt32 >>> ((6 : Int32) &&& 31).toUInt32).toInt32)), (.ref vb)])) _
    refine st13 _ ?_
    show Steps p.tables e below (T13.setTop (mkF m 37 #[.val (.ref a1), .val (.int (0 : Int32))] [])) _
    refine XS.iinc X13.here hx rfl (hb hby d5L1_37) rfl (l' := #[.val (.ref a1), .val (.int (1 : Int32))]) rfl ?_
    refine XS.goto X13.here hx rfl (pc0 := 40) (pc' := 14) rfl (hb hby d5L1_40) (by decide) (by decide) ?_
    refine XS.iloadN X13.here hx rfl (hb hby d5L1_14) rfl ?_
    refine XS.aloadN X13.here hx rfl (hb hby d5L1_15) rfl rfl ?_
    show Steps p.tables e below (T13.setTop (mkF m 16 #[.val (.ref a1), .val (.int (1 : Int32))] [(.ref a1), (.int (1 : Int32))])) _
    refine st14 _ ?_
    show Steps p.tables e below (T14.setTop (mkF m 19 #[.val (.ref a1), .val (.int (1 : Int32))] [(.int (1 : Int32)), (.int (1 : Int32))])) _
    refine XS.icmpYes X14.here hx rfl (pc0 := 19) (pc' := 43) rfl (hb hby d5L1_19) rfl (flt ((by decide) : ¬ ((1 : Int32) < (1 : Int32)))).2.1 (by decide) (by decide) ?_
    refine XS.goto X14.here hx rfl (pc0 := 43) (pc' := 78) rfl (hb hby d5L1_43) (by decide) (by decide) ?_
    refine XS.aloadN X14.here hx rfl (hb hby d5L1_78) rfl rfl ?_
    refine XS.iconst X14.here hx rfl (hb hby d5L1_79) ?_
    show Steps p.tables e below (T14.setTop (mkF m 80 #[.val (.ref a1), .val (.int (1 : Int32))] [(.int (0 : Int32)), (.ref a1)])) _
    refine st15 _ ?_
    exact kt
  show own_End p e below s (T15.setTop (mkF m 83 #[.val (.ref a1), .val (.int (1 : Int32))] [])) (Q5L1 Z a1 vb vm vz g n gm h0 n0) ({ frames := 0, cells := 0, slots := 0, locals := 0 } : Room).cells ({ frames := 0, cells := 0, slots := 0, locals := 0 } : Room).slots
  obtain ⟨fs, hr, hrun, hended, hW, hsame⟩ := X15.leave (v := none) (fun _ => rfl)
  refine ⟨_, _, ?_, hrun, hended, _, _, rfl, ?_, ⟨_, rfl⟩, hW, hsame.mono (by decide) (by decide)⟩
  · exact X15.returnOut hx Bd.returns (hb hby d5L1_83) hr
  · show Q5L1 Z a1 vb vm vz g n gm h0 n0 _ T15.heap _
    rw [e15]
    exact ⟨rfl, N15, K15, ⟨fE_a1_x15, fF_a1_markBits_x15, fF_a1_marked_x15, Fw15, fF_a1_size_x15⟩, fA_vb_x15⟩
theorem d5L2_0 : decode prog_95_method_4_code 0 = .ok (.aload_n 0, 1) := by decide +kernel
theorem d5L2_1 : decode prog_95_method_4_code 1 = .ok (.iconst 0, 1) := by decide +kernel
theorem d5L2_2 : decode prog_95_method_4_code 2 = .ok (.putfield 37, 3) := by decide +kernel
theorem d5L2_5 : decode prog_95_method_4_code 5 = .ok (.aload_n 0, 1) := by decide +kernel
theorem d5L2_6 : decode prog_95_method_4_code 6 = .ok (.getfield 30, 3) := by decide +kernel
theorem d5L2_9 : decode prog_95_method_4_code 9 = .ok (.ifnull 37, 3) := by decide +kernel
theorem d5L2_12 : decode prog_95_method_4_code 12 = .ok (.iconst 0, 1) := by decide +kernel
theorem d5L2_13 : decode prog_95_method_4_code 13 = .ok (.istore_n 1, 1) := by decide +kernel
theorem d5L2_14 : decode prog_95_method_4_code 14 = .ok (.iload_n 1, 1) := by decide +kernel
theorem d5L2_15 : decode prog_95_method_4_code 15 = .ok (.aload_n 0, 1) := by decide +kernel
theorem d5L2_16 : decode prog_95_method_4_code 16 = .ok (.getfield 40, 3) := by decide +kernel
theorem d5L2_19 : decode prog_95_method_4_code 19 = .ok (.if_icmp .ge 24, 3) := by decide +kernel
theorem d5L2_22 : decode prog_95_method_4_code 22 = .ok (.aload_n 0, 1) := by decide +kernel
theorem d5L2_23 : decode prog_95_method_4_code 23 = .ok (.getfield 30, 3) := by decide +kernel
theorem d5L2_26 : decode prog_95_method_4_code 26 = .ok (.aload_n 0, 1) := by decide +kernel
theorem d5L2_27 : decode prog_95_method_4_code 27 = .ok (.getfield 34, 3) := by decide +kernel
theorem d5L2_30 : decode prog_95_method_4_code 30 = .ok (.iload_n 1, 1) := by decide +kernel
theorem d5L2_31 : decode prog_95_method_4_code 31 = .ok (.iaload, 1) := by decide +kernel
theorem d5L2_32 : decode prog_95_method_4_code 32 = .ok (.bipush 6, 2) := by decide +kernel
theorem d5L2_34 : decode prog_95_method_4_code 34 = .ok (.iushr, 1) := by decide +kernel
theorem d5L2_35 : decode prog_95_method_4_code 35 = .ok (.lconst 0, 1) := by decide +kernel
theorem d5L2_36 : decode prog_95_method_4_code 36 = .ok (.lastore, 1) := by decide +kernel
theorem d5L2_37 : decode prog_95_method_4_code 37 = .ok (.iinc 1 1, 3) := by decide +kernel
theorem d5L2_40 : decode prog_95_method_4_code 40 = .ok (.goto (-26), 3) := by decide +kernel
theorem d5L2_43 : decode prog_95_method_4_code 43 = .ok (.goto 35, 3) := by decide +kernel
theorem d5L2_78 : decode prog_95_method_4_code 78 = .ok (.aload_n 0, 1) := by decide +kernel
theorem d5L2_79 : decode prog_95_method_4_code 79 = .ok (.iconst 0, 1) := by decide +kernel
theorem d5L2_80 : decode prog_95_method_4_code 80 = .ok (.putfield 40, 3) := by decide +kernel
theorem d5L2_83 : decode prog_95_method_4_code 83 = .ok (.return_, 1) := by decide +kernel
theorem pn_5L2 : plainName "com/example/libfacet/libfacet/regex/StateSet" = true := by first | (simp [plainName, overriddenIn]; done) | decide +kernel
theorem ef_5L2 (m : MethodId) (x0 : Addr) : entryFrame m #[(.ref x0)] 2 = mkF m 0 #[.val (.ref x0), .unset] [] := by first | (simp [entryFrame, mkF, argsToLocals, Value.category]; done) | rfl
def Q5L2 (Z : State) (a1 : Addr) (vb : Addr) (vm : Addr) (vz : Int32) (g : Nat → Int64) (n : Int32) (gm : Nat → Int32) (h0 : Heap) (n0 : Nat) (v : Option Value) (h : Heap) (L : List Loc) : Prop := v = none ∧ Fr n0 L ∧ Keep h0 h [a1, vb] ∧ own_ObjL Z h a1 vb vm (0 : Int32) (0 : Int32) ∧ own_Arr Z h vb .long n (fun i => Value.long ((own_zero (own_zero g (gm 0)) (gm 1)) i))
set_option maxRecDepth 65536 in
set_option maxHeartbeats 40000000 in
theorem rm5L2 (l : Launch) (Z : State) (a0 : Array Value) (hw : ∀ d ∈ tables_1, d.before a0 Z = true) (ws : List Jvm.Cond) (a1 : Addr) (vb : Addr) (vm : Addr) (vz : Int32) (g : Nat → Int64) (n : Int32) (gm : Nat → Int32) (h0 : Heap) (n0 : Nat) (Z0 : n0 ≤ h0.size) (O_a1 : own_ObjL Z h0 a1 vb vm (2 : Int32) vz) (V_vb : own_Arr Z h0 vb .long n (fun i => Value.long (g i))) (V_vm : own_Arr Z h0 vm .int (16 : Int32) (fun i => Value.int (gm i))) (ne_a1_vb : a1 ≠ vb) (ne_a1_vm : a1 ≠ vm) (ne_vb_vm : vb ≠ vm) (g_a1 : n0 ≤ a1) (g_vb : n0 ≤ vb) (hz0 : ¬ (((gm 0).toUInt32 >>> ((6 : Int32) &&& 31).toUInt32).toInt32) < 0 ∧ (((gm 0).toUInt32 >>> ((6 : Int32) &&& 31).toUInt32).toInt32) < n) (hz1 : ¬ (((gm 1).toUInt32 >>> ((6 : Int32) &&& 31).toUInt32).toInt32) < 0 ∧ (((gm 1).toUInt32 >>> ((6 : Int32) &&& 31).toUInt32).toInt32) < n) :
    MetFree l (⟨"com/example/libfacet/libfacet/regex/StateSet", "clear", "()V"⟩ : MethodName) (head1 (Jvm.Cond.code (⟨"com/example/libfacet/libfacet/regex/StateSet", "clear", "()V"⟩ : MethodName) prog_95_method_4_code 2 none :: ws) ({ frames := 0, cells := 0, slots := 0, locals := 0 } : Room)) (fun a U => a = #[(.ref a1)] ∧ Z.Warmed39 U.vm ∧ U.heap = h0) (fun _ _ _ _ _ => True) (fun _ U o U' => ∃ v L, o = .returned v ∧ Q5L2 Z a1 vb vm vz g n gm h0 n0 v U'.heap L ∧ FrameEnd U o U' L ({ frames := 0, cells := 0, slots := 0, locals := 0 } : Room).cells ({ frames := 0, cells := 0, slots := 0, locals := 0 } : Room).slots) := by
  refine MetFree.of_bodySF (plainFor_of_name pn_5L2) hisR ?_
  intro p e s m args below meth c s₁ Bd hml0 hP hK
  obtain ⟨rfl, hZ, hh⟩ := hP
  have hx := Bd.exec
  have hby := Bd.bytes
  have hml : c.maxLocals = 2 := hml0
  have hown : s.vm.findClass "com/example/libfacet/libfacet/regex/StateSet" = some m.cls := findClass_of_methodNamed Bd.named
  have hnm := (name_of_methodNamed Bd.named Bd.method).1
  have X0 : Stand p l e ({ frames := 0, cells := 0, slots := 0, locals := 0 } : Room) s m #[(.ref a1)] below meth c s₁ [] 0 0 := Stand.of_body Bd
  have e0 : s₁.heap = h0 := by rw [← hh, Bd.state]; rfl
  have N0 := Fr.nil n0
  show own_End p e below s (s₁.setTop (entryFrame m #[(.ref a1)] 2)) (Q5L2 Z a1 vb vm vz g n gm h0 n0) ({ frames := 0, cells := 0, slots := 0, locals := 0 } : Room).cells ({ frames := 0, cells := 0, slots := 0, locals := 0 } : Room).slots
  obtain ⟨E_a1_1, F_markBits_a1_2, F_marked_a1_3, F_markedCount_a1_4, F_size_a1_5⟩ := O_a1
  refine own_pre (A := s₁.setTop (mkF m 0 #[.val (.ref a1), .unset] [])) (fun tt kt => castTop (ef_5L2 m a1) kt) ?_
  show own_End p e below s (s₁.setTop (mkF m 0 #[.val (.ref a1), .unset] [])) (Q5L2 Z a1 vb vm vz g n gm h0 n0) ({ frames := 0, cells := 0, slots := 0, locals := 0 } : Room).cells ({ frames := 0, cells := 0, slots := 0, locals := 0 } : Room).slots
  obtain ⟨T6, h6, X6, e6, W6, st6⟩ := putF X0 hx hZ hown (host := "") (Or.inl (hw _ (List.mem_of_getElem? (i := 43) rfl))) Via.refl e0 F_size_a1_5 E_a1_1 (Or.inl (hw _ (List.mem_of_getElem? (i := 44) rfl))) (hw _ (List.mem_of_getElem? (i := 2) rfl)) (ty := .int) (by decide) rfl rfl (g := (mkF m 2 #[.val (.ref a1), .unset] [(.int (0 : Int32)), (.ref a1)])) rfl rfl (hb hby d5L2_2)
  have Fw6 := Fld.same W6 F_size_a1_5
  have fE_a1_x6 := (E_a1_1.wr W6)
  have fF_a1_markBits_x6 := (Fld.other W6 F_markBits_a1_2 (Or.inr (slot_ne (Or.inr (hw _ (List.mem_of_getElem? (i := 23) rfl))) (Or.inl (hw _ (List.mem_of_getElem? (i := 44) rfl))) (by decide) (t := (.array .long)) (t' := .int) (by decide) (by decide))))
  have fF_a1_marked_x6 := (Fld.other W6 F_marked_a1_3 (Or.inr (slot_ne (Or.inl (hw _ (List.mem_of_getElem? (i := 25) rfl))) (Or.inl (hw _ (List.mem_of_getElem? (i := 44) rfl))) (by decide) (t := (.array .int)) (t' := .int) (by decide) (by decide))))
  have fF_a1_markedCount_x6 := (Fld.other W6 F_markedCount_a1_4 (Or.inr (slot_ne (Or.inl (hw _ (List.mem_of_getElem? (i := 37) rfl))) (Or.inl (hw _ (List.mem_of_getElem? (i := 44) rfl))) (by decide) (t := .int) (t' := .int) (by decide) (by decide))))
  have fA_vb_x6 := (V_vb.other W6 (Ne.symm ne_a1_vb))
  have fA_vm_x6 := (V_vm.other W6 (Ne.symm ne_a1_vm))
  have N6 := Fr.snoc X6 N0 g_a1
  have K6 : Keep h0 h6 [a1, vb] := Keep.wr (Keep.refl h0 _) W6 (Or.inl (List.mem_of_getElem? (i := 0) rfl))
  have Z6 : n0 ≤ h6.size := Nat.le_trans Z0 (Nat.le_of_eq W6.size.symm)
  obtain ⟨T7, X7, e7, st7⟩ := getF X6 hx hZ hown (host := "") (Or.inl (hw _ (List.mem_of_getElem? (i := 22) rfl))) Via.refl e6 fF_a1_markBits_x6 (g := (mkF m 6 #[.val (.ref a1), .unset] [(.ref a1)])) rfl rfl (hb hby d5L2_6)
  obtain ⟨T8, X8, e8, st8⟩ := getF X7 hx hZ hown (host := "") (Or.inl (hw _ (List.mem_of_getElem? (i := 36) rfl))) Via.refl e7 fF_a1_markedCount_x6 (g := (mkF m 16 #[.val (.ref a1), .val (.int (0 : Int32))] [(.ref a1), (.int (0 : Int32))])) rfl rfl (hb hby d5L2_16)
  obtain ⟨T9, X9, e9, st9⟩ := getF X8 hx hZ hown (host := "") (Or.inl (hw _ (List.mem_of_getElem? (i := 22) rfl))) Via.refl e8 fF_a1_markBits_x6 (g := (mkF m 23 #[.val (.ref a1), .val (.int (0 : Int32))] [(.ref a1)])) rfl rfl (hb hby d5L2_23)
  obtain ⟨T10, X10, e10, st10⟩ := getF X9 hx hZ hown (host := "") (Or.inl (hw _ (List.mem_of_getElem? (i := 24) rfl))) Via.refl e9 fF_a1_marked_x6 (g := (mkF m 27 #[.val (.ref a1), .val (.int (0 : Int32))] [(.ref a1), (.ref vb)])) rfl rfl (hb hby d5L2_27)
  obtain ⟨cl11, Ar11, S11, Nn11, G11⟩ := id fA_vm_x6
  have hin11 : ¬ ((0 : Int32) < 0 ∨ cl11.slots.size ≤ (0 : Int32).toNatClampNeg) := inb_of S11 (⟨by decide, by decide⟩ : ¬ (0 : Int32) < 0 ∧ (0 : Int32) < (16 : Int32))
  have hat11 : cl11.slots[(0 : Int32).toNatClampNeg]? = some (.int (gm 0)) := own_at S11 G11 hin11
  obtain ⟨cl12, Ar12, S12, Nn12, G12⟩ := id fA_vb_x6
  have hin12 : ¬ ((((gm 0).toUInt32 >>> ((6 : Int32) &&& 31).toUInt32).toInt32) < 0 ∨ cl12.slots.size ≤ (((gm 0).toUInt32 >>> ((6 : Int32) &&& 31).toUInt32).toInt32).toNatClampNeg) := inb_of S12 (hz0 : ¬ (((gm 0).toUInt32 >>> ((6 : Int32) &&& 31).toUInt32).toInt32) < 0 ∧ (((gm 0).toUInt32 >>> ((6 : Int32) &&& 31).toUInt32).toInt32) < n)
  obtain ⟨T13, h13, X13, e13, W13, st13⟩ := stJ X10 hx hZ e10 Ar12 (j := (((gm 0).toUInt32 >>> ((6 : Int32) &&& 31).toUInt32).toInt32)) hin12 (g := (mkF m 36 #[.val (.ref a1), .val (.int (0 : Int32))] [(.long (0 : Int64)), (.int (((gm 0).toUInt32 >>> ((6 : Int32) &&& 31).toUInt32).toInt32)), (.ref vb)])) rfl rfl (hb hby d5L2_36)
  have fE_a1_x13 := (fE_a1_x6.wr W13)
  have fF_a1_markBits_x13 := (Fld.other W13 fF_a1_markBits_x6 (Or.inl ne_a1_vb))
  have fF_a1_marked_x13 := (Fld.other W13 fF_a1_marked_x6 (Or.inl ne_a1_vb))
  have fF_a1_markedCount_x13 := (Fld.other W13 fF_a1_markedCount_x6 (Or.inl ne_a1_vb))
  have fF_a1_size_x13 := (Fld.other W13 Fw6 (Or.inl ne_a1_vb))
  have fA_vm_x13 := (fA_vm_x6.other W13 (Ne.symm ne_vb_vm))
  have V13 : own_Arr Z h13 vb .long n (fun i => Value.long ((own_zero g (gm 0)) i)) := own_Arr.set (w := Value.long) (g := g) (x := (0 : Int64)) fA_vb_x6 W13 rfl (fun i => rfl)
  have N13 := Fr.snoc X13 N6 g_vb
  have K13 : Keep h0 h13 [a1, vb] := Keep.wr K6 W13 (Or.inl (List.mem_of_getElem? (i := 1) rfl))
  have Z13 : n0 ≤ h13.size := Nat.le_trans Z6 (Nat.le_of_eq W13.size.symm)
  obtain ⟨T14, X14, e14, st14⟩ := getF X13 hx hZ hown (host := "") (Or.inl (hw _ (List.mem_of_getElem? (i := 36) rfl))) Via.refl e13 fF_a1_markedCount_x13 (g := (mkF m 16 #[.val (.ref a1), .val (.int (1 : Int32))] [(.ref a1), (.int (1 : Int32))])) rfl rfl (hb hby d5L2_16)
  obtain ⟨T15, X15, e15, st15⟩ := getF X14 hx hZ hown (host := "") (Or.inl (hw _ (List.mem_of_getElem? (i := 22) rfl))) Via.refl e14 fF_a1_markBits_x13 (g := (mkF m 23 #[.val (.ref a1), .val (.int (1 : Int32))] [(.ref a1)])) rfl rfl (hb hby d5L2_23)
  obtain ⟨T16, X16, e16, st16⟩ := getF X15 hx hZ hown (host := "") (Or.inl (hw _ (List.mem_of_getElem? (i := 24) rfl))) Via.refl e15 fF_a1_marked_x13 (g := (mkF m 27 #[.val (.ref a1), .val (.int (1 : Int32))] [(.ref a1), (.ref vb)])) rfl rfl (hb hby d5L2_27)
  obtain ⟨cl17, Ar17, S17, Nn17, G17⟩ := id fA_vm_x13
  have hin17 : ¬ ((1 : Int32) < 0 ∨ cl17.slots.size ≤ (1 : Int32).toNatClampNeg) := inb_of S17 (⟨by decide, by decide⟩ : ¬ (1 : Int32) < 0 ∧ (1 : Int32) < (16 : Int32))
  have hat17 : cl17.slots[(1 : Int32).toNatClampNeg]? = some (.int (gm 1)) := own_at S17 G17 hin17
  obtain ⟨cl18, Ar18, S18, Nn18, G18⟩ := id V13
  have hin18 : ¬ ((((gm 1).toUInt32 >>> ((6 : Int32) &&& 31).toUInt32).toInt32) < 0 ∨ cl18.slots.size ≤ (((gm 1).toUInt32 >>> ((6 : Int32) &&& 31).toUInt32).toInt32).toNatClampNeg) := inb_of S18 (hz1 : ¬ (((gm 1).toUInt32 >>> ((6 : Int32) &&& 31).toUInt32).toInt32) < 0 ∧ (((gm 1).toUInt32 >>> ((6 : Int32) &&& 31).toUInt32).toInt32) < n)
  obtain ⟨T19, h19, X19, e19, W19, st19⟩ := stJ X16 hx hZ e16 Ar18 (j := (((gm 1).toUInt32 >>> ((6 : Int32) &&& 31).toUInt32).toInt32)) hin18 (g := (mkF m 36 #[.val (.ref a1), .val (.int (1 : Int32))] [(.long (0 : Int64)), (.int (((gm 1).toUInt32 >>> ((6 : Int32) &&& 31).toUInt32).toInt32)), (.ref vb)])) rfl rfl (hb hby d5L2_36)
  have fE_a1_x19 := (fE_a1_x13.wr W19)
  have fF_a1_markBits_x19 := (Fld.other W19 fF_a1_markBits_x13 (Or.inl ne_a1_vb))
  have fF_a1_marked_x19 := (Fld.other W19 fF_a1_marked_x13 (Or.inl ne_a1_vb))
  have fF_a1_markedCount_x19 := (Fld.other W19 fF_a1_markedCount_x13 (Or.inl ne_a1_vb))
  have fF_a1_size_x19 := (Fld.other W19 fF_a1_size_x13 (Or.inl ne_a1_vb))
  have fA_vm_x19 := (fA_vm_x13.other W19 (Ne.symm ne_vb_vm))
  have V19 : own_Arr Z h19 vb .long n (fun i => Value.long ((own_zero (own_zero g (gm 0)) (gm 1)) i)) := own_Arr.set (w := Value.long) (g := (own_zero g (gm 0))) (x := (0 : Int64)) V13 W19 rfl (fun i => rfl)
  have N19 := Fr.snoc X19 N13 g_vb
  have K19 : Keep h0 h19 [a1, vb] := Keep.wr K13 W19 (Or.inl (List.mem_of_getElem? (i := 1) rfl))
  have Z19 : n0 ≤ h19.size := Nat.le_trans Z13 (Nat.le_of_eq W19.size.symm)
  obtain ⟨T20, X20, e20, st20⟩ := getF X19 hx hZ hown (host := "") (Or.inl (hw _ (List.mem_of_getElem? (i := 36) rfl))) Via.refl e19 fF_a1_markedCount_x19 (g := (mkF m 16 #[.val (.ref a1), .val (.int (2 : Int32))] [(.ref a1), (.int (2 : Int32))])) rfl rfl (hb hby d5L2_16)
  obtain ⟨T21, h21, X21, e21, W21, st21⟩ := putF X20 hx hZ hown (host := "") (Or.inl (hw _ (List.mem_of_getElem? (i := 36) rfl))) Via.refl e20 fF_a1_markedCount_x19 fE_a1_x19 (Or.inl (hw _ (List.mem_of_getElem? (i := 37) rfl))) (hw _ (List.mem_of_getElem? (i := 2) rfl)) (ty := .int) (by decide) rfl rfl (g := (mkF m 80 #[.val (.ref a1), .val (.int (2 : Int32))] [(.int (0 : Int32)), (.ref a1)])) rfl rfl (hb hby d5L2_80)
  have Fw21 := Fld.same W21 fF_a1_markedCount_x19
  have fE_a1_x21 := (fE_a1_x19.wr W21)
  have fF_a1_markBits_x21 := (Fld.other W21 fF_a1_markBits_x19 (Or.inr (slot_ne (Or.inr (hw _ (List.mem_of_getElem? (i := 23) rfl))) (Or.inl (hw _ (List.mem_of_getElem? (i := 37) rfl))) (by decide) (t := (.array .long)) (t' := .int) (by decide) (by decide))))
  have fF_a1_marked_x21 := (Fld.other W21 fF_a1_marked_x19 (Or.inr (slot_ne (Or.inl (hw _ (List.mem_of_getElem? (i := 25) rfl))) (Or.inl (hw _ (List.mem_of_getElem? (i := 37) rfl))) (by decide) (t := (.array .int)) (t' := .int) (by decide) (by decide))))
  have fF_a1_size_x21 := (Fld.other W21 fF_a1_size_x19 (Or.inr (slot_ne (Or.inl (hw _ (List.mem_of_getElem? (i := 44) rfl))) (Or.inl (hw _ (List.mem_of_getElem? (i := 37) rfl))) (by decide) (t := .int) (t' := .int) (by decide) (by decide))))
  have fA_vb_x21 := (V19.other W21 (Ne.symm ne_a1_vb))
  have fA_vm_x21 := (fA_vm_x19.other W21 (Ne.symm ne_a1_vm))
  have N21 := Fr.snoc X21 N19 g_a1
  have K21 : Keep h0 h21 [a1, vb] := Keep.wr K19 W21 (Or.inl (List.mem_of_getElem? (i := 0) rfl))
  have Z21 : n0 ≤ h21.size := Nat.le_trans Z19 (Nat.le_of_eq W21.size.symm)
  refine own_pre (A := T21.setTop (mkF m 83 #[.val (.ref a1), .val (.int (2 : Int32))] [])) (fun tt kt => ?_) ?_
  · show Steps p.tables e below (s₁.setTop (mkF m 0 #[.val (.ref a1), .unset] [])) _
    refine XS.aloadN X0.here hx rfl (hb hby d5L2_0) rfl rfl ?_
    refine XS.iconst X0.here hx rfl (hb hby d5L2_1) ?_
    show Steps p.tables e below (s₁.setTop (mkF m 2 #[.val (.ref a1), .unset] [(.int (0 : Int32)), (.ref a1)])) _
    refine st6 _ ?_
    show Steps p.tables e below (T6.setTop (mkF m 5 #[.val (.ref a1), .unset] [])) _
    refine XS.aloadN X6.here hx rfl (hb hby d5L2_5) rfl rfl ?_
    show Steps p.tables e below (T6.setTop (mkF m 6 #[.val (.ref a1), .unset] [(.ref a1)])) _
    refine st7 _ ?_
    show Steps p.tables e below (T7.setTop (mkF m 9 #[.val (.ref a1), .unset] [(.ref vb)])) _
    refine XS.ifnullNo X7.here hx rfl (hb hby d5L2_9) rfl ?_
    refine XS.iconst X7.here hx rfl (hb hby d5L2_12) ?_
    refine XS.istoreN X7.here hx rfl (hb hby d5L2_13) rfl (l' := #[.val (.ref a1), .val (.int (0 : Int32))]) rfl ?_
    refine XS.iloadN X7.here hx rfl (hb hby d5L2_14) rfl ?_
    show Steps p.tables e below (T7.setTop (mkF m 15 #[.val (.ref a1), .val (.int (0 : Int32))] [(.int (0 : Int32))])) _
    refine XS.aloadN X7.here hx rfl (hb hby d5L2_15) rfl rfl ?_
    show Steps p.tables e below (T7.setTop (mkF m 16 #[.val (.ref a1), .val (.int (0 : Int32))] [(.ref a1), (.int (0 : Int32))])) _
    refine st8 _ ?_
    show Steps p.tables e below (T8.setTop (mkF m 19 #[.val (.ref a1), .val (.int (0 : Int32))] [(.int (2 : Int32)), (.int (0 : Int32))])) _
    refine XS.icmpNo X8.here hx rfl (hb hby d5L2_19) rfl (tlt ((by decide) : (0 : Int32) < (2 : Int32))).2.1 ?_
    refine XS.aloadN X8.here hx rfl (hb hby d5L2_22) rfl rfl ?_
    show Steps p.tables e below (T8.setTop (mkF m 23 #[.val (.ref a1), .val (.int (0 : Int32))] [(.ref a1)])) _
    refine st9 _ ?_
    show Steps p.tables e below (T9.setTop (mkF m 26 #[.val (.ref a1), .val (.int (0 : Int32))] [(.ref vb)])) _
    refine XS.aloadN X9.here hx rfl (hb hby d5L2_26) rfl rfl ?_
    show Steps p.tables e below (T9.setTop (mkF m 27 #[.val (.ref a1), .val (.int (0 : Int32))] [(.ref a1), (.ref vb)])) _
    refine st10 _ ?_
    show Steps p.tables e below (T10.setTop (mkF m 30 #[.val (.ref a1), .val (.int (0 : Int32))] [(.ref vm), (.ref vb)])) _
    refine XS.iloadN X10.here hx rfl (hb hby d5L2_30) rfl ?_
    show Steps p.tables e below (T10.setTop (mkF m 31 #[.val (.ref a1), .val (.int (0 : Int32))] [(.int (0 : Int32)), (.ref vm), (.ref vb)])) _
    refine X10.iaload hx (j := (0 : Int32)) (v := (.int (gm 0))) (by rw [e10]; exact Ar11.1) (State.isArrayOf_alike hZ.alike Ar11.2.1) Ar11.2.2 hin11 hat11 (g := (mkF m 31 #[.val (.ref a1), .val (.int (0 : Int32))] [(.int (0 : Int32)), (.ref vm), (.ref vb)])) rfl rfl (hb hby d5L2_31) _ ?_
    show Steps p.tables e below (T10.setTop (mkF m 32 #[.val (.ref a1), .val (.int (0 : Int32))] [(.int (gm 0)), (.ref vb)])) _
    refine XS.bipush X10.here hx rfl (hb hby d5L2_32) ?_
    refine XS.iushr X10.here hx rfl (hb hby d5L2_34) rfl ?_
    refine XS.lconst X10.here hx rfl (hb hby d5L2_35) ?_
    show Steps p.tables e below (T10.setTop (mkF m 36 #[.val (.ref a1), .val (.int (0 : Int32))] [(.long (0 : Int64)), (.int (((gm 0).toUInt32 >>> ((6 : Int32) &&& 31).toUInt32).toInt32)), (.ref vb)])) _
    refine st13 _ ?_
    show Steps p.tables e below (T13.setTop (mkF m 37 #[.val (.ref a1), .val (.int (0 : Int32))] [])) _
    refine XS.iinc X13.here hx rfl (hb hby d5L2_37) rfl (l' := #[.val (.ref a1), .val (.int (1 : Int32))]) rfl ?_
    refine XS.goto X13.here hx rfl (pc0 := 40) (pc' := 14) rfl (hb hby d5L2_40) (by decide) (by decide) ?_
    refine XS.iloadN X13.here hx rfl (hb hby d5L2_14) rfl ?_
    refine XS.aloadN X13.here hx rfl (hb hby d5L2_15) rfl rfl ?_
    show Steps p.tables e below (T13.setTop (mkF m 16 #[.val (.ref a1), .val (.int (1 : Int32))] [(.ref a1), (.int (1 : Int32))])) _
    refine st14 _ ?_
    show Steps p.tables e below (T14.setTop (mkF m 19 #[.val (.ref a1), .val (.int (1 : Int32))] [(.int (2 : Int32)), (.int (1 : Int32))])) _
    refine XS.icmpNo X14.here hx rfl (hb hby d5L2_19) rfl (tlt ((by decide) : (1 : Int32) < (2 : Int32))).2.1 ?_
    refine XS.aloadN X14.here hx rfl (hb hby d5L2_22) rfl rfl ?_
    show Steps p.tables e below (T14.setTop (mkF m 23 #[.val (.ref a1), .val (.int (1 : Int32))] [(.ref a1)])) _
    refine st15 _ ?_
    show Steps p.tables e below (T15.setTop (mkF m 26 #[.val (.ref a1), .val (.int (1 : Int32))] [(.ref vb)])) _
    refine XS.aloadN X15.here hx rfl (hb hby d5L2_26) rfl rfl ?_
    show Steps p.tables e below (T15.setTop (mkF m 27 #[.val (.ref a1), .val (.int (1 : Int32))] [(.ref a1), (.ref vb)])) _
    refine st16 _ ?_
    show Steps p.tables e below (T16.setTop (mkF m 30 #[.val (.ref a1), .val (.int (1 : Int32))] [(.ref vm), (.ref vb)])) _
    refine XS.iloadN X16.here hx rfl (hb hby d5L2_30) rfl ?_
    show Steps p.tables e below (T16.setTop (mkF m 31 #[.val (.ref a1), .val (.int (1 : Int32))] [(.int (1 : Int32)), (.ref vm), (.ref vb)])) _
    refine X16.iaload hx (j := (1 : Int32)) (v := (.int (gm 1))) (by rw [e16]; exact Ar17.1) (State.isArrayOf_alike hZ.alike Ar17.2.1) Ar17.2.2 hin17 hat17 (g := (mkF m 31 #[.val (.ref a1), .val (.int (1 : Int32))] [(.int (1 : Int32)), (.ref vm), (.ref vb)])) rfl rfl (hb hby d5L2_31) _ ?_
    show Steps p.tables e below (T16.setTop (mkF m 32 #[.val (.ref a1), .val (.int (1 : Int32))] [(.int (gm 1)), (.ref vb)])) _
    refine XS.bipush X16.here hx rfl (hb hby d5L2_32) ?_
    refine XS.iushr X16.here hx rfl (hb hby d5L2_34) rfl ?_
    refine XS.lconst X16.here hx rfl (hb hby d5L2_35) ?_
    show Steps p.tables e below (T16.setTop (mkF m 36 #[.val (.ref a1), .val (.int (1 : Int32))] [(.long (0 : Int64)), (.int (((gm 1).toUInt32 >>> ((6 : Int32) &&& 31).toUInt32).toInt32)), (.ref vb)])) _
    refine st19 _ ?_
    show Steps p.tables e below (T19.setTop (mkF m 37 #[.val (.ref a1), .val (.int (1 : Int32))] [])) _
    refine XS.iinc X19.here hx rfl (hb hby d5L2_37) rfl (l' := #[.val (.ref a1), .val (.int (2 : Int32))]) rfl ?_
    refine XS.goto X19.here hx rfl (pc0 := 40) (pc' := 14) rfl (hb hby d5L2_40) (by decide) (by decide) ?_
    refine XS.iloadN X19.here hx rfl (hb hby d5L2_14) rfl ?_
    refine XS.aloadN X19.here hx rfl (hb hby d5L2_15) rfl rfl ?_
    show Steps p.tables e below (T19.setTop (mkF m 16 #[.val (.ref a1), .val (.int (2 : Int32))] [(.ref a1), (.int (2 : Int32))])) _
    refine st20 _ ?_
    show Steps p.tables e below (T20.setTop (mkF m 19 #[.val (.ref a1), .val (.int (2 : Int32))] [(.int (2 : Int32)), (.int (2 : Int32))])) _
    refine XS.icmpYes X20.here hx rfl (pc0 := 19) (pc' := 43) rfl (hb hby d5L2_19) rfl (flt ((by decide) : ¬ ((2 : Int32) < (2 : Int32)))).2.1 (by decide) (by decide) ?_
    refine XS.goto X20.here hx rfl (pc0 := 43) (pc' := 78) rfl (hb hby d5L2_43) (by decide) (by decide) ?_
    refine XS.aloadN X20.here hx rfl (hb hby d5L2_78) rfl rfl ?_
    refine XS.iconst X20.here hx rfl (hb hby d5L2_79) ?_
    show Steps p.tables e below (T20.setTop (mkF m 80 #[.val (.ref a1), .val (.int (2 : Int32))] [(.int (0 : Int32)), (.ref a1)])) _
    refine st21 _ ?_
    exact kt
  show own_End p e below s (T21.setTop (mkF m 83 #[.val (.ref a1), .val (.int (2 : Int32))] [])) (Q5L2 Z a1 vb vm vz g n gm h0 n0) ({ frames := 0, cells := 0, slots := 0, locals := 0 } : Room).cells ({ frames := 0, cells := 0, slots := 0, locals := 0 } : Room).slots
  obtain ⟨fs, hr, hrun, hended, hW, hsame⟩ := X21.leave (v := none) (fun _ => rfl)
  refine ⟨_, _, ?_, hrun, hended, _, _, rfl, ?_, ⟨_, rfl⟩, hW, hsame.mono (by decide) (by decide)⟩
  · exact X21.returnOut hx Bd.returns (hb hby d5L2_83) hr
  · show Q5L2 Z a1 vb vm vz g n gm h0 n0 _ T21.heap _
    rw [e21]
    exact ⟨rfl, N21, K21, ⟨fE_a1_x21, fF_a1_markBits_x21, fF_a1_marked_x21, Fw21, fF_a1_size_x21⟩, fA_vb_x21⟩
def own_law_193 (p1 : Int32) (p2 : Int32) (p3 : Int32) (p4 : Int32) (p5 : Int32) (n : Int32) (xa : Int32) (xb : Int32) (xq : Int32) (ok1 : Int32) (ok2 : Int32) (ex : Int32) : Int32 := (if ok2 = (0 : Int32) then (0 : Int32) else (if (own_isN xq (own_put (own_put (fun _ => (0 : Int32)) xa (own_ch (1 : Int32))) xb (own_ch (1 : Int32))) n (1 : Int32) (0 : Int32) (0 : Int32)) = ex then (1 : Int32) else (0 : Int32)))
def own_law_134 (p1 : Int32) (p2 : Int32) (p3 : Int32) (p4 : Int32) (p5 : Int32) (n : Int32) (xa : Int32) (xb : Int32) (xq : Int32) (ok1 : Int32) (ok2 : Int32) : Int32 := (if xq = xb then (own_law_193 p1 p2 p3 p4 p5 n xa xb xq ok1 ok2 (1 : Int32)) else (if xq = xa then (own_law_193 p1 p2 p3 p4 p5 n xa xb xq ok1 ok2 (1 : Int32)) else (own_law_193 p1 p2 p3 p4 p5 n xa xb xq ok1 ok2 (0 : Int32))))
def own_law_104 (p1 : Int32) (p2 : Int32) (p3 : Int32) (p4 : Int32) (p5 : Int32) (n : Int32) (xa : Int32) (xb : Int32) (xq : Int32) (ok1 : Int32) : Int32 := (if ok1 = (0 : Int32) then (own_law_134 p1 p2 p3 p4 p5 n xa xb xq ok1 (0 : Int32)) else (if (own_isN xa (own_put (fun _ => (0 : Int32)) xa (own_ch (1 : Int32))) n (1 : Int32) (0 : Int32) (0 : Int32)) = (0 : Int32) then (own_law_134 p1 p2 p3 p4 p5 n xa xb xq ok1 (0 : Int32)) else (own_law_134 p1 p2 p3 p4 p5 n xa xb xq ok1 (1 : Int32))))
def own_law_76 (p1 : Int32) (p2 : Int32) (p3 : Int32) (p4 : Int32) (p5 : Int32) (n : Int32) (xa : Int32) (xb : Int32) (xq : Int32) : Int32 := (if (own_isN xq (fun _ => (0 : Int32)) n (1 : Int32) (0 : Int32) (0 : Int32)) = (0 : Int32) then (own_law_104 p1 p2 p3 p4 p5 n xa xb xq (1 : Int32)) else (own_law_104 p1 p2 p3 p4 p5 n xa xb xq (0 : Int32)))
def own_law_66 (p1 : Int32) (p2 : Int32) (p3 : Int32) (p4 : Int32) (p5 : Int32) (n : Int32) (xa : Int32) (xb : Int32) : Int32 := (own_law_76 p1 p2 p3 p4 p5 n xa xb ((p5 &&& (2147483647 : Int32)) % n))
def own_law_57 (p1 : Int32) (p2 : Int32) (p3 : Int32) (p4 : Int32) (p5 : Int32) (n : Int32) (xa : Int32) : Int32 := (own_law_66 p1 p2 p3 p4 p5 n xa ((p4 &&& (2147483647 : Int32)) % n))
def own_law_134b (p1 : Int32) (p2 : Int32) (p3 : Int32) (p4 : Int32) (p5 : Int32) (n : Int32) (xa : Int32) (xb : Int32) (xq : Int32) (ok1 : Int32) (ok2 : Int32) : Int32 := (if ok2 = (0 : Int32) then (0 : Int32) else (if (own_isN xq (own_put (own_put (fun _ => (0 : Int32)) xa (own_ch (1 : Int32))) xb (own_ch (1 : Int32))) n (2 : Int32) (0 : Int32) (0 : Int32)) = (0 : Int32) then (1 : Int32) else (0 : Int32)))
def own_law_104b (p1 : Int32) (p2 : Int32) (p3 : Int32) (p4 : Int32) (p5 : Int32) (n : Int32) (xa : Int32) (xb : Int32) (xq : Int32) (ok1 : Int32) : Int32 := (if ok1 = (0 : Int32) then (own_law_134b p1 p2 p3 p4 p5 n xa xb xq ok1 (0 : Int32)) else (if (own_isN xa (own_put (fun _ => (0 : Int32)) xa (own_ch (1 : Int32))) n (1 : Int32) (0 : Int32) (0 : Int32)) = (0 : Int32) then (own_law_134b p1 p2 p3 p4 p5 n xa xb xq ok1 (0 : Int32)) else (own_law_134b p1 p2 p3 p4 p5 n xa xb xq ok1 (1 : Int32))))
def own_law_76b (p1 : Int32) (p2 : Int32) (p3 : Int32) (p4 : Int32) (p5 : Int32) (n : Int32) (xa : Int32) (xb : Int32) (xq : Int32) : Int32 := (if (own_isN xq (fun _ => (0 : Int32)) n (1 : Int32) (0 : Int32) (0 : Int32)) = (0 : Int32) then (own_law_104b p1 p2 p3 p4 p5 n xa xb xq (1 : Int32)) else (own_law_104b p1 p2 p3 p4 p5 n xa xb xq (0 : Int32)))
def own_law_66b (p1 : Int32) (p2 : Int32) (p3 : Int32) (p4 : Int32) (p5 : Int32) (n : Int32) (xa : Int32) (xb : Int32) : Int32 := (own_law_76b p1 p2 p3 p4 p5 n xa xb ((p5 &&& (2147483647 : Int32)) % n))
def own_law_57b (p1 : Int32) (p2 : Int32) (p3 : Int32) (p4 : Int32) (p5 : Int32) (n : Int32) (xa : Int32) : Int32 := (own_law_66b p1 p2 p3 p4 p5 n xa ((p4 &&& (2147483647 : Int32)) % n))
def own_law_193b (p1 : Int32) (p2 : Int32) (p3 : Int32) (p4 : Int32) (p5 : Int32) (n : Int32) (xa : Int32) (xb : Int32) (xq : Int32) (ok1 : Int32) (ok2 : Int32) (ex : Int32) : Int32 := (if ok2 = (0 : Int32) then (0 : Int32) else (if (own_isN xq (own_put (own_put (fun _ => (0 : Int32)) xa (own_ch (1 : Int32))) xb (own_ch (2 : Int32))) n (2 : Int32) (0 : Int32) (0 : Int32)) = ex then (1 : Int32) else (0 : Int32)))
def own_law_134bb (p1 : Int32) (p2 : Int32) (p3 : Int32) (p4 : Int32) (p5 : Int32) (n : Int32) (xa : Int32) (xb : Int32) (xq : Int32) (ok1 : Int32) (ok2 : Int32) : Int32 := (if xq = xb then (own_law_193b p1 p2 p3 p4 p5 n xa xb xq ok1 ok2 (1 : Int32)) else (own_law_193b p1 p2 p3 p4 p5 n xa xb xq ok1 ok2 (0 : Int32)))
def own_law_104bb (p1 : Int32) (p2 : Int32) (p3 : Int32) (p4 : Int32) (p5 : Int32) (n : Int32) (xa : Int32) (xb : Int32) (xq : Int32) (ok1 : Int32) : Int32 := (if ok1 = (0 : Int32) then (own_law_134bb p1 p2 p3 p4 p5 n xa xb xq ok1 (0 : Int32)) else (if (own_isN xa (own_put (fun _ => (0 : Int32)) xa (own_ch (1 : Int32))) n (1 : Int32) (0 : Int32) (0 : Int32)) = (0 : Int32) then (own_law_134bb p1 p2 p3 p4 p5 n xa xb xq ok1 (0 : Int32)) else (own_law_134bb p1 p2 p3 p4 p5 n xa xb xq ok1 (1 : Int32))))
def own_law_76bb (p1 : Int32) (p2 : Int32) (p3 : Int32) (p4 : Int32) (p5 : Int32) (n : Int32) (xa : Int32) (xb : Int32) (xq : Int32) : Int32 := (if (own_isN xq (fun _ => (0 : Int32)) n (1 : Int32) (0 : Int32) (0 : Int32)) = (0 : Int32) then (own_law_104bb p1 p2 p3 p4 p5 n xa xb xq (1 : Int32)) else (own_law_104bb p1 p2 p3 p4 p5 n xa xb xq (0 : Int32)))
def own_law_66bb (p1 : Int32) (p2 : Int32) (p3 : Int32) (p4 : Int32) (p5 : Int32) (n : Int32) (xa : Int32) (xb : Int32) : Int32 := (own_law_76bb p1 p2 p3 p4 p5 n xa xb ((p5 &&& (2147483647 : Int32)) % n))
def own_law_57bb (p1 : Int32) (p2 : Int32) (p3 : Int32) (p4 : Int32) (p5 : Int32) (n : Int32) (xa : Int32) : Int32 := (own_law_66bb p1 p2 p3 p4 p5 n xa ((p4 &&& (2147483647 : Int32)) % n))
def own_law_134bbb (p1 : Int32) (p2 : Int32) (p3 : Int32) (p4 : Int32) (p5 : Int32) (n : Int32) (xa : Int32) (xb : Int32) (xq : Int32) (ok1 : Int32) (ok2 : Int32) : Int32 := (if ok2 = (0 : Int32) then (0 : Int32) else (if (own_isN xq (own_put (own_put (fun _ => (0 : Int32)) xa (own_ch (1 : Int32))) xb (own_ch (2 : Int32))) n (3 : Int32) (0 : Int32) (0 : Int32)) = (0 : Int32) then (1 : Int32) else (0 : Int32)))
def own_law_104bbb (p1 : Int32) (p2 : Int32) (p3 : Int32) (p4 : Int32) (p5 : Int32) (n : Int32) (xa : Int32) (xb : Int32) (xq : Int32) (ok1 : Int32) : Int32 := (if ok1 = (0 : Int32) then (own_law_134bbb p1 p2 p3 p4 p5 n xa xb xq ok1 (0 : Int32)) else (if (own_isN xa (own_put (fun _ => (0 : Int32)) xa (own_ch (1 : Int32))) n (1 : Int32) (0 : Int32) (0 : Int32)) = (0 : Int32) then (own_law_134bbb p1 p2 p3 p4 p5 n xa xb xq ok1 (0 : Int32)) else (own_law_134bbb p1 p2 p3 p4 p5 n xa xb xq ok1 (1 : Int32))))
def own_law_76bbb (p1 : Int32) (p2 : Int32) (p3 : Int32) (p4 : Int32) (p5 : Int32) (n : Int32) (xa : Int32) (xb : Int32) (xq : Int32) : Int32 := (if (own_isN xq (fun _ => (0 : Int32)) n (1 : Int32) (0 : Int32) (0 : Int32)) = (0 : Int32) then (own_law_104bbb p1 p2 p3 p4 p5 n xa xb xq (1 : Int32)) else (own_law_104bbb p1 p2 p3 p4 p5 n xa xb xq (0 : Int32)))
def own_law_66bbb (p1 : Int32) (p2 : Int32) (p3 : Int32) (p4 : Int32) (p5 : Int32) (n : Int32) (xa : Int32) (xb : Int32) : Int32 := (own_law_76bbb p1 p2 p3 p4 p5 n xa xb ((p5 &&& (2147483647 : Int32)) % n))
def own_law_57bbb (p1 : Int32) (p2 : Int32) (p3 : Int32) (p4 : Int32) (p5 : Int32) (n : Int32) (xa : Int32) : Int32 := (own_law_66bbb p1 p2 p3 p4 p5 n xa ((p4 &&& (2147483647 : Int32)) % n))
def own_law_193bb (p1 : Int32) (p2 : Int32) (p3 : Int32) (p4 : Int32) (p5 : Int32) (n : Int32) (xa : Int32) (xb : Int32) (xq : Int32) (ok1 : Int32) (ok2 : Int32) (ex : Int32) : Int32 := (if ok2 = (0 : Int32) then (0 : Int32) else (if (own_isL xq (own_orb (own_orb (fun _ => (0 : Int64)) xa) xb) (((n + (63 : Int32)).toUInt32 >>> ((6 : Int32) &&& 31).toUInt32).toInt32) (2 : Int32) (0 : Int32)) = ex then (1 : Int32) else (0 : Int32)))
def own_law_193bbb (p1 : Int32) (p2 : Int32) (p3 : Int32) (p4 : Int32) (p5 : Int32) (n : Int32) (xa : Int32) (xb : Int32) (xq : Int32) (ok1 : Int32) (ok2 : Int32) (ex : Int32) : Int32 := (if ok2 = (0 : Int32) then (0 : Int32) else (if (own_isL xq (own_orb (own_orb (fun _ => (0 : Int64)) xa) xb) (((n + (63 : Int32)).toUInt32 >>> ((6 : Int32) &&& 31).toUInt32).toInt32) (1 : Int32) (0 : Int32)) = ex then (1 : Int32) else (0 : Int32)))
def own_law_134bbbb (p1 : Int32) (p2 : Int32) (p3 : Int32) (p4 : Int32) (p5 : Int32) (n : Int32) (xa : Int32) (xb : Int32) (xq : Int32) (ok1 : Int32) (ok2 : Int32) : Int32 := (if (((own_orb (fun _ => (0 : Int64)) xa) ((xb.toUInt32 >>> ((6 : Int32) &&& 31).toUInt32).toInt32).toNatClampNeg) &&& ((1 : Int64) <<< (xb &&& 0x3f).toInt64)) = (0 : Int64) then (if xq = xb then (own_law_193bb p1 p2 p3 p4 p5 n xa xb xq ok1 ok2 (1 : Int32)) else (if xq = xa then (own_law_193bb p1 p2 p3 p4 p5 n xa xb xq ok1 ok2 (1 : Int32)) else (own_law_193bb p1 p2 p3 p4 p5 n xa xb xq ok1 ok2 (0 : Int32)))) else (if xq = xb then (own_law_193bbb p1 p2 p3 p4 p5 n xa xb xq ok1 ok2 (1 : Int32)) else (if xq = xa then (own_law_193bbb p1 p2 p3 p4 p5 n xa xb xq ok1 ok2 (1 : Int32)) else (own_law_193bbb p1 p2 p3 p4 p5 n xa xb xq ok1 ok2 (0 : Int32)))))
def own_law_104bbbb (p1 : Int32) (p2 : Int32) (p3 : Int32) (p4 : Int32) (p5 : Int32) (n : Int32) (xa : Int32) (xb : Int32) (xq : Int32) (ok1 : Int32) : Int32 := (if ok1 = (0 : Int32) then (own_law_134bbbb p1 p2 p3 p4 p5 n xa xb xq ok1 (0 : Int32)) else (if (own_isL xa (own_orb (fun _ => (0 : Int64)) xa) (((n + (63 : Int32)).toUInt32 >>> ((6 : Int32) &&& 31).toUInt32).toInt32) (1 : Int32) (0 : Int32)) = (0 : Int32) then (own_law_134bbbb p1 p2 p3 p4 p5 n xa xb xq ok1 (0 : Int32)) else (own_law_134bbbb p1 p2 p3 p4 p5 n xa xb xq ok1 (1 : Int32))))
def own_law_76bbbb (p1 : Int32) (p2 : Int32) (p3 : Int32) (p4 : Int32) (p5 : Int32) (n : Int32) (xa : Int32) (xb : Int32) (xq : Int32) : Int32 := (if (own_isL xq (fun _ => (0 : Int64)) (((n + (63 : Int32)).toUInt32 >>> ((6 : Int32) &&& 31).toUInt32).toInt32) (0 : Int32) (0 : Int32)) = (0 : Int32) then (own_law_104bbbb p1 p2 p3 p4 p5 n xa xb xq (1 : Int32)) else (own_law_104bbbb p1 p2 p3 p4 p5 n xa xb xq (0 : Int32)))
def own_law_66bbbb (p1 : Int32) (p2 : Int32) (p3 : Int32) (p4 : Int32) (p5 : Int32) (n : Int32) (xa : Int32) (xb : Int32) : Int32 := (own_law_76bbbb p1 p2 p3 p4 p5 n xa xb ((p5 &&& (2147483647 : Int32)) % n))
def own_law_57bbbb (p1 : Int32) (p2 : Int32) (p3 : Int32) (p4 : Int32) (p5 : Int32) (n : Int32) (xa : Int32) : Int32 := (own_law_66bbbb p1 p2 p3 p4 p5 n xa ((p4 &&& (2147483647 : Int32)) % n))
def own_law_134bbbbb (p1 : Int32) (p2 : Int32) (p3 : Int32) (p4 : Int32) (p5 : Int32) (n : Int32) (xa : Int32) (xb : Int32) (xq : Int32) (ok1 : Int32) (ok2 : Int32) : Int32 := (if (((own_orb (fun _ => (0 : Int64)) xa) ((xb.toUInt32 >>> ((6 : Int32) &&& 31).toUInt32).toInt32).toNatClampNeg) &&& ((1 : Int64) <<< (xb &&& 0x3f).toInt64)) = (0 : Int64) then (if ok2 = (0 : Int32) then (0 : Int32) else (if (own_isL xq (own_zero (own_zero (own_orb (own_orb (fun _ => (0 : Int64)) xa) xb) ((own_put (own_put (fun _ => (0 : Int32)) (0 : Int32) xa) (1 : Int32) xb) 0)) ((own_put (own_put (fun _ => (0 : Int32)) (0 : Int32) xa) (1 : Int32) xb) 1)) (((n + (63 : Int32)).toUInt32 >>> ((6 : Int32) &&& 31).toUInt32).toInt32) (0 : Int32) (0 : Int32)) = (0 : Int32) then (1 : Int32) else (0 : Int32))) else (if ok2 = (0 : Int32) then (0 : Int32) else (if (own_isL xq (own_zero (own_orb (own_orb (fun _ => (0 : Int64)) xa) xb) ((own_put (fun _ => (0 : Int32)) (0 : Int32) xa) 0)) (((n + (63 : Int32)).toUInt32 >>> ((6 : Int32) &&& 31).toUInt32).toInt32) (0 : Int32) (0 : Int32)) = (0 : Int32) then (1 : Int32) else (0 : Int32))))
def own_law_104bbbbb (p1 : Int32) (p2 : Int32) (p3 : Int32) (p4 : Int32) (p5 : Int32) (n : Int32) (xa : Int32) (xb : Int32) (xq : Int32) (ok1 : Int32) : Int32 := (if ok1 = (0 : Int32) then (own_law_134bbbbb p1 p2 p3 p4 p5 n xa xb xq ok1 (0 : Int32)) else (if (own_isL xa (own_orb (fun _ => (0 : Int64)) xa) (((n + (63 : Int32)).toUInt32 >>> ((6 : Int32) &&& 31).toUInt32).toInt32) (1 : Int32) (0 : Int32)) = (0 : Int32) then (own_law_134bbbbb p1 p2 p3 p4 p5 n xa xb xq ok1 (0 : Int32)) else (own_law_134bbbbb p1 p2 p3 p4 p5 n xa xb xq ok1 (1 : Int32))))
def own_law_76bbbbb (p1 : Int32) (p2 : Int32) (p3 : Int32) (p4 : Int32) (p5 : Int32) (n : Int32) (xa : Int32) (xb : Int32) (xq : Int32) : Int32 := (if (own_isL xq (fun _ => (0 : Int64)) (((n + (63 : Int32)).toUInt32 >>> ((6 : Int32) &&& 31).toUInt32).toInt32) (0 : Int32) (0 : Int32)) = (0 : Int32) then (own_law_104bbbbb p1 p2 p3 p4 p5 n xa xb xq (1 : Int32)) else (own_law_104bbbbb p1 p2 p3 p4 p5 n xa xb xq (0 : Int32)))
def own_law_66bbbbb (p1 : Int32) (p2 : Int32) (p3 : Int32) (p4 : Int32) (p5 : Int32) (n : Int32) (xa : Int32) (xb : Int32) : Int32 := (own_law_76bbbbb p1 p2 p3 p4 p5 n xa xb ((p5 &&& (2147483647 : Int32)) % n))
def own_law_57bbbbb (p1 : Int32) (p2 : Int32) (p3 : Int32) (p4 : Int32) (p5 : Int32) (n : Int32) (xa : Int32) : Int32 := (own_law_66bbbbb p1 p2 p3 p4 p5 n xa ((p4 &&& (2147483647 : Int32)) % n))
def own_law_193bbbb (p1 : Int32) (p2 : Int32) (p3 : Int32) (p4 : Int32) (p5 : Int32) (n : Int32) (xa : Int32) (xb : Int32) (xq : Int32) (ok1 : Int32) (ok2 : Int32) (ex : Int32) : Int32 := (if ok2 = (0 : Int32) then (0 : Int32) else (if (own_isL xq (own_orb (own_zero (own_orb (fun _ => (0 : Int64)) xa) ((own_put (fun _ => (0 : Int32)) (0 : Int32) xa) 0)) xb) (((n + (63 : Int32)).toUInt32 >>> ((6 : Int32) &&& 31).toUInt32).toInt32) (1 : Int32) (0 : Int32)) = ex then (1 : Int32) else (0 : Int32)))
def own_law_193bbbbb (p1 : Int32) (p2 : Int32) (p3 : Int32) (p4 : Int32) (p5 : Int32) (n : Int32) (xa : Int32) (xb : Int32) (xq : Int32) (ok1 : Int32) (ok2 : Int32) (ex : Int32) : Int32 := (if ok2 = (0 : Int32) then (0 : Int32) else (if (own_isL xq (own_orb (own_zero (own_orb (fun _ => (0 : Int64)) xa) ((own_put (fun _ => (0 : Int32)) (0 : Int32) xa) 0)) xb) (((n + (63 : Int32)).toUInt32 >>> ((6 : Int32) &&& 31).toUInt32).toInt32) (0 : Int32) (0 : Int32)) = ex then (1 : Int32) else (0 : Int32)))
def own_law_134bbbbbb (p1 : Int32) (p2 : Int32) (p3 : Int32) (p4 : Int32) (p5 : Int32) (n : Int32) (xa : Int32) (xb : Int32) (xq : Int32) (ok1 : Int32) (ok2 : Int32) : Int32 := (if (((own_zero (own_orb (fun _ => (0 : Int64)) xa) ((own_put (fun _ => (0 : Int32)) (0 : Int32) xa) 0)) ((xb.toUInt32 >>> ((6 : Int32) &&& 31).toUInt32).toInt32).toNatClampNeg) &&& ((1 : Int64) <<< (xb &&& 0x3f).toInt64)) = (0 : Int64) then (if xq = xb then (own_law_193bbbb p1 p2 p3 p4 p5 n xa xb xq ok1 ok2 (1 : Int32)) else (own_law_193bbbb p1 p2 p3 p4 p5 n xa xb xq ok1 ok2 (0 : Int32))) else (if xq = xb then (own_law_193bbbbb p1 p2 p3 p4 p5 n xa xb xq ok1 ok2 (1 : Int32)) else (own_law_193bbbbb p1 p2 p3 p4 p5 n xa xb xq ok1 ok2 (0 : Int32))))
def own_law_104bbbbbb (p1 : Int32) (p2 : Int32) (p3 : Int32) (p4 : Int32) (p5 : Int32) (n : Int32) (xa : Int32) (xb : Int32) (xq : Int32) (ok1 : Int32) : Int32 := (if ok1 = (0 : Int32) then (own_law_134bbbbbb p1 p2 p3 p4 p5 n xa xb xq ok1 (0 : Int32)) else (if (own_isL xa (own_orb (fun _ => (0 : Int64)) xa) (((n + (63 : Int32)).toUInt32 >>> ((6 : Int32) &&& 31).toUInt32).toInt32) (1 : Int32) (0 : Int32)) = (0 : Int32) then (own_law_134bbbbbb p1 p2 p3 p4 p5 n xa xb xq ok1 (0 : Int32)) else (own_law_134bbbbbb p1 p2 p3 p4 p5 n xa xb xq ok1 (1 : Int32))))
def own_law_76bbbbbb (p1 : Int32) (p2 : Int32) (p3 : Int32) (p4 : Int32) (p5 : Int32) (n : Int32) (xa : Int32) (xb : Int32) (xq : Int32) : Int32 := (if (own_isL xq (fun _ => (0 : Int64)) (((n + (63 : Int32)).toUInt32 >>> ((6 : Int32) &&& 31).toUInt32).toInt32) (0 : Int32) (0 : Int32)) = (0 : Int32) then (own_law_104bbbbbb p1 p2 p3 p4 p5 n xa xb xq (1 : Int32)) else (own_law_104bbbbbb p1 p2 p3 p4 p5 n xa xb xq (0 : Int32)))
def own_law_66bbbbbb (p1 : Int32) (p2 : Int32) (p3 : Int32) (p4 : Int32) (p5 : Int32) (n : Int32) (xa : Int32) (xb : Int32) : Int32 := (own_law_76bbbbbb p1 p2 p3 p4 p5 n xa xb ((p5 &&& (2147483647 : Int32)) % n))
def own_law_57bbbbbb (p1 : Int32) (p2 : Int32) (p3 : Int32) (p4 : Int32) (p5 : Int32) (n : Int32) (xa : Int32) : Int32 := (own_law_66bbbbbb p1 p2 p3 p4 p5 n xa ((p4 &&& (2147483647 : Int32)) % n))
def own_law_134bbbbbbb (p1 : Int32) (p2 : Int32) (p3 : Int32) (p4 : Int32) (p5 : Int32) (n : Int32) (xa : Int32) (xb : Int32) (xq : Int32) (ok1 : Int32) (ok2 : Int32) : Int32 := (if (((own_zero (own_orb (fun _ => (0 : Int64)) xa) ((own_put (fun _ => (0 : Int32)) (0 : Int32) xa) 0)) ((xb.toUInt32 >>> ((6 : Int32) &&& 31).toUInt32).toInt32).toNatClampNeg) &&& ((1 : Int64) <<< (xb &&& 0x3f).toInt64)) = (0 : Int64) then (if ok2 = (0 : Int32) then (0 : Int32) else (if (own_isL xq (own_zero (own_orb (own_zero (own_orb (fun _ => (0 : Int64)) xa) ((own_put (fun _ => (0 : Int32)) (0 : Int32) xa) 0)) xb) ((own_put (own_put (fun _ => (0 : Int32)) (0 : Int32) xa) (0 : Int32) xb) 0)) (((n + (63 : Int32)).toUInt32 >>> ((6 : Int32) &&& 31).toUInt32).toInt32) (0 : Int32) (0 : Int32)) = (0 : Int32) then (1 : Int32) else (0 : Int32))) else (if ok2 = (0 : Int32) then (0 : Int32) else (if (own_isL xq (own_orb (own_zero (own_orb (fun _ => (0 : Int64)) xa) ((own_put (fun _ => (0 : Int32)) (0 : Int32) xa) 0)) xb) (((n + (63 : Int32)).toUInt32 >>> ((6 : Int32) &&& 31).toUInt32).toInt32) (0 : Int32) (0 : Int32)) = (0 : Int32) then (1 : Int32) else (0 : Int32))))
def own_law_104bbbbbbb (p1 : Int32) (p2 : Int32) (p3 : Int32) (p4 : Int32) (p5 : Int32) (n : Int32) (xa : Int32) (xb : Int32) (xq : Int32) (ok1 : Int32) : Int32 := (if ok1 = (0 : Int32) then (own_law_134bbbbbbb p1 p2 p3 p4 p5 n xa xb xq ok1 (0 : Int32)) else (if (own_isL xa (own_orb (fun _ => (0 : Int64)) xa) (((n + (63 : Int32)).toUInt32 >>> ((6 : Int32) &&& 31).toUInt32).toInt32) (1 : Int32) (0 : Int32)) = (0 : Int32) then (own_law_134bbbbbbb p1 p2 p3 p4 p5 n xa xb xq ok1 (0 : Int32)) else (own_law_134bbbbbbb p1 p2 p3 p4 p5 n xa xb xq ok1 (1 : Int32))))
def own_law_76bbbbbbb (p1 : Int32) (p2 : Int32) (p3 : Int32) (p4 : Int32) (p5 : Int32) (n : Int32) (xa : Int32) (xb : Int32) (xq : Int32) : Int32 := (if (own_isL xq (fun _ => (0 : Int64)) (((n + (63 : Int32)).toUInt32 >>> ((6 : Int32) &&& 31).toUInt32).toInt32) (0 : Int32) (0 : Int32)) = (0 : Int32) then (own_law_104bbbbbbb p1 p2 p3 p4 p5 n xa xb xq (1 : Int32)) else (own_law_104bbbbbbb p1 p2 p3 p4 p5 n xa xb xq (0 : Int32)))
def own_law_66bbbbbbb (p1 : Int32) (p2 : Int32) (p3 : Int32) (p4 : Int32) (p5 : Int32) (n : Int32) (xa : Int32) (xb : Int32) : Int32 := (own_law_76bbbbbbb p1 p2 p3 p4 p5 n xa xb ((p5 &&& (2147483647 : Int32)) % n))
def own_law_57bbbbbbb (p1 : Int32) (p2 : Int32) (p3 : Int32) (p4 : Int32) (p5 : Int32) (n : Int32) (xa : Int32) : Int32 := (own_law_66bbbbbbb p1 p2 p3 p4 p5 n xa ((p4 &&& (2147483647 : Int32)) % n))
def own_law_9 (p1 : Int32) (p2 : Int32) (p3 : Int32) (p4 : Int32) (p5 : Int32) (n : Int32) : Int32 := (if (p2 &&& (1 : Int32)) = (0 : Int32) then (if (p2 &&& (2 : Int32)) = (0 : Int32) then (if (p2 &&& (4 : Int32)) = (0 : Int32) then (own_law_57 p1 p2 p3 p4 p5 n ((p3 &&& (2147483647 : Int32)) % n)) else (own_law_57b p1 p2 p3 p4 p5 n ((p3 &&& (2147483647 : Int32)) % n))) else (if (p2 &&& (4 : Int32)) = (0 : Int32) then (own_law_57bb p1 p2 p3 p4 p5 n ((p3 &&& (2147483647 : Int32)) % n)) else (own_law_57bbb p1 p2 p3 p4 p5 n ((p3 &&& (2147483647 : Int32)) % n)))) else (if (p2 &&& (2 : Int32)) = (0 : Int32) then (if (p2 &&& (4 : Int32)) = (0 : Int32) then (own_law_57bbbb p1 p2 p3 p4 p5 n ((p3 &&& (2147483647 : Int32)) % n)) else (own_law_57bbbbb p1 p2 p3 p4 p5 n ((p3 &&& (2147483647 : Int32)) % n))) else (if (p2 &&& (4 : Int32)) = (0 : Int32) then (own_law_57bbbbbb p1 p2 p3 p4 p5 n ((p3 &&& (2147483647 : Int32)) % n)) else (own_law_57bbbbbbb p1 p2 p3 p4 p5 n ((p3 &&& (2147483647 : Int32)) % n)))))
def own_law (p1 : Int32) (p2 : Int32) (p3 : Int32) (p4 : Int32) (p5 : Int32) : Int32 := (own_law_9 p1 p2 p3 p4 p5 ((1 : Int32) + (p1 &&& (255 : Int32))))
theorem pn_0 : plainName "com/example/libfacet/libfacet/regex/StateSetIsMarkedPinLaw" = true := by first | (simp [plainName, overriddenIn]; done) | decide +kernel
theorem pd_0_0 : parseMethodDescriptor "(IZ)V" = some ⟨[.int, .boolean], none⟩ := by decide +kernel
theorem pd_0_1 : parseMethodDescriptor "(I)Z" = some ⟨[.int], some .boolean⟩ := by decide +kernel
theorem pd_0_2 : parseMethodDescriptor "()V" = some ⟨[], none⟩ := by decide +kernel
theorem ef_0 (m : MethodId) (x0 : Int32) (x1 : Int32) (x2 : Int32) (x3 : Int32) (x4 : Int32) : entryFrame m #[(.int x0), (.int x1), (.int x2), (.int x3), (.int x4)] maxLocals = mkF m 0 #[.val (.int x0), .val (.int x1), .val (.int x2), .val (.int x3), .val (.int x4), .unset, .unset, .unset, .unset, .unset, .unset, .unset, .unset, .unset, .unset] [] := by first | (simp [entryFrame, mkF, argsToLocals, Value.category, maxLocals]; done) | rfl
def Q0 (Z : State) (p1 : Int32) (p2 : Int32) (p3 : Int32) (p4 : Int32) (p5 : Int32) (h0 : Heap) (n0 : Nat) (v : Option Value) (h : Heap) (L : List Loc) : Prop := v = some (.int (own_law p1 p2 p3 p4 p5)) ∧ Fr n0 L
set_option maxRecDepth 65536 in
set_option maxHeartbeats 40000000 in
theorem rm0 (l : Launch) (Z : State) (a0 : Array Value) (hw : ∀ d ∈ tables_1, d.before a0 Z = true) (ws : List Jvm.Cond) (p1 : Int32) (p2 : Int32) (p3 : Int32) (p4 : Int32) (p5 : Int32) (h0 : Heap) (n0 : Nat) (Z0 : n0 ≤ h0.size) :
    MetFree l x (head1 (Jvm.Cond.code x code maxLocals ret :: ws) room_1) (fun a U => a = #[(.int p1), (.int p2), (.int p3), (.int p4), (.int p5)] ∧ Z.Warmed39 U.vm ∧ U.heap = h0) (fun _ _ _ _ _ => True) (fun _ U o U' => ∃ v L, o = .returned v ∧ Q0 Z p1 p2 p3 p4 p5 h0 n0 v U'.heap L ∧ FrameEnd U o U' L room_1.cells room_1.slots) := by
  refine MetFree.of_bodySF (plainFor_of_name pn_0) hisR ?_
  intro p e s m args below meth c s₁ Bd hml0 hP hK
  obtain ⟨rfl, hZ, hh⟩ := hP
  have hx := Bd.exec
  have hby := Bd.bytes
  have hml : c.maxLocals = 15 := hml0
  have hown : s.vm.findClass "com/example/libfacet/libfacet/regex/StateSetIsMarkedPinLaw" = some m.cls := findClass_of_methodNamed Bd.named
  have hnm := (name_of_methodNamed Bd.named Bd.method).1
  have X0 : Stand p l e room_1 s m #[(.int p1), (.int p2), (.int p3), (.int p4), (.int p5)] below meth c s₁ [] 0 0 := Stand.of_body Bd
  have e0 : s₁.heap = h0 := by rw [← hh, Bd.state]; rfl
  have N0 := Fr.nil n0
  show own_End p e below s (s₁.setTop (entryFrame m #[(.int p1), (.int p2), (.int p3), (.int p4), (.int p5)] maxLocals)) (Q0 Z p1 p2 p3 p4 p5 h0 n0) room_1.cells room_1.slots
  refine own_pre (A := s₁.setTop (mkF m 0 #[.val (.int p1), .val (.int p2), .val (.int p3), .val (.int p4), .val (.int p5), .unset, .unset, .unset, .unset, .unset, .unset, .unset, .unset, .unset, .unset] [])) (fun tt kt => castTop (ef_0 m p1 p2 p3 p4 p5) kt) ?_
  show own_End p e below s (s₁.setTop (mkF m 0 #[.val (.int p1), .val (.int p2), .val (.int p3), .val (.int p4), .val (.int p5), .unset, .unset, .unset, .unset, .unset, .unset, .unset, .unset, .unset, .unset] [])) (Q0 Z p1 p2 p3 p4 p5 h0 n0) room_1.cells room_1.slots
  have hj : own_law p1 p2 p3 p4 p5 = own_law p1 p2 p3 p4 p5 := rfl
  refine own_pre (A := s₁.setTop (mkF m 9 #[.val (.int p1), .val (.int p2), .val (.int p3), .val (.int p4), .val (.int p5), .val (.int ((1 : Int32) + (p1 &&& (255 : Int32)))), .unset, .unset, .unset, .unset, .unset, .unset, .unset, .unset, .unset] [])) (fun tt kt => ?_) ?_
  · show Steps p.tables e below (s₁.setTop (mkF m 0 #[.val (.int p1), .val (.int p2), .val (.int p3), .val (.int p4), .val (.int p5), .unset, .unset, .unset, .unset, .unset, .unset, .unset, .unset, .unset, .unset] [])) _
    refine XS.iconst X0.here hx rfl (hb hby at_0) ?_
    refine XS.iloadN X0.here hx rfl (hb hby at_1) rfl ?_
    refine XS.sipush X0.here hx rfl (hb hby at_2) ?_
    refine XS.iand X0.here hx rfl (hb hby at_5) rfl ?_
    refine XS.iadd X0.here hx rfl (hb hby at_6) rfl ?_
    refine XS.istore X0.here hx rfl (hb hby at_7) rfl (l' := #[.val (.int p1), .val (.int p2), .val (.int p3), .val (.int p4), .val (.int p5), .val (.int ((1 : Int32) + (p1 &&& (255 : Int32)))), .unset, .unset, .unset, .unset, .unset, .unset, .unset, .unset, .unset]) rfl ?_
    exact kt
  show own_End p e below s (s₁.setTop (mkF m 9 #[.val (.int p1), .val (.int p2), .val (.int p3), .val (.int p4), .val (.int p5), .val (.int ((1 : Int32) + (p1 &&& (255 : Int32)))), .unset, .unset, .unset, .unset, .unset, .unset, .unset, .unset, .unset] [])) (Q0 Z p1 p2 p3 p4 p5 h0 n0) room_1.cells room_1.slots
  have j9 : ∀ (Tj9 : State) (Lj9 : List Loc) (Xj9 : Stand p l e room_1 s m #[(.int p1), (.int p2), (.int p3), (.int p4), (.int p5)] below meth c Tj9 Lj9 0 0) (ej9 : Tj9.heap = h0) (Nj9 : Fr n0 Lj9) (n : Int32) (hn0 : 1 ≤ n.toInt) (hn1 : n.toInt ≤ 256), own_law p1 p2 p3 p4 p5 = own_law_9 p1 p2 p3 p4 p5 n → own_End p e below s (Tj9.setTop (mkF m 9 #[.val (.int p1), .val (.int p2), .val (.int p3), .val (.int p4), .val (.int p5), .val (.int n), .unset, .unset, .unset, .unset, .unset, .unset, .unset, .unset, .unset] [])) (Q0 Z p1 p2 p3 p4 p5 h0 n0) room_1.cells room_1.slots := by
    intro Tj9 Lj9 Xj9 ej9 Nj9 n hn0 hn1 hj
    refine own_pre (A := Tj9.setTop (mkF m 12 #[.val (.int p1), .val (.int p2), .val (.int p3), .val (.int p4), .val (.int p5), .val (.int n), .unset, .unset, .unset, .unset, .unset, .unset, .unset, .unset, .unset] [(.int (p2 &&& (1 : Int32)))])) (fun tt kt => ?_) ?_
    · show Steps p.tables e below (Tj9.setTop (mkF m 9 #[.val (.int p1), .val (.int p2), .val (.int p3), .val (.int p4), .val (.int p5), .val (.int n), .unset, .unset, .unset, .unset, .unset, .unset, .unset, .unset, .unset] [])) _
      refine XS.iloadN Xj9.here hx rfl (hb hby at_9) rfl ?_
      refine XS.iconst Xj9.here hx rfl (hb hby at_10) ?_
      refine XS.iand Xj9.here hx rfl (hb hby at_11) rfl ?_
      exact kt
    show own_End p e below s (Tj9.setTop (mkF m 12 #[.val (.int p1), .val (.int p2), .val (.int p3), .val (.int p4), .val (.int p5), .val (.int n), .unset, .unset, .unset, .unset, .unset, .unset, .unset, .unset, .unset] [(.int (p2 &&& (1 : Int32)))])) (Q0 Z p1 p2 p3 p4 p5 h0 n0) room_1.cells room_1.slots
    by_cases hc12_1 : (p2 &&& (1 : Int32)) = (0 : Int32)
    · refine own_pre (A := Tj9.setTop (mkF m 25 #[.val (.int p1), .val (.int p2), .val (.int p3), .val (.int p4), .val (.int p5), .val (.int n), .val (.int (0 : Int32)), .unset, .unset, .unset, .unset, .unset, .unset, .unset, .unset] [(.int (p2 &&& (2 : Int32)))])) (fun tt kt => ?_) ?_
      · show Steps p.tables e below (Tj9.setTop (mkF m 12 #[.val (.int p1), .val (.int p2), .val (.int p3), .val (.int p4), .val (.int p5), .val (.int n), .unset, .unset, .unset, .unset, .unset, .unset, .unset, .unset, .unset] [(.int (p2 &&& (1 : Int32)))])) _
        refine XS.ifYes Xj9.here hx rfl (pc0 := 12) (pc' := 19) rfl (hb hby at_12) rfl ((if0 _ _).trans (teq hc12_1).1) (by decide) (by decide) ?_
        refine XS.iconst Xj9.here hx rfl (hb hby at_19) ?_
        refine XS.istore Xj9.here hx rfl (hb hby at_20) rfl (l' := #[.val (.int p1), .val (.int p2), .val (.int p3), .val (.int p4), .val (.int p5), .val (.int n), .val (.int (0 : Int32)), .unset, .unset, .unset, .unset, .unset, .unset, .unset, .unset]) rfl ?_
        refine XS.iloadN Xj9.here hx rfl (hb hby at_22) rfl ?_
        refine XS.iconst Xj9.here hx rfl (hb hby at_23) ?_
        refine XS.iand Xj9.here hx rfl (hb hby at_24) rfl ?_
        exact kt
      show own_End p e below s (Tj9.setTop (mkF m 25 #[.val (.int p1), .val (.int p2), .val (.int p3), .val (.int p4), .val (.int p5), .val (.int n), .val (.int (0 : Int32)), .unset, .unset, .unset, .unset, .unset, .unset, .unset, .unset] [(.int (p2 &&& (2 : Int32)))])) (Q0 Z p1 p2 p3 p4 p5 h0 n0) room_1.cells room_1.slots
      by_cases hc25_2 : (p2 &&& (2 : Int32)) = (0 : Int32)
      · refine own_pre (A := Tj9.setTop (mkF m 38 #[.val (.int p1), .val (.int p2), .val (.int p3), .val (.int p4), .val (.int p5), .val (.int n), .val (.int (0 : Int32)), .val (.int (0 : Int32)), .unset, .unset, .unset, .unset, .unset, .unset, .unset] [(.int (p2 &&& (4 : Int32)))])) (fun tt kt => ?_) ?_
        · show Steps p.tables e below (Tj9.setTop (mkF m 25 #[.val (.int p1), .val (.int p2), .val (.int p3), .val (.int p4), .val (.int p5), .val (.int n), .val (.int (0 : Int32)), .unset, .unset, .unset, .unset, .unset, .unset, .unset, .unset] [(.int (p2 &&& (2 : Int32)))])) _
          refine XS.ifYes Xj9.here hx rfl (pc0 := 25) (pc' := 32) rfl (hb hby at_25) rfl ((if0 _ _).trans (teq hc25_2).1) (by decide) (by decide) ?_
          refine XS.iconst Xj9.here hx rfl (hb hby at_32) ?_
          refine XS.istore Xj9.here hx rfl (hb hby at_33) rfl (l' := #[.val (.int p1), .val (.int p2), .val (.int p3), .val (.int p4), .val (.int p5), .val (.int n), .val (.int (0 : Int32)), .val (.int (0 : Int32)), .unset, .unset, .unset, .unset, .unset, .unset, .unset]) rfl ?_
          refine XS.iloadN Xj9.here hx rfl (hb hby at_35) rfl ?_
          refine XS.iconst Xj9.here hx rfl (hb hby at_36) ?_
          refine XS.iand Xj9.here hx rfl (hb hby at_37) rfl ?_
          exact kt
        show own_End p e below s (Tj9.setTop (mkF m 38 #[.val (.int p1), .val (.int p2), .val (.int p3), .val (.int p4), .val (.int p5), .val (.int n), .val (.int (0 : Int32)), .val (.int (0 : Int32)), .unset, .unset, .unset, .unset, .unset, .unset, .unset] [(.int (p2 &&& (4 : Int32)))])) (Q0 Z p1 p2 p3 p4 p5 h0 n0) room_1.cells room_1.slots
        by_cases hc38_3 : (p2 &&& (4 : Int32)) = (0 : Int32)
        · refine own_pre (A := Tj9.setTop (mkF m 57 #[.val (.int p1), .val (.int p2), .val (.int p3), .val (.int p4), .val (.int p5), .val (.int n), .val (.int (0 : Int32)), .val (.int (0 : Int32)), .val (.int (0 : Int32)), .val (.int ((p3 &&& (2147483647 : Int32)) % n)), .unset, .unset, .unset, .unset, .unset] [])) (fun tt kt => ?_) ?_
          · show Steps p.tables e below (Tj9.setTop (mkF m 38 #[.val (.int p1), .val (.int p2), .val (.int p3), .val (.int p4), .val (.int p5), .val (.int n), .val (.int (0 : Int32)), .val (.int (0 : Int32)), .unset, .unset, .unset, .unset, .unset, .unset, .unset] [(.int (p2 &&& (4 : Int32)))])) _
            refine XS.ifYes Xj9.here hx rfl (pc0 := 38) (pc' := 45) rfl (hb hby at_38) rfl ((if0 _ _).trans (teq hc38_3).1) (by decide) (by decide) ?_
            refine XS.iconst Xj9.here hx rfl (hb hby at_45) ?_
            refine XS.istore Xj9.here hx rfl (hb hby at_46) rfl (l' := #[.val (.int p1), .val (.int p2), .val (.int p3), .val (.int p4), .val (.int p5), .val (.int n), .val (.int (0 : Int32)), .val (.int (0 : Int32)), .val (.int (0 : Int32)), .unset, .unset, .unset, .unset, .unset, .unset]) rfl ?_
            refine XS.iloadN Xj9.here hx rfl (hb hby at_48) rfl ?_
            show Steps p.tables e below (Tj9.setTop (mkF m 49 #[.val (.int p1), .val (.int p2), .val (.int p3), .val (.int p4), .val (.int p5), .val (.int n), .val (.int (0 : Int32)), .val (.int (0 : Int32)), .val (.int (0 : Int32)), .unset, .unset, .unset, .unset, .unset, .unset] [(.int p3)])) _
            refine Xj9.ldcInt hx hown (mvT hZ (hw _ (List.mem_of_getElem? (i := 0) rfl))) (g := (mkF m 49 #[.val (.int p1), .val (.int p2), .val (.int p3), .val (.int p4), .val (.int p5), .val (.int n), .val (.int (0 : Int32)), .val (.int (0 : Int32)), .val (.int (0 : Int32)), .unset, .unset, .unset, .unset, .unset, .unset] [(.int p3)])) rfl (hb hby at_49) _ ?_
            show Steps p.tables e below (Tj9.setTop (mkF m 51 #[.val (.int p1), .val (.int p2), .val (.int p3), .val (.int p4), .val (.int p5), .val (.int n), .val (.int (0 : Int32)), .val (.int (0 : Int32)), .val (.int (0 : Int32)), .unset, .unset, .unset, .unset, .unset, .unset] [(.int (2147483647 : Int32)), (.int p3)])) _
            refine XS.iand Xj9.here hx rfl (hb hby at_51) rfl ?_
            refine XS.iload Xj9.here hx rfl (hb hby at_52) rfl ?_
            refine iremM Xj9 hx rfl (hb hby at_54) rfl (own_nz hn0) ?_
            refine XS.istore Xj9.here hx rfl (hb hby at_55) rfl (l' := #[.val (.int p1), .val (.int p2), .val (.int p3), .val (.int p4), .val (.int p5), .val (.int n), .val (.int (0 : Int32)), .val (.int (0 : Int32)), .val (.int (0 : Int32)), .val (.int ((p3 &&& (2147483647 : Int32)) % n)), .unset, .unset, .unset, .unset, .unset]) rfl ?_
            exact kt
          show own_End p e below s (Tj9.setTop (mkF m 57 #[.val (.int p1), .val (.int p2), .val (.int p3), .val (.int p4), .val (.int p5), .val (.int n), .val (.int (0 : Int32)), .val (.int (0 : Int32)), .val (.int (0 : Int32)), .val (.int ((p3 &&& (2147483647 : Int32)) % n)), .unset, .unset, .unset, .unset, .unset] [])) (Q0 Z p1 p2 p3 p4 p5 h0 n0) room_1.cells room_1.slots
          have j57 : ∀ (Tj57 : State) (Lj57 : List Loc) (Xj57 : Stand p l e room_1 s m #[(.int p1), (.int p2), (.int p3), (.int p4), (.int p5)] below meth c Tj57 Lj57 0 0) (ej57 : Tj57.heap = h0) (Nj57 : Fr n0 Lj57) (xa : Int32) (hxa0 : 0 ≤ xa.toInt) (hxa1 : xa.toInt < n.toInt), own_law p1 p2 p3 p4 p5 = own_law_57 p1 p2 p3 p4 p5 n xa → own_End p e below s (Tj57.setTop (mkF m 57 #[.val (.int p1), .val (.int p2), .val (.int p3), .val (.int p4), .val (.int p5), .val (.int n), .val (.int (0 : Int32)), .val (.int (0 : Int32)), .val (.int (0 : Int32)), .val (.int xa), .unset, .unset, .unset, .unset, .unset] [])) (Q0 Z p1 p2 p3 p4 p5 h0 n0) room_1.cells room_1.slots := by
            intro Tj57 Lj57 Xj57 ej57 Nj57 xa hxa0 hxa1 hj
            refine own_pre (A := Tj57.setTop (mkF m 66 #[.val (.int p1), .val (.int p2), .val (.int p3), .val (.int p4), .val (.int p5), .val (.int n), .val (.int (0 : Int32)), .val (.int (0 : Int32)), .val (.int (0 : Int32)), .val (.int xa), .val (.int ((p4 &&& (2147483647 : Int32)) % n)), .unset, .unset, .unset, .unset] [])) (fun tt kt => ?_) ?_
            · show Steps p.tables e below (Tj57.setTop (mkF m 57 #[.val (.int p1), .val (.int p2), .val (.int p3), .val (.int p4), .val (.int p5), .val (.int n), .val (.int (0 : Int32)), .val (.int (0 : Int32)), .val (.int (0 : Int32)), .val (.int xa), .unset, .unset, .unset, .unset, .unset] [])) _
              refine XS.iloadN Xj57.here hx rfl (hb hby at_57) rfl ?_
              show Steps p.tables e below (Tj57.setTop (mkF m 58 #[.val (.int p1), .val (.int p2), .val (.int p3), .val (.int p4), .val (.int p5), .val (.int n), .val (.int (0 : Int32)), .val (.int (0 : Int32)), .val (.int (0 : Int32)), .val (.int xa), .unset, .unset, .unset, .unset, .unset] [(.int p4)])) _
              refine Xj57.ldcInt hx hown (mvT hZ (hw _ (List.mem_of_getElem? (i := 0) rfl))) (g := (mkF m 58 #[.val (.int p1), .val (.int p2), .val (.int p3), .val (.int p4), .val (.int p5), .val (.int n), .val (.int (0 : Int32)), .val (.int (0 : Int32)), .val (.int (0 : Int32)), .val (.int xa), .unset, .unset, .unset, .unset, .unset] [(.int p4)])) rfl (hb hby at_58) _ ?_
              show Steps p.tables e below (Tj57.setTop (mkF m 60 #[.val (.int p1), .val (.int p2), .val (.int p3), .val (.int p4), .val (.int p5), .val (.int n), .val (.int (0 : Int32)), .val (.int (0 : Int32)), .val (.int (0 : Int32)), .val (.int xa), .unset, .unset, .unset, .unset, .unset] [(.int (2147483647 : Int32)), (.int p4)])) _
              refine XS.iand Xj57.here hx rfl (hb hby at_60) rfl ?_
              refine XS.iload Xj57.here hx rfl (hb hby at_61) rfl ?_
              refine iremM Xj57 hx rfl (hb hby at_63) rfl (own_nz hn0) ?_
              refine XS.istore Xj57.here hx rfl (hb hby at_64) rfl (l' := #[.val (.int p1), .val (.int p2), .val (.int p3), .val (.int p4), .val (.int p5), .val (.int n), .val (.int (0 : Int32)), .val (.int (0 : Int32)), .val (.int (0 : Int32)), .val (.int xa), .val (.int ((p4 &&& (2147483647 : Int32)) % n)), .unset, .unset, .unset, .unset]) rfl ?_
              exact kt
            show own_End p e below s (Tj57.setTop (mkF m 66 #[.val (.int p1), .val (.int p2), .val (.int p3), .val (.int p4), .val (.int p5), .val (.int n), .val (.int (0 : Int32)), .val (.int (0 : Int32)), .val (.int (0 : Int32)), .val (.int xa), .val (.int ((p4 &&& (2147483647 : Int32)) % n)), .unset, .unset, .unset, .unset] [])) (Q0 Z p1 p2 p3 p4 p5 h0 n0) room_1.cells room_1.slots
            have j66 : ∀ (Tj66 : State) (Lj66 : List Loc) (Xj66 : Stand p l e room_1 s m #[(.int p1), (.int p2), (.int p3), (.int p4), (.int p5)] below meth c Tj66 Lj66 0 0) (ej66 : Tj66.heap = h0) (Nj66 : Fr n0 Lj66) (xb : Int32) (hxb0 : 0 ≤ xb.toInt) (hxb1 : xb.toInt < n.toInt), own_law p1 p2 p3 p4 p5 = own_law_66 p1 p2 p3 p4 p5 n xa xb → own_End p e below s (Tj66.setTop (mkF m 66 #[.val (.int p1), .val (.int p2), .val (.int p3), .val (.int p4), .val (.int p5), .val (.int n), .val (.int (0 : Int32)), .val (.int (0 : Int32)), .val (.int (0 : Int32)), .val (.int xa), .val (.int xb), .unset, .unset, .unset, .unset] [])) (Q0 Z p1 p2 p3 p4 p5 h0 n0) room_1.cells room_1.slots := by
              intro Tj66 Lj66 Xj66 ej66 Nj66 xb hxb0 hxb1 hj
              refine own_pre (A := Tj66.setTop (mkF m 76 #[.val (.int p1), .val (.int p2), .val (.int p3), .val (.int p4), .val (.int p5), .val (.int n), .val (.int (0 : Int32)), .val (.int (0 : Int32)), .val (.int (0 : Int32)), .val (.int xa), .val (.int xb), .val (.int ((p5 &&& (2147483647 : Int32)) % n)), .unset, .unset, .unset] [])) (fun tt kt => ?_) ?_
              · show Steps p.tables e below (Tj66.setTop (mkF m 66 #[.val (.int p1), .val (.int p2), .val (.int p3), .val (.int p4), .val (.int p5), .val (.int n), .val (.int (0 : Int32)), .val (.int (0 : Int32)), .val (.int (0 : Int32)), .val (.int xa), .val (.int xb), .unset, .unset, .unset, .unset] [])) _
                refine XS.iload Xj66.here hx rfl (hb hby at_66) rfl ?_
                show Steps p.tables e below (Tj66.setTop (mkF m 68 #[.val (.int p1), .val (.int p2), .val (.int p3), .val (.int p4), .val (.int p5), .val (.int n), .val (.int (0 : Int32)), .val (.int (0 : Int32)), .val (.int (0 : Int32)), .val (.int xa), .val (.int xb), .unset, .unset, .unset, .unset] [(.int p5)])) _
                refine Xj66.ldcInt hx hown (mvT hZ (hw _ (List.mem_of_getElem? (i := 0) rfl))) (g := (mkF m 68 #[.val (.int p1), .val (.int p2), .val (.int p3), .val (.int p4), .val (.int p5), .val (.int n), .val (.int (0 : Int32)), .val (.int (0 : Int32)), .val (.int (0 : Int32)), .val (.int xa), .val (.int xb), .unset, .unset, .unset, .unset] [(.int p5)])) rfl (hb hby at_68) _ ?_
                show Steps p.tables e below (Tj66.setTop (mkF m 70 #[.val (.int p1), .val (.int p2), .val (.int p3), .val (.int p4), .val (.int p5), .val (.int n), .val (.int (0 : Int32)), .val (.int (0 : Int32)), .val (.int (0 : Int32)), .val (.int xa), .val (.int xb), .unset, .unset, .unset, .unset] [(.int (2147483647 : Int32)), (.int p5)])) _
                refine XS.iand Xj66.here hx rfl (hb hby at_70) rfl ?_
                refine XS.iload Xj66.here hx rfl (hb hby at_71) rfl ?_
                refine iremM Xj66 hx rfl (hb hby at_73) rfl (own_nz hn0) ?_
                refine XS.istore Xj66.here hx rfl (hb hby at_74) rfl (l' := #[.val (.int p1), .val (.int p2), .val (.int p3), .val (.int p4), .val (.int p5), .val (.int n), .val (.int (0 : Int32)), .val (.int (0 : Int32)), .val (.int (0 : Int32)), .val (.int xa), .val (.int xb), .val (.int ((p5 &&& (2147483647 : Int32)) % n)), .unset, .unset, .unset]) rfl ?_
                exact kt
              show own_End p e below s (Tj66.setTop (mkF m 76 #[.val (.int p1), .val (.int p2), .val (.int p3), .val (.int p4), .val (.int p5), .val (.int n), .val (.int (0 : Int32)), .val (.int (0 : Int32)), .val (.int (0 : Int32)), .val (.int xa), .val (.int xb), .val (.int ((p5 &&& (2147483647 : Int32)) % n)), .unset, .unset, .unset] [])) (Q0 Z p1 p2 p3 p4 p5 h0 n0) room_1.cells room_1.slots
              have j76 : ∀ (Tj76 : State) (Lj76 : List Loc) (Xj76 : Stand p l e room_1 s m #[(.int p1), (.int p2), (.int p3), (.int p4), (.int p5)] below meth c Tj76 Lj76 0 0) (ej76 : Tj76.heap = h0) (Nj76 : Fr n0 Lj76) (xq : Int32) (hxq0 : 0 ≤ xq.toInt) (hxq1 : xq.toInt < n.toInt), own_law p1 p2 p3 p4 p5 = own_law_76 p1 p2 p3 p4 p5 n xa xb xq → own_End p e below s (Tj76.setTop (mkF m 76 #[.val (.int p1), .val (.int p2), .val (.int p3), .val (.int p4), .val (.int p5), .val (.int n), .val (.int (0 : Int32)), .val (.int (0 : Int32)), .val (.int (0 : Int32)), .val (.int xa), .val (.int xb), .val (.int xq), .unset, .unset, .unset] [])) (Q0 Z p1 p2 p3 p4 p5 h0 n0) room_1.cells room_1.slots := by
                intro Tj76 Lj76 Xj76 ej76 Nj76 xq hxq0 hxq1 hj
                obtain ⟨T4, h4, X4, e4, E4, A4, D4, -, st4⟩ := newO Xj76 hx hZ hown (hw _ (List.mem_of_getElem? (i := 1) rfl)) (hw _ (List.mem_of_getElem? (i := 2) rfl)) (hw _ (List.mem_of_getElem? (i := 3) rfl)) ej76 (g := (mkF m 76 #[.val (.int p1), .val (.int p2), .val (.int p3), .val (.int p4), .val (.int p5), .val (.int n), .val (.int (0 : Int32)), .val (.int (0 : Int32)), .val (.int (0 : Int32)), .val (.int xa), .val (.int xb), .val (.int xq), .unset, .unset, .unset] [])) rfl (hb hby at_76) (by decide) (by decide)
                obtain ⟨b4, g4⟩ : ∃ z, z = h0.size := ⟨_, rfl⟩
                rw [← g4] at A4 D4 st4
                have g_b4 : n0 ≤ b4 := Nat.le_trans Z0 (Nat.le_of_eq g4.symm)
                have sz_b4 : h0.size ≤ b4 := Nat.le_trans (show Keep h0 h0 [] from (Keep.refl h0 _)).1 (Nat.le_of_eq g4.symm)
                have K4 : Keep h0 h4 [] := Keep.ext (Keep.refl h0 _) E4
                have Z4 : n0 ≤ h4.size := Nat.le_trans Z0 E4.1
                have F_stamp_b4 : Fld Z h4 b4 "com/example/libfacet/libfacet/regex/StateSet" "stamp" "I" (.int (0 : Int32)) := D4 (Or.inl (hw _ (List.mem_of_getElem? (i := 11) rfl))) (ty := .int) (by decide)
                have F_stack_b4 : Fld Z h4 b4 "com/example/libfacet/libfacet/regex/StateSet" "stack" "[I" .null := D4 (Or.inl (hw _ (List.mem_of_getElem? (i := 14) rfl))) (ty := (.array .int)) (by decide)
                have F_instructions_b4 : Fld Z h4 b4 "com/example/libfacet/libfacet/regex/StateSet" "instructions" "I" (.int (0 : Int32)) := D4 (Or.inr (hw _ (List.mem_of_getElem? (i := 16) rfl))) (ty := .int) (by decide)
                have F_members_b4 : Fld Z h4 b4 "com/example/libfacet/libfacet/regex/StateSet" "members" "[I" .null := D4 (Or.inl (hw _ (List.mem_of_getElem? (i := 18) rfl))) (ty := (.array .int)) (by decide)
                have F_marks_b4 : Fld Z h4 b4 "com/example/libfacet/libfacet/regex/StateSet" "marks" "[C" .null := D4 (Or.inr (hw _ (List.mem_of_getElem? (i := 20) rfl))) (ty := (.array .char)) (by decide)
                have F_markBits_b4 : Fld Z h4 b4 "com/example/libfacet/libfacet/regex/StateSet" "markBits" "[J" .null := D4 (Or.inr (hw _ (List.mem_of_getElem? (i := 23) rfl))) (ty := (.array .long)) (by decide)
                have F_marked_b4 : Fld Z h4 b4 "com/example/libfacet/libfacet/regex/StateSet" "marked" "[I" .null := D4 (Or.inl (hw _ (List.mem_of_getElem? (i := 25) rfl))) (ty := (.array .int)) (by decide)
                have F_markedCount_b4 : Fld Z h4 b4 "com/example/libfacet/libfacet/regex/StateSet" "markedCount" "I" (.int (0 : Int32)) := D4 (Or.inl (hw _ (List.mem_of_getElem? (i := 37) rfl))) (ty := .int) (by decide)
                have F_size_b4 : Fld Z h4 b4 "com/example/libfacet/libfacet/regex/StateSet" "size" "I" (.int (0 : Int32)) := D4 (Or.inl (hw _ (List.mem_of_getElem? (i := 44) rfl))) (ty := .int) (by decide)
                obtain ⟨_, _, ⟨T5, L5, k5, n5⟩, -, X5, ⟨Lc5, hQ5, l5, y5, z5⟩, st5⟩ := X4.specialBack hx (y := (⟨"com/example/libfacet/libfacet/regex/StateSet", "<init>", "(IZ)V"⟩ : MethodName)) rfl hown (mvT hZ (hw _ (List.mem_of_getElem? (i := 4) rfl))) (mvT hZ (hw _ (List.mem_of_getElem? (i := 5) rfl))) (mvT hZ (hw _ (List.mem_of_getElem? (i := 6) rfl))) (by decide) (backOf (W := 1) (rm1N l Z a0 hw [] b4 n (0 : Int32) (0 : Int32) (0 : Int32) (0 : Int32) h4 n0 Z4 ⟨A4, F_stamp_b4, F_stack_b4, F_instructions_b4, F_members_b4, F_marks_b4, F_markBits_b4, F_marked_b4, F_markedCount_b4, F_size_b4⟩ g_b4 hn0 hn1) hZ (hw _ (List.mem_of_getElem? (i := 6) rfl)) (hw _ (List.mem_of_getElem? (i := 3) rfl)) (by decide) (by decide)) (g := (mkF m 84 #[.val (.int p1), .val (.int p2), .val (.int p3), .val (.int p4), .val (.int p5), .val (.int n), .val (.int (0 : Int32)), .val (.int (0 : Int32)), .val (.int (0 : Int32)), .val (.int xa), .val (.int xb), .val (.int xq), .unset, .unset, .unset] [(.int (0 : Int32)), (.int n), (.ref b4), (.ref b4)])) rfl (by rw [hml]; rfl) (Steps.refl _) (a := b4) (argsL := [(.int n), (.int (0 : Int32))]) (rest := [(.ref b4)]) (lenOf pd_0_0 rfl) rfl (by show 2 * 0 + _ ≤ _; exact Nat.le_of_eq rfl) (hb hby at_84) (fun _ _ => ⟨rfl, e4, (by decide : 1 + 3 ≤ _), (by decide : 10 + 288 ≤ _)⟩)
                dsimp only [Pt.U, Pt.locs, Pt.cells, Pt.slots] at X5 l5 y5 z5 st5 hQ5
                subst l5 y5 z5
                obtain ⟨rfl, N5q, c5_ak, Kq5, O5_0, szq_c5_ak, P5_ak_0⟩ := hQ5
                have ne_b4_c5_ak : b4 ≠ c5_ak := Nat.ne_of_lt (Nat.lt_of_lt_of_le A4.lt szq_c5_ak)
                have g_c5_ak : n0 ≤ c5_ak := Nat.le_trans Z4 szq_c5_ak
                have sz_c5_ak : h0.size ≤ c5_ak := Nat.le_trans (show Keep h0 h4 [] from K4).1 szq_c5_ak
                have N5 := Fr.app Nj76 N5q
                have fE_b4_x5 := (A4.keep Kq5)
                have K5 : Keep h0 T5.heap [] := Keep.trans K4 Kq5 (allS (Or.inr sz_b4) all0)
                have Z5 : n0 ≤ T5.heap.size := Nat.le_trans Z4 Kq5.1
                obtain ⟨E_b4_6, F_stamp_b4_7, F_marks_b4_8, F_markBits_b4_9, F_marked_b4_10, F_markedCount_b4_11, F_size_b4_12⟩ := O5_0
                obtain ⟨cq13, kq13, q13a, q13b, q13c⟩ := isOf hZ rfl E_b4_6
                obtain ⟨_, _, ⟨T13, L13, k13, n13⟩, -, X13, ⟨Lc13, hQ13, l13, y13, z13⟩, st13⟩ := X5.virtualBack hx (y := (⟨"com/example/libfacet/libfacet/regex/StateSet", "isMarked", "(I)Z"⟩ : MethodName)) (z := (⟨"com/example/libfacet/libfacet/regex/StateSet", "isMarked", "(I)Z"⟩ : MethodName)) hown (mvT hZ (hw _ (List.mem_of_getElem? (i := 26) rfl))) (mvT hZ (hw _ (List.mem_of_getElem? (i := 27) rfl))) (notFace_of_selects (args := #[]) (mvT hZ (hw _ (List.mem_of_getElem? (i := 29) rfl)))) (mvT hZ (hw _ (List.mem_of_getElem? (i := 29) rfl))) (mvT hZ (hw _ (List.mem_of_getElem? (i := 28) rfl))) (by decide) (backOf (W := 0) (rm3N l Z a0 hw [] b4 xq (1 : Int32) c5_ak (0 : Int32) (0 : Int32) (fun _ => (0 : Int32)) n T5.heap n0 Z5 ⟨E_b4_6, F_stamp_b4_7, F_marks_b4_8, F_markBits_b4_9, F_marked_b4_10, F_markedCount_b4_11, F_size_b4_12⟩ P5_ak_0 hxq0 hxq1) hZ (hw _ (List.mem_of_getElem? (i := 30) rfl)) (hw _ (List.mem_of_getElem? (i := 3) rfl)) (by decide) (by decide)) q13a q13c (g := (mkF m 93 #[.val (.int p1), .val (.int p2), .val (.int p3), .val (.int p4), .val (.int p5), .val (.int n), .val (.int (0 : Int32)), .val (.int (0 : Int32)), .val (.int (0 : Int32)), .val (.int xa), .val (.int xb), .val (.int xq), .val (.ref b4), .unset, .unset] [(.int xq), (.ref b4)])) rfl (by rw [hml]; rfl) (Steps.refl _) (argsL := [(.int xq)]) (rest := []) (lenOf pd_0_1 rfl) rfl (by show 2 * 0 + _ ≤ _; exact Nat.le_of_eq rfl) (hb hby at_93) (fun _ _ => ⟨rfl, rfl, (by decide : 4 + 0 ≤ _), (by decide : 298 + 0 ≤ _)⟩)
                dsimp only [Pt.U, Pt.locs, Pt.cells, Pt.slots] at X13 l13 y13 z13 st13 hQ13
                subst l13 y13 z13
                obtain ⟨rfl, N13q, e13⟩ := hQ13
                have N13 := Fr.app N5 N13q
                refine own_pre (A := T13.setTop (mkF m 96 #[.val (.int p1), .val (.int p2), .val (.int p3), .val (.int p4), .val (.int p5), .val (.int n), .val (.int (0 : Int32)), .val (.int (0 : Int32)), .val (.int (0 : Int32)), .val (.int xa), .val (.int xb), .val (.int xq), .val (.ref b4), .unset, .unset] [(.int (own_isN xq (fun _ => (0 : Int32)) n (1 : Int32) (0 : Int32) (0 : Int32)))])) (fun tt kt => ?_) ?_
                · show Steps p.tables e below (Tj76.setTop (mkF m 76 #[.val (.int p1), .val (.int p2), .val (.int p3), .val (.int p4), .val (.int p5), .val (.int n), .val (.int (0 : Int32)), .val (.int (0 : Int32)), .val (.int (0 : Int32)), .val (.int xa), .val (.int xb), .val (.int xq), .unset, .unset, .unset] [])) _
                  refine st4 _ ?_
                  show Steps p.tables e below (T4.setTop (mkF m 79 #[.val (.int p1), .val (.int p2), .val (.int p3), .val (.int p4), .val (.int p5), .val (.int n), .val (.int (0 : Int32)), .val (.int (0 : Int32)), .val (.int (0 : Int32)), .val (.int xa), .val (.int xb), .val (.int xq), .unset, .unset, .unset] [(.ref b4)])) _
                  refine XS.dup X4.here hx rfl (hb hby at_79) rfl rfl ?_
                  refine XS.iload X4.here hx rfl (hb hby at_80) rfl ?_
                  refine XS.iload X4.here hx rfl (hb hby at_82) rfl ?_
                  show Steps p.tables e below (T4.setTop (mkF m 84 #[.val (.int p1), .val (.int p2), .val (.int p3), .val (.int p4), .val (.int p5), .val (.int n), .val (.int (0 : Int32)), .val (.int (0 : Int32)), .val (.int (0 : Int32)), .val (.int xa), .val (.int xb), .val (.int xq), .unset, .unset, .unset] [(.int (0 : Int32)), (.int n), (.ref b4), (.ref b4)])) _
                  refine st5.trans ?_
                  show Steps p.tables e below (T5.setTop (mkF m 87 #[.val (.int p1), .val (.int p2), .val (.int p3), .val (.int p4), .val (.int p5), .val (.int n), .val (.int (0 : Int32)), .val (.int (0 : Int32)), .val (.int (0 : Int32)), .val (.int xa), .val (.int xb), .val (.int xq), .unset, .unset, .unset] [(.ref b4)])) _
                  refine XS.astore X5.here hx rfl (hb hby at_87) rfl rfl (l' := #[.val (.int p1), .val (.int p2), .val (.int p3), .val (.int p4), .val (.int p5), .val (.int n), .val (.int (0 : Int32)), .val (.int (0 : Int32)), .val (.int (0 : Int32)), .val (.int xa), .val (.int xb), .val (.int xq), .val (.ref b4), .unset, .unset]) rfl ?_
                  refine XS.aload X5.here hx rfl (hb hby at_89) rfl rfl ?_
                  refine XS.iload X5.here hx rfl (hb hby at_91) rfl ?_
                  show Steps p.tables e below (T5.setTop (mkF m 93 #[.val (.int p1), .val (.int p2), .val (.int p3), .val (.int p4), .val (.int p5), .val (.int n), .val (.int (0 : Int32)), .val (.int (0 : Int32)), .val (.int (0 : Int32)), .val (.int xa), .val (.int xb), .val (.int xq), .val (.ref b4), .unset, .unset] [(.int xq), (.ref b4)])) _
                  refine st13.trans ?_
                  exact kt
                show own_End p e below s (T13.setTop (mkF m 96 #[.val (.int p1), .val (.int p2), .val (.int p3), .val (.int p4), .val (.int p5), .val (.int n), .val (.int (0 : Int32)), .val (.int (0 : Int32)), .val (.int (0 : Int32)), .val (.int xa), .val (.int xb), .val (.int xq), .val (.ref b4), .unset, .unset] [(.int (own_isN xq (fun _ => (0 : Int32)) n (1 : Int32) (0 : Int32) (0 : Int32)))])) (Q0 Z p1 p2 p3 p4 p5 h0 n0) room_1.cells room_1.slots
                have j104 : ∀ (Tj104 : State) (Lj104 : List Loc) (Xj104 : Stand p l e room_1 s m #[(.int p1), (.int p2), (.int p3), (.int p4), (.int p5)] below meth c Tj104 Lj104 4 298) (ej104 : Tj104.heap = T5.heap) (Nj104 : Fr n0 Lj104) (ok1 : Int32) , own_law p1 p2 p3 p4 p5 = own_law_104 p1 p2 p3 p4 p5 n xa xb xq ok1 → own_End p e below s (Tj104.setTop (mkF m 104 #[.val (.int p1), .val (.int p2), .val (.int p3), .val (.int p4), .val (.int p5), .val (.int n), .val (.int (0 : Int32)), .val (.int (0 : Int32)), .val (.int (0 : Int32)), .val (.int xa), .val (.int xb), .val (.int xq), .val (.ref b4), .unset, .unset] [(.int ok1)])) (Q0 Z p1 p2 p3 p4 p5 h0 n0) room_1.cells room_1.slots := by
                  intro Tj104 Lj104 Xj104 ej104 Nj104 ok1  hj
                  obtain ⟨cq14, kq14, q14a, q14b, q14c⟩ := isOf hZ ej104 E_b4_6
                  obtain ⟨_, _, ⟨T14, L14, k14, n14⟩, -, X14, ⟨Lc14, hQ14, l14, y14, z14⟩, st14⟩ := Xj104.virtualBack hx (y := (⟨"com/example/libfacet/libfacet/regex/StateSet", "mark", "(I)Z"⟩ : MethodName)) (z := (⟨"com/example/libfacet/libfacet/regex/StateSet", "mark", "(I)Z"⟩ : MethodName)) hown (mvT hZ (hw _ (List.mem_of_getElem? (i := 31) rfl))) (mvT hZ (hw _ (List.mem_of_getElem? (i := 32) rfl))) (notFace_of_selects (args := #[]) (mvT hZ (hw _ (List.mem_of_getElem? (i := 34) rfl)))) (mvT hZ (hw _ (List.mem_of_getElem? (i := 34) rfl))) (mvT hZ (hw _ (List.mem_of_getElem? (i := 33) rfl))) (by decide) (backOf (W := 0) (rm4N l Z a0 hw [] b4 xa (1 : Int32) c5_ak (0 : Int32) (0 : Int32) (fun _ => (0 : Int32)) n T5.heap n0 Z5 ⟨E_b4_6, F_stamp_b4_7, F_marks_b4_8, F_markBits_b4_9, F_marked_b4_10, F_markedCount_b4_11, F_size_b4_12⟩ P5_ak_0 ne_b4_c5_ak g_c5_ak hxa0 hxa1) hZ (hw _ (List.mem_of_getElem? (i := 35) rfl)) (hw _ (List.mem_of_getElem? (i := 3) rfl)) (by decide) (by decide)) q14a q14c (g := (mkF m 110 #[.val (.int p1), .val (.int p2), .val (.int p3), .val (.int p4), .val (.int p5), .val (.int n), .val (.int (0 : Int32)), .val (.int (0 : Int32)), .val (.int (0 : Int32)), .val (.int xa), .val (.int xb), .val (.int xq), .val (.ref b4), .val (.int ok1), .unset] [(.int xa), (.ref b4)])) rfl (by rw [hml]; rfl) (Steps.refl _) (argsL := [(.int xa)]) (rest := []) (lenOf pd_0_1 rfl) rfl (by show 2 * 0 + _ ≤ _; exact Nat.le_of_eq rfl) (hb hby at_110) (fun _ _ => ⟨rfl, ej104, (by decide : 4 + 0 ≤ _), (by decide : 298 + 0 ≤ _)⟩)
                  dsimp only [Pt.U, Pt.locs, Pt.cells, Pt.slots] at X14 l14 y14 z14 st14 hQ14
                  subst l14 y14 z14
                  obtain ⟨rfl, N14q, Kq14, V14_0⟩ := hQ14
                  have N14 := Fr.app Nj104 N14q
                  have fE_b4_x14 := (E_b4_6.keep Kq14)
                  have fF_b4_stamp_x14 := (F_stamp_b4_7.keep Kq14 (ninS ne_b4_c5_ak nin0))
                  have fF_b4_marks_x14 := (F_marks_b4_8.keep Kq14 (ninS ne_b4_c5_ak nin0))
                  have fF_b4_markBits_x14 := (F_markBits_b4_9.keep Kq14 (ninS ne_b4_c5_ak nin0))
                  have fF_b4_marked_x14 := (F_marked_b4_10.keep Kq14 (ninS ne_b4_c5_ak nin0))
                  have fF_b4_markedCount_x14 := (F_markedCount_b4_11.keep Kq14 (ninS ne_b4_c5_ak nin0))
                  have fF_b4_size_x14 := (F_size_b4_12.keep Kq14 (ninS ne_b4_c5_ak nin0))
                  have K14 : Keep h0 T14.heap [] := Keep.trans K5 Kq14 (allS (Or.inr sz_c5_ak) all0)
                  have Z14 : n0 ≤ T14.heap.size := Nat.le_trans Z5 Kq14.1
                  refine own_pre (A := T14.setTop (mkF m 116 #[.val (.int p1), .val (.int p2), .val (.int p3), .val (.int p4), .val (.int p5), .val (.int n), .val (.int (0 : Int32)), .val (.int (0 : Int32)), .val (.int (0 : Int32)), .val (.int xa), .val (.int xb), .val (.int xq), .val (.ref b4), .val (.int ok1), .unset] [(.int ok1)])) (fun tt kt => ?_) ?_
                  · show Steps p.tables e below (Tj104.setTop (mkF m 104 #[.val (.int p1), .val (.int p2), .val (.int p3), .val (.int p4), .val (.int p5), .val (.int n), .val (.int (0 : Int32)), .val (.int (0 : Int32)), .val (.int (0 : Int32)), .val (.int xa), .val (.int xb), .val (.int xq), .val (.ref b4), .unset, .unset] [(.int ok1)])) _
                    refine XS.istore Xj104.here hx rfl (hb hby at_104) rfl (l' := #[.val (.int p1), .val (.int p2), .val (.int p3), .val (.int p4), .val (.int p5), .val (.int n), .val (.int (0 : Int32)), .val (.int (0 : Int32)), .val (.int (0 : Int32)), .val (.int xa), .val (.int xb), .val (.int xq), .val (.ref b4), .val (.int ok1), .unset]) rfl ?_
                    refine XS.aload Xj104.here hx rfl (hb hby at_106) rfl rfl ?_
                    refine XS.iload Xj104.here hx rfl (hb hby at_108) rfl ?_
                    show Steps p.tables e below (Tj104.setTop (mkF m 110 #[.val (.int p1), .val (.int p2), .val (.int p3), .val (.int p4), .val (.int p5), .val (.int n), .val (.int (0 : Int32)), .val (.int (0 : Int32)), .val (.int (0 : Int32)), .val (.int xa), .val (.int xb), .val (.int xq), .val (.ref b4), .val (.int ok1), .unset] [(.int xa), (.ref b4)])) _
                    refine st14.trans ?_
                    show Steps p.tables e below (T14.setTop (mkF m 113 #[.val (.int p1), .val (.int p2), .val (.int p3), .val (.int p4), .val (.int p5), .val (.int n), .val (.int (0 : Int32)), .val (.int (0 : Int32)), .val (.int (0 : Int32)), .val (.int xa), .val (.int xb), .val (.int xq), .val (.ref b4), .val (.int ok1), .unset] [(.int (own_markN xa (fun _ => (0 : Int32)) n (1 : Int32) (0 : Int32) (0 : Int32)))])) _
                    refine XS.pop X14.here hx rfl (hb hby at_113) rfl rfl ?_
                    refine XS.iload X14.here hx rfl (hb hby at_114) rfl ?_
                    exact kt
                  show own_End p e below s (T14.setTop (mkF m 116 #[.val (.int p1), .val (.int p2), .val (.int p3), .val (.int p4), .val (.int p5), .val (.int n), .val (.int (0 : Int32)), .val (.int (0 : Int32)), .val (.int (0 : Int32)), .val (.int xa), .val (.int xb), .val (.int xq), .val (.ref b4), .val (.int ok1), .unset] [(.int ok1)])) (Q0 Z p1 p2 p3 p4 p5 h0 n0) room_1.cells room_1.slots
                  have j134 : ∀ (Tj134 : State) (Lj134 : List Loc) (Xj134 : Stand p l e room_1 s m #[(.int p1), (.int p2), (.int p3), (.int p4), (.int p5)] below meth c Tj134 Lj134 4 298) (ej134 : Tj134.heap = T14.heap) (Nj134 : Fr n0 Lj134) (ok2 : Int32) , own_law p1 p2 p3 p4 p5 = own_law_134 p1 p2 p3 p4 p5 n xa xb xq ok1 ok2 → own_End p e below s (Tj134.setTop (mkF m 134 #[.val (.int p1), .val (.int p2), .val (.int p3), .val (.int p4), .val (.int p5), .val (.int n), .val (.int (0 : Int32)), .val (.int (0 : Int32)), .val (.int (0 : Int32)), .val (.int xa), .val (.int xb), .val (.int xq), .val (.ref b4), .val (.int ok1), .unset] [(.int ok2)])) (Q0 Z p1 p2 p3 p4 p5 h0 n0) room_1.cells room_1.slots := by
                    intro Tj134 Lj134 Xj134 ej134 Nj134 ok2  hj
                    obtain ⟨cq15, kq15, q15a, q15b, q15c⟩ := isOf hZ ej134 fE_b4_x14
                    obtain ⟨_, _, ⟨T15, L15, k15, n15⟩, -, X15, ⟨Lc15, hQ15, l15, y15, z15⟩, st15⟩ := Xj134.virtualBack hx (y := (⟨"com/example/libfacet/libfacet/regex/StateSet", "mark", "(I)Z"⟩ : MethodName)) (z := (⟨"com/example/libfacet/libfacet/regex/StateSet", "mark", "(I)Z"⟩ : MethodName)) hown (mvT hZ (hw _ (List.mem_of_getElem? (i := 31) rfl))) (mvT hZ (hw _ (List.mem_of_getElem? (i := 32) rfl))) (notFace_of_selects (args := #[]) (mvT hZ (hw _ (List.mem_of_getElem? (i := 34) rfl)))) (mvT hZ (hw _ (List.mem_of_getElem? (i := 34) rfl))) (mvT hZ (hw _ (List.mem_of_getElem? (i := 33) rfl))) (by decide) (backOf (W := 0) (rm4N l Z a0 hw [] b4 xb (1 : Int32) c5_ak (0 : Int32) (0 : Int32) (own_put (fun _ => (0 : Int32)) xa (own_ch (1 : Int32))) n T14.heap n0 Z14 ⟨fE_b4_x14, fF_b4_stamp_x14, fF_b4_marks_x14, fF_b4_markBits_x14, fF_b4_marked_x14, fF_b4_markedCount_x14, fF_b4_size_x14⟩ V14_0 ne_b4_c5_ak g_c5_ak hxb0 hxb1) hZ (hw _ (List.mem_of_getElem? (i := 35) rfl)) (hw _ (List.mem_of_getElem? (i := 3) rfl)) (by decide) (by decide)) q15a q15c (g := (mkF m 150 #[.val (.int p1), .val (.int p2), .val (.int p3), .val (.int p4), .val (.int p5), .val (.int n), .val (.int (0 : Int32)), .val (.int (0 : Int32)), .val (.int (0 : Int32)), .val (.int xa), .val (.int xb), .val (.int xq), .val (.ref b4), .val (.int ok2), .unset] [(.int xb), (.ref b4)])) rfl (by rw [hml]; rfl) (Steps.refl _) (argsL := [(.int xb)]) (rest := []) (lenOf pd_0_1 rfl) rfl (by show 2 * 0 + _ ≤ _; exact Nat.le_of_eq rfl) (hb hby at_150) (fun _ _ => ⟨rfl, ej134, (by decide : 4 + 0 ≤ _), (by decide : 298 + 0 ≤ _)⟩)
                    dsimp only [Pt.U, Pt.locs, Pt.cells, Pt.slots] at X15 l15 y15 z15 st15 hQ15
                    subst l15 y15 z15
                    obtain ⟨rfl, N15q, Kq15, V15_0⟩ := hQ15
                    have N15 := Fr.app Nj134 N15q
                    have fE_b4_x15 := (fE_b4_x14.keep Kq15)
                    have fF_b4_stamp_x15 := (fF_b4_stamp_x14.keep Kq15 (ninS ne_b4_c5_ak nin0))
                    have fF_b4_marks_x15 := (fF_b4_marks_x14.keep Kq15 (ninS ne_b4_c5_ak nin0))
                    have fF_b4_markBits_x15 := (fF_b4_markBits_x14.keep Kq15 (ninS ne_b4_c5_ak nin0))
                    have fF_b4_marked_x15 := (fF_b4_marked_x14.keep Kq15 (ninS ne_b4_c5_ak nin0))
                    have fF_b4_markedCount_x15 := (fF_b4_markedCount_x14.keep Kq15 (ninS ne_b4_c5_ak nin0))
                    have fF_b4_size_x15 := (fF_b4_size_x14.keep Kq15 (ninS ne_b4_c5_ak nin0))
                    have K15 : Keep h0 T15.heap [] := Keep.trans K14 Kq15 (allS (Or.inr sz_c5_ak) all0)
                    have Z15 : n0 ≤ T15.heap.size := Nat.le_trans Z14 Kq15.1
                    refine own_pre (A := T15.setTop (mkF m 173 #[.val (.int p1), .val (.int p2), .val (.int p3), .val (.int p4), .val (.int p5), .val (.int n), .val (.int (0 : Int32)), .val (.int (0 : Int32)), .val (.int (0 : Int32)), .val (.int xa), .val (.int xb), .val (.int xq), .val (.ref b4), .val (.int ok2), .unset] [(.int xb), (.int xq)])) (fun tt kt => ?_) ?_
                    · show Steps p.tables e below (Tj134.setTop (mkF m 134 #[.val (.int p1), .val (.int p2), .val (.int p3), .val (.int p4), .val (.int p5), .val (.int n), .val (.int (0 : Int32)), .val (.int (0 : Int32)), .val (.int (0 : Int32)), .val (.int xa), .val (.int xb), .val (.int xq), .val (.ref b4), .val (.int ok1), .unset] [(.int ok2)])) _
                      refine XS.istore Xj134.here hx rfl (hb hby at_134) rfl (l' := #[.val (.int p1), .val (.int p2), .val (.int p3), .val (.int p4), .val (.int p5), .val (.int n), .val (.int (0 : Int32)), .val (.int (0 : Int32)), .val (.int (0 : Int32)), .val (.int xa), .val (.int xb), .val (.int xq), .val (.ref b4), .val (.int ok2), .unset]) rfl ?_
                      refine XS.iload Xj134.here hx rfl (hb hby at_136) rfl ?_
                      refine XS.ifYes Xj134.here hx rfl (pc0 := 138) (pc' := 146) rfl (hb hby at_138) rfl ((if0 _ _).trans (teq ((by decide) : (0 : Int32) = (0 : Int32))).1) (by decide) (by decide) ?_
                      refine XS.aload Xj134.here hx rfl (hb hby at_146) rfl rfl ?_
                      refine XS.iload Xj134.here hx rfl (hb hby at_148) rfl ?_
                      show Steps p.tables e below (Tj134.setTop (mkF m 150 #[.val (.int p1), .val (.int p2), .val (.int p3), .val (.int p4), .val (.int p5), .val (.int n), .val (.int (0 : Int32)), .val (.int (0 : Int32)), .val (.int (0 : Int32)), .val (.int xa), .val (.int xb), .val (.int xq), .val (.ref b4), .val (.int ok2), .unset] [(.int xb), (.ref b4)])) _
                      refine st15.trans ?_
                      show Steps p.tables e below (T15.setTop (mkF m 153 #[.val (.int p1), .val (.int p2), .val (.int p3), .val (.int p4), .val (.int p5), .val (.int n), .val (.int (0 : Int32)), .val (.int (0 : Int32)), .val (.int (0 : Int32)), .val (.int xa), .val (.int xb), .val (.int xq), .val (.ref b4), .val (.int ok2), .unset] [(.int (own_markN xb (own_put (fun _ => (0 : Int32)) xa (own_ch (1 : Int32))) n (1 : Int32) (0 : Int32) (0 : Int32)))])) _
                      refine XS.pop X15.here hx rfl (hb hby at_153) rfl rfl ?_
                      refine XS.iload X15.here hx rfl (hb hby at_154) rfl ?_
                      refine XS.ifYes X15.here hx rfl (pc0 := 156) (pc' := 164) rfl (hb hby at_156) rfl ((if0 _ _).trans (teq ((by decide) : (0 : Int32) = (0 : Int32))).1) (by decide) (by decide) ?_
                      refine XS.iload X15.here hx rfl (hb hby at_164) rfl ?_
                      refine XS.ifNo X15.here hx rfl (hb hby at_166) rfl ((if0 _ _).trans (teq ((by decide) : (0 : Int32) = (0 : Int32))).2) ?_
                      refine XS.iload X15.here hx rfl (hb hby at_169) rfl ?_
                      refine XS.iload X15.here hx rfl (hb hby at_171) rfl ?_
                      exact kt
                    show own_End p e below s (T15.setTop (mkF m 173 #[.val (.int p1), .val (.int p2), .val (.int p3), .val (.int p4), .val (.int p5), .val (.int n), .val (.int (0 : Int32)), .val (.int (0 : Int32)), .val (.int (0 : Int32)), .val (.int xa), .val (.int xb), .val (.int xq), .val (.ref b4), .val (.int ok2), .unset] [(.int xb), (.int xq)])) (Q0 Z p1 p2 p3 p4 p5 h0 n0) room_1.cells room_1.slots
                    have j193 : ∀ (Tj193 : State) (Lj193 : List Loc) (Xj193 : Stand p l e room_1 s m #[(.int p1), (.int p2), (.int p3), (.int p4), (.int p5)] below meth c Tj193 Lj193 4 298) (ej193 : Tj193.heap = T15.heap) (Nj193 : Fr n0 Lj193) (ex : Int32) , own_law p1 p2 p3 p4 p5 = own_law_193 p1 p2 p3 p4 p5 n xa xb xq ok1 ok2 ex → own_End p e below s (Tj193.setTop (mkF m 193 #[.val (.int p1), .val (.int p2), .val (.int p3), .val (.int p4), .val (.int p5), .val (.int n), .val (.int (0 : Int32)), .val (.int (0 : Int32)), .val (.int (0 : Int32)), .val (.int xa), .val (.int xb), .val (.int xq), .val (.ref b4), .val (.int ok2), .unset] [(.int ex)])) (Q0 Z p1 p2 p3 p4 p5 h0 n0) room_1.cells room_1.slots := by
                      intro Tj193 Lj193 Xj193 ej193 Nj193 ex  hj
                      refine own_pre (A := Tj193.setTop (mkF m 197 #[.val (.int p1), .val (.int p2), .val (.int p3), .val (.int p4), .val (.int p5), .val (.int n), .val (.int (0 : Int32)), .val (.int (0 : Int32)), .val (.int (0 : Int32)), .val (.int xa), .val (.int xb), .val (.int xq), .val (.ref b4), .val (.int ok2), .val (.int ex)] [(.int ok2)])) (fun tt kt => ?_) ?_
                      · show Steps p.tables e below (Tj193.setTop (mkF m 193 #[.val (.int p1), .val (.int p2), .val (.int p3), .val (.int p4), .val (.int p5), .val (.int n), .val (.int (0 : Int32)), .val (.int (0 : Int32)), .val (.int (0 : Int32)), .val (.int xa), .val (.int xb), .val (.int xq), .val (.ref b4), .val (.int ok2), .unset] [(.int ex)])) _
                        refine XS.istore Xj193.here hx rfl (hb hby at_193) rfl (l' := #[.val (.int p1), .val (.int p2), .val (.int p3), .val (.int p4), .val (.int p5), .val (.int n), .val (.int (0 : Int32)), .val (.int (0 : Int32)), .val (.int (0 : Int32)), .val (.int xa), .val (.int xb), .val (.int xq), .val (.ref b4), .val (.int ok2), .val (.int ex)]) rfl ?_
                        refine XS.iload Xj193.here hx rfl (hb hby at_195) rfl ?_
                        exact kt
                      show own_End p e below s (Tj193.setTop (mkF m 197 #[.val (.int p1), .val (.int p2), .val (.int p3), .val (.int p4), .val (.int p5), .val (.int n), .val (.int (0 : Int32)), .val (.int (0 : Int32)), .val (.int (0 : Int32)), .val (.int xa), .val (.int xb), .val (.int xq), .val (.ref b4), .val (.int ok2), .val (.int ex)] [(.int ok2)])) (Q0 Z p1 p2 p3 p4 p5 h0 n0) room_1.cells room_1.slots
                      by_cases hc197_16 : ok2 = (0 : Int32)
                      · refine own_pre (A := Tj193.setTop (mkF m 217 #[.val (.int p1), .val (.int p2), .val (.int p3), .val (.int p4), .val (.int p5), .val (.int n), .val (.int (0 : Int32)), .val (.int (0 : Int32)), .val (.int (0 : Int32)), .val (.int xa), .val (.int xb), .val (.int xq), .val (.ref b4), .val (.int ok2), .val (.int ex)] [(.int (0 : Int32))])) (fun tt kt => ?_) ?_
                        · show Steps p.tables e below (Tj193.setTop (mkF m 197 #[.val (.int p1), .val (.int p2), .val (.int p3), .val (.int p4), .val (.int p5), .val (.int n), .val (.int (0 : Int32)), .val (.int (0 : Int32)), .val (.int (0 : Int32)), .val (.int xa), .val (.int xb), .val (.int xq), .val (.ref b4), .val (.int ok2), .val (.int ex)] [(.int ok2)])) _
                          refine XS.ifYes Xj193.here hx rfl (pc0 := 197) (pc' := 216) rfl (hb hby at_197) rfl ((if0 _ _).trans (teq hc197_16).1) (by decide) (by decide) ?_
                          refine XS.iconst Xj193.here hx rfl (hb hby at_216) ?_
                          exact kt
                        show own_End p e below s (Tj193.setTop (mkF m 217 #[.val (.int p1), .val (.int p2), .val (.int p3), .val (.int p4), .val (.int p5), .val (.int n), .val (.int (0 : Int32)), .val (.int (0 : Int32)), .val (.int (0 : Int32)), .val (.int xa), .val (.int xb), .val (.int xq), .val (.ref b4), .val (.int ok2), .val (.int ex)] [(.int (0 : Int32))])) (Q0 Z p1 p2 p3 p4 p5 h0 n0) room_1.cells room_1.slots
                        have hv : (own_law p1 p2 p3 p4 p5) = (0 : Int32) := hj.trans (by simp only [own_law_193, if_pos hc197_16])
                        obtain ⟨fs, hr, hrun, hended, hW, hsame⟩ := Xj193.leave (v := some (.int (0 : Int32))) (fun h => by rw [Bd.returns] at h; cases h)
                        refine ⟨_, _, ?_, hrun, hended, _, _, rfl, ?_, ⟨_, rfl⟩, hW, hsame.mono (by decide) (by decide)⟩
                        · exact retN Xj193 hx (t := .boolean) Bd.returns (by simp) (hb hby at_217) hr
                        · show Q0 Z p1 p2 p3 p4 p5 h0 n0 _ Tj193.heap _
                          rw [ej193]
                          exact ⟨(congrArg (fun z => some (Value.int z)) hv.symm), Nj193⟩
                      · obtain ⟨cq17, kq17, q17a, q17b, q17c⟩ := isOf hZ ej193 fE_b4_x15
                        obtain ⟨_, _, ⟨T17, L17, k17, n17⟩, -, X17, ⟨Lc17, hQ17, l17, y17, z17⟩, st17⟩ := Xj193.virtualBack hx (y := (⟨"com/example/libfacet/libfacet/regex/StateSet", "isMarked", "(I)Z"⟩ : MethodName)) (z := (⟨"com/example/libfacet/libfacet/regex/StateSet", "isMarked", "(I)Z"⟩ : MethodName)) hown (mvT hZ (hw _ (List.mem_of_getElem? (i := 26) rfl))) (mvT hZ (hw _ (List.mem_of_getElem? (i := 27) rfl))) (notFace_of_selects (args := #[]) (mvT hZ (hw _ (List.mem_of_getElem? (i := 29) rfl)))) (mvT hZ (hw _ (List.mem_of_getElem? (i := 29) rfl))) (mvT hZ (hw _ (List.mem_of_getElem? (i := 28) rfl))) (by decide) (backOf (W := 0) (rm3N l Z a0 hw [] b4 xq (1 : Int32) c5_ak (0 : Int32) (0 : Int32) (own_put (own_put (fun _ => (0 : Int32)) xa (own_ch (1 : Int32))) xb (own_ch (1 : Int32))) n T15.heap n0 Z15 ⟨fE_b4_x15, fF_b4_stamp_x15, fF_b4_marks_x15, fF_b4_markBits_x15, fF_b4_marked_x15, fF_b4_markedCount_x15, fF_b4_size_x15⟩ V15_0 hxq0 hxq1) hZ (hw _ (List.mem_of_getElem? (i := 30) rfl)) (hw _ (List.mem_of_getElem? (i := 3) rfl)) (by decide) (by decide)) q17a q17c (g := (mkF m 204 #[.val (.int p1), .val (.int p2), .val (.int p3), .val (.int p4), .val (.int p5), .val (.int n), .val (.int (0 : Int32)), .val (.int (0 : Int32)), .val (.int (0 : Int32)), .val (.int xa), .val (.int xb), .val (.int xq), .val (.ref b4), .val (.int ok2), .val (.int ex)] [(.int xq), (.ref b4)])) rfl (by rw [hml]; rfl) (Steps.refl _) (argsL := [(.int xq)]) (rest := []) (lenOf pd_0_1 rfl) rfl (by show 2 * 0 + _ ≤ _; exact Nat.le_of_eq rfl) (hb hby at_204) (fun _ _ => ⟨rfl, ej193, (by decide : 4 + 0 ≤ _), (by decide : 298 + 0 ≤ _)⟩)
                        dsimp only [Pt.U, Pt.locs, Pt.cells, Pt.slots] at X17 l17 y17 z17 st17 hQ17
                        subst l17 y17 z17
                        obtain ⟨rfl, N17q, e17⟩ := hQ17
                        have N17 := Fr.app Nj193 N17q
                        refine own_pre (A := T17.setTop (mkF m 209 #[.val (.int p1), .val (.int p2), .val (.int p3), .val (.int p4), .val (.int p5), .val (.int n), .val (.int (0 : Int32)), .val (.int (0 : Int32)), .val (.int (0 : Int32)), .val (.int xa), .val (.int xb), .val (.int xq), .val (.ref b4), .val (.int ok2), .val (.int ex)] [(.int ex), (.int (own_isN xq (own_put (own_put (fun _ => (0 : Int32)) xa (own_ch (1 : Int32))) xb (own_ch (1 : Int32))) n (1 : Int32) (0 : Int32) (0 : Int32)))])) (fun tt kt => ?_) ?_
                        · show Steps p.tables e below (Tj193.setTop (mkF m 197 #[.val (.int p1), .val (.int p2), .val (.int p3), .val (.int p4), .val (.int p5), .val (.int n), .val (.int (0 : Int32)), .val (.int (0 : Int32)), .val (.int (0 : Int32)), .val (.int xa), .val (.int xb), .val (.int xq), .val (.ref b4), .val (.int ok2), .val (.int ex)] [(.int ok2)])) _
                          refine XS.ifNo Xj193.here hx rfl (hb hby at_197) rfl ((if0 _ _).trans (feq hc197_16).1) ?_
                          refine XS.aload Xj193.here hx rfl (hb hby at_200) rfl rfl ?_
                          refine XS.iload Xj193.here hx rfl (hb hby at_202) rfl ?_
                          show Steps p.tables e below (Tj193.setTop (mkF m 204 #[.val (.int p1), .val (.int p2), .val (.int p3), .val (.int p4), .val (.int p5), .val (.int n), .val (.int (0 : Int32)), .val (.int (0 : Int32)), .val (.int (0 : Int32)), .val (.int xa), .val (.int xb), .val (.int xq), .val (.ref b4), .val (.int ok2), .val (.int ex)] [(.int xq), (.ref b4)])) _
                          refine st17.trans ?_
                          show Steps p.tables e below (T17.setTop (mkF m 207 #[.val (.int p1), .val (.int p2), .val (.int p3), .val (.int p4), .val (.int p5), .val (.int n), .val (.int (0 : Int32)), .val (.int (0 : Int32)), .val (.int (0 : Int32)), .val (.int xa), .val (.int xb), .val (.int xq), .val (.ref b4), .val (.int ok2), .val (.int ex)] [(.int (own_isN xq (own_put (own_put (fun _ => (0 : Int32)) xa (own_ch (1 : Int32))) xb (own_ch (1 : Int32))) n (1 : Int32) (0 : Int32) (0 : Int32)))])) _
                          refine XS.iload X17.here hx rfl (hb hby at_207) rfl ?_
                          exact kt
                        show own_End p e below s (T17.setTop (mkF m 209 #[.val (.int p1), .val (.int p2), .val (.int p3), .val (.int p4), .val (.int p5), .val (.int n), .val (.int (0 : Int32)), .val (.int (0 : Int32)), .val (.int (0 : Int32)), .val (.int xa), .val (.int xb), .val (.int xq), .val (.ref b4), .val (.int ok2), .val (.int ex)] [(.int ex), (.int (own_isN xq (own_put (own_put (fun _ => (0 : Int32)) xa (own_ch (1 : Int32))) xb (own_ch (1 : Int32))) n (1 : Int32) (0 : Int32) (0 : Int32)))])) (Q0 Z p1 p2 p3 p4 p5 h0 n0) room_1.cells room_1.slots
                        by_cases hc209_18 : (own_isN xq (own_put (own_put (fun _ => (0 : Int32)) xa (own_ch (1 : Int32))) xb (own_ch (1 : Int32))) n (1 : Int32) (0 : Int32) (0 : Int32)) = ex
                        · refine own_pre (A := T17.setTop (mkF m 217 #[.val (.int p1), .val (.int p2), .val (.int p3), .val (.int p4), .val (.int p5), .val (.int n), .val (.int (0 : Int32)), .val (.int (0 : Int32)), .val (.int (0 : Int32)), .val (.int xa), .val (.int xb), .val (.int xq), .val (.ref b4), .val (.int ok2), .val (.int ex)] [(.int (1 : Int32))])) (fun tt kt => ?_) ?_
                          · show Steps p.tables e below (T17.setTop (mkF m 209 #[.val (.int p1), .val (.int p2), .val (.int p3), .val (.int p4), .val (.int p5), .val (.int n), .val (.int (0 : Int32)), .val (.int (0 : Int32)), .val (.int (0 : Int32)), .val (.int xa), .val (.int xb), .val (.int xq), .val (.ref b4), .val (.int ok2), .val (.int ex)] [(.int ex), (.int (own_isN xq (own_put (own_put (fun _ => (0 : Int32)) xa (own_ch (1 : Int32))) xb (own_ch (1 : Int32))) n (1 : Int32) (0 : Int32) (0 : Int32)))])) _
                            refine XS.icmpNo X17.here hx rfl (hb hby at_209) rfl (teq hc209_18).2 ?_
                            refine XS.iconst X17.here hx rfl (hb hby at_212) ?_
                            refine XS.goto X17.here hx rfl (pc0 := 213) (pc' := 217) rfl (hb hby at_213) (by decide) (by decide) ?_
                            exact kt
                          show own_End p e below s (T17.setTop (mkF m 217 #[.val (.int p1), .val (.int p2), .val (.int p3), .val (.int p4), .val (.int p5), .val (.int n), .val (.int (0 : Int32)), .val (.int (0 : Int32)), .val (.int (0 : Int32)), .val (.int xa), .val (.int xb), .val (.int xq), .val (.ref b4), .val (.int ok2), .val (.int ex)] [(.int (1 : Int32))])) (Q0 Z p1 p2 p3 p4 p5 h0 n0) room_1.cells room_1.slots
                          have hv : (own_law p1 p2 p3 p4 p5) = (1 : Int32) := hj.trans (by simp only [own_law_193, if_neg hc197_16, if_pos hc209_18])
                          obtain ⟨fs, hr, hrun, hended, hW, hsame⟩ := X17.leave (v := some (.int (1 : Int32))) (fun h => by rw [Bd.returns] at h; cases h)
                          refine ⟨_, _, ?_, hrun, hended, _, _, rfl, ?_, ⟨_, rfl⟩, hW, hsame.mono (by decide) (by decide)⟩
                          · exact retN X17 hx (t := .boolean) Bd.returns (by simp) (hb hby at_217) hr
                          · show Q0 Z p1 p2 p3 p4 p5 h0 n0 _ T17.heap _
                            rw [e17]
                            exact ⟨(congrArg (fun z => some (Value.int z)) hv.symm), N17⟩
                        · refine own_pre (A := T17.setTop (mkF m 217 #[.val (.int p1), .val (.int p2), .val (.int p3), .val (.int p4), .val (.int p5), .val (.int n), .val (.int (0 : Int32)), .val (.int (0 : Int32)), .val (.int (0 : Int32)), .val (.int xa), .val (.int xb), .val (.int xq), .val (.ref b4), .val (.int ok2), .val (.int ex)] [(.int (0 : Int32))])) (fun tt kt => ?_) ?_
                          · show Steps p.tables e below (T17.setTop (mkF m 209 #[.val (.int p1), .val (.int p2), .val (.int p3), .val (.int p4), .val (.int p5), .val (.int n), .val (.int (0 : Int32)), .val (.int (0 : Int32)), .val (.int (0 : Int32)), .val (.int xa), .val (.int xb), .val (.int xq), .val (.ref b4), .val (.int ok2), .val (.int ex)] [(.int ex), (.int (own_isN xq (own_put (own_put (fun _ => (0 : Int32)) xa (own_ch (1 : Int32))) xb (own_ch (1 : Int32))) n (1 : Int32) (0 : Int32) (0 : Int32)))])) _
                            refine XS.icmpYes X17.here hx rfl (pc0 := 209) (pc' := 216) rfl (hb hby at_209) rfl (feq hc209_18).2 (by decide) (by decide) ?_
                            refine XS.iconst X17.here hx rfl (hb hby at_216) ?_
                            exact kt
                          show own_End p e below s (T17.setTop (mkF m 217 #[.val (.int p1), .val (.int p2), .val (.int p3), .val (.int p4), .val (.int p5), .val (.int n), .val (.int (0 : Int32)), .val (.int (0 : Int32)), .val (.int (0 : Int32)), .val (.int xa), .val (.int xb), .val (.int xq), .val (.ref b4), .val (.int ok2), .val (.int ex)] [(.int (0 : Int32))])) (Q0 Z p1 p2 p3 p4 p5 h0 n0) room_1.cells room_1.slots
                          have hv : (own_law p1 p2 p3 p4 p5) = (0 : Int32) := hj.trans (by simp only [own_law_193, if_neg hc197_16, if_neg hc209_18])
                          obtain ⟨fs, hr, hrun, hended, hW, hsame⟩ := X17.leave (v := some (.int (0 : Int32))) (fun h => by rw [Bd.returns] at h; cases h)
                          refine ⟨_, _, ?_, hrun, hended, _, _, rfl, ?_, ⟨_, rfl⟩, hW, hsame.mono (by decide) (by decide)⟩
                          · exact retN X17 hx (t := .boolean) Bd.returns (by simp) (hb hby at_217) hr
                          · show Q0 Z p1 p2 p3 p4 p5 h0 n0 _ T17.heap _
                            rw [e17]
                            exact ⟨(congrArg (fun z => some (Value.int z)) hv.symm), N17⟩
                    by_cases hc173_19 : xq = xb
                    · refine own_pre (A := T15.setTop (mkF m 193 #[.val (.int p1), .val (.int p2), .val (.int p3), .val (.int p4), .val (.int p5), .val (.int n), .val (.int (0 : Int32)), .val (.int (0 : Int32)), .val (.int (0 : Int32)), .val (.int xa), .val (.int xb), .val (.int xq), .val (.ref b4), .val (.int ok2), .unset] [(.int (1 : Int32))])) (fun tt kt => ?_) ?_
                      · show Steps p.tables e below (T15.setTop (mkF m 173 #[.val (.int p1), .val (.int p2), .val (.int p3), .val (.int p4), .val (.int p5), .val (.int n), .val (.int (0 : Int32)), .val (.int (0 : Int32)), .val (.int (0 : Int32)), .val (.int xa), .val (.int xb), .val (.int xq), .val (.ref b4), .val (.int ok2), .unset] [(.int xb), (.int xq)])) _
                        refine XS.icmpYes X15.here hx rfl (pc0 := 173) (pc' := 188) rfl (hb hby at_173) rfl (teq hc173_19).1 (by decide) (by decide) ?_
                        refine XS.iconst X15.here hx rfl (hb hby at_188) ?_
                        refine XS.goto X15.here hx rfl (pc0 := 189) (pc' := 193) rfl (hb hby at_189) (by decide) (by decide) ?_
                        exact kt
                      show own_End p e below s (T15.setTop (mkF m 193 #[.val (.int p1), .val (.int p2), .val (.int p3), .val (.int p4), .val (.int p5), .val (.int n), .val (.int (0 : Int32)), .val (.int (0 : Int32)), .val (.int (0 : Int32)), .val (.int xa), .val (.int xb), .val (.int xq), .val (.ref b4), .val (.int ok2), .unset] [(.int (1 : Int32))])) (Q0 Z p1 p2 p3 p4 p5 h0 n0) room_1.cells room_1.slots
                      exact j193 _ _ X15 rfl N15 (1 : Int32)  (hj.trans (by simp only [own_law_134, if_pos hc173_19]))
                    · refine own_pre (A := T15.setTop (mkF m 185 #[.val (.int p1), .val (.int p2), .val (.int p3), .val (.int p4), .val (.int p5), .val (.int n), .val (.int (0 : Int32)), .val (.int (0 : Int32)), .val (.int (0 : Int32)), .val (.int xa), .val (.int xb), .val (.int xq), .val (.ref b4), .val (.int ok2), .unset] [(.int xa), (.int xq)])) (fun tt kt => ?_) ?_
                      · show Steps p.tables e below (T15.setTop (mkF m 173 #[.val (.int p1), .val (.int p2), .val (.int p3), .val (.int p4), .val (.int p5), .val (.int n), .val (.int (0 : Int32)), .val (.int (0 : Int32)), .val (.int (0 : Int32)), .val (.int xa), .val (.int xb), .val (.int xq), .val (.ref b4), .val (.int ok2), .unset] [(.int xb), (.int xq)])) _
                        refine XS.icmpNo X15.here hx rfl (hb hby at_173) rfl (feq hc173_19).1 ?_
                        refine XS.iload X15.here hx rfl (hb hby at_176) rfl ?_
                        refine XS.ifNo X15.here hx rfl (hb hby at_178) rfl ((if0 _ _).trans (teq ((by decide) : (0 : Int32) = (0 : Int32))).2) ?_
                        refine XS.iload X15.here hx rfl (hb hby at_181) rfl ?_
                        refine XS.iload X15.here hx rfl (hb hby at_183) rfl ?_
                        exact kt
                      show own_End p e below s (T15.setTop (mkF m 185 #[.val (.int p1), .val (.int p2), .val (.int p3), .val (.int p4), .val (.int p5), .val (.int n), .val (.int (0 : Int32)), .val (.int (0 : Int32)), .val (.int (0 : Int32)), .val (.int xa), .val (.int xb), .val (.int xq), .val (.ref b4), .val (.int ok2), .unset] [(.int xa), (.int xq)])) (Q0 Z p1 p2 p3 p4 p5 h0 n0) room_1.cells room_1.slots
                      by_cases hc185_20 : xq = xa
                      · refine own_pre (A := T15.setTop (mkF m 193 #[.val (.int p1), .val (.int p2), .val (.int p3), .val (.int p4), .val (.int p5), .val (.int n), .val (.int (0 : Int32)), .val (.int (0 : Int32)), .val (.int (0 : Int32)), .val (.int xa), .val (.int xb), .val (.int xq), .val (.ref b4), .val (.int ok2), .unset] [(.int (1 : Int32))])) (fun tt kt => ?_) ?_
                        · show Steps p.tables e below (T15.setTop (mkF m 185 #[.val (.int p1), .val (.int p2), .val (.int p3), .val (.int p4), .val (.int p5), .val (.int n), .val (.int (0 : Int32)), .val (.int (0 : Int32)), .val (.int (0 : Int32)), .val (.int xa), .val (.int xb), .val (.int xq), .val (.ref b4), .val (.int ok2), .unset] [(.int xa), (.int xq)])) _
                          refine XS.icmpNo X15.here hx rfl (hb hby at_185) rfl (teq hc185_20).2 ?_
                          refine XS.iconst X15.here hx rfl (hb hby at_188) ?_
                          refine XS.goto X15.here hx rfl (pc0 := 189) (pc' := 193) rfl (hb hby at_189) (by decide) (by decide) ?_
                          exact kt
                        show own_End p e below s (T15.setTop (mkF m 193 #[.val (.int p1), .val (.int p2), .val (.int p3), .val (.int p4), .val (.int p5), .val (.int n), .val (.int (0 : Int32)), .val (.int (0 : Int32)), .val (.int (0 : Int32)), .val (.int xa), .val (.int xb), .val (.int xq), .val (.ref b4), .val (.int ok2), .unset] [(.int (1 : Int32))])) (Q0 Z p1 p2 p3 p4 p5 h0 n0) room_1.cells room_1.slots
                        exact j193 _ _ X15 rfl N15 (1 : Int32)  (hj.trans (by simp only [own_law_134, if_neg hc173_19, if_pos hc185_20]))
                      · refine own_pre (A := T15.setTop (mkF m 193 #[.val (.int p1), .val (.int p2), .val (.int p3), .val (.int p4), .val (.int p5), .val (.int n), .val (.int (0 : Int32)), .val (.int (0 : Int32)), .val (.int (0 : Int32)), .val (.int xa), .val (.int xb), .val (.int xq), .val (.ref b4), .val (.int ok2), .unset] [(.int (0 : Int32))])) (fun tt kt => ?_) ?_
                        · show Steps p.tables e below (T15.setTop (mkF m 185 #[.val (.int p1), .val (.int p2), .val (.int p3), .val (.int p4), .val (.int p5), .val (.int n), .val (.int (0 : Int32)), .val (.int (0 : Int32)), .val (.int (0 : Int32)), .val (.int xa), .val (.int xb), .val (.int xq), .val (.ref b4), .val (.int ok2), .unset] [(.int xa), (.int xq)])) _
                          refine XS.icmpYes X15.here hx rfl (pc0 := 185) (pc' := 192) rfl (hb hby at_185) rfl (feq hc185_20).2 (by decide) (by decide) ?_
                          refine XS.iconst X15.here hx rfl (hb hby at_192) ?_
                          exact kt
                        show own_End p e below s (T15.setTop (mkF m 193 #[.val (.int p1), .val (.int p2), .val (.int p3), .val (.int p4), .val (.int p5), .val (.int n), .val (.int (0 : Int32)), .val (.int (0 : Int32)), .val (.int (0 : Int32)), .val (.int xa), .val (.int xb), .val (.int xq), .val (.ref b4), .val (.int ok2), .unset] [(.int (0 : Int32))])) (Q0 Z p1 p2 p3 p4 p5 h0 n0) room_1.cells room_1.slots
                        exact j193 _ _ X15 rfl N15 (0 : Int32)  (hj.trans (by simp only [own_law_134, if_neg hc173_19, if_neg hc185_20]))
                  by_cases hc116_21 : ok1 = (0 : Int32)
                  · refine own_pre (A := T14.setTop (mkF m 134 #[.val (.int p1), .val (.int p2), .val (.int p3), .val (.int p4), .val (.int p5), .val (.int n), .val (.int (0 : Int32)), .val (.int (0 : Int32)), .val (.int (0 : Int32)), .val (.int xa), .val (.int xb), .val (.int xq), .val (.ref b4), .val (.int ok1), .unset] [(.int (0 : Int32))])) (fun tt kt => ?_) ?_
                    · show Steps p.tables e below (T14.setTop (mkF m 116 #[.val (.int p1), .val (.int p2), .val (.int p3), .val (.int p4), .val (.int p5), .val (.int n), .val (.int (0 : Int32)), .val (.int (0 : Int32)), .val (.int (0 : Int32)), .val (.int xa), .val (.int xb), .val (.int xq), .val (.ref b4), .val (.int ok1), .unset] [(.int ok1)])) _
                      refine XS.ifYes X14.here hx rfl (pc0 := 116) (pc' := 133) rfl (hb hby at_116) rfl ((if0 _ _).trans (teq hc116_21).1) (by decide) (by decide) ?_
                      refine XS.iconst X14.here hx rfl (hb hby at_133) ?_
                      exact kt
                    show own_End p e below s (T14.setTop (mkF m 134 #[.val (.int p1), .val (.int p2), .val (.int p3), .val (.int p4), .val (.int p5), .val (.int n), .val (.int (0 : Int32)), .val (.int (0 : Int32)), .val (.int (0 : Int32)), .val (.int xa), .val (.int xb), .val (.int xq), .val (.ref b4), .val (.int ok1), .unset] [(.int (0 : Int32))])) (Q0 Z p1 p2 p3 p4 p5 h0 n0) room_1.cells room_1.slots
                    exact j134 _ _ X14 rfl N14 (0 : Int32)  (hj.trans (by simp only [own_law_104, if_pos hc116_21]))
                  · obtain ⟨cq22, kq22, q22a, q22b, q22c⟩ := isOf hZ rfl fE_b4_x14
                    obtain ⟨_, _, ⟨T22, L22, k22, n22⟩, -, X22, ⟨Lc22, hQ22, l22, y22, z22⟩, st22⟩ := X14.virtualBack hx (y := (⟨"com/example/libfacet/libfacet/regex/StateSet", "isMarked", "(I)Z"⟩ : MethodName)) (z := (⟨"com/example/libfacet/libfacet/regex/StateSet", "isMarked", "(I)Z"⟩ : MethodName)) hown (mvT hZ (hw _ (List.mem_of_getElem? (i := 26) rfl))) (mvT hZ (hw _ (List.mem_of_getElem? (i := 27) rfl))) (notFace_of_selects (args := #[]) (mvT hZ (hw _ (List.mem_of_getElem? (i := 29) rfl)))) (mvT hZ (hw _ (List.mem_of_getElem? (i := 29) rfl))) (mvT hZ (hw _ (List.mem_of_getElem? (i := 28) rfl))) (by decide) (backOf (W := 0) (rm3N l Z a0 hw [] b4 xa (1 : Int32) c5_ak (0 : Int32) (0 : Int32) (own_put (fun _ => (0 : Int32)) xa (own_ch (1 : Int32))) n T14.heap n0 Z14 ⟨fE_b4_x14, fF_b4_stamp_x14, fF_b4_marks_x14, fF_b4_markBits_x14, fF_b4_marked_x14, fF_b4_markedCount_x14, fF_b4_size_x14⟩ V14_0 hxa0 hxa1) hZ (hw _ (List.mem_of_getElem? (i := 30) rfl)) (hw _ (List.mem_of_getElem? (i := 3) rfl)) (by decide) (by decide)) q22a q22c (g := (mkF m 123 #[.val (.int p1), .val (.int p2), .val (.int p3), .val (.int p4), .val (.int p5), .val (.int n), .val (.int (0 : Int32)), .val (.int (0 : Int32)), .val (.int (0 : Int32)), .val (.int xa), .val (.int xb), .val (.int xq), .val (.ref b4), .val (.int ok1), .unset] [(.int xa), (.ref b4)])) rfl (by rw [hml]; rfl) (Steps.refl _) (argsL := [(.int xa)]) (rest := []) (lenOf pd_0_1 rfl) rfl (by show 2 * 0 + _ ≤ _; exact Nat.le_of_eq rfl) (hb hby at_123) (fun _ _ => ⟨rfl, rfl, (by decide : 4 + 0 ≤ _), (by decide : 298 + 0 ≤ _)⟩)
                    dsimp only [Pt.U, Pt.locs, Pt.cells, Pt.slots] at X22 l22 y22 z22 st22 hQ22
                    subst l22 y22 z22
                    obtain ⟨rfl, N22q, e22⟩ := hQ22
                    have N22 := Fr.app N14 N22q
                    refine own_pre (A := T22.setTop (mkF m 126 #[.val (.int p1), .val (.int p2), .val (.int p3), .val (.int p4), .val (.int p5), .val (.int n), .val (.int (0 : Int32)), .val (.int (0 : Int32)), .val (.int (0 : Int32)), .val (.int xa), .val (.int xb), .val (.int xq), .val (.ref b4), .val (.int ok1), .unset] [(.int (own_isN xa (own_put (fun _ => (0 : Int32)) xa (own_ch (1 : Int32))) n (1 : Int32) (0 : Int32) (0 : Int32)))])) (fun tt kt => ?_) ?_
                    · show Steps p.tables e below (T14.setTop (mkF m 116 #[.val (.int p1), .val (.int p2), .val (.int p3), .val (.int p4), .val (.int p5), .val (.int n), .val (.int (0 : Int32)), .val (.int (0 : Int32)), .val (.int (0 : Int32)), .val (.int xa), .val (.int xb), .val (.int xq), .val (.ref b4), .val (.int ok1), .unset] [(.int ok1)])) _
                      refine XS.ifNo X14.here hx rfl (hb hby at_116) rfl ((if0 _ _).trans (feq hc116_21).1) ?_
                      refine XS.aload X14.here hx rfl (hb hby at_119) rfl rfl ?_
                      refine XS.iload X14.here hx rfl (hb hby at_121) rfl ?_
                      show Steps p.tables e below (T14.setTop (mkF m 123 #[.val (.int p1), .val (.int p2), .val (.int p3), .val (.int p4), .val (.int p5), .val (.int n), .val (.int (0 : Int32)), .val (.int (0 : Int32)), .val (.int (0 : Int32)), .val (.int xa), .val (.int xb), .val (.int xq), .val (.ref b4), .val (.int ok1), .unset] [(.int xa), (.ref b4)])) _
                      refine st22.trans ?_
                      exact kt
                    show own_End p e below s (T22.setTop (mkF m 126 #[.val (.int p1), .val (.int p2), .val (.int p3), .val (.int p4), .val (.int p5), .val (.int n), .val (.int (0 : Int32)), .val (.int (0 : Int32)), .val (.int (0 : Int32)), .val (.int xa), .val (.int xb), .val (.int xq), .val (.ref b4), .val (.int ok1), .unset] [(.int (own_isN xa (own_put (fun _ => (0 : Int32)) xa (own_ch (1 : Int32))) n (1 : Int32) (0 : Int32) (0 : Int32)))])) (Q0 Z p1 p2 p3 p4 p5 h0 n0) room_1.cells room_1.slots
                    by_cases hc126_23 : (own_isN xa (own_put (fun _ => (0 : Int32)) xa (own_ch (1 : Int32))) n (1 : Int32) (0 : Int32) (0 : Int32)) = (0 : Int32)
                    · refine own_pre (A := T22.setTop (mkF m 134 #[.val (.int p1), .val (.int p2), .val (.int p3), .val (.int p4), .val (.int p5), .val (.int n), .val (.int (0 : Int32)), .val (.int (0 : Int32)), .val (.int (0 : Int32)), .val (.int xa), .val (.int xb), .val (.int xq), .val (.ref b4), .val (.int ok1), .unset] [(.int (0 : Int32))])) (fun tt kt => ?_) ?_
                      · show Steps p.tables e below (T22.setTop (mkF m 126 #[.val (.int p1), .val (.int p2), .val (.int p3), .val (.int p4), .val (.int p5), .val (.int n), .val (.int (0 : Int32)), .val (.int (0 : Int32)), .val (.int (0 : Int32)), .val (.int xa), .val (.int xb), .val (.int xq), .val (.ref b4), .val (.int ok1), .unset] [(.int (own_isN xa (own_put (fun _ => (0 : Int32)) xa (own_ch (1 : Int32))) n (1 : Int32) (0 : Int32) (0 : Int32)))])) _
                        refine XS.ifYes X22.here hx rfl (pc0 := 126) (pc' := 133) rfl (hb hby at_126) rfl ((if0 _ _).trans (teq hc126_23).1) (by decide) (by decide) ?_
                        refine XS.iconst X22.here hx rfl (hb hby at_133) ?_
                        exact kt
                      show own_End p e below s (T22.setTop (mkF m 134 #[.val (.int p1), .val (.int p2), .val (.int p3), .val (.int p4), .val (.int p5), .val (.int n), .val (.int (0 : Int32)), .val (.int (0 : Int32)), .val (.int (0 : Int32)), .val (.int xa), .val (.int xb), .val (.int xq), .val (.ref b4), .val (.int ok1), .unset] [(.int (0 : Int32))])) (Q0 Z p1 p2 p3 p4 p5 h0 n0) room_1.cells room_1.slots
                      exact j134 _ _ X22 e22 N22 (0 : Int32)  (hj.trans (by simp only [own_law_104, if_neg hc116_21, if_pos hc126_23]))
                    · refine own_pre (A := T22.setTop (mkF m 134 #[.val (.int p1), .val (.int p2), .val (.int p3), .val (.int p4), .val (.int p5), .val (.int n), .val (.int (0 : Int32)), .val (.int (0 : Int32)), .val (.int (0 : Int32)), .val (.int xa), .val (.int xb), .val (.int xq), .val (.ref b4), .val (.int ok1), .unset] [(.int (1 : Int32))])) (fun tt kt => ?_) ?_
                      · show Steps p.tables e below (T22.setTop (mkF m 126 #[.val (.int p1), .val (.int p2), .val (.int p3), .val (.int p4), .val (.int p5), .val (.int n), .val (.int (0 : Int32)), .val (.int (0 : Int32)), .val (.int (0 : Int32)), .val (.int xa), .val (.int xb), .val (.int xq), .val (.ref b4), .val (.int ok1), .unset] [(.int (own_isN xa (own_put (fun _ => (0 : Int32)) xa (own_ch (1 : Int32))) n (1 : Int32) (0 : Int32) (0 : Int32)))])) _
                        refine XS.ifNo X22.here hx rfl (hb hby at_126) rfl ((if0 _ _).trans (feq hc126_23).1) ?_
                        refine XS.iconst X22.here hx rfl (hb hby at_129) ?_
                        refine XS.goto X22.here hx rfl (pc0 := 130) (pc' := 134) rfl (hb hby at_130) (by decide) (by decide) ?_
                        exact kt
                      show own_End p e below s (T22.setTop (mkF m 134 #[.val (.int p1), .val (.int p2), .val (.int p3), .val (.int p4), .val (.int p5), .val (.int n), .val (.int (0 : Int32)), .val (.int (0 : Int32)), .val (.int (0 : Int32)), .val (.int xa), .val (.int xb), .val (.int xq), .val (.ref b4), .val (.int ok1), .unset] [(.int (1 : Int32))])) (Q0 Z p1 p2 p3 p4 p5 h0 n0) room_1.cells room_1.slots
                      exact j134 _ _ X22 e22 N22 (1 : Int32)  (hj.trans (by simp only [own_law_104, if_neg hc116_21, if_neg hc126_23]))
                by_cases hc96_24 : (own_isN xq (fun _ => (0 : Int32)) n (1 : Int32) (0 : Int32) (0 : Int32)) = (0 : Int32)
                · refine own_pre (A := T13.setTop (mkF m 104 #[.val (.int p1), .val (.int p2), .val (.int p3), .val (.int p4), .val (.int p5), .val (.int n), .val (.int (0 : Int32)), .val (.int (0 : Int32)), .val (.int (0 : Int32)), .val (.int xa), .val (.int xb), .val (.int xq), .val (.ref b4), .unset, .unset] [(.int (1 : Int32))])) (fun tt kt => ?_) ?_
                  · show Steps p.tables e below (T13.setTop (mkF m 96 #[.val (.int p1), .val (.int p2), .val (.int p3), .val (.int p4), .val (.int p5), .val (.int n), .val (.int (0 : Int32)), .val (.int (0 : Int32)), .val (.int (0 : Int32)), .val (.int xa), .val (.int xb), .val (.int xq), .val (.ref b4), .unset, .unset] [(.int (own_isN xq (fun _ => (0 : Int32)) n (1 : Int32) (0 : Int32) (0 : Int32)))])) _
                    refine XS.ifNo X13.here hx rfl (hb hby at_96) rfl ((if0 _ _).trans (teq hc96_24).2) ?_
                    refine XS.iconst X13.here hx rfl (hb hby at_99) ?_
                    refine XS.goto X13.here hx rfl (pc0 := 100) (pc' := 104) rfl (hb hby at_100) (by decide) (by decide) ?_
                    exact kt
                  show own_End p e below s (T13.setTop (mkF m 104 #[.val (.int p1), .val (.int p2), .val (.int p3), .val (.int p4), .val (.int p5), .val (.int n), .val (.int (0 : Int32)), .val (.int (0 : Int32)), .val (.int (0 : Int32)), .val (.int xa), .val (.int xb), .val (.int xq), .val (.ref b4), .unset, .unset] [(.int (1 : Int32))])) (Q0 Z p1 p2 p3 p4 p5 h0 n0) room_1.cells room_1.slots
                  exact j104 _ _ X13 e13 N13 (1 : Int32)  (hj.trans (by simp only [own_law_76, if_pos hc96_24]))
                · refine own_pre (A := T13.setTop (mkF m 104 #[.val (.int p1), .val (.int p2), .val (.int p3), .val (.int p4), .val (.int p5), .val (.int n), .val (.int (0 : Int32)), .val (.int (0 : Int32)), .val (.int (0 : Int32)), .val (.int xa), .val (.int xb), .val (.int xq), .val (.ref b4), .unset, .unset] [(.int (0 : Int32))])) (fun tt kt => ?_) ?_
                  · show Steps p.tables e below (T13.setTop (mkF m 96 #[.val (.int p1), .val (.int p2), .val (.int p3), .val (.int p4), .val (.int p5), .val (.int n), .val (.int (0 : Int32)), .val (.int (0 : Int32)), .val (.int (0 : Int32)), .val (.int xa), .val (.int xb), .val (.int xq), .val (.ref b4), .unset, .unset] [(.int (own_isN xq (fun _ => (0 : Int32)) n (1 : Int32) (0 : Int32) (0 : Int32)))])) _
                    refine XS.ifYes X13.here hx rfl (pc0 := 96) (pc' := 103) rfl (hb hby at_96) rfl ((if0 _ _).trans (feq hc96_24).2) (by decide) (by decide) ?_
                    refine XS.iconst X13.here hx rfl (hb hby at_103) ?_
                    exact kt
                  show own_End p e below s (T13.setTop (mkF m 104 #[.val (.int p1), .val (.int p2), .val (.int p3), .val (.int p4), .val (.int p5), .val (.int n), .val (.int (0 : Int32)), .val (.int (0 : Int32)), .val (.int (0 : Int32)), .val (.int xa), .val (.int xb), .val (.int xq), .val (.ref b4), .unset, .unset] [(.int (0 : Int32))])) (Q0 Z p1 p2 p3 p4 p5 h0 n0) room_1.cells room_1.slots
                  exact j104 _ _ X13 e13 N13 (0 : Int32)  (hj.trans (by simp only [own_law_76, if_neg hc96_24]))
              exact j76 _ _ Xj66 ej66 Nj66 ((p5 &&& (2147483647 : Int32)) % n) (own_i p5 n hn0).1 (own_i p5 n hn0).2 (hj.trans (by simp only [own_law_66]))
            exact j66 _ _ Xj57 ej57 Nj57 ((p4 &&& (2147483647 : Int32)) % n) (own_i p4 n hn0).1 (own_i p4 n hn0).2 (hj.trans (by simp only [own_law_57]))
          exact j57 _ _ Xj9 ej9 Nj9 ((p3 &&& (2147483647 : Int32)) % n) (own_i p3 n hn0).1 (own_i p3 n hn0).2 (hj.trans (by simp only [own_law_9, if_pos hc12_1, if_pos hc25_2, if_pos hc38_3]))
        · refine own_pre (A := Tj9.setTop (mkF m 57 #[.val (.int p1), .val (.int p2), .val (.int p3), .val (.int p4), .val (.int p5), .val (.int n), .val (.int (0 : Int32)), .val (.int (0 : Int32)), .val (.int (1 : Int32)), .val (.int ((p3 &&& (2147483647 : Int32)) % n)), .unset, .unset, .unset, .unset, .unset] [])) (fun tt kt => ?_) ?_
          · show Steps p.tables e below (Tj9.setTop (mkF m 38 #[.val (.int p1), .val (.int p2), .val (.int p3), .val (.int p4), .val (.int p5), .val (.int n), .val (.int (0 : Int32)), .val (.int (0 : Int32)), .unset, .unset, .unset, .unset, .unset, .unset, .unset] [(.int (p2 &&& (4 : Int32)))])) _
            refine XS.ifNo Xj9.here hx rfl (hb hby at_38) rfl ((if0 _ _).trans (feq hc38_3).1) ?_
            refine XS.iconst Xj9.here hx rfl (hb hby at_41) ?_
            refine XS.goto Xj9.here hx rfl (pc0 := 42) (pc' := 46) rfl (hb hby at_42) (by decide) (by decide) ?_
            refine XS.istore Xj9.here hx rfl (hb hby at_46) rfl (l' := #[.val (.int p1), .val (.int p2), .val (.int p3), .val (.int p4), .val (.int p5), .val (.int n), .val (.int (0 : Int32)), .val (.int (0 : Int32)), .val (.int (1 : Int32)), .unset, .unset, .unset, .unset, .unset, .unset]) rfl ?_
            refine XS.iloadN Xj9.here hx rfl (hb hby at_48) rfl ?_
            show Steps p.tables e below (Tj9.setTop (mkF m 49 #[.val (.int p1), .val (.int p2), .val (.int p3), .val (.int p4), .val (.int p5), .val (.int n), .val (.int (0 : Int32)), .val (.int (0 : Int32)), .val (.int (1 : Int32)), .unset, .unset, .unset, .unset, .unset, .unset] [(.int p3)])) _
            refine Xj9.ldcInt hx hown (mvT hZ (hw _ (List.mem_of_getElem? (i := 0) rfl))) (g := (mkF m 49 #[.val (.int p1), .val (.int p2), .val (.int p3), .val (.int p4), .val (.int p5), .val (.int n), .val (.int (0 : Int32)), .val (.int (0 : Int32)), .val (.int (1 : Int32)), .unset, .unset, .unset, .unset, .unset, .unset] [(.int p3)])) rfl (hb hby at_49) _ ?_
            show Steps p.tables e below (Tj9.setTop (mkF m 51 #[.val (.int p1), .val (.int p2), .val (.int p3), .val (.int p4), .val (.int p5), .val (.int n), .val (.int (0 : Int32)), .val (.int (0 : Int32)), .val (.int (1 : Int32)), .unset, .unset, .unset, .unset, .unset, .unset] [(.int (2147483647 : Int32)), (.int p3)])) _
            refine XS.iand Xj9.here hx rfl (hb hby at_51) rfl ?_
            refine XS.iload Xj9.here hx rfl (hb hby at_52) rfl ?_
            refine iremM Xj9 hx rfl (hb hby at_54) rfl (own_nz hn0) ?_
            refine XS.istore Xj9.here hx rfl (hb hby at_55) rfl (l' := #[.val (.int p1), .val (.int p2), .val (.int p3), .val (.int p4), .val (.int p5), .val (.int n), .val (.int (0 : Int32)), .val (.int (0 : Int32)), .val (.int (1 : Int32)), .val (.int ((p3 &&& (2147483647 : Int32)) % n)), .unset, .unset, .unset, .unset, .unset]) rfl ?_
            exact kt
          show own_End p e below s (Tj9.setTop (mkF m 57 #[.val (.int p1), .val (.int p2), .val (.int p3), .val (.int p4), .val (.int p5), .val (.int n), .val (.int (0 : Int32)), .val (.int (0 : Int32)), .val (.int (1 : Int32)), .val (.int ((p3 &&& (2147483647 : Int32)) % n)), .unset, .unset, .unset, .unset, .unset] [])) (Q0 Z p1 p2 p3 p4 p5 h0 n0) room_1.cells room_1.slots
          have j57 : ∀ (Tj57 : State) (Lj57 : List Loc) (Xj57 : Stand p l e room_1 s m #[(.int p1), (.int p2), (.int p3), (.int p4), (.int p5)] below meth c Tj57 Lj57 0 0) (ej57 : Tj57.heap = h0) (Nj57 : Fr n0 Lj57) (xa : Int32) (hxa0 : 0 ≤ xa.toInt) (hxa1 : xa.toInt < n.toInt), own_law p1 p2 p3 p4 p5 = own_law_57b p1 p2 p3 p4 p5 n xa → own_End p e below s (Tj57.setTop (mkF m 57 #[.val (.int p1), .val (.int p2), .val (.int p3), .val (.int p4), .val (.int p5), .val (.int n), .val (.int (0 : Int32)), .val (.int (0 : Int32)), .val (.int (1 : Int32)), .val (.int xa), .unset, .unset, .unset, .unset, .unset] [])) (Q0 Z p1 p2 p3 p4 p5 h0 n0) room_1.cells room_1.slots := by
            intro Tj57 Lj57 Xj57 ej57 Nj57 xa hxa0 hxa1 hj
            refine own_pre (A := Tj57.setTop (mkF m 66 #[.val (.int p1), .val (.int p2), .val (.int p3), .val (.int p4), .val (.int p5), .val (.int n), .val (.int (0 : Int32)), .val (.int (0 : Int32)), .val (.int (1 : Int32)), .val (.int xa), .val (.int ((p4 &&& (2147483647 : Int32)) % n)), .unset, .unset, .unset, .unset] [])) (fun tt kt => ?_) ?_
            · show Steps p.tables e below (Tj57.setTop (mkF m 57 #[.val (.int p1), .val (.int p2), .val (.int p3), .val (.int p4), .val (.int p5), .val (.int n), .val (.int (0 : Int32)), .val (.int (0 : Int32)), .val (.int (1 : Int32)), .val (.int xa), .unset, .unset, .unset, .unset, .unset] [])) _
              refine XS.iloadN Xj57.here hx rfl (hb hby at_57) rfl ?_
              show Steps p.tables e below (Tj57.setTop (mkF m 58 #[.val (.int p1), .val (.int p2), .val (.int p3), .val (.int p4), .val (.int p5), .val (.int n), .val (.int (0 : Int32)), .val (.int (0 : Int32)), .val (.int (1 : Int32)), .val (.int xa), .unset, .unset, .unset, .unset, .unset] [(.int p4)])) _
              refine Xj57.ldcInt hx hown (mvT hZ (hw _ (List.mem_of_getElem? (i := 0) rfl))) (g := (mkF m 58 #[.val (.int p1), .val (.int p2), .val (.int p3), .val (.int p4), .val (.int p5), .val (.int n), .val (.int (0 : Int32)), .val (.int (0 : Int32)), .val (.int (1 : Int32)), .val (.int xa), .unset, .unset, .unset, .unset, .unset] [(.int p4)])) rfl (hb hby at_58) _ ?_
              show Steps p.tables e below (Tj57.setTop (mkF m 60 #[.val (.int p1), .val (.int p2), .val (.int p3), .val (.int p4), .val (.int p5), .val (.int n), .val (.int (0 : Int32)), .val (.int (0 : Int32)), .val (.int (1 : Int32)), .val (.int xa), .unset, .unset, .unset, .unset, .unset] [(.int (2147483647 : Int32)), (.int p4)])) _
              refine XS.iand Xj57.here hx rfl (hb hby at_60) rfl ?_
              refine XS.iload Xj57.here hx rfl (hb hby at_61) rfl ?_
              refine iremM Xj57 hx rfl (hb hby at_63) rfl (own_nz hn0) ?_
              refine XS.istore Xj57.here hx rfl (hb hby at_64) rfl (l' := #[.val (.int p1), .val (.int p2), .val (.int p3), .val (.int p4), .val (.int p5), .val (.int n), .val (.int (0 : Int32)), .val (.int (0 : Int32)), .val (.int (1 : Int32)), .val (.int xa), .val (.int ((p4 &&& (2147483647 : Int32)) % n)), .unset, .unset, .unset, .unset]) rfl ?_
              exact kt
            show own_End p e below s (Tj57.setTop (mkF m 66 #[.val (.int p1), .val (.int p2), .val (.int p3), .val (.int p4), .val (.int p5), .val (.int n), .val (.int (0 : Int32)), .val (.int (0 : Int32)), .val (.int (1 : Int32)), .val (.int xa), .val (.int ((p4 &&& (2147483647 : Int32)) % n)), .unset, .unset, .unset, .unset] [])) (Q0 Z p1 p2 p3 p4 p5 h0 n0) room_1.cells room_1.slots
            have j66 : ∀ (Tj66 : State) (Lj66 : List Loc) (Xj66 : Stand p l e room_1 s m #[(.int p1), (.int p2), (.int p3), (.int p4), (.int p5)] below meth c Tj66 Lj66 0 0) (ej66 : Tj66.heap = h0) (Nj66 : Fr n0 Lj66) (xb : Int32) (hxb0 : 0 ≤ xb.toInt) (hxb1 : xb.toInt < n.toInt), own_law p1 p2 p3 p4 p5 = own_law_66b p1 p2 p3 p4 p5 n xa xb → own_End p e below s (Tj66.setTop (mkF m 66 #[.val (.int p1), .val (.int p2), .val (.int p3), .val (.int p4), .val (.int p5), .val (.int n), .val (.int (0 : Int32)), .val (.int (0 : Int32)), .val (.int (1 : Int32)), .val (.int xa), .val (.int xb), .unset, .unset, .unset, .unset] [])) (Q0 Z p1 p2 p3 p4 p5 h0 n0) room_1.cells room_1.slots := by
              intro Tj66 Lj66 Xj66 ej66 Nj66 xb hxb0 hxb1 hj
              refine own_pre (A := Tj66.setTop (mkF m 76 #[.val (.int p1), .val (.int p2), .val (.int p3), .val (.int p4), .val (.int p5), .val (.int n), .val (.int (0 : Int32)), .val (.int (0 : Int32)), .val (.int (1 : Int32)), .val (.int xa), .val (.int xb), .val (.int ((p5 &&& (2147483647 : Int32)) % n)), .unset, .unset, .unset] [])) (fun tt kt => ?_) ?_
              · show Steps p.tables e below (Tj66.setTop (mkF m 66 #[.val (.int p1), .val (.int p2), .val (.int p3), .val (.int p4), .val (.int p5), .val (.int n), .val (.int (0 : Int32)), .val (.int (0 : Int32)), .val (.int (1 : Int32)), .val (.int xa), .val (.int xb), .unset, .unset, .unset, .unset] [])) _
                refine XS.iload Xj66.here hx rfl (hb hby at_66) rfl ?_
                show Steps p.tables e below (Tj66.setTop (mkF m 68 #[.val (.int p1), .val (.int p2), .val (.int p3), .val (.int p4), .val (.int p5), .val (.int n), .val (.int (0 : Int32)), .val (.int (0 : Int32)), .val (.int (1 : Int32)), .val (.int xa), .val (.int xb), .unset, .unset, .unset, .unset] [(.int p5)])) _
                refine Xj66.ldcInt hx hown (mvT hZ (hw _ (List.mem_of_getElem? (i := 0) rfl))) (g := (mkF m 68 #[.val (.int p1), .val (.int p2), .val (.int p3), .val (.int p4), .val (.int p5), .val (.int n), .val (.int (0 : Int32)), .val (.int (0 : Int32)), .val (.int (1 : Int32)), .val (.int xa), .val (.int xb), .unset, .unset, .unset, .unset] [(.int p5)])) rfl (hb hby at_68) _ ?_
                show Steps p.tables e below (Tj66.setTop (mkF m 70 #[.val (.int p1), .val (.int p2), .val (.int p3), .val (.int p4), .val (.int p5), .val (.int n), .val (.int (0 : Int32)), .val (.int (0 : Int32)), .val (.int (1 : Int32)), .val (.int xa), .val (.int xb), .unset, .unset, .unset, .unset] [(.int (2147483647 : Int32)), (.int p5)])) _
                refine XS.iand Xj66.here hx rfl (hb hby at_70) rfl ?_
                refine XS.iload Xj66.here hx rfl (hb hby at_71) rfl ?_
                refine iremM Xj66 hx rfl (hb hby at_73) rfl (own_nz hn0) ?_
                refine XS.istore Xj66.here hx rfl (hb hby at_74) rfl (l' := #[.val (.int p1), .val (.int p2), .val (.int p3), .val (.int p4), .val (.int p5), .val (.int n), .val (.int (0 : Int32)), .val (.int (0 : Int32)), .val (.int (1 : Int32)), .val (.int xa), .val (.int xb), .val (.int ((p5 &&& (2147483647 : Int32)) % n)), .unset, .unset, .unset]) rfl ?_
                exact kt
              show own_End p e below s (Tj66.setTop (mkF m 76 #[.val (.int p1), .val (.int p2), .val (.int p3), .val (.int p4), .val (.int p5), .val (.int n), .val (.int (0 : Int32)), .val (.int (0 : Int32)), .val (.int (1 : Int32)), .val (.int xa), .val (.int xb), .val (.int ((p5 &&& (2147483647 : Int32)) % n)), .unset, .unset, .unset] [])) (Q0 Z p1 p2 p3 p4 p5 h0 n0) room_1.cells room_1.slots
              have j76 : ∀ (Tj76 : State) (Lj76 : List Loc) (Xj76 : Stand p l e room_1 s m #[(.int p1), (.int p2), (.int p3), (.int p4), (.int p5)] below meth c Tj76 Lj76 0 0) (ej76 : Tj76.heap = h0) (Nj76 : Fr n0 Lj76) (xq : Int32) (hxq0 : 0 ≤ xq.toInt) (hxq1 : xq.toInt < n.toInt), own_law p1 p2 p3 p4 p5 = own_law_76b p1 p2 p3 p4 p5 n xa xb xq → own_End p e below s (Tj76.setTop (mkF m 76 #[.val (.int p1), .val (.int p2), .val (.int p3), .val (.int p4), .val (.int p5), .val (.int n), .val (.int (0 : Int32)), .val (.int (0 : Int32)), .val (.int (1 : Int32)), .val (.int xa), .val (.int xb), .val (.int xq), .unset, .unset, .unset] [])) (Q0 Z p1 p2 p3 p4 p5 h0 n0) room_1.cells room_1.slots := by
                intro Tj76 Lj76 Xj76 ej76 Nj76 xq hxq0 hxq1 hj
                obtain ⟨T25, h25, X25, e25, E25, A25, D25, -, st25⟩ := newO Xj76 hx hZ hown (hw _ (List.mem_of_getElem? (i := 1) rfl)) (hw _ (List.mem_of_getElem? (i := 2) rfl)) (hw _ (List.mem_of_getElem? (i := 3) rfl)) ej76 (g := (mkF m 76 #[.val (.int p1), .val (.int p2), .val (.int p3), .val (.int p4), .val (.int p5), .val (.int n), .val (.int (0 : Int32)), .val (.int (0 : Int32)), .val (.int (1 : Int32)), .val (.int xa), .val (.int xb), .val (.int xq), .unset, .unset, .unset] [])) rfl (hb hby at_76) (by decide) (by decide)
                obtain ⟨b25, g25⟩ : ∃ z, z = h0.size := ⟨_, rfl⟩
                rw [← g25] at A25 D25 st25
                have g_b25 : n0 ≤ b25 := Nat.le_trans Z0 (Nat.le_of_eq g25.symm)
                have sz_b25 : h0.size ≤ b25 := Nat.le_trans (show Keep h0 h0 [] from (Keep.refl h0 _)).1 (Nat.le_of_eq g25.symm)
                have K25 : Keep h0 h25 [] := Keep.ext (Keep.refl h0 _) E25
                have Z25 : n0 ≤ h25.size := Nat.le_trans Z0 E25.1
                have F_stamp_b25 : Fld Z h25 b25 "com/example/libfacet/libfacet/regex/StateSet" "stamp" "I" (.int (0 : Int32)) := D25 (Or.inl (hw _ (List.mem_of_getElem? (i := 11) rfl))) (ty := .int) (by decide)
                have F_stack_b25 : Fld Z h25 b25 "com/example/libfacet/libfacet/regex/StateSet" "stack" "[I" .null := D25 (Or.inl (hw _ (List.mem_of_getElem? (i := 14) rfl))) (ty := (.array .int)) (by decide)
                have F_instructions_b25 : Fld Z h25 b25 "com/example/libfacet/libfacet/regex/StateSet" "instructions" "I" (.int (0 : Int32)) := D25 (Or.inr (hw _ (List.mem_of_getElem? (i := 16) rfl))) (ty := .int) (by decide)
                have F_members_b25 : Fld Z h25 b25 "com/example/libfacet/libfacet/regex/StateSet" "members" "[I" .null := D25 (Or.inl (hw _ (List.mem_of_getElem? (i := 18) rfl))) (ty := (.array .int)) (by decide)
                have F_marks_b25 : Fld Z h25 b25 "com/example/libfacet/libfacet/regex/StateSet" "marks" "[C" .null := D25 (Or.inr (hw _ (List.mem_of_getElem? (i := 20) rfl))) (ty := (.array .char)) (by decide)
                have F_markBits_b25 : Fld Z h25 b25 "com/example/libfacet/libfacet/regex/StateSet" "markBits" "[J" .null := D25 (Or.inr (hw _ (List.mem_of_getElem? (i := 23) rfl))) (ty := (.array .long)) (by decide)
                have F_marked_b25 : Fld Z h25 b25 "com/example/libfacet/libfacet/regex/StateSet" "marked" "[I" .null := D25 (Or.inl (hw _ (List.mem_of_getElem? (i := 25) rfl))) (ty := (.array .int)) (by decide)
                have F_markedCount_b25 : Fld Z h25 b25 "com/example/libfacet/libfacet/regex/StateSet" "markedCount" "I" (.int (0 : Int32)) := D25 (Or.inl (hw _ (List.mem_of_getElem? (i := 37) rfl))) (ty := .int) (by decide)
                have F_size_b25 : Fld Z h25 b25 "com/example/libfacet/libfacet/regex/StateSet" "size" "I" (.int (0 : Int32)) := D25 (Or.inl (hw _ (List.mem_of_getElem? (i := 44) rfl))) (ty := .int) (by decide)
                obtain ⟨_, _, ⟨T26, L26, k26, n26⟩, -, X26, ⟨Lc26, hQ26, l26, y26, z26⟩, st26⟩ := X25.specialBack hx (y := (⟨"com/example/libfacet/libfacet/regex/StateSet", "<init>", "(IZ)V"⟩ : MethodName)) rfl hown (mvT hZ (hw _ (List.mem_of_getElem? (i := 4) rfl))) (mvT hZ (hw _ (List.mem_of_getElem? (i := 5) rfl))) (mvT hZ (hw _ (List.mem_of_getElem? (i := 6) rfl))) (by decide) (backOf (W := 1) (rm1N l Z a0 hw [] b25 n (0 : Int32) (0 : Int32) (0 : Int32) (0 : Int32) h25 n0 Z25 ⟨A25, F_stamp_b25, F_stack_b25, F_instructions_b25, F_members_b25, F_marks_b25, F_markBits_b25, F_marked_b25, F_markedCount_b25, F_size_b25⟩ g_b25 hn0 hn1) hZ (hw _ (List.mem_of_getElem? (i := 6) rfl)) (hw _ (List.mem_of_getElem? (i := 3) rfl)) (by decide) (by decide)) (g := (mkF m 84 #[.val (.int p1), .val (.int p2), .val (.int p3), .val (.int p4), .val (.int p5), .val (.int n), .val (.int (0 : Int32)), .val (.int (0 : Int32)), .val (.int (1 : Int32)), .val (.int xa), .val (.int xb), .val (.int xq), .unset, .unset, .unset] [(.int (0 : Int32)), (.int n), (.ref b25), (.ref b25)])) rfl (by rw [hml]; rfl) (Steps.refl _) (a := b25) (argsL := [(.int n), (.int (0 : Int32))]) (rest := [(.ref b25)]) (lenOf pd_0_0 rfl) rfl (by show 2 * 0 + _ ≤ _; exact Nat.le_of_eq rfl) (hb hby at_84) (fun _ _ => ⟨rfl, e25, (by decide : 1 + 3 ≤ _), (by decide : 10 + 288 ≤ _)⟩)
                dsimp only [Pt.U, Pt.locs, Pt.cells, Pt.slots] at X26 l26 y26 z26 st26 hQ26
                subst l26 y26 z26
                obtain ⟨rfl, N26q, c26_ak, Kq26, O26_0, szq_c26_ak, P26_ak_0⟩ := hQ26
                have ne_b25_c26_ak : b25 ≠ c26_ak := Nat.ne_of_lt (Nat.lt_of_lt_of_le A25.lt szq_c26_ak)
                have g_c26_ak : n0 ≤ c26_ak := Nat.le_trans Z25 szq_c26_ak
                have sz_c26_ak : h0.size ≤ c26_ak := Nat.le_trans (show Keep h0 h25 [] from K25).1 szq_c26_ak
                have N26 := Fr.app Nj76 N26q
                have fE_b25_x26 := (A25.keep Kq26)
                have K26 : Keep h0 T26.heap [] := Keep.trans K25 Kq26 (allS (Or.inr sz_b25) all0)
                have Z26 : n0 ≤ T26.heap.size := Nat.le_trans Z25 Kq26.1
                obtain ⟨E_b25_27, F_stamp_b25_28, F_marks_b25_29, F_markBits_b25_30, F_marked_b25_31, F_markedCount_b25_32, F_size_b25_33⟩ := O26_0
                obtain ⟨cq34, kq34, q34a, q34b, q34c⟩ := isOf hZ rfl E_b25_27
                obtain ⟨_, _, ⟨T34, L34, k34, n34⟩, -, X34, ⟨Lc34, hQ34, l34, y34, z34⟩, st34⟩ := X26.virtualBack hx (y := (⟨"com/example/libfacet/libfacet/regex/StateSet", "isMarked", "(I)Z"⟩ : MethodName)) (z := (⟨"com/example/libfacet/libfacet/regex/StateSet", "isMarked", "(I)Z"⟩ : MethodName)) hown (mvT hZ (hw _ (List.mem_of_getElem? (i := 26) rfl))) (mvT hZ (hw _ (List.mem_of_getElem? (i := 27) rfl))) (notFace_of_selects (args := #[]) (mvT hZ (hw _ (List.mem_of_getElem? (i := 29) rfl)))) (mvT hZ (hw _ (List.mem_of_getElem? (i := 29) rfl))) (mvT hZ (hw _ (List.mem_of_getElem? (i := 28) rfl))) (by decide) (backOf (W := 0) (rm3N l Z a0 hw [] b25 xq (1 : Int32) c26_ak (0 : Int32) (0 : Int32) (fun _ => (0 : Int32)) n T26.heap n0 Z26 ⟨E_b25_27, F_stamp_b25_28, F_marks_b25_29, F_markBits_b25_30, F_marked_b25_31, F_markedCount_b25_32, F_size_b25_33⟩ P26_ak_0 hxq0 hxq1) hZ (hw _ (List.mem_of_getElem? (i := 30) rfl)) (hw _ (List.mem_of_getElem? (i := 3) rfl)) (by decide) (by decide)) q34a q34c (g := (mkF m 93 #[.val (.int p1), .val (.int p2), .val (.int p3), .val (.int p4), .val (.int p5), .val (.int n), .val (.int (0 : Int32)), .val (.int (0 : Int32)), .val (.int (1 : Int32)), .val (.int xa), .val (.int xb), .val (.int xq), .val (.ref b25), .unset, .unset] [(.int xq), (.ref b25)])) rfl (by rw [hml]; rfl) (Steps.refl _) (argsL := [(.int xq)]) (rest := []) (lenOf pd_0_1 rfl) rfl (by show 2 * 0 + _ ≤ _; exact Nat.le_of_eq rfl) (hb hby at_93) (fun _ _ => ⟨rfl, rfl, (by decide : 4 + 0 ≤ _), (by decide : 298 + 0 ≤ _)⟩)
                dsimp only [Pt.U, Pt.locs, Pt.cells, Pt.slots] at X34 l34 y34 z34 st34 hQ34
                subst l34 y34 z34
                obtain ⟨rfl, N34q, e34⟩ := hQ34
                have N34 := Fr.app N26 N34q
                refine own_pre (A := T34.setTop (mkF m 96 #[.val (.int p1), .val (.int p2), .val (.int p3), .val (.int p4), .val (.int p5), .val (.int n), .val (.int (0 : Int32)), .val (.int (0 : Int32)), .val (.int (1 : Int32)), .val (.int xa), .val (.int xb), .val (.int xq), .val (.ref b25), .unset, .unset] [(.int (own_isN xq (fun _ => (0 : Int32)) n (1 : Int32) (0 : Int32) (0 : Int32)))])) (fun tt kt => ?_) ?_
                · show Steps p.tables e below (Tj76.setTop (mkF m 76 #[.val (.int p1), .val (.int p2), .val (.int p3), .val (.int p4), .val (.int p5), .val (.int n), .val (.int (0 : Int32)), .val (.int (0 : Int32)), .val (.int (1 : Int32)), .val (.int xa), .val (.int xb), .val (.int xq), .unset, .unset, .unset] [])) _
                  refine st25 _ ?_
                  show Steps p.tables e below (T25.setTop (mkF m 79 #[.val (.int p1), .val (.int p2), .val (.int p3), .val (.int p4), .val (.int p5), .val (.int n), .val (.int (0 : Int32)), .val (.int (0 : Int32)), .val (.int (1 : Int32)), .val (.int xa), .val (.int xb), .val (.int xq), .unset, .unset, .unset] [(.ref b25)])) _
                  refine XS.dup X25.here hx rfl (hb hby at_79) rfl rfl ?_
                  refine XS.iload X25.here hx rfl (hb hby at_80) rfl ?_
                  refine XS.iload X25.here hx rfl (hb hby at_82) rfl ?_
                  show Steps p.tables e below (T25.setTop (mkF m 84 #[.val (.int p1), .val (.int p2), .val (.int p3), .val (.int p4), .val (.int p5), .val (.int n), .val (.int (0 : Int32)), .val (.int (0 : Int32)), .val (.int (1 : Int32)), .val (.int xa), .val (.int xb), .val (.int xq), .unset, .unset, .unset] [(.int (0 : Int32)), (.int n), (.ref b25), (.ref b25)])) _
                  refine st26.trans ?_
                  show Steps p.tables e below (T26.setTop (mkF m 87 #[.val (.int p1), .val (.int p2), .val (.int p3), .val (.int p4), .val (.int p5), .val (.int n), .val (.int (0 : Int32)), .val (.int (0 : Int32)), .val (.int (1 : Int32)), .val (.int xa), .val (.int xb), .val (.int xq), .unset, .unset, .unset] [(.ref b25)])) _
                  refine XS.astore X26.here hx rfl (hb hby at_87) rfl rfl (l' := #[.val (.int p1), .val (.int p2), .val (.int p3), .val (.int p4), .val (.int p5), .val (.int n), .val (.int (0 : Int32)), .val (.int (0 : Int32)), .val (.int (1 : Int32)), .val (.int xa), .val (.int xb), .val (.int xq), .val (.ref b25), .unset, .unset]) rfl ?_
                  refine XS.aload X26.here hx rfl (hb hby at_89) rfl rfl ?_
                  refine XS.iload X26.here hx rfl (hb hby at_91) rfl ?_
                  show Steps p.tables e below (T26.setTop (mkF m 93 #[.val (.int p1), .val (.int p2), .val (.int p3), .val (.int p4), .val (.int p5), .val (.int n), .val (.int (0 : Int32)), .val (.int (0 : Int32)), .val (.int (1 : Int32)), .val (.int xa), .val (.int xb), .val (.int xq), .val (.ref b25), .unset, .unset] [(.int xq), (.ref b25)])) _
                  refine st34.trans ?_
                  exact kt
                show own_End p e below s (T34.setTop (mkF m 96 #[.val (.int p1), .val (.int p2), .val (.int p3), .val (.int p4), .val (.int p5), .val (.int n), .val (.int (0 : Int32)), .val (.int (0 : Int32)), .val (.int (1 : Int32)), .val (.int xa), .val (.int xb), .val (.int xq), .val (.ref b25), .unset, .unset] [(.int (own_isN xq (fun _ => (0 : Int32)) n (1 : Int32) (0 : Int32) (0 : Int32)))])) (Q0 Z p1 p2 p3 p4 p5 h0 n0) room_1.cells room_1.slots
                have j104 : ∀ (Tj104 : State) (Lj104 : List Loc) (Xj104 : Stand p l e room_1 s m #[(.int p1), (.int p2), (.int p3), (.int p4), (.int p5)] below meth c Tj104 Lj104 4 298) (ej104 : Tj104.heap = T26.heap) (Nj104 : Fr n0 Lj104) (ok1 : Int32) , own_law p1 p2 p3 p4 p5 = own_law_104b p1 p2 p3 p4 p5 n xa xb xq ok1 → own_End p e below s (Tj104.setTop (mkF m 104 #[.val (.int p1), .val (.int p2), .val (.int p3), .val (.int p4), .val (.int p5), .val (.int n), .val (.int (0 : Int32)), .val (.int (0 : Int32)), .val (.int (1 : Int32)), .val (.int xa), .val (.int xb), .val (.int xq), .val (.ref b25), .unset, .unset] [(.int ok1)])) (Q0 Z p1 p2 p3 p4 p5 h0 n0) room_1.cells room_1.slots := by
                  intro Tj104 Lj104 Xj104 ej104 Nj104 ok1  hj
                  obtain ⟨cq35, kq35, q35a, q35b, q35c⟩ := isOf hZ ej104 E_b25_27
                  obtain ⟨_, _, ⟨T35, L35, k35, n35⟩, -, X35, ⟨Lc35, hQ35, l35, y35, z35⟩, st35⟩ := Xj104.virtualBack hx (y := (⟨"com/example/libfacet/libfacet/regex/StateSet", "mark", "(I)Z"⟩ : MethodName)) (z := (⟨"com/example/libfacet/libfacet/regex/StateSet", "mark", "(I)Z"⟩ : MethodName)) hown (mvT hZ (hw _ (List.mem_of_getElem? (i := 31) rfl))) (mvT hZ (hw _ (List.mem_of_getElem? (i := 32) rfl))) (notFace_of_selects (args := #[]) (mvT hZ (hw _ (List.mem_of_getElem? (i := 34) rfl)))) (mvT hZ (hw _ (List.mem_of_getElem? (i := 34) rfl))) (mvT hZ (hw _ (List.mem_of_getElem? (i := 33) rfl))) (by decide) (backOf (W := 0) (rm4N l Z a0 hw [] b25 xa (1 : Int32) c26_ak (0 : Int32) (0 : Int32) (fun _ => (0 : Int32)) n T26.heap n0 Z26 ⟨E_b25_27, F_stamp_b25_28, F_marks_b25_29, F_markBits_b25_30, F_marked_b25_31, F_markedCount_b25_32, F_size_b25_33⟩ P26_ak_0 ne_b25_c26_ak g_c26_ak hxa0 hxa1) hZ (hw _ (List.mem_of_getElem? (i := 35) rfl)) (hw _ (List.mem_of_getElem? (i := 3) rfl)) (by decide) (by decide)) q35a q35c (g := (mkF m 110 #[.val (.int p1), .val (.int p2), .val (.int p3), .val (.int p4), .val (.int p5), .val (.int n), .val (.int (0 : Int32)), .val (.int (0 : Int32)), .val (.int (1 : Int32)), .val (.int xa), .val (.int xb), .val (.int xq), .val (.ref b25), .val (.int ok1), .unset] [(.int xa), (.ref b25)])) rfl (by rw [hml]; rfl) (Steps.refl _) (argsL := [(.int xa)]) (rest := []) (lenOf pd_0_1 rfl) rfl (by show 2 * 0 + _ ≤ _; exact Nat.le_of_eq rfl) (hb hby at_110) (fun _ _ => ⟨rfl, ej104, (by decide : 4 + 0 ≤ _), (by decide : 298 + 0 ≤ _)⟩)
                  dsimp only [Pt.U, Pt.locs, Pt.cells, Pt.slots] at X35 l35 y35 z35 st35 hQ35
                  subst l35 y35 z35
                  obtain ⟨rfl, N35q, Kq35, V35_0⟩ := hQ35
                  have N35 := Fr.app Nj104 N35q
                  have fE_b25_x35 := (E_b25_27.keep Kq35)
                  have fF_b25_stamp_x35 := (F_stamp_b25_28.keep Kq35 (ninS ne_b25_c26_ak nin0))
                  have fF_b25_marks_x35 := (F_marks_b25_29.keep Kq35 (ninS ne_b25_c26_ak nin0))
                  have fF_b25_markBits_x35 := (F_markBits_b25_30.keep Kq35 (ninS ne_b25_c26_ak nin0))
                  have fF_b25_marked_x35 := (F_marked_b25_31.keep Kq35 (ninS ne_b25_c26_ak nin0))
                  have fF_b25_markedCount_x35 := (F_markedCount_b25_32.keep Kq35 (ninS ne_b25_c26_ak nin0))
                  have fF_b25_size_x35 := (F_size_b25_33.keep Kq35 (ninS ne_b25_c26_ak nin0))
                  have K35 : Keep h0 T35.heap [] := Keep.trans K26 Kq35 (allS (Or.inr sz_c26_ak) all0)
                  have Z35 : n0 ≤ T35.heap.size := Nat.le_trans Z26 Kq35.1
                  refine own_pre (A := T35.setTop (mkF m 116 #[.val (.int p1), .val (.int p2), .val (.int p3), .val (.int p4), .val (.int p5), .val (.int n), .val (.int (0 : Int32)), .val (.int (0 : Int32)), .val (.int (1 : Int32)), .val (.int xa), .val (.int xb), .val (.int xq), .val (.ref b25), .val (.int ok1), .unset] [(.int ok1)])) (fun tt kt => ?_) ?_
                  · show Steps p.tables e below (Tj104.setTop (mkF m 104 #[.val (.int p1), .val (.int p2), .val (.int p3), .val (.int p4), .val (.int p5), .val (.int n), .val (.int (0 : Int32)), .val (.int (0 : Int32)), .val (.int (1 : Int32)), .val (.int xa), .val (.int xb), .val (.int xq), .val (.ref b25), .unset, .unset] [(.int ok1)])) _
                    refine XS.istore Xj104.here hx rfl (hb hby at_104) rfl (l' := #[.val (.int p1), .val (.int p2), .val (.int p3), .val (.int p4), .val (.int p5), .val (.int n), .val (.int (0 : Int32)), .val (.int (0 : Int32)), .val (.int (1 : Int32)), .val (.int xa), .val (.int xb), .val (.int xq), .val (.ref b25), .val (.int ok1), .unset]) rfl ?_
                    refine XS.aload Xj104.here hx rfl (hb hby at_106) rfl rfl ?_
                    refine XS.iload Xj104.here hx rfl (hb hby at_108) rfl ?_
                    show Steps p.tables e below (Tj104.setTop (mkF m 110 #[.val (.int p1), .val (.int p2), .val (.int p3), .val (.int p4), .val (.int p5), .val (.int n), .val (.int (0 : Int32)), .val (.int (0 : Int32)), .val (.int (1 : Int32)), .val (.int xa), .val (.int xb), .val (.int xq), .val (.ref b25), .val (.int ok1), .unset] [(.int xa), (.ref b25)])) _
                    refine st35.trans ?_
                    show Steps p.tables e below (T35.setTop (mkF m 113 #[.val (.int p1), .val (.int p2), .val (.int p3), .val (.int p4), .val (.int p5), .val (.int n), .val (.int (0 : Int32)), .val (.int (0 : Int32)), .val (.int (1 : Int32)), .val (.int xa), .val (.int xb), .val (.int xq), .val (.ref b25), .val (.int ok1), .unset] [(.int (own_markN xa (fun _ => (0 : Int32)) n (1 : Int32) (0 : Int32) (0 : Int32)))])) _
                    refine XS.pop X35.here hx rfl (hb hby at_113) rfl rfl ?_
                    refine XS.iload X35.here hx rfl (hb hby at_114) rfl ?_
                    exact kt
                  show own_End p e below s (T35.setTop (mkF m 116 #[.val (.int p1), .val (.int p2), .val (.int p3), .val (.int p4), .val (.int p5), .val (.int n), .val (.int (0 : Int32)), .val (.int (0 : Int32)), .val (.int (1 : Int32)), .val (.int xa), .val (.int xb), .val (.int xq), .val (.ref b25), .val (.int ok1), .unset] [(.int ok1)])) (Q0 Z p1 p2 p3 p4 p5 h0 n0) room_1.cells room_1.slots
                  have j134 : ∀ (Tj134 : State) (Lj134 : List Loc) (Xj134 : Stand p l e room_1 s m #[(.int p1), (.int p2), (.int p3), (.int p4), (.int p5)] below meth c Tj134 Lj134 4 298) (ej134 : Tj134.heap = T35.heap) (Nj134 : Fr n0 Lj134) (ok2 : Int32) , own_law p1 p2 p3 p4 p5 = own_law_134b p1 p2 p3 p4 p5 n xa xb xq ok1 ok2 → own_End p e below s (Tj134.setTop (mkF m 134 #[.val (.int p1), .val (.int p2), .val (.int p3), .val (.int p4), .val (.int p5), .val (.int n), .val (.int (0 : Int32)), .val (.int (0 : Int32)), .val (.int (1 : Int32)), .val (.int xa), .val (.int xb), .val (.int xq), .val (.ref b25), .val (.int ok1), .unset] [(.int ok2)])) (Q0 Z p1 p2 p3 p4 p5 h0 n0) room_1.cells room_1.slots := by
                    intro Tj134 Lj134 Xj134 ej134 Nj134 ok2  hj
                    obtain ⟨cq36, kq36, q36a, q36b, q36c⟩ := isOf hZ ej134 fE_b25_x35
                    obtain ⟨_, _, ⟨T36, L36, k36, n36⟩, -, X36, ⟨Lc36, hQ36, l36, y36, z36⟩, st36⟩ := Xj134.virtualBack hx (y := (⟨"com/example/libfacet/libfacet/regex/StateSet", "mark", "(I)Z"⟩ : MethodName)) (z := (⟨"com/example/libfacet/libfacet/regex/StateSet", "mark", "(I)Z"⟩ : MethodName)) hown (mvT hZ (hw _ (List.mem_of_getElem? (i := 31) rfl))) (mvT hZ (hw _ (List.mem_of_getElem? (i := 32) rfl))) (notFace_of_selects (args := #[]) (mvT hZ (hw _ (List.mem_of_getElem? (i := 34) rfl)))) (mvT hZ (hw _ (List.mem_of_getElem? (i := 34) rfl))) (mvT hZ (hw _ (List.mem_of_getElem? (i := 33) rfl))) (by decide) (backOf (W := 0) (rm4N l Z a0 hw [] b25 xb (1 : Int32) c26_ak (0 : Int32) (0 : Int32) (own_put (fun _ => (0 : Int32)) xa (own_ch (1 : Int32))) n T35.heap n0 Z35 ⟨fE_b25_x35, fF_b25_stamp_x35, fF_b25_marks_x35, fF_b25_markBits_x35, fF_b25_marked_x35, fF_b25_markedCount_x35, fF_b25_size_x35⟩ V35_0 ne_b25_c26_ak g_c26_ak hxb0 hxb1) hZ (hw _ (List.mem_of_getElem? (i := 35) rfl)) (hw _ (List.mem_of_getElem? (i := 3) rfl)) (by decide) (by decide)) q36a q36c (g := (mkF m 150 #[.val (.int p1), .val (.int p2), .val (.int p3), .val (.int p4), .val (.int p5), .val (.int n), .val (.int (0 : Int32)), .val (.int (0 : Int32)), .val (.int (1 : Int32)), .val (.int xa), .val (.int xb), .val (.int xq), .val (.ref b25), .val (.int ok2), .unset] [(.int xb), (.ref b25)])) rfl (by rw [hml]; rfl) (Steps.refl _) (argsL := [(.int xb)]) (rest := []) (lenOf pd_0_1 rfl) rfl (by show 2 * 0 + _ ≤ _; exact Nat.le_of_eq rfl) (hb hby at_150) (fun _ _ => ⟨rfl, ej134, (by decide : 4 + 0 ≤ _), (by decide : 298 + 0 ≤ _)⟩)
                    dsimp only [Pt.U, Pt.locs, Pt.cells, Pt.slots] at X36 l36 y36 z36 st36 hQ36
                    subst l36 y36 z36
                    obtain ⟨rfl, N36q, Kq36, V36_0⟩ := hQ36
                    have N36 := Fr.app Nj134 N36q
                    have fE_b25_x36 := (fE_b25_x35.keep Kq36)
                    have fF_b25_stamp_x36 := (fF_b25_stamp_x35.keep Kq36 (ninS ne_b25_c26_ak nin0))
                    have fF_b25_marks_x36 := (fF_b25_marks_x35.keep Kq36 (ninS ne_b25_c26_ak nin0))
                    have fF_b25_markBits_x36 := (fF_b25_markBits_x35.keep Kq36 (ninS ne_b25_c26_ak nin0))
                    have fF_b25_marked_x36 := (fF_b25_marked_x35.keep Kq36 (ninS ne_b25_c26_ak nin0))
                    have fF_b25_markedCount_x36 := (fF_b25_markedCount_x35.keep Kq36 (ninS ne_b25_c26_ak nin0))
                    have fF_b25_size_x36 := (fF_b25_size_x35.keep Kq36 (ninS ne_b25_c26_ak nin0))
                    have K36 : Keep h0 T36.heap [] := Keep.trans K35 Kq36 (allS (Or.inr sz_c26_ak) all0)
                    have Z36 : n0 ≤ T36.heap.size := Nat.le_trans Z35 Kq36.1
                    obtain ⟨cq37, kq37, q37a, q37b, q37c⟩ := isOf hZ rfl fE_b25_x36
                    obtain ⟨_, _, ⟨T37, L37, k37, n37⟩, -, X37, ⟨Lc37, hQ37, l37, y37, z37⟩, st37⟩ := X36.virtualBack hx (y := (⟨"com/example/libfacet/libfacet/regex/StateSet", "clear", "()V"⟩ : MethodName)) (z := (⟨"com/example/libfacet/libfacet/regex/StateSet", "clear", "()V"⟩ : MethodName)) hown (mvT hZ (hw _ (List.mem_of_getElem? (i := 38) rfl))) (mvT hZ (hw _ (List.mem_of_getElem? (i := 39) rfl))) (notFace_of_selects (args := #[]) (mvT hZ (hw _ (List.mem_of_getElem? (i := 41) rfl)))) (mvT hZ (hw _ (List.mem_of_getElem? (i := 41) rfl))) (mvT hZ (hw _ (List.mem_of_getElem? (i := 40) rfl))) (by decide) (backOf (W := 0) (rm5N l Z a0 hw [] b25 (1 : Int32) c26_ak (0 : Int32) (0 : Int32) T36.heap n0 Z36 ⟨fE_b25_x36, fF_b25_stamp_x36, fF_b25_marks_x36, fF_b25_markBits_x36, fF_b25_marked_x36, fF_b25_markedCount_x36, fF_b25_size_x36⟩ g_b25 (by decide)) hZ (hw _ (List.mem_of_getElem? (i := 42) rfl)) (hw _ (List.mem_of_getElem? (i := 3) rfl)) (by decide) (by decide)) q37a q37c (g := (mkF m 161 #[.val (.int p1), .val (.int p2), .val (.int p3), .val (.int p4), .val (.int p5), .val (.int n), .val (.int (0 : Int32)), .val (.int (0 : Int32)), .val (.int (1 : Int32)), .val (.int xa), .val (.int xb), .val (.int xq), .val (.ref b25), .val (.int ok2), .unset] [(.ref b25)])) rfl (by rw [hml]; rfl) (Steps.refl _) (argsL := []) (rest := []) (lenOf pd_0_2 rfl) rfl (by show 2 * 0 + _ ≤ _; exact Nat.le_of_eq rfl) (hb hby at_161) (fun _ _ => ⟨rfl, rfl, (by decide : 4 + 0 ≤ _), (by decide : 298 + 0 ≤ _)⟩)
                    dsimp only [Pt.U, Pt.locs, Pt.cells, Pt.slots] at X37 l37 y37 z37 st37 hQ37
                    subst l37 y37 z37
                    obtain ⟨rfl, N37q, Kq37, O37_0⟩ := hQ37
                    have N37 := Fr.app N36 N37q
                    have fE_b25_x37 := (fE_b25_x36.keep Kq37)
                    have fA_c26_ak_x37 := (V36_0.keep Kq37 (ninS (Ne.symm ne_b25_c26_ak) nin0))
                    have K37 : Keep h0 T37.heap [] := Keep.trans K36 Kq37 (allS (Or.inr sz_b25) all0)
                    have Z37 : n0 ≤ T37.heap.size := Nat.le_trans Z36 Kq37.1
                    obtain ⟨E_b25_38, F_stamp_b25_39, F_marks_b25_40, F_markBits_b25_41, F_marked_b25_42, F_markedCount_b25_43, F_size_b25_44⟩ := O37_0
                    refine own_pre (A := T37.setTop (mkF m 197 #[.val (.int p1), .val (.int p2), .val (.int p3), .val (.int p4), .val (.int p5), .val (.int n), .val (.int (0 : Int32)), .val (.int (0 : Int32)), .val (.int (1 : Int32)), .val (.int xa), .val (.int xb), .val (.int xq), .val (.ref b25), .val (.int ok2), .val (.int (0 : Int32))] [(.int ok2)])) (fun tt kt => ?_) ?_
                    · show Steps p.tables e below (Tj134.setTop (mkF m 134 #[.val (.int p1), .val (.int p2), .val (.int p3), .val (.int p4), .val (.int p5), .val (.int n), .val (.int (0 : Int32)), .val (.int (0 : Int32)), .val (.int (1 : Int32)), .val (.int xa), .val (.int xb), .val (.int xq), .val (.ref b25), .val (.int ok1), .unset] [(.int ok2)])) _
                      refine XS.istore Xj134.here hx rfl (hb hby at_134) rfl (l' := #[.val (.int p1), .val (.int p2), .val (.int p3), .val (.int p4), .val (.int p5), .val (.int n), .val (.int (0 : Int32)), .val (.int (0 : Int32)), .val (.int (1 : Int32)), .val (.int xa), .val (.int xb), .val (.int xq), .val (.ref b25), .val (.int ok2), .unset]) rfl ?_
                      refine XS.iload Xj134.here hx rfl (hb hby at_136) rfl ?_
                      refine XS.ifYes Xj134.here hx rfl (pc0 := 138) (pc' := 146) rfl (hb hby at_138) rfl ((if0 _ _).trans (teq ((by decide) : (0 : Int32) = (0 : Int32))).1) (by decide) (by decide) ?_
                      refine XS.aload Xj134.here hx rfl (hb hby at_146) rfl rfl ?_
                      refine XS.iload Xj134.here hx rfl (hb hby at_148) rfl ?_
                      show Steps p.tables e below (Tj134.setTop (mkF m 150 #[.val (.int p1), .val (.int p2), .val (.int p3), .val (.int p4), .val (.int p5), .val (.int n), .val (.int (0 : Int32)), .val (.int (0 : Int32)), .val (.int (1 : Int32)), .val (.int xa), .val (.int xb), .val (.int xq), .val (.ref b25), .val (.int ok2), .unset] [(.int xb), (.ref b25)])) _
                      refine st36.trans ?_
                      show Steps p.tables e below (T36.setTop (mkF m 153 #[.val (.int p1), .val (.int p2), .val (.int p3), .val (.int p4), .val (.int p5), .val (.int n), .val (.int (0 : Int32)), .val (.int (0 : Int32)), .val (.int (1 : Int32)), .val (.int xa), .val (.int xb), .val (.int xq), .val (.ref b25), .val (.int ok2), .unset] [(.int (own_markN xb (own_put (fun _ => (0 : Int32)) xa (own_ch (1 : Int32))) n (1 : Int32) (0 : Int32) (0 : Int32)))])) _
                      refine XS.pop X36.here hx rfl (hb hby at_153) rfl rfl ?_
                      refine XS.iload X36.here hx rfl (hb hby at_154) rfl ?_
                      refine XS.ifNo X36.here hx rfl (hb hby at_156) rfl ((if0 _ _).trans (feq ((by decide) : ¬ ((1 : Int32) = (0 : Int32)))).1) ?_
                      refine XS.aload X36.here hx rfl (hb hby at_159) rfl rfl ?_
                      show Steps p.tables e below (T36.setTop (mkF m 161 #[.val (.int p1), .val (.int p2), .val (.int p3), .val (.int p4), .val (.int p5), .val (.int n), .val (.int (0 : Int32)), .val (.int (0 : Int32)), .val (.int (1 : Int32)), .val (.int xa), .val (.int xb), .val (.int xq), .val (.ref b25), .val (.int ok2), .unset] [(.ref b25)])) _
                      refine st37.trans ?_
                      show Steps p.tables e below (T37.setTop (mkF m 164 #[.val (.int p1), .val (.int p2), .val (.int p3), .val (.int p4), .val (.int p5), .val (.int n), .val (.int (0 : Int32)), .val (.int (0 : Int32)), .val (.int (1 : Int32)), .val (.int xa), .val (.int xb), .val (.int xq), .val (.ref b25), .val (.int ok2), .unset] [])) _
                      refine XS.iload X37.here hx rfl (hb hby at_164) rfl ?_
                      refine XS.ifYes X37.here hx rfl (pc0 := 166) (pc' := 192) rfl (hb hby at_166) rfl ((if0 _ _).trans (feq ((by decide) : ¬ ((1 : Int32) = (0 : Int32)))).2) (by decide) (by decide) ?_
                      refine XS.iconst X37.here hx rfl (hb hby at_192) ?_
                      refine XS.istore X37.here hx rfl (hb hby at_193) rfl (l' := #[.val (.int p1), .val (.int p2), .val (.int p3), .val (.int p4), .val (.int p5), .val (.int n), .val (.int (0 : Int32)), .val (.int (0 : Int32)), .val (.int (1 : Int32)), .val (.int xa), .val (.int xb), .val (.int xq), .val (.ref b25), .val (.int ok2), .val (.int (0 : Int32))]) rfl ?_
                      refine XS.iload X37.here hx rfl (hb hby at_195) rfl ?_
                      exact kt
                    show own_End p e below s (T37.setTop (mkF m 197 #[.val (.int p1), .val (.int p2), .val (.int p3), .val (.int p4), .val (.int p5), .val (.int n), .val (.int (0 : Int32)), .val (.int (0 : Int32)), .val (.int (1 : Int32)), .val (.int xa), .val (.int xb), .val (.int xq), .val (.ref b25), .val (.int ok2), .val (.int (0 : Int32))] [(.int ok2)])) (Q0 Z p1 p2 p3 p4 p5 h0 n0) room_1.cells room_1.slots
                    by_cases hc197_45 : ok2 = (0 : Int32)
                    · refine own_pre (A := T37.setTop (mkF m 217 #[.val (.int p1), .val (.int p2), .val (.int p3), .val (.int p4), .val (.int p5), .val (.int n), .val (.int (0 : Int32)), .val (.int (0 : Int32)), .val (.int (1 : Int32)), .val (.int xa), .val (.int xb), .val (.int xq), .val (.ref b25), .val (.int ok2), .val (.int (0 : Int32))] [(.int (0 : Int32))])) (fun tt kt => ?_) ?_
                      · show Steps p.tables e below (T37.setTop (mkF m 197 #[.val (.int p1), .val (.int p2), .val (.int p3), .val (.int p4), .val (.int p5), .val (.int n), .val (.int (0 : Int32)), .val (.int (0 : Int32)), .val (.int (1 : Int32)), .val (.int xa), .val (.int xb), .val (.int xq), .val (.ref b25), .val (.int ok2), .val (.int (0 : Int32))] [(.int ok2)])) _
                        refine XS.ifYes X37.here hx rfl (pc0 := 197) (pc' := 216) rfl (hb hby at_197) rfl ((if0 _ _).trans (teq hc197_45).1) (by decide) (by decide) ?_
                        refine XS.iconst X37.here hx rfl (hb hby at_216) ?_
                        exact kt
                      show own_End p e below s (T37.setTop (mkF m 217 #[.val (.int p1), .val (.int p2), .val (.int p3), .val (.int p4), .val (.int p5), .val (.int n), .val (.int (0 : Int32)), .val (.int (0 : Int32)), .val (.int (1 : Int32)), .val (.int xa), .val (.int xb), .val (.int xq), .val (.ref b25), .val (.int ok2), .val (.int (0 : Int32))] [(.int (0 : Int32))])) (Q0 Z p1 p2 p3 p4 p5 h0 n0) room_1.cells room_1.slots
                      have hv : (own_law p1 p2 p3 p4 p5) = (0 : Int32) := hj.trans (by simp only [own_law_134b, if_pos hc197_45])
                      obtain ⟨fs, hr, hrun, hended, hW, hsame⟩ := X37.leave (v := some (.int (0 : Int32))) (fun h => by rw [Bd.returns] at h; cases h)
                      refine ⟨_, _, ?_, hrun, hended, _, _, rfl, ?_, ⟨_, rfl⟩, hW, hsame.mono (by decide) (by decide)⟩
                      · exact retN X37 hx (t := .boolean) Bd.returns (by simp) (hb hby at_217) hr
                      · show Q0 Z p1 p2 p3 p4 p5 h0 n0 _ T37.heap _
                        exact ⟨(congrArg (fun z => some (Value.int z)) hv.symm), N37⟩
                    · obtain ⟨cq46, kq46, q46a, q46b, q46c⟩ := isOf hZ rfl E_b25_38
                      obtain ⟨_, _, ⟨T46, L46, k46, n46⟩, -, X46, ⟨Lc46, hQ46, l46, y46, z46⟩, st46⟩ := X37.virtualBack hx (y := (⟨"com/example/libfacet/libfacet/regex/StateSet", "isMarked", "(I)Z"⟩ : MethodName)) (z := (⟨"com/example/libfacet/libfacet/regex/StateSet", "isMarked", "(I)Z"⟩ : MethodName)) hown (mvT hZ (hw _ (List.mem_of_getElem? (i := 26) rfl))) (mvT hZ (hw _ (List.mem_of_getElem? (i := 27) rfl))) (notFace_of_selects (args := #[]) (mvT hZ (hw _ (List.mem_of_getElem? (i := 29) rfl)))) (mvT hZ (hw _ (List.mem_of_getElem? (i := 29) rfl))) (mvT hZ (hw _ (List.mem_of_getElem? (i := 28) rfl))) (by decide) (backOf (W := 0) (rm3N l Z a0 hw [] b25 xq (2 : Int32) c26_ak (0 : Int32) (0 : Int32) (own_put (own_put (fun _ => (0 : Int32)) xa (own_ch (1 : Int32))) xb (own_ch (1 : Int32))) n T37.heap n0 Z37 ⟨E_b25_38, F_stamp_b25_39, F_marks_b25_40, F_markBits_b25_41, F_marked_b25_42, F_markedCount_b25_43, F_size_b25_44⟩ fA_c26_ak_x37 hxq0 hxq1) hZ (hw _ (List.mem_of_getElem? (i := 30) rfl)) (hw _ (List.mem_of_getElem? (i := 3) rfl)) (by decide) (by decide)) q46a q46c (g := (mkF m 204 #[.val (.int p1), .val (.int p2), .val (.int p3), .val (.int p4), .val (.int p5), .val (.int n), .val (.int (0 : Int32)), .val (.int (0 : Int32)), .val (.int (1 : Int32)), .val (.int xa), .val (.int xb), .val (.int xq), .val (.ref b25), .val (.int ok2), .val (.int (0 : Int32))] [(.int xq), (.ref b25)])) rfl (by rw [hml]; rfl) (Steps.refl _) (argsL := [(.int xq)]) (rest := []) (lenOf pd_0_1 rfl) rfl (by show 2 * 0 + _ ≤ _; exact Nat.le_of_eq rfl) (hb hby at_204) (fun _ _ => ⟨rfl, rfl, (by decide : 4 + 0 ≤ _), (by decide : 298 + 0 ≤ _)⟩)
                      dsimp only [Pt.U, Pt.locs, Pt.cells, Pt.slots] at X46 l46 y46 z46 st46 hQ46
                      subst l46 y46 z46
                      obtain ⟨rfl, N46q, e46⟩ := hQ46
                      have N46 := Fr.app N37 N46q
                      refine own_pre (A := T46.setTop (mkF m 209 #[.val (.int p1), .val (.int p2), .val (.int p3), .val (.int p4), .val (.int p5), .val (.int n), .val (.int (0 : Int32)), .val (.int (0 : Int32)), .val (.int (1 : Int32)), .val (.int xa), .val (.int xb), .val (.int xq), .val (.ref b25), .val (.int ok2), .val (.int (0 : Int32))] [(.int (0 : Int32)), (.int (own_isN xq (own_put (own_put (fun _ => (0 : Int32)) xa (own_ch (1 : Int32))) xb (own_ch (1 : Int32))) n (2 : Int32) (0 : Int32) (0 : Int32)))])) (fun tt kt => ?_) ?_
                      · show Steps p.tables e below (T37.setTop (mkF m 197 #[.val (.int p1), .val (.int p2), .val (.int p3), .val (.int p4), .val (.int p5), .val (.int n), .val (.int (0 : Int32)), .val (.int (0 : Int32)), .val (.int (1 : Int32)), .val (.int xa), .val (.int xb), .val (.int xq), .val (.ref b25), .val (.int ok2), .val (.int (0 : Int32))] [(.int ok2)])) _
                        refine XS.ifNo X37.here hx rfl (hb hby at_197) rfl ((if0 _ _).trans (feq hc197_45).1) ?_
                        refine XS.aload X37.here hx rfl (hb hby at_200) rfl rfl ?_
                        refine XS.iload X37.here hx rfl (hb hby at_202) rfl ?_
                        show Steps p.tables e below (T37.setTop (mkF m 204 #[.val (.int p1), .val (.int p2), .val (.int p3), .val (.int p4), .val (.int p5), .val (.int n), .val (.int (0 : Int32)), .val (.int (0 : Int32)), .val (.int (1 : Int32)), .val (.int xa), .val (.int xb), .val (.int xq), .val (.ref b25), .val (.int ok2), .val (.int (0 : Int32))] [(.int xq), (.ref b25)])) _
                        refine st46.trans ?_
                        show Steps p.tables e below (T46.setTop (mkF m 207 #[.val (.int p1), .val (.int p2), .val (.int p3), .val (.int p4), .val (.int p5), .val (.int n), .val (.int (0 : Int32)), .val (.int (0 : Int32)), .val (.int (1 : Int32)), .val (.int xa), .val (.int xb), .val (.int xq), .val (.ref b25), .val (.int ok2), .val (.int (0 : Int32))] [(.int (own_isN xq (own_put (own_put (fun _ => (0 : Int32)) xa (own_ch (1 : Int32))) xb (own_ch (1 : Int32))) n (2 : Int32) (0 : Int32) (0 : Int32)))])) _
                        refine XS.iload X46.here hx rfl (hb hby at_207) rfl ?_
                        exact kt
                      show own_End p e below s (T46.setTop (mkF m 209 #[.val (.int p1), .val (.int p2), .val (.int p3), .val (.int p4), .val (.int p5), .val (.int n), .val (.int (0 : Int32)), .val (.int (0 : Int32)), .val (.int (1 : Int32)), .val (.int xa), .val (.int xb), .val (.int xq), .val (.ref b25), .val (.int ok2), .val (.int (0 : Int32))] [(.int (0 : Int32)), (.int (own_isN xq (own_put (own_put (fun _ => (0 : Int32)) xa (own_ch (1 : Int32))) xb (own_ch (1 : Int32))) n (2 : Int32) (0 : Int32) (0 : Int32)))])) (Q0 Z p1 p2 p3 p4 p5 h0 n0) room_1.cells room_1.slots
                      by_cases hc209_47 : (own_isN xq (own_put (own_put (fun _ => (0 : Int32)) xa (own_ch (1 : Int32))) xb (own_ch (1 : Int32))) n (2 : Int32) (0 : Int32) (0 : Int32)) = (0 : Int32)
                      · refine own_pre (A := T46.setTop (mkF m 217 #[.val (.int p1), .val (.int p2), .val (.int p3), .val (.int p4), .val (.int p5), .val (.int n), .val (.int (0 : Int32)), .val (.int (0 : Int32)), .val (.int (1 : Int32)), .val (.int xa), .val (.int xb), .val (.int xq), .val (.ref b25), .val (.int ok2), .val (.int (0 : Int32))] [(.int (1 : Int32))])) (fun tt kt => ?_) ?_
                        · show Steps p.tables e below (T46.setTop (mkF m 209 #[.val (.int p1), .val (.int p2), .val (.int p3), .val (.int p4), .val (.int p5), .val (.int n), .val (.int (0 : Int32)), .val (.int (0 : Int32)), .val (.int (1 : Int32)), .val (.int xa), .val (.int xb), .val (.int xq), .val (.ref b25), .val (.int ok2), .val (.int (0 : Int32))] [(.int (0 : Int32)), (.int (own_isN xq (own_put (own_put (fun _ => (0 : Int32)) xa (own_ch (1 : Int32))) xb (own_ch (1 : Int32))) n (2 : Int32) (0 : Int32) (0 : Int32)))])) _
                          refine XS.icmpNo X46.here hx rfl (hb hby at_209) rfl (teq hc209_47).2 ?_
                          refine XS.iconst X46.here hx rfl (hb hby at_212) ?_
                          refine XS.goto X46.here hx rfl (pc0 := 213) (pc' := 217) rfl (hb hby at_213) (by decide) (by decide) ?_
                          exact kt
                        show own_End p e below s (T46.setTop (mkF m 217 #[.val (.int p1), .val (.int p2), .val (.int p3), .val (.int p4), .val (.int p5), .val (.int n), .val (.int (0 : Int32)), .val (.int (0 : Int32)), .val (.int (1 : Int32)), .val (.int xa), .val (.int xb), .val (.int xq), .val (.ref b25), .val (.int ok2), .val (.int (0 : Int32))] [(.int (1 : Int32))])) (Q0 Z p1 p2 p3 p4 p5 h0 n0) room_1.cells room_1.slots
                        have hv : (own_law p1 p2 p3 p4 p5) = (1 : Int32) := hj.trans (by simp only [own_law_134b, if_neg hc197_45, if_pos hc209_47])
                        obtain ⟨fs, hr, hrun, hended, hW, hsame⟩ := X46.leave (v := some (.int (1 : Int32))) (fun h => by rw [Bd.returns] at h; cases h)
                        refine ⟨_, _, ?_, hrun, hended, _, _, rfl, ?_, ⟨_, rfl⟩, hW, hsame.mono (by decide) (by decide)⟩
                        · exact retN X46 hx (t := .boolean) Bd.returns (by simp) (hb hby at_217) hr
                        · show Q0 Z p1 p2 p3 p4 p5 h0 n0 _ T46.heap _
                          rw [e46]
                          exact ⟨(congrArg (fun z => some (Value.int z)) hv.symm), N46⟩
                      · refine own_pre (A := T46.setTop (mkF m 217 #[.val (.int p1), .val (.int p2), .val (.int p3), .val (.int p4), .val (.int p5), .val (.int n), .val (.int (0 : Int32)), .val (.int (0 : Int32)), .val (.int (1 : Int32)), .val (.int xa), .val (.int xb), .val (.int xq), .val (.ref b25), .val (.int ok2), .val (.int (0 : Int32))] [(.int (0 : Int32))])) (fun tt kt => ?_) ?_
                        · show Steps p.tables e below (T46.setTop (mkF m 209 #[.val (.int p1), .val (.int p2), .val (.int p3), .val (.int p4), .val (.int p5), .val (.int n), .val (.int (0 : Int32)), .val (.int (0 : Int32)), .val (.int (1 : Int32)), .val (.int xa), .val (.int xb), .val (.int xq), .val (.ref b25), .val (.int ok2), .val (.int (0 : Int32))] [(.int (0 : Int32)), (.int (own_isN xq (own_put (own_put (fun _ => (0 : Int32)) xa (own_ch (1 : Int32))) xb (own_ch (1 : Int32))) n (2 : Int32) (0 : Int32) (0 : Int32)))])) _
                          refine XS.icmpYes X46.here hx rfl (pc0 := 209) (pc' := 216) rfl (hb hby at_209) rfl (feq hc209_47).2 (by decide) (by decide) ?_
                          refine XS.iconst X46.here hx rfl (hb hby at_216) ?_
                          exact kt
                        show own_End p e below s (T46.setTop (mkF m 217 #[.val (.int p1), .val (.int p2), .val (.int p3), .val (.int p4), .val (.int p5), .val (.int n), .val (.int (0 : Int32)), .val (.int (0 : Int32)), .val (.int (1 : Int32)), .val (.int xa), .val (.int xb), .val (.int xq), .val (.ref b25), .val (.int ok2), .val (.int (0 : Int32))] [(.int (0 : Int32))])) (Q0 Z p1 p2 p3 p4 p5 h0 n0) room_1.cells room_1.slots
                        have hv : (own_law p1 p2 p3 p4 p5) = (0 : Int32) := hj.trans (by simp only [own_law_134b, if_neg hc197_45, if_neg hc209_47])
                        obtain ⟨fs, hr, hrun, hended, hW, hsame⟩ := X46.leave (v := some (.int (0 : Int32))) (fun h => by rw [Bd.returns] at h; cases h)
                        refine ⟨_, _, ?_, hrun, hended, _, _, rfl, ?_, ⟨_, rfl⟩, hW, hsame.mono (by decide) (by decide)⟩
                        · exact retN X46 hx (t := .boolean) Bd.returns (by simp) (hb hby at_217) hr
                        · show Q0 Z p1 p2 p3 p4 p5 h0 n0 _ T46.heap _
                          rw [e46]
                          exact ⟨(congrArg (fun z => some (Value.int z)) hv.symm), N46⟩
                  by_cases hc116_48 : ok1 = (0 : Int32)
                  · refine own_pre (A := T35.setTop (mkF m 134 #[.val (.int p1), .val (.int p2), .val (.int p3), .val (.int p4), .val (.int p5), .val (.int n), .val (.int (0 : Int32)), .val (.int (0 : Int32)), .val (.int (1 : Int32)), .val (.int xa), .val (.int xb), .val (.int xq), .val (.ref b25), .val (.int ok1), .unset] [(.int (0 : Int32))])) (fun tt kt => ?_) ?_
                    · show Steps p.tables e below (T35.setTop (mkF m 116 #[.val (.int p1), .val (.int p2), .val (.int p3), .val (.int p4), .val (.int p5), .val (.int n), .val (.int (0 : Int32)), .val (.int (0 : Int32)), .val (.int (1 : Int32)), .val (.int xa), .val (.int xb), .val (.int xq), .val (.ref b25), .val (.int ok1), .unset] [(.int ok1)])) _
                      refine XS.ifYes X35.here hx rfl (pc0 := 116) (pc' := 133) rfl (hb hby at_116) rfl ((if0 _ _).trans (teq hc116_48).1) (by decide) (by decide) ?_
                      refine XS.iconst X35.here hx rfl (hb hby at_133) ?_
                      exact kt
                    show own_End p e below s (T35.setTop (mkF m 134 #[.val (.int p1), .val (.int p2), .val (.int p3), .val (.int p4), .val (.int p5), .val (.int n), .val (.int (0 : Int32)), .val (.int (0 : Int32)), .val (.int (1 : Int32)), .val (.int xa), .val (.int xb), .val (.int xq), .val (.ref b25), .val (.int ok1), .unset] [(.int (0 : Int32))])) (Q0 Z p1 p2 p3 p4 p5 h0 n0) room_1.cells room_1.slots
                    exact j134 _ _ X35 rfl N35 (0 : Int32)  (hj.trans (by simp only [own_law_104b, if_pos hc116_48]))
                  · obtain ⟨cq49, kq49, q49a, q49b, q49c⟩ := isOf hZ rfl fE_b25_x35
                    obtain ⟨_, _, ⟨T49, L49, k49, n49⟩, -, X49, ⟨Lc49, hQ49, l49, y49, z49⟩, st49⟩ := X35.virtualBack hx (y := (⟨"com/example/libfacet/libfacet/regex/StateSet", "isMarked", "(I)Z"⟩ : MethodName)) (z := (⟨"com/example/libfacet/libfacet/regex/StateSet", "isMarked", "(I)Z"⟩ : MethodName)) hown (mvT hZ (hw _ (List.mem_of_getElem? (i := 26) rfl))) (mvT hZ (hw _ (List.mem_of_getElem? (i := 27) rfl))) (notFace_of_selects (args := #[]) (mvT hZ (hw _ (List.mem_of_getElem? (i := 29) rfl)))) (mvT hZ (hw _ (List.mem_of_getElem? (i := 29) rfl))) (mvT hZ (hw _ (List.mem_of_getElem? (i := 28) rfl))) (by decide) (backOf (W := 0) (rm3N l Z a0 hw [] b25 xa (1 : Int32) c26_ak (0 : Int32) (0 : Int32) (own_put (fun _ => (0 : Int32)) xa (own_ch (1 : Int32))) n T35.heap n0 Z35 ⟨fE_b25_x35, fF_b25_stamp_x35, fF_b25_marks_x35, fF_b25_markBits_x35, fF_b25_marked_x35, fF_b25_markedCount_x35, fF_b25_size_x35⟩ V35_0 hxa0 hxa1) hZ (hw _ (List.mem_of_getElem? (i := 30) rfl)) (hw _ (List.mem_of_getElem? (i := 3) rfl)) (by decide) (by decide)) q49a q49c (g := (mkF m 123 #[.val (.int p1), .val (.int p2), .val (.int p3), .val (.int p4), .val (.int p5), .val (.int n), .val (.int (0 : Int32)), .val (.int (0 : Int32)), .val (.int (1 : Int32)), .val (.int xa), .val (.int xb), .val (.int xq), .val (.ref b25), .val (.int ok1), .unset] [(.int xa), (.ref b25)])) rfl (by rw [hml]; rfl) (Steps.refl _) (argsL := [(.int xa)]) (rest := []) (lenOf pd_0_1 rfl) rfl (by show 2 * 0 + _ ≤ _; exact Nat.le_of_eq rfl) (hb hby at_123) (fun _ _ => ⟨rfl, rfl, (by decide : 4 + 0 ≤ _), (by decide : 298 + 0 ≤ _)⟩)
                    dsimp only [Pt.U, Pt.locs, Pt.cells, Pt.slots] at X49 l49 y49 z49 st49 hQ49
                    subst l49 y49 z49
                    obtain ⟨rfl, N49q, e49⟩ := hQ49
                    have N49 := Fr.app N35 N49q
                    refine own_pre (A := T49.setTop (mkF m 126 #[.val (.int p1), .val (.int p2), .val (.int p3), .val (.int p4), .val (.int p5), .val (.int n), .val (.int (0 : Int32)), .val (.int (0 : Int32)), .val (.int (1 : Int32)), .val (.int xa), .val (.int xb), .val (.int xq), .val (.ref b25), .val (.int ok1), .unset] [(.int (own_isN xa (own_put (fun _ => (0 : Int32)) xa (own_ch (1 : Int32))) n (1 : Int32) (0 : Int32) (0 : Int32)))])) (fun tt kt => ?_) ?_
                    · show Steps p.tables e below (T35.setTop (mkF m 116 #[.val (.int p1), .val (.int p2), .val (.int p3), .val (.int p4), .val (.int p5), .val (.int n), .val (.int (0 : Int32)), .val (.int (0 : Int32)), .val (.int (1 : Int32)), .val (.int xa), .val (.int xb), .val (.int xq), .val (.ref b25), .val (.int ok1), .unset] [(.int ok1)])) _
                      refine XS.ifNo X35.here hx rfl (hb hby at_116) rfl ((if0 _ _).trans (feq hc116_48).1) ?_
                      refine XS.aload X35.here hx rfl (hb hby at_119) rfl rfl ?_
                      refine XS.iload X35.here hx rfl (hb hby at_121) rfl ?_
                      show Steps p.tables e below (T35.setTop (mkF m 123 #[.val (.int p1), .val (.int p2), .val (.int p3), .val (.int p4), .val (.int p5), .val (.int n), .val (.int (0 : Int32)), .val (.int (0 : Int32)), .val (.int (1 : Int32)), .val (.int xa), .val (.int xb), .val (.int xq), .val (.ref b25), .val (.int ok1), .unset] [(.int xa), (.ref b25)])) _
                      refine st49.trans ?_
                      exact kt
                    show own_End p e below s (T49.setTop (mkF m 126 #[.val (.int p1), .val (.int p2), .val (.int p3), .val (.int p4), .val (.int p5), .val (.int n), .val (.int (0 : Int32)), .val (.int (0 : Int32)), .val (.int (1 : Int32)), .val (.int xa), .val (.int xb), .val (.int xq), .val (.ref b25), .val (.int ok1), .unset] [(.int (own_isN xa (own_put (fun _ => (0 : Int32)) xa (own_ch (1 : Int32))) n (1 : Int32) (0 : Int32) (0 : Int32)))])) (Q0 Z p1 p2 p3 p4 p5 h0 n0) room_1.cells room_1.slots
                    by_cases hc126_50 : (own_isN xa (own_put (fun _ => (0 : Int32)) xa (own_ch (1 : Int32))) n (1 : Int32) (0 : Int32) (0 : Int32)) = (0 : Int32)
                    · refine own_pre (A := T49.setTop (mkF m 134 #[.val (.int p1), .val (.int p2), .val (.int p3), .val (.int p4), .val (.int p5), .val (.int n), .val (.int (0 : Int32)), .val (.int (0 : Int32)), .val (.int (1 : Int32)), .val (.int xa), .val (.int xb), .val (.int xq), .val (.ref b25), .val (.int ok1), .unset] [(.int (0 : Int32))])) (fun tt kt => ?_) ?_
                      · show Steps p.tables e below (T49.setTop (mkF m 126 #[.val (.int p1), .val (.int p2), .val (.int p3), .val (.int p4), .val (.int p5), .val (.int n), .val (.int (0 : Int32)), .val (.int (0 : Int32)), .val (.int (1 : Int32)), .val (.int xa), .val (.int xb), .val (.int xq), .val (.ref b25), .val (.int ok1), .unset] [(.int (own_isN xa (own_put (fun _ => (0 : Int32)) xa (own_ch (1 : Int32))) n (1 : Int32) (0 : Int32) (0 : Int32)))])) _
                        refine XS.ifYes X49.here hx rfl (pc0 := 126) (pc' := 133) rfl (hb hby at_126) rfl ((if0 _ _).trans (teq hc126_50).1) (by decide) (by decide) ?_
                        refine XS.iconst X49.here hx rfl (hb hby at_133) ?_
                        exact kt
                      show own_End p e below s (T49.setTop (mkF m 134 #[.val (.int p1), .val (.int p2), .val (.int p3), .val (.int p4), .val (.int p5), .val (.int n), .val (.int (0 : Int32)), .val (.int (0 : Int32)), .val (.int (1 : Int32)), .val (.int xa), .val (.int xb), .val (.int xq), .val (.ref b25), .val (.int ok1), .unset] [(.int (0 : Int32))])) (Q0 Z p1 p2 p3 p4 p5 h0 n0) room_1.cells room_1.slots
                      exact j134 _ _ X49 e49 N49 (0 : Int32)  (hj.trans (by simp only [own_law_104b, if_neg hc116_48, if_pos hc126_50]))
                    · refine own_pre (A := T49.setTop (mkF m 134 #[.val (.int p1), .val (.int p2), .val (.int p3), .val (.int p4), .val (.int p5), .val (.int n), .val (.int (0 : Int32)), .val (.int (0 : Int32)), .val (.int (1 : Int32)), .val (.int xa), .val (.int xb), .val (.int xq), .val (.ref b25), .val (.int ok1), .unset] [(.int (1 : Int32))])) (fun tt kt => ?_) ?_
                      · show Steps p.tables e below (T49.setTop (mkF m 126 #[.val (.int p1), .val (.int p2), .val (.int p3), .val (.int p4), .val (.int p5), .val (.int n), .val (.int (0 : Int32)), .val (.int (0 : Int32)), .val (.int (1 : Int32)), .val (.int xa), .val (.int xb), .val (.int xq), .val (.ref b25), .val (.int ok1), .unset] [(.int (own_isN xa (own_put (fun _ => (0 : Int32)) xa (own_ch (1 : Int32))) n (1 : Int32) (0 : Int32) (0 : Int32)))])) _
                        refine XS.ifNo X49.here hx rfl (hb hby at_126) rfl ((if0 _ _).trans (feq hc126_50).1) ?_
                        refine XS.iconst X49.here hx rfl (hb hby at_129) ?_
                        refine XS.goto X49.here hx rfl (pc0 := 130) (pc' := 134) rfl (hb hby at_130) (by decide) (by decide) ?_
                        exact kt
                      show own_End p e below s (T49.setTop (mkF m 134 #[.val (.int p1), .val (.int p2), .val (.int p3), .val (.int p4), .val (.int p5), .val (.int n), .val (.int (0 : Int32)), .val (.int (0 : Int32)), .val (.int (1 : Int32)), .val (.int xa), .val (.int xb), .val (.int xq), .val (.ref b25), .val (.int ok1), .unset] [(.int (1 : Int32))])) (Q0 Z p1 p2 p3 p4 p5 h0 n0) room_1.cells room_1.slots
                      exact j134 _ _ X49 e49 N49 (1 : Int32)  (hj.trans (by simp only [own_law_104b, if_neg hc116_48, if_neg hc126_50]))
                by_cases hc96_51 : (own_isN xq (fun _ => (0 : Int32)) n (1 : Int32) (0 : Int32) (0 : Int32)) = (0 : Int32)
                · refine own_pre (A := T34.setTop (mkF m 104 #[.val (.int p1), .val (.int p2), .val (.int p3), .val (.int p4), .val (.int p5), .val (.int n), .val (.int (0 : Int32)), .val (.int (0 : Int32)), .val (.int (1 : Int32)), .val (.int xa), .val (.int xb), .val (.int xq), .val (.ref b25), .unset, .unset] [(.int (1 : Int32))])) (fun tt kt => ?_) ?_
                  · show Steps p.tables e below (T34.setTop (mkF m 96 #[.val (.int p1), .val (.int p2), .val (.int p3), .val (.int p4), .val (.int p5), .val (.int n), .val (.int (0 : Int32)), .val (.int (0 : Int32)), .val (.int (1 : Int32)), .val (.int xa), .val (.int xb), .val (.int xq), .val (.ref b25), .unset, .unset] [(.int (own_isN xq (fun _ => (0 : Int32)) n (1 : Int32) (0 : Int32) (0 : Int32)))])) _
                    refine XS.ifNo X34.here hx rfl (hb hby at_96) rfl ((if0 _ _).trans (teq hc96_51).2) ?_
                    refine XS.iconst X34.here hx rfl (hb hby at_99) ?_
                    refine XS.goto X34.here hx rfl (pc0 := 100) (pc' := 104) rfl (hb hby at_100) (by decide) (by decide) ?_
                    exact kt
                  show own_End p e below s (T34.setTop (mkF m 104 #[.val (.int p1), .val (.int p2), .val (.int p3), .val (.int p4), .val (.int p5), .val (.int n), .val (.int (0 : Int32)), .val (.int (0 : Int32)), .val (.int (1 : Int32)), .val (.int xa), .val (.int xb), .val (.int xq), .val (.ref b25), .unset, .unset] [(.int (1 : Int32))])) (Q0 Z p1 p2 p3 p4 p5 h0 n0) room_1.cells room_1.slots
                  exact j104 _ _ X34 e34 N34 (1 : Int32)  (hj.trans (by simp only [own_law_76b, if_pos hc96_51]))
                · refine own_pre (A := T34.setTop (mkF m 104 #[.val (.int p1), .val (.int p2), .val (.int p3), .val (.int p4), .val (.int p5), .val (.int n), .val (.int (0 : Int32)), .val (.int (0 : Int32)), .val (.int (1 : Int32)), .val (.int xa), .val (.int xb), .val (.int xq), .val (.ref b25), .unset, .unset] [(.int (0 : Int32))])) (fun tt kt => ?_) ?_
                  · show Steps p.tables e below (T34.setTop (mkF m 96 #[.val (.int p1), .val (.int p2), .val (.int p3), .val (.int p4), .val (.int p5), .val (.int n), .val (.int (0 : Int32)), .val (.int (0 : Int32)), .val (.int (1 : Int32)), .val (.int xa), .val (.int xb), .val (.int xq), .val (.ref b25), .unset, .unset] [(.int (own_isN xq (fun _ => (0 : Int32)) n (1 : Int32) (0 : Int32) (0 : Int32)))])) _
                    refine XS.ifYes X34.here hx rfl (pc0 := 96) (pc' := 103) rfl (hb hby at_96) rfl ((if0 _ _).trans (feq hc96_51).2) (by decide) (by decide) ?_
                    refine XS.iconst X34.here hx rfl (hb hby at_103) ?_
                    exact kt
                  show own_End p e below s (T34.setTop (mkF m 104 #[.val (.int p1), .val (.int p2), .val (.int p3), .val (.int p4), .val (.int p5), .val (.int n), .val (.int (0 : Int32)), .val (.int (0 : Int32)), .val (.int (1 : Int32)), .val (.int xa), .val (.int xb), .val (.int xq), .val (.ref b25), .unset, .unset] [(.int (0 : Int32))])) (Q0 Z p1 p2 p3 p4 p5 h0 n0) room_1.cells room_1.slots
                  exact j104 _ _ X34 e34 N34 (0 : Int32)  (hj.trans (by simp only [own_law_76b, if_neg hc96_51]))
              exact j76 _ _ Xj66 ej66 Nj66 ((p5 &&& (2147483647 : Int32)) % n) (own_i p5 n hn0).1 (own_i p5 n hn0).2 (hj.trans (by simp only [own_law_66b]))
            exact j66 _ _ Xj57 ej57 Nj57 ((p4 &&& (2147483647 : Int32)) % n) (own_i p4 n hn0).1 (own_i p4 n hn0).2 (hj.trans (by simp only [own_law_57b]))
          exact j57 _ _ Xj9 ej9 Nj9 ((p3 &&& (2147483647 : Int32)) % n) (own_i p3 n hn0).1 (own_i p3 n hn0).2 (hj.trans (by simp only [own_law_9, if_pos hc12_1, if_pos hc25_2, if_neg hc38_3]))
      · refine own_pre (A := Tj9.setTop (mkF m 38 #[.val (.int p1), .val (.int p2), .val (.int p3), .val (.int p4), .val (.int p5), .val (.int n), .val (.int (0 : Int32)), .val (.int (1 : Int32)), .unset, .unset, .unset, .unset, .unset, .unset, .unset] [(.int (p2 &&& (4 : Int32)))])) (fun tt kt => ?_) ?_
        · show Steps p.tables e below (Tj9.setTop (mkF m 25 #[.val (.int p1), .val (.int p2), .val (.int p3), .val (.int p4), .val (.int p5), .val (.int n), .val (.int (0 : Int32)), .unset, .unset, .unset, .unset, .unset, .unset, .unset, .unset] [(.int (p2 &&& (2 : Int32)))])) _
          refine XS.ifNo Xj9.here hx rfl (hb hby at_25) rfl ((if0 _ _).trans (feq hc25_2).1) ?_
          refine XS.iconst Xj9.here hx rfl (hb hby at_28) ?_
          refine XS.goto Xj9.here hx rfl (pc0 := 29) (pc' := 33) rfl (hb hby at_29) (by decide) (by decide) ?_
          refine XS.istore Xj9.here hx rfl (hb hby at_33) rfl (l' := #[.val (.int p1), .val (.int p2), .val (.int p3), .val (.int p4), .val (.int p5), .val (.int n), .val (.int (0 : Int32)), .val (.int (1 : Int32)), .unset, .unset, .unset, .unset, .unset, .unset, .unset]) rfl ?_
          refine XS.iloadN Xj9.here hx rfl (hb hby at_35) rfl ?_
          refine XS.iconst Xj9.here hx rfl (hb hby at_36) ?_
          refine XS.iand Xj9.here hx rfl (hb hby at_37) rfl ?_
          exact kt
        show own_End p e below s (Tj9.setTop (mkF m 38 #[.val (.int p1), .val (.int p2), .val (.int p3), .val (.int p4), .val (.int p5), .val (.int n), .val (.int (0 : Int32)), .val (.int (1 : Int32)), .unset, .unset, .unset, .unset, .unset, .unset, .unset] [(.int (p2 &&& (4 : Int32)))])) (Q0 Z p1 p2 p3 p4 p5 h0 n0) room_1.cells room_1.slots
        by_cases hc38_52 : (p2 &&& (4 : Int32)) = (0 : Int32)
        · refine own_pre (A := Tj9.setTop (mkF m 57 #[.val (.int p1), .val (.int p2), .val (.int p3), .val (.int p4), .val (.int p5), .val (.int n), .val (.int (0 : Int32)), .val (.int (1 : Int32)), .val (.int (0 : Int32)), .val (.int ((p3 &&& (2147483647 : Int32)) % n)), .unset, .unset, .unset, .unset, .unset] [])) (fun tt kt => ?_) ?_
          · show Steps p.tables e below (Tj9.setTop (mkF m 38 #[.val (.int p1), .val (.int p2), .val (.int p3), .val (.int p4), .val (.int p5), .val (.int n), .val (.int (0 : Int32)), .val (.int (1 : Int32)), .unset, .unset, .unset, .unset, .unset, .unset, .unset] [(.int (p2 &&& (4 : Int32)))])) _
            refine XS.ifYes Xj9.here hx rfl (pc0 := 38) (pc' := 45) rfl (hb hby at_38) rfl ((if0 _ _).trans (teq hc38_52).1) (by decide) (by decide) ?_
            refine XS.iconst Xj9.here hx rfl (hb hby at_45) ?_
            refine XS.istore Xj9.here hx rfl (hb hby at_46) rfl (l' := #[.val (.int p1), .val (.int p2), .val (.int p3), .val (.int p4), .val (.int p5), .val (.int n), .val (.int (0 : Int32)), .val (.int (1 : Int32)), .val (.int (0 : Int32)), .unset, .unset, .unset, .unset, .unset, .unset]) rfl ?_
            refine XS.iloadN Xj9.here hx rfl (hb hby at_48) rfl ?_
            show Steps p.tables e below (Tj9.setTop (mkF m 49 #[.val (.int p1), .val (.int p2), .val (.int p3), .val (.int p4), .val (.int p5), .val (.int n), .val (.int (0 : Int32)), .val (.int (1 : Int32)), .val (.int (0 : Int32)), .unset, .unset, .unset, .unset, .unset, .unset] [(.int p3)])) _
            refine Xj9.ldcInt hx hown (mvT hZ (hw _ (List.mem_of_getElem? (i := 0) rfl))) (g := (mkF m 49 #[.val (.int p1), .val (.int p2), .val (.int p3), .val (.int p4), .val (.int p5), .val (.int n), .val (.int (0 : Int32)), .val (.int (1 : Int32)), .val (.int (0 : Int32)), .unset, .unset, .unset, .unset, .unset, .unset] [(.int p3)])) rfl (hb hby at_49) _ ?_
            show Steps p.tables e below (Tj9.setTop (mkF m 51 #[.val (.int p1), .val (.int p2), .val (.int p3), .val (.int p4), .val (.int p5), .val (.int n), .val (.int (0 : Int32)), .val (.int (1 : Int32)), .val (.int (0 : Int32)), .unset, .unset, .unset, .unset, .unset, .unset] [(.int (2147483647 : Int32)), (.int p3)])) _
            refine XS.iand Xj9.here hx rfl (hb hby at_51) rfl ?_
            refine XS.iload Xj9.here hx rfl (hb hby at_52) rfl ?_
            refine iremM Xj9 hx rfl (hb hby at_54) rfl (own_nz hn0) ?_
            refine XS.istore Xj9.here hx rfl (hb hby at_55) rfl (l' := #[.val (.int p1), .val (.int p2), .val (.int p3), .val (.int p4), .val (.int p5), .val (.int n), .val (.int (0 : Int32)), .val (.int (1 : Int32)), .val (.int (0 : Int32)), .val (.int ((p3 &&& (2147483647 : Int32)) % n)), .unset, .unset, .unset, .unset, .unset]) rfl ?_
            exact kt
          show own_End p e below s (Tj9.setTop (mkF m 57 #[.val (.int p1), .val (.int p2), .val (.int p3), .val (.int p4), .val (.int p5), .val (.int n), .val (.int (0 : Int32)), .val (.int (1 : Int32)), .val (.int (0 : Int32)), .val (.int ((p3 &&& (2147483647 : Int32)) % n)), .unset, .unset, .unset, .unset, .unset] [])) (Q0 Z p1 p2 p3 p4 p5 h0 n0) room_1.cells room_1.slots
          have j57 : ∀ (Tj57 : State) (Lj57 : List Loc) (Xj57 : Stand p l e room_1 s m #[(.int p1), (.int p2), (.int p3), (.int p4), (.int p5)] below meth c Tj57 Lj57 0 0) (ej57 : Tj57.heap = h0) (Nj57 : Fr n0 Lj57) (xa : Int32) (hxa0 : 0 ≤ xa.toInt) (hxa1 : xa.toInt < n.toInt), own_law p1 p2 p3 p4 p5 = own_law_57bb p1 p2 p3 p4 p5 n xa → own_End p e below s (Tj57.setTop (mkF m 57 #[.val (.int p1), .val (.int p2), .val (.int p3), .val (.int p4), .val (.int p5), .val (.int n), .val (.int (0 : Int32)), .val (.int (1 : Int32)), .val (.int (0 : Int32)), .val (.int xa), .unset, .unset, .unset, .unset, .unset] [])) (Q0 Z p1 p2 p3 p4 p5 h0 n0) room_1.cells room_1.slots := by
            intro Tj57 Lj57 Xj57 ej57 Nj57 xa hxa0 hxa1 hj
            refine own_pre (A := Tj57.setTop (mkF m 66 #[.val (.int p1), .val (.int p2), .val (.int p3), .val (.int p4), .val (.int p5), .val (.int n), .val (.int (0 : Int32)), .val (.int (1 : Int32)), .val (.int (0 : Int32)), .val (.int xa), .val (.int ((p4 &&& (2147483647 : Int32)) % n)), .unset, .unset, .unset, .unset] [])) (fun tt kt => ?_) ?_
            · show Steps p.tables e below (Tj57.setTop (mkF m 57 #[.val (.int p1), .val (.int p2), .val (.int p3), .val (.int p4), .val (.int p5), .val (.int n), .val (.int (0 : Int32)), .val (.int (1 : Int32)), .val (.int (0 : Int32)), .val (.int xa), .unset, .unset, .unset, .unset, .unset] [])) _
              refine XS.iloadN Xj57.here hx rfl (hb hby at_57) rfl ?_
              show Steps p.tables e below (Tj57.setTop (mkF m 58 #[.val (.int p1), .val (.int p2), .val (.int p3), .val (.int p4), .val (.int p5), .val (.int n), .val (.int (0 : Int32)), .val (.int (1 : Int32)), .val (.int (0 : Int32)), .val (.int xa), .unset, .unset, .unset, .unset, .unset] [(.int p4)])) _
              refine Xj57.ldcInt hx hown (mvT hZ (hw _ (List.mem_of_getElem? (i := 0) rfl))) (g := (mkF m 58 #[.val (.int p1), .val (.int p2), .val (.int p3), .val (.int p4), .val (.int p5), .val (.int n), .val (.int (0 : Int32)), .val (.int (1 : Int32)), .val (.int (0 : Int32)), .val (.int xa), .unset, .unset, .unset, .unset, .unset] [(.int p4)])) rfl (hb hby at_58) _ ?_
              show Steps p.tables e below (Tj57.setTop (mkF m 60 #[.val (.int p1), .val (.int p2), .val (.int p3), .val (.int p4), .val (.int p5), .val (.int n), .val (.int (0 : Int32)), .val (.int (1 : Int32)), .val (.int (0 : Int32)), .val (.int xa), .unset, .unset, .unset, .unset, .unset] [(.int (2147483647 : Int32)), (.int p4)])) _
              refine XS.iand Xj57.here hx rfl (hb hby at_60) rfl ?_
              refine XS.iload Xj57.here hx rfl (hb hby at_61) rfl ?_
              refine iremM Xj57 hx rfl (hb hby at_63) rfl (own_nz hn0) ?_
              refine XS.istore Xj57.here hx rfl (hb hby at_64) rfl (l' := #[.val (.int p1), .val (.int p2), .val (.int p3), .val (.int p4), .val (.int p5), .val (.int n), .val (.int (0 : Int32)), .val (.int (1 : Int32)), .val (.int (0 : Int32)), .val (.int xa), .val (.int ((p4 &&& (2147483647 : Int32)) % n)), .unset, .unset, .unset, .unset]) rfl ?_
              exact kt
            show own_End p e below s (Tj57.setTop (mkF m 66 #[.val (.int p1), .val (.int p2), .val (.int p3), .val (.int p4), .val (.int p5), .val (.int n), .val (.int (0 : Int32)), .val (.int (1 : Int32)), .val (.int (0 : Int32)), .val (.int xa), .val (.int ((p4 &&& (2147483647 : Int32)) % n)), .unset, .unset, .unset, .unset] [])) (Q0 Z p1 p2 p3 p4 p5 h0 n0) room_1.cells room_1.slots
            have j66 : ∀ (Tj66 : State) (Lj66 : List Loc) (Xj66 : Stand p l e room_1 s m #[(.int p1), (.int p2), (.int p3), (.int p4), (.int p5)] below meth c Tj66 Lj66 0 0) (ej66 : Tj66.heap = h0) (Nj66 : Fr n0 Lj66) (xb : Int32) (hxb0 : 0 ≤ xb.toInt) (hxb1 : xb.toInt < n.toInt), own_law p1 p2 p3 p4 p5 = own_law_66bb p1 p2 p3 p4 p5 n xa xb → own_End p e below s (Tj66.setTop (mkF m 66 #[.val (.int p1), .val (.int p2), .val (.int p3), .val (.int p4), .val (.int p5), .val (.int n), .val (.int (0 : Int32)), .val (.int (1 : Int32)), .val (.int (0 : Int32)), .val (.int xa), .val (.int xb), .unset, .unset, .unset, .unset] [])) (Q0 Z p1 p2 p3 p4 p5 h0 n0) room_1.cells room_1.slots := by
              intro Tj66 Lj66 Xj66 ej66 Nj66 xb hxb0 hxb1 hj
              refine own_pre (A := Tj66.setTop (mkF m 76 #[.val (.int p1), .val (.int p2), .val (.int p3), .val (.int p4), .val (.int p5), .val (.int n), .val (.int (0 : Int32)), .val (.int (1 : Int32)), .val (.int (0 : Int32)), .val (.int xa), .val (.int xb), .val (.int ((p5 &&& (2147483647 : Int32)) % n)), .unset, .unset, .unset] [])) (fun tt kt => ?_) ?_
              · show Steps p.tables e below (Tj66.setTop (mkF m 66 #[.val (.int p1), .val (.int p2), .val (.int p3), .val (.int p4), .val (.int p5), .val (.int n), .val (.int (0 : Int32)), .val (.int (1 : Int32)), .val (.int (0 : Int32)), .val (.int xa), .val (.int xb), .unset, .unset, .unset, .unset] [])) _
                refine XS.iload Xj66.here hx rfl (hb hby at_66) rfl ?_
                show Steps p.tables e below (Tj66.setTop (mkF m 68 #[.val (.int p1), .val (.int p2), .val (.int p3), .val (.int p4), .val (.int p5), .val (.int n), .val (.int (0 : Int32)), .val (.int (1 : Int32)), .val (.int (0 : Int32)), .val (.int xa), .val (.int xb), .unset, .unset, .unset, .unset] [(.int p5)])) _
                refine Xj66.ldcInt hx hown (mvT hZ (hw _ (List.mem_of_getElem? (i := 0) rfl))) (g := (mkF m 68 #[.val (.int p1), .val (.int p2), .val (.int p3), .val (.int p4), .val (.int p5), .val (.int n), .val (.int (0 : Int32)), .val (.int (1 : Int32)), .val (.int (0 : Int32)), .val (.int xa), .val (.int xb), .unset, .unset, .unset, .unset] [(.int p5)])) rfl (hb hby at_68) _ ?_
                show Steps p.tables e below (Tj66.setTop (mkF m 70 #[.val (.int p1), .val (.int p2), .val (.int p3), .val (.int p4), .val (.int p5), .val (.int n), .val (.int (0 : Int32)), .val (.int (1 : Int32)), .val (.int (0 : Int32)), .val (.int xa), .val (.int xb), .unset, .unset, .unset, .unset] [(.int (2147483647 : Int32)), (.int p5)])) _
                refine XS.iand Xj66.here hx rfl (hb hby at_70) rfl ?_
                refine XS.iload Xj66.here hx rfl (hb hby at_71) rfl ?_
                refine iremM Xj66 hx rfl (hb hby at_73) rfl (own_nz hn0) ?_
                refine XS.istore Xj66.here hx rfl (hb hby at_74) rfl (l' := #[.val (.int p1), .val (.int p2), .val (.int p3), .val (.int p4), .val (.int p5), .val (.int n), .val (.int (0 : Int32)), .val (.int (1 : Int32)), .val (.int (0 : Int32)), .val (.int xa), .val (.int xb), .val (.int ((p5 &&& (2147483647 : Int32)) % n)), .unset, .unset, .unset]) rfl ?_
                exact kt
              show own_End p e below s (Tj66.setTop (mkF m 76 #[.val (.int p1), .val (.int p2), .val (.int p3), .val (.int p4), .val (.int p5), .val (.int n), .val (.int (0 : Int32)), .val (.int (1 : Int32)), .val (.int (0 : Int32)), .val (.int xa), .val (.int xb), .val (.int ((p5 &&& (2147483647 : Int32)) % n)), .unset, .unset, .unset] [])) (Q0 Z p1 p2 p3 p4 p5 h0 n0) room_1.cells room_1.slots
              have j76 : ∀ (Tj76 : State) (Lj76 : List Loc) (Xj76 : Stand p l e room_1 s m #[(.int p1), (.int p2), (.int p3), (.int p4), (.int p5)] below meth c Tj76 Lj76 0 0) (ej76 : Tj76.heap = h0) (Nj76 : Fr n0 Lj76) (xq : Int32) (hxq0 : 0 ≤ xq.toInt) (hxq1 : xq.toInt < n.toInt), own_law p1 p2 p3 p4 p5 = own_law_76bb p1 p2 p3 p4 p5 n xa xb xq → own_End p e below s (Tj76.setTop (mkF m 76 #[.val (.int p1), .val (.int p2), .val (.int p3), .val (.int p4), .val (.int p5), .val (.int n), .val (.int (0 : Int32)), .val (.int (1 : Int32)), .val (.int (0 : Int32)), .val (.int xa), .val (.int xb), .val (.int xq), .unset, .unset, .unset] [])) (Q0 Z p1 p2 p3 p4 p5 h0 n0) room_1.cells room_1.slots := by
                intro Tj76 Lj76 Xj76 ej76 Nj76 xq hxq0 hxq1 hj
                obtain ⟨T53, h53, X53, e53, E53, A53, D53, -, st53⟩ := newO Xj76 hx hZ hown (hw _ (List.mem_of_getElem? (i := 1) rfl)) (hw _ (List.mem_of_getElem? (i := 2) rfl)) (hw _ (List.mem_of_getElem? (i := 3) rfl)) ej76 (g := (mkF m 76 #[.val (.int p1), .val (.int p2), .val (.int p3), .val (.int p4), .val (.int p5), .val (.int n), .val (.int (0 : Int32)), .val (.int (1 : Int32)), .val (.int (0 : Int32)), .val (.int xa), .val (.int xb), .val (.int xq), .unset, .unset, .unset] [])) rfl (hb hby at_76) (by decide) (by decide)
                obtain ⟨b53, g53⟩ : ∃ z, z = h0.size := ⟨_, rfl⟩
                rw [← g53] at A53 D53 st53
                have g_b53 : n0 ≤ b53 := Nat.le_trans Z0 (Nat.le_of_eq g53.symm)
                have sz_b53 : h0.size ≤ b53 := Nat.le_trans (show Keep h0 h0 [] from (Keep.refl h0 _)).1 (Nat.le_of_eq g53.symm)
                have K53 : Keep h0 h53 [] := Keep.ext (Keep.refl h0 _) E53
                have Z53 : n0 ≤ h53.size := Nat.le_trans Z0 E53.1
                have F_stamp_b53 : Fld Z h53 b53 "com/example/libfacet/libfacet/regex/StateSet" "stamp" "I" (.int (0 : Int32)) := D53 (Or.inl (hw _ (List.mem_of_getElem? (i := 11) rfl))) (ty := .int) (by decide)
                have F_stack_b53 : Fld Z h53 b53 "com/example/libfacet/libfacet/regex/StateSet" "stack" "[I" .null := D53 (Or.inl (hw _ (List.mem_of_getElem? (i := 14) rfl))) (ty := (.array .int)) (by decide)
                have F_instructions_b53 : Fld Z h53 b53 "com/example/libfacet/libfacet/regex/StateSet" "instructions" "I" (.int (0 : Int32)) := D53 (Or.inr (hw _ (List.mem_of_getElem? (i := 16) rfl))) (ty := .int) (by decide)
                have F_members_b53 : Fld Z h53 b53 "com/example/libfacet/libfacet/regex/StateSet" "members" "[I" .null := D53 (Or.inl (hw _ (List.mem_of_getElem? (i := 18) rfl))) (ty := (.array .int)) (by decide)
                have F_marks_b53 : Fld Z h53 b53 "com/example/libfacet/libfacet/regex/StateSet" "marks" "[C" .null := D53 (Or.inr (hw _ (List.mem_of_getElem? (i := 20) rfl))) (ty := (.array .char)) (by decide)
                have F_markBits_b53 : Fld Z h53 b53 "com/example/libfacet/libfacet/regex/StateSet" "markBits" "[J" .null := D53 (Or.inr (hw _ (List.mem_of_getElem? (i := 23) rfl))) (ty := (.array .long)) (by decide)
                have F_marked_b53 : Fld Z h53 b53 "com/example/libfacet/libfacet/regex/StateSet" "marked" "[I" .null := D53 (Or.inl (hw _ (List.mem_of_getElem? (i := 25) rfl))) (ty := (.array .int)) (by decide)
                have F_markedCount_b53 : Fld Z h53 b53 "com/example/libfacet/libfacet/regex/StateSet" "markedCount" "I" (.int (0 : Int32)) := D53 (Or.inl (hw _ (List.mem_of_getElem? (i := 37) rfl))) (ty := .int) (by decide)
                have F_size_b53 : Fld Z h53 b53 "com/example/libfacet/libfacet/regex/StateSet" "size" "I" (.int (0 : Int32)) := D53 (Or.inl (hw _ (List.mem_of_getElem? (i := 44) rfl))) (ty := .int) (by decide)
                obtain ⟨_, _, ⟨T54, L54, k54, n54⟩, -, X54, ⟨Lc54, hQ54, l54, y54, z54⟩, st54⟩ := X53.specialBack hx (y := (⟨"com/example/libfacet/libfacet/regex/StateSet", "<init>", "(IZ)V"⟩ : MethodName)) rfl hown (mvT hZ (hw _ (List.mem_of_getElem? (i := 4) rfl))) (mvT hZ (hw _ (List.mem_of_getElem? (i := 5) rfl))) (mvT hZ (hw _ (List.mem_of_getElem? (i := 6) rfl))) (by decide) (backOf (W := 1) (rm1N l Z a0 hw [] b53 n (0 : Int32) (0 : Int32) (0 : Int32) (0 : Int32) h53 n0 Z53 ⟨A53, F_stamp_b53, F_stack_b53, F_instructions_b53, F_members_b53, F_marks_b53, F_markBits_b53, F_marked_b53, F_markedCount_b53, F_size_b53⟩ g_b53 hn0 hn1) hZ (hw _ (List.mem_of_getElem? (i := 6) rfl)) (hw _ (List.mem_of_getElem? (i := 3) rfl)) (by decide) (by decide)) (g := (mkF m 84 #[.val (.int p1), .val (.int p2), .val (.int p3), .val (.int p4), .val (.int p5), .val (.int n), .val (.int (0 : Int32)), .val (.int (1 : Int32)), .val (.int (0 : Int32)), .val (.int xa), .val (.int xb), .val (.int xq), .unset, .unset, .unset] [(.int (0 : Int32)), (.int n), (.ref b53), (.ref b53)])) rfl (by rw [hml]; rfl) (Steps.refl _) (a := b53) (argsL := [(.int n), (.int (0 : Int32))]) (rest := [(.ref b53)]) (lenOf pd_0_0 rfl) rfl (by show 2 * 0 + _ ≤ _; exact Nat.le_of_eq rfl) (hb hby at_84) (fun _ _ => ⟨rfl, e53, (by decide : 1 + 3 ≤ _), (by decide : 10 + 288 ≤ _)⟩)
                dsimp only [Pt.U, Pt.locs, Pt.cells, Pt.slots] at X54 l54 y54 z54 st54 hQ54
                subst l54 y54 z54
                obtain ⟨rfl, N54q, c54_ak, Kq54, O54_0, szq_c54_ak, P54_ak_0⟩ := hQ54
                have ne_b53_c54_ak : b53 ≠ c54_ak := Nat.ne_of_lt (Nat.lt_of_lt_of_le A53.lt szq_c54_ak)
                have g_c54_ak : n0 ≤ c54_ak := Nat.le_trans Z53 szq_c54_ak
                have sz_c54_ak : h0.size ≤ c54_ak := Nat.le_trans (show Keep h0 h53 [] from K53).1 szq_c54_ak
                have N54 := Fr.app Nj76 N54q
                have fE_b53_x54 := (A53.keep Kq54)
                have K54 : Keep h0 T54.heap [] := Keep.trans K53 Kq54 (allS (Or.inr sz_b53) all0)
                have Z54 : n0 ≤ T54.heap.size := Nat.le_trans Z53 Kq54.1
                obtain ⟨E_b53_55, F_stamp_b53_56, F_marks_b53_57, F_markBits_b53_58, F_marked_b53_59, F_markedCount_b53_60, F_size_b53_61⟩ := O54_0
                obtain ⟨cq62, kq62, q62a, q62b, q62c⟩ := isOf hZ rfl E_b53_55
                obtain ⟨_, _, ⟨T62, L62, k62, n62⟩, -, X62, ⟨Lc62, hQ62, l62, y62, z62⟩, st62⟩ := X54.virtualBack hx (y := (⟨"com/example/libfacet/libfacet/regex/StateSet", "isMarked", "(I)Z"⟩ : MethodName)) (z := (⟨"com/example/libfacet/libfacet/regex/StateSet", "isMarked", "(I)Z"⟩ : MethodName)) hown (mvT hZ (hw _ (List.mem_of_getElem? (i := 26) rfl))) (mvT hZ (hw _ (List.mem_of_getElem? (i := 27) rfl))) (notFace_of_selects (args := #[]) (mvT hZ (hw _ (List.mem_of_getElem? (i := 29) rfl)))) (mvT hZ (hw _ (List.mem_of_getElem? (i := 29) rfl))) (mvT hZ (hw _ (List.mem_of_getElem? (i := 28) rfl))) (by decide) (backOf (W := 0) (rm3N l Z a0 hw [] b53 xq (1 : Int32) c54_ak (0 : Int32) (0 : Int32) (fun _ => (0 : Int32)) n T54.heap n0 Z54 ⟨E_b53_55, F_stamp_b53_56, F_marks_b53_57, F_markBits_b53_58, F_marked_b53_59, F_markedCount_b53_60, F_size_b53_61⟩ P54_ak_0 hxq0 hxq1) hZ (hw _ (List.mem_of_getElem? (i := 30) rfl)) (hw _ (List.mem_of_getElem? (i := 3) rfl)) (by decide) (by decide)) q62a q62c (g := (mkF m 93 #[.val (.int p1), .val (.int p2), .val (.int p3), .val (.int p4), .val (.int p5), .val (.int n), .val (.int (0 : Int32)), .val (.int (1 : Int32)), .val (.int (0 : Int32)), .val (.int xa), .val (.int xb), .val (.int xq), .val (.ref b53), .unset, .unset] [(.int xq), (.ref b53)])) rfl (by rw [hml]; rfl) (Steps.refl _) (argsL := [(.int xq)]) (rest := []) (lenOf pd_0_1 rfl) rfl (by show 2 * 0 + _ ≤ _; exact Nat.le_of_eq rfl) (hb hby at_93) (fun _ _ => ⟨rfl, rfl, (by decide : 4 + 0 ≤ _), (by decide : 298 + 0 ≤ _)⟩)
                dsimp only [Pt.U, Pt.locs, Pt.cells, Pt.slots] at X62 l62 y62 z62 st62 hQ62
                subst l62 y62 z62
                obtain ⟨rfl, N62q, e62⟩ := hQ62
                have N62 := Fr.app N54 N62q
                refine own_pre (A := T62.setTop (mkF m 96 #[.val (.int p1), .val (.int p2), .val (.int p3), .val (.int p4), .val (.int p5), .val (.int n), .val (.int (0 : Int32)), .val (.int (1 : Int32)), .val (.int (0 : Int32)), .val (.int xa), .val (.int xb), .val (.int xq), .val (.ref b53), .unset, .unset] [(.int (own_isN xq (fun _ => (0 : Int32)) n (1 : Int32) (0 : Int32) (0 : Int32)))])) (fun tt kt => ?_) ?_
                · show Steps p.tables e below (Tj76.setTop (mkF m 76 #[.val (.int p1), .val (.int p2), .val (.int p3), .val (.int p4), .val (.int p5), .val (.int n), .val (.int (0 : Int32)), .val (.int (1 : Int32)), .val (.int (0 : Int32)), .val (.int xa), .val (.int xb), .val (.int xq), .unset, .unset, .unset] [])) _
                  refine st53 _ ?_
                  show Steps p.tables e below (T53.setTop (mkF m 79 #[.val (.int p1), .val (.int p2), .val (.int p3), .val (.int p4), .val (.int p5), .val (.int n), .val (.int (0 : Int32)), .val (.int (1 : Int32)), .val (.int (0 : Int32)), .val (.int xa), .val (.int xb), .val (.int xq), .unset, .unset, .unset] [(.ref b53)])) _
                  refine XS.dup X53.here hx rfl (hb hby at_79) rfl rfl ?_
                  refine XS.iload X53.here hx rfl (hb hby at_80) rfl ?_
                  refine XS.iload X53.here hx rfl (hb hby at_82) rfl ?_
                  show Steps p.tables e below (T53.setTop (mkF m 84 #[.val (.int p1), .val (.int p2), .val (.int p3), .val (.int p4), .val (.int p5), .val (.int n), .val (.int (0 : Int32)), .val (.int (1 : Int32)), .val (.int (0 : Int32)), .val (.int xa), .val (.int xb), .val (.int xq), .unset, .unset, .unset] [(.int (0 : Int32)), (.int n), (.ref b53), (.ref b53)])) _
                  refine st54.trans ?_
                  show Steps p.tables e below (T54.setTop (mkF m 87 #[.val (.int p1), .val (.int p2), .val (.int p3), .val (.int p4), .val (.int p5), .val (.int n), .val (.int (0 : Int32)), .val (.int (1 : Int32)), .val (.int (0 : Int32)), .val (.int xa), .val (.int xb), .val (.int xq), .unset, .unset, .unset] [(.ref b53)])) _
                  refine XS.astore X54.here hx rfl (hb hby at_87) rfl rfl (l' := #[.val (.int p1), .val (.int p2), .val (.int p3), .val (.int p4), .val (.int p5), .val (.int n), .val (.int (0 : Int32)), .val (.int (1 : Int32)), .val (.int (0 : Int32)), .val (.int xa), .val (.int xb), .val (.int xq), .val (.ref b53), .unset, .unset]) rfl ?_
                  refine XS.aload X54.here hx rfl (hb hby at_89) rfl rfl ?_
                  refine XS.iload X54.here hx rfl (hb hby at_91) rfl ?_
                  show Steps p.tables e below (T54.setTop (mkF m 93 #[.val (.int p1), .val (.int p2), .val (.int p3), .val (.int p4), .val (.int p5), .val (.int n), .val (.int (0 : Int32)), .val (.int (1 : Int32)), .val (.int (0 : Int32)), .val (.int xa), .val (.int xb), .val (.int xq), .val (.ref b53), .unset, .unset] [(.int xq), (.ref b53)])) _
                  refine st62.trans ?_
                  exact kt
                show own_End p e below s (T62.setTop (mkF m 96 #[.val (.int p1), .val (.int p2), .val (.int p3), .val (.int p4), .val (.int p5), .val (.int n), .val (.int (0 : Int32)), .val (.int (1 : Int32)), .val (.int (0 : Int32)), .val (.int xa), .val (.int xb), .val (.int xq), .val (.ref b53), .unset, .unset] [(.int (own_isN xq (fun _ => (0 : Int32)) n (1 : Int32) (0 : Int32) (0 : Int32)))])) (Q0 Z p1 p2 p3 p4 p5 h0 n0) room_1.cells room_1.slots
                have j104 : ∀ (Tj104 : State) (Lj104 : List Loc) (Xj104 : Stand p l e room_1 s m #[(.int p1), (.int p2), (.int p3), (.int p4), (.int p5)] below meth c Tj104 Lj104 4 298) (ej104 : Tj104.heap = T54.heap) (Nj104 : Fr n0 Lj104) (ok1 : Int32) , own_law p1 p2 p3 p4 p5 = own_law_104bb p1 p2 p3 p4 p5 n xa xb xq ok1 → own_End p e below s (Tj104.setTop (mkF m 104 #[.val (.int p1), .val (.int p2), .val (.int p3), .val (.int p4), .val (.int p5), .val (.int n), .val (.int (0 : Int32)), .val (.int (1 : Int32)), .val (.int (0 : Int32)), .val (.int xa), .val (.int xb), .val (.int xq), .val (.ref b53), .unset, .unset] [(.int ok1)])) (Q0 Z p1 p2 p3 p4 p5 h0 n0) room_1.cells room_1.slots := by
                  intro Tj104 Lj104 Xj104 ej104 Nj104 ok1  hj
                  obtain ⟨cq63, kq63, q63a, q63b, q63c⟩ := isOf hZ ej104 E_b53_55
                  obtain ⟨_, _, ⟨T63, L63, k63, n63⟩, -, X63, ⟨Lc63, hQ63, l63, y63, z63⟩, st63⟩ := Xj104.virtualBack hx (y := (⟨"com/example/libfacet/libfacet/regex/StateSet", "mark", "(I)Z"⟩ : MethodName)) (z := (⟨"com/example/libfacet/libfacet/regex/StateSet", "mark", "(I)Z"⟩ : MethodName)) hown (mvT hZ (hw _ (List.mem_of_getElem? (i := 31) rfl))) (mvT hZ (hw _ (List.mem_of_getElem? (i := 32) rfl))) (notFace_of_selects (args := #[]) (mvT hZ (hw _ (List.mem_of_getElem? (i := 34) rfl)))) (mvT hZ (hw _ (List.mem_of_getElem? (i := 34) rfl))) (mvT hZ (hw _ (List.mem_of_getElem? (i := 33) rfl))) (by decide) (backOf (W := 0) (rm4N l Z a0 hw [] b53 xa (1 : Int32) c54_ak (0 : Int32) (0 : Int32) (fun _ => (0 : Int32)) n T54.heap n0 Z54 ⟨E_b53_55, F_stamp_b53_56, F_marks_b53_57, F_markBits_b53_58, F_marked_b53_59, F_markedCount_b53_60, F_size_b53_61⟩ P54_ak_0 ne_b53_c54_ak g_c54_ak hxa0 hxa1) hZ (hw _ (List.mem_of_getElem? (i := 35) rfl)) (hw _ (List.mem_of_getElem? (i := 3) rfl)) (by decide) (by decide)) q63a q63c (g := (mkF m 110 #[.val (.int p1), .val (.int p2), .val (.int p3), .val (.int p4), .val (.int p5), .val (.int n), .val (.int (0 : Int32)), .val (.int (1 : Int32)), .val (.int (0 : Int32)), .val (.int xa), .val (.int xb), .val (.int xq), .val (.ref b53), .val (.int ok1), .unset] [(.int xa), (.ref b53)])) rfl (by rw [hml]; rfl) (Steps.refl _) (argsL := [(.int xa)]) (rest := []) (lenOf pd_0_1 rfl) rfl (by show 2 * 0 + _ ≤ _; exact Nat.le_of_eq rfl) (hb hby at_110) (fun _ _ => ⟨rfl, ej104, (by decide : 4 + 0 ≤ _), (by decide : 298 + 0 ≤ _)⟩)
                  dsimp only [Pt.U, Pt.locs, Pt.cells, Pt.slots] at X63 l63 y63 z63 st63 hQ63
                  subst l63 y63 z63
                  obtain ⟨rfl, N63q, Kq63, V63_0⟩ := hQ63
                  have N63 := Fr.app Nj104 N63q
                  have fE_b53_x63 := (E_b53_55.keep Kq63)
                  have fF_b53_stamp_x63 := (F_stamp_b53_56.keep Kq63 (ninS ne_b53_c54_ak nin0))
                  have fF_b53_marks_x63 := (F_marks_b53_57.keep Kq63 (ninS ne_b53_c54_ak nin0))
                  have fF_b53_markBits_x63 := (F_markBits_b53_58.keep Kq63 (ninS ne_b53_c54_ak nin0))
                  have fF_b53_marked_x63 := (F_marked_b53_59.keep Kq63 (ninS ne_b53_c54_ak nin0))
                  have fF_b53_markedCount_x63 := (F_markedCount_b53_60.keep Kq63 (ninS ne_b53_c54_ak nin0))
                  have fF_b53_size_x63 := (F_size_b53_61.keep Kq63 (ninS ne_b53_c54_ak nin0))
                  have K63 : Keep h0 T63.heap [] := Keep.trans K54 Kq63 (allS (Or.inr sz_c54_ak) all0)
                  have Z63 : n0 ≤ T63.heap.size := Nat.le_trans Z54 Kq63.1
                  refine own_pre (A := T63.setTop (mkF m 116 #[.val (.int p1), .val (.int p2), .val (.int p3), .val (.int p4), .val (.int p5), .val (.int n), .val (.int (0 : Int32)), .val (.int (1 : Int32)), .val (.int (0 : Int32)), .val (.int xa), .val (.int xb), .val (.int xq), .val (.ref b53), .val (.int ok1), .unset] [(.int ok1)])) (fun tt kt => ?_) ?_
                  · show Steps p.tables e below (Tj104.setTop (mkF m 104 #[.val (.int p1), .val (.int p2), .val (.int p3), .val (.int p4), .val (.int p5), .val (.int n), .val (.int (0 : Int32)), .val (.int (1 : Int32)), .val (.int (0 : Int32)), .val (.int xa), .val (.int xb), .val (.int xq), .val (.ref b53), .unset, .unset] [(.int ok1)])) _
                    refine XS.istore Xj104.here hx rfl (hb hby at_104) rfl (l' := #[.val (.int p1), .val (.int p2), .val (.int p3), .val (.int p4), .val (.int p5), .val (.int n), .val (.int (0 : Int32)), .val (.int (1 : Int32)), .val (.int (0 : Int32)), .val (.int xa), .val (.int xb), .val (.int xq), .val (.ref b53), .val (.int ok1), .unset]) rfl ?_
                    refine XS.aload Xj104.here hx rfl (hb hby at_106) rfl rfl ?_
                    refine XS.iload Xj104.here hx rfl (hb hby at_108) rfl ?_
                    show Steps p.tables e below (Tj104.setTop (mkF m 110 #[.val (.int p1), .val (.int p2), .val (.int p3), .val (.int p4), .val (.int p5), .val (.int n), .val (.int (0 : Int32)), .val (.int (1 : Int32)), .val (.int (0 : Int32)), .val (.int xa), .val (.int xb), .val (.int xq), .val (.ref b53), .val (.int ok1), .unset] [(.int xa), (.ref b53)])) _
                    refine st63.trans ?_
                    show Steps p.tables e below (T63.setTop (mkF m 113 #[.val (.int p1), .val (.int p2), .val (.int p3), .val (.int p4), .val (.int p5), .val (.int n), .val (.int (0 : Int32)), .val (.int (1 : Int32)), .val (.int (0 : Int32)), .val (.int xa), .val (.int xb), .val (.int xq), .val (.ref b53), .val (.int ok1), .unset] [(.int (own_markN xa (fun _ => (0 : Int32)) n (1 : Int32) (0 : Int32) (0 : Int32)))])) _
                    refine XS.pop X63.here hx rfl (hb hby at_113) rfl rfl ?_
                    refine XS.iload X63.here hx rfl (hb hby at_114) rfl ?_
                    exact kt
                  show own_End p e below s (T63.setTop (mkF m 116 #[.val (.int p1), .val (.int p2), .val (.int p3), .val (.int p4), .val (.int p5), .val (.int n), .val (.int (0 : Int32)), .val (.int (1 : Int32)), .val (.int (0 : Int32)), .val (.int xa), .val (.int xb), .val (.int xq), .val (.ref b53), .val (.int ok1), .unset] [(.int ok1)])) (Q0 Z p1 p2 p3 p4 p5 h0 n0) room_1.cells room_1.slots
                  have j134 : ∀ (Tj134 : State) (Lj134 : List Loc) (Xj134 : Stand p l e room_1 s m #[(.int p1), (.int p2), (.int p3), (.int p4), (.int p5)] below meth c Tj134 Lj134 4 298) (ej134 : Tj134.heap = T63.heap) (Nj134 : Fr n0 Lj134) (ok2 : Int32) , own_law p1 p2 p3 p4 p5 = own_law_134bb p1 p2 p3 p4 p5 n xa xb xq ok1 ok2 → own_End p e below s (Tj134.setTop (mkF m 134 #[.val (.int p1), .val (.int p2), .val (.int p3), .val (.int p4), .val (.int p5), .val (.int n), .val (.int (0 : Int32)), .val (.int (1 : Int32)), .val (.int (0 : Int32)), .val (.int xa), .val (.int xb), .val (.int xq), .val (.ref b53), .val (.int ok1), .unset] [(.int ok2)])) (Q0 Z p1 p2 p3 p4 p5 h0 n0) room_1.cells room_1.slots := by
                    intro Tj134 Lj134 Xj134 ej134 Nj134 ok2  hj
                    obtain ⟨cq64, kq64, q64a, q64b, q64c⟩ := isOf hZ ej134 fE_b53_x63
                    obtain ⟨_, _, ⟨T64, L64, k64, n64⟩, -, X64, ⟨Lc64, hQ64, l64, y64, z64⟩, st64⟩ := Xj134.virtualBack hx (y := (⟨"com/example/libfacet/libfacet/regex/StateSet", "clear", "()V"⟩ : MethodName)) (z := (⟨"com/example/libfacet/libfacet/regex/StateSet", "clear", "()V"⟩ : MethodName)) hown (mvT hZ (hw _ (List.mem_of_getElem? (i := 38) rfl))) (mvT hZ (hw _ (List.mem_of_getElem? (i := 39) rfl))) (notFace_of_selects (args := #[]) (mvT hZ (hw _ (List.mem_of_getElem? (i := 41) rfl)))) (mvT hZ (hw _ (List.mem_of_getElem? (i := 41) rfl))) (mvT hZ (hw _ (List.mem_of_getElem? (i := 40) rfl))) (by decide) (backOf (W := 0) (rm5N l Z a0 hw [] b53 (1 : Int32) c54_ak (0 : Int32) (0 : Int32) T63.heap n0 Z63 ⟨fE_b53_x63, fF_b53_stamp_x63, fF_b53_marks_x63, fF_b53_markBits_x63, fF_b53_marked_x63, fF_b53_markedCount_x63, fF_b53_size_x63⟩ g_b53 (by decide)) hZ (hw _ (List.mem_of_getElem? (i := 42) rfl)) (hw _ (List.mem_of_getElem? (i := 3) rfl)) (by decide) (by decide)) q64a q64c (g := (mkF m 143 #[.val (.int p1), .val (.int p2), .val (.int p3), .val (.int p4), .val (.int p5), .val (.int n), .val (.int (0 : Int32)), .val (.int (1 : Int32)), .val (.int (0 : Int32)), .val (.int xa), .val (.int xb), .val (.int xq), .val (.ref b53), .val (.int ok2), .unset] [(.ref b53)])) rfl (by rw [hml]; rfl) (Steps.refl _) (argsL := []) (rest := []) (lenOf pd_0_2 rfl) rfl (by show 2 * 0 + _ ≤ _; exact Nat.le_of_eq rfl) (hb hby at_143) (fun _ _ => ⟨rfl, ej134, (by decide : 4 + 0 ≤ _), (by decide : 298 + 0 ≤ _)⟩)
                    dsimp only [Pt.U, Pt.locs, Pt.cells, Pt.slots] at X64 l64 y64 z64 st64 hQ64
                    subst l64 y64 z64
                    obtain ⟨rfl, N64q, Kq64, O64_0⟩ := hQ64
                    have N64 := Fr.app Nj134 N64q
                    have fE_b53_x64 := (fE_b53_x63.keep Kq64)
                    have fA_c54_ak_x64 := (V63_0.keep Kq64 (ninS (Ne.symm ne_b53_c54_ak) nin0))
                    have K64 : Keep h0 T64.heap [] := Keep.trans K63 Kq64 (allS (Or.inr sz_b53) all0)
                    have Z64 : n0 ≤ T64.heap.size := Nat.le_trans Z63 Kq64.1
                    obtain ⟨E_b53_65, F_stamp_b53_66, F_marks_b53_67, F_markBits_b53_68, F_marked_b53_69, F_markedCount_b53_70, F_size_b53_71⟩ := O64_0
                    obtain ⟨cq72, kq72, q72a, q72b, q72c⟩ := isOf hZ rfl E_b53_65
                    obtain ⟨_, _, ⟨T72, L72, k72, n72⟩, -, X72, ⟨Lc72, hQ72, l72, y72, z72⟩, st72⟩ := X64.virtualBack hx (y := (⟨"com/example/libfacet/libfacet/regex/StateSet", "mark", "(I)Z"⟩ : MethodName)) (z := (⟨"com/example/libfacet/libfacet/regex/StateSet", "mark", "(I)Z"⟩ : MethodName)) hown (mvT hZ (hw _ (List.mem_of_getElem? (i := 31) rfl))) (mvT hZ (hw _ (List.mem_of_getElem? (i := 32) rfl))) (notFace_of_selects (args := #[]) (mvT hZ (hw _ (List.mem_of_getElem? (i := 34) rfl)))) (mvT hZ (hw _ (List.mem_of_getElem? (i := 34) rfl))) (mvT hZ (hw _ (List.mem_of_getElem? (i := 33) rfl))) (by decide) (backOf (W := 0) (rm4N l Z a0 hw [] b53 xb (2 : Int32) c54_ak (0 : Int32) (0 : Int32) (own_put (fun _ => (0 : Int32)) xa (own_ch (1 : Int32))) n T64.heap n0 Z64 ⟨E_b53_65, F_stamp_b53_66, F_marks_b53_67, F_markBits_b53_68, F_marked_b53_69, F_markedCount_b53_70, F_size_b53_71⟩ fA_c54_ak_x64 ne_b53_c54_ak g_c54_ak hxb0 hxb1) hZ (hw _ (List.mem_of_getElem? (i := 35) rfl)) (hw _ (List.mem_of_getElem? (i := 3) rfl)) (by decide) (by decide)) q72a q72c (g := (mkF m 150 #[.val (.int p1), .val (.int p2), .val (.int p3), .val (.int p4), .val (.int p5), .val (.int n), .val (.int (0 : Int32)), .val (.int (1 : Int32)), .val (.int (0 : Int32)), .val (.int xa), .val (.int xb), .val (.int xq), .val (.ref b53), .val (.int ok2), .unset] [(.int xb), (.ref b53)])) rfl (by rw [hml]; rfl) (Steps.refl _) (argsL := [(.int xb)]) (rest := []) (lenOf pd_0_1 rfl) rfl (by show 2 * 0 + _ ≤ _; exact Nat.le_of_eq rfl) (hb hby at_150) (fun _ _ => ⟨rfl, rfl, (by decide : 4 + 0 ≤ _), (by decide : 298 + 0 ≤ _)⟩)
                    dsimp only [Pt.U, Pt.locs, Pt.cells, Pt.slots] at X72 l72 y72 z72 st72 hQ72
                    subst l72 y72 z72
                    obtain ⟨rfl, N72q, Kq72, V72_0⟩ := hQ72
                    have N72 := Fr.app N64 N72q
                    have fE_b53_x72 := (E_b53_65.keep Kq72)
                    have fF_b53_stamp_x72 := (F_stamp_b53_66.keep Kq72 (ninS ne_b53_c54_ak nin0))
                    have fF_b53_marks_x72 := (F_marks_b53_67.keep Kq72 (ninS ne_b53_c54_ak nin0))
                    have fF_b53_markBits_x72 := (F_markBits_b53_68.keep Kq72 (ninS ne_b53_c54_ak nin0))
                    have fF_b53_marked_x72 := (F_marked_b53_69.keep Kq72 (ninS ne_b53_c54_ak nin0))
                    have fF_b53_markedCount_x72 := (F_markedCount_b53_70.keep Kq72 (ninS ne_b53_c54_ak nin0))
                    have fF_b53_size_x72 := (F_size_b53_71.keep Kq72 (ninS ne_b53_c54_ak nin0))
                    have K72 : Keep h0 T72.heap [] := Keep.trans K64 Kq72 (allS (Or.inr sz_c54_ak) all0)
                    have Z72 : n0 ≤ T72.heap.size := Nat.le_trans Z64 Kq72.1
                    refine own_pre (A := T72.setTop (mkF m 173 #[.val (.int p1), .val (.int p2), .val (.int p3), .val (.int p4), .val (.int p5), .val (.int n), .val (.int (0 : Int32)), .val (.int (1 : Int32)), .val (.int (0 : Int32)), .val (.int xa), .val (.int xb), .val (.int xq), .val (.ref b53), .val (.int ok2), .unset] [(.int xb), (.int xq)])) (fun tt kt => ?_) ?_
                    · show Steps p.tables e below (Tj134.setTop (mkF m 134 #[.val (.int p1), .val (.int p2), .val (.int p3), .val (.int p4), .val (.int p5), .val (.int n), .val (.int (0 : Int32)), .val (.int (1 : Int32)), .val (.int (0 : Int32)), .val (.int xa), .val (.int xb), .val (.int xq), .val (.ref b53), .val (.int ok1), .unset] [(.int ok2)])) _
                      refine XS.istore Xj134.here hx rfl (hb hby at_134) rfl (l' := #[.val (.int p1), .val (.int p2), .val (.int p3), .val (.int p4), .val (.int p5), .val (.int n), .val (.int (0 : Int32)), .val (.int (1 : Int32)), .val (.int (0 : Int32)), .val (.int xa), .val (.int xb), .val (.int xq), .val (.ref b53), .val (.int ok2), .unset]) rfl ?_
                      refine XS.iload Xj134.here hx rfl (hb hby at_136) rfl ?_
                      refine XS.ifNo Xj134.here hx rfl (hb hby at_138) rfl ((if0 _ _).trans (feq ((by decide) : ¬ ((1 : Int32) = (0 : Int32)))).1) ?_
                      refine XS.aload Xj134.here hx rfl (hb hby at_141) rfl rfl ?_
                      show Steps p.tables e below (Tj134.setTop (mkF m 143 #[.val (.int p1), .val (.int p2), .val (.int p3), .val (.int p4), .val (.int p5), .val (.int n), .val (.int (0 : Int32)), .val (.int (1 : Int32)), .val (.int (0 : Int32)), .val (.int xa), .val (.int xb), .val (.int xq), .val (.ref b53), .val (.int ok2), .unset] [(.ref b53)])) _
                      refine st64.trans ?_
                      show Steps p.tables e below (T64.setTop (mkF m 146 #[.val (.int p1), .val (.int p2), .val (.int p3), .val (.int p4), .val (.int p5), .val (.int n), .val (.int (0 : Int32)), .val (.int (1 : Int32)), .val (.int (0 : Int32)), .val (.int xa), .val (.int xb), .val (.int xq), .val (.ref b53), .val (.int ok2), .unset] [])) _
                      refine XS.aload X64.here hx rfl (hb hby at_146) rfl rfl ?_
                      refine XS.iload X64.here hx rfl (hb hby at_148) rfl ?_
                      show Steps p.tables e below (T64.setTop (mkF m 150 #[.val (.int p1), .val (.int p2), .val (.int p3), .val (.int p4), .val (.int p5), .val (.int n), .val (.int (0 : Int32)), .val (.int (1 : Int32)), .val (.int (0 : Int32)), .val (.int xa), .val (.int xb), .val (.int xq), .val (.ref b53), .val (.int ok2), .unset] [(.int xb), (.ref b53)])) _
                      refine st72.trans ?_
                      show Steps p.tables e below (T72.setTop (mkF m 153 #[.val (.int p1), .val (.int p2), .val (.int p3), .val (.int p4), .val (.int p5), .val (.int n), .val (.int (0 : Int32)), .val (.int (1 : Int32)), .val (.int (0 : Int32)), .val (.int xa), .val (.int xb), .val (.int xq), .val (.ref b53), .val (.int ok2), .unset] [(.int (own_markN xb (own_put (fun _ => (0 : Int32)) xa (own_ch (1 : Int32))) n (2 : Int32) (0 : Int32) (0 : Int32)))])) _
                      refine XS.pop X72.here hx rfl (hb hby at_153) rfl rfl ?_
                      refine XS.iload X72.here hx rfl (hb hby at_154) rfl ?_
                      refine XS.ifYes X72.here hx rfl (pc0 := 156) (pc' := 164) rfl (hb hby at_156) rfl ((if0 _ _).trans (teq ((by decide) : (0 : Int32) = (0 : Int32))).1) (by decide) (by decide) ?_
                      refine XS.iload X72.here hx rfl (hb hby at_164) rfl ?_
                      refine XS.ifNo X72.here hx rfl (hb hby at_166) rfl ((if0 _ _).trans (teq ((by decide) : (0 : Int32) = (0 : Int32))).2) ?_
                      refine XS.iload X72.here hx rfl (hb hby at_169) rfl ?_
                      refine XS.iload X72.here hx rfl (hb hby at_171) rfl ?_
                      exact kt
                    show own_End p e below s (T72.setTop (mkF m 173 #[.val (.int p1), .val (.int p2), .val (.int p3), .val (.int p4), .val (.int p5), .val (.int n), .val (.int (0 : Int32)), .val (.int (1 : Int32)), .val (.int (0 : Int32)), .val (.int xa), .val (.int xb), .val (.int xq), .val (.ref b53), .val (.int ok2), .unset] [(.int xb), (.int xq)])) (Q0 Z p1 p2 p3 p4 p5 h0 n0) room_1.cells room_1.slots
                    have j193 : ∀ (Tj193 : State) (Lj193 : List Loc) (Xj193 : Stand p l e room_1 s m #[(.int p1), (.int p2), (.int p3), (.int p4), (.int p5)] below meth c Tj193 Lj193 4 298) (ej193 : Tj193.heap = T72.heap) (Nj193 : Fr n0 Lj193) (ex : Int32) , own_law p1 p2 p3 p4 p5 = own_law_193b p1 p2 p3 p4 p5 n xa xb xq ok1 ok2 ex → own_End p e below s (Tj193.setTop (mkF m 193 #[.val (.int p1), .val (.int p2), .val (.int p3), .val (.int p4), .val (.int p5), .val (.int n), .val (.int (0 : Int32)), .val (.int (1 : Int32)), .val (.int (0 : Int32)), .val (.int xa), .val (.int xb), .val (.int xq), .val (.ref b53), .val (.int ok2), .unset] [(.int ex)])) (Q0 Z p1 p2 p3 p4 p5 h0 n0) room_1.cells room_1.slots := by
                      intro Tj193 Lj193 Xj193 ej193 Nj193 ex  hj
                      refine own_pre (A := Tj193.setTop (mkF m 197 #[.val (.int p1), .val (.int p2), .val (.int p3), .val (.int p4), .val (.int p5), .val (.int n), .val (.int (0 : Int32)), .val (.int (1 : Int32)), .val (.int (0 : Int32)), .val (.int xa), .val (.int xb), .val (.int xq), .val (.ref b53), .val (.int ok2), .val (.int ex)] [(.int ok2)])) (fun tt kt => ?_) ?_
                      · show Steps p.tables e below (Tj193.setTop (mkF m 193 #[.val (.int p1), .val (.int p2), .val (.int p3), .val (.int p4), .val (.int p5), .val (.int n), .val (.int (0 : Int32)), .val (.int (1 : Int32)), .val (.int (0 : Int32)), .val (.int xa), .val (.int xb), .val (.int xq), .val (.ref b53), .val (.int ok2), .unset] [(.int ex)])) _
                        refine XS.istore Xj193.here hx rfl (hb hby at_193) rfl (l' := #[.val (.int p1), .val (.int p2), .val (.int p3), .val (.int p4), .val (.int p5), .val (.int n), .val (.int (0 : Int32)), .val (.int (1 : Int32)), .val (.int (0 : Int32)), .val (.int xa), .val (.int xb), .val (.int xq), .val (.ref b53), .val (.int ok2), .val (.int ex)]) rfl ?_
                        refine XS.iload Xj193.here hx rfl (hb hby at_195) rfl ?_
                        exact kt
                      show own_End p e below s (Tj193.setTop (mkF m 197 #[.val (.int p1), .val (.int p2), .val (.int p3), .val (.int p4), .val (.int p5), .val (.int n), .val (.int (0 : Int32)), .val (.int (1 : Int32)), .val (.int (0 : Int32)), .val (.int xa), .val (.int xb), .val (.int xq), .val (.ref b53), .val (.int ok2), .val (.int ex)] [(.int ok2)])) (Q0 Z p1 p2 p3 p4 p5 h0 n0) room_1.cells room_1.slots
                      by_cases hc197_73 : ok2 = (0 : Int32)
                      · refine own_pre (A := Tj193.setTop (mkF m 217 #[.val (.int p1), .val (.int p2), .val (.int p3), .val (.int p4), .val (.int p5), .val (.int n), .val (.int (0 : Int32)), .val (.int (1 : Int32)), .val (.int (0 : Int32)), .val (.int xa), .val (.int xb), .val (.int xq), .val (.ref b53), .val (.int ok2), .val (.int ex)] [(.int (0 : Int32))])) (fun tt kt => ?_) ?_
                        · show Steps p.tables e below (Tj193.setTop (mkF m 197 #[.val (.int p1), .val (.int p2), .val (.int p3), .val (.int p4), .val (.int p5), .val (.int n), .val (.int (0 : Int32)), .val (.int (1 : Int32)), .val (.int (0 : Int32)), .val (.int xa), .val (.int xb), .val (.int xq), .val (.ref b53), .val (.int ok2), .val (.int ex)] [(.int ok2)])) _
                          refine XS.ifYes Xj193.here hx rfl (pc0 := 197) (pc' := 216) rfl (hb hby at_197) rfl ((if0 _ _).trans (teq hc197_73).1) (by decide) (by decide) ?_
                          refine XS.iconst Xj193.here hx rfl (hb hby at_216) ?_
                          exact kt
                        show own_End p e below s (Tj193.setTop (mkF m 217 #[.val (.int p1), .val (.int p2), .val (.int p3), .val (.int p4), .val (.int p5), .val (.int n), .val (.int (0 : Int32)), .val (.int (1 : Int32)), .val (.int (0 : Int32)), .val (.int xa), .val (.int xb), .val (.int xq), .val (.ref b53), .val (.int ok2), .val (.int ex)] [(.int (0 : Int32))])) (Q0 Z p1 p2 p3 p4 p5 h0 n0) room_1.cells room_1.slots
                        have hv : (own_law p1 p2 p3 p4 p5) = (0 : Int32) := hj.trans (by simp only [own_law_193b, if_pos hc197_73])
                        obtain ⟨fs, hr, hrun, hended, hW, hsame⟩ := Xj193.leave (v := some (.int (0 : Int32))) (fun h => by rw [Bd.returns] at h; cases h)
                        refine ⟨_, _, ?_, hrun, hended, _, _, rfl, ?_, ⟨_, rfl⟩, hW, hsame.mono (by decide) (by decide)⟩
                        · exact retN Xj193 hx (t := .boolean) Bd.returns (by simp) (hb hby at_217) hr
                        · show Q0 Z p1 p2 p3 p4 p5 h0 n0 _ Tj193.heap _
                          rw [ej193]
                          exact ⟨(congrArg (fun z => some (Value.int z)) hv.symm), Nj193⟩
                      · obtain ⟨cq74, kq74, q74a, q74b, q74c⟩ := isOf hZ ej193 fE_b53_x72
                        obtain ⟨_, _, ⟨T74, L74, k74, n74⟩, -, X74, ⟨Lc74, hQ74, l74, y74, z74⟩, st74⟩ := Xj193.virtualBack hx (y := (⟨"com/example/libfacet/libfacet/regex/StateSet", "isMarked", "(I)Z"⟩ : MethodName)) (z := (⟨"com/example/libfacet/libfacet/regex/StateSet", "isMarked", "(I)Z"⟩ : MethodName)) hown (mvT hZ (hw _ (List.mem_of_getElem? (i := 26) rfl))) (mvT hZ (hw _ (List.mem_of_getElem? (i := 27) rfl))) (notFace_of_selects (args := #[]) (mvT hZ (hw _ (List.mem_of_getElem? (i := 29) rfl)))) (mvT hZ (hw _ (List.mem_of_getElem? (i := 29) rfl))) (mvT hZ (hw _ (List.mem_of_getElem? (i := 28) rfl))) (by decide) (backOf (W := 0) (rm3N l Z a0 hw [] b53 xq (2 : Int32) c54_ak (0 : Int32) (0 : Int32) (own_put (own_put (fun _ => (0 : Int32)) xa (own_ch (1 : Int32))) xb (own_ch (2 : Int32))) n T72.heap n0 Z72 ⟨fE_b53_x72, fF_b53_stamp_x72, fF_b53_marks_x72, fF_b53_markBits_x72, fF_b53_marked_x72, fF_b53_markedCount_x72, fF_b53_size_x72⟩ V72_0 hxq0 hxq1) hZ (hw _ (List.mem_of_getElem? (i := 30) rfl)) (hw _ (List.mem_of_getElem? (i := 3) rfl)) (by decide) (by decide)) q74a q74c (g := (mkF m 204 #[.val (.int p1), .val (.int p2), .val (.int p3), .val (.int p4), .val (.int p5), .val (.int n), .val (.int (0 : Int32)), .val (.int (1 : Int32)), .val (.int (0 : Int32)), .val (.int xa), .val (.int xb), .val (.int xq), .val (.ref b53), .val (.int ok2), .val (.int ex)] [(.int xq), (.ref b53)])) rfl (by rw [hml]; rfl) (Steps.refl _) (argsL := [(.int xq)]) (rest := []) (lenOf pd_0_1 rfl) rfl (by show 2 * 0 + _ ≤ _; exact Nat.le_of_eq rfl) (hb hby at_204) (fun _ _ => ⟨rfl, ej193, (by decide : 4 + 0 ≤ _), (by decide : 298 + 0 ≤ _)⟩)
                        dsimp only [Pt.U, Pt.locs, Pt.cells, Pt.slots] at X74 l74 y74 z74 st74 hQ74
                        subst l74 y74 z74
                        obtain ⟨rfl, N74q, e74⟩ := hQ74
                        have N74 := Fr.app Nj193 N74q
                        refine own_pre (A := T74.setTop (mkF m 209 #[.val (.int p1), .val (.int p2), .val (.int p3), .val (.int p4), .val (.int p5), .val (.int n), .val (.int (0 : Int32)), .val (.int (1 : Int32)), .val (.int (0 : Int32)), .val (.int xa), .val (.int xb), .val (.int xq), .val (.ref b53), .val (.int ok2), .val (.int ex)] [(.int ex), (.int (own_isN xq (own_put (own_put (fun _ => (0 : Int32)) xa (own_ch (1 : Int32))) xb (own_ch (2 : Int32))) n (2 : Int32) (0 : Int32) (0 : Int32)))])) (fun tt kt => ?_) ?_
                        · show Steps p.tables e below (Tj193.setTop (mkF m 197 #[.val (.int p1), .val (.int p2), .val (.int p3), .val (.int p4), .val (.int p5), .val (.int n), .val (.int (0 : Int32)), .val (.int (1 : Int32)), .val (.int (0 : Int32)), .val (.int xa), .val (.int xb), .val (.int xq), .val (.ref b53), .val (.int ok2), .val (.int ex)] [(.int ok2)])) _
                          refine XS.ifNo Xj193.here hx rfl (hb hby at_197) rfl ((if0 _ _).trans (feq hc197_73).1) ?_
                          refine XS.aload Xj193.here hx rfl (hb hby at_200) rfl rfl ?_
                          refine XS.iload Xj193.here hx rfl (hb hby at_202) rfl ?_
                          show Steps p.tables e below (Tj193.setTop (mkF m 204 #[.val (.int p1), .val (.int p2), .val (.int p3), .val (.int p4), .val (.int p5), .val (.int n), .val (.int (0 : Int32)), .val (.int (1 : Int32)), .val (.int (0 : Int32)), .val (.int xa), .val (.int xb), .val (.int xq), .val (.ref b53), .val (.int ok2), .val (.int ex)] [(.int xq), (.ref b53)])) _
                          refine st74.trans ?_
                          show Steps p.tables e below (T74.setTop (mkF m 207 #[.val (.int p1), .val (.int p2), .val (.int p3), .val (.int p4), .val (.int p5), .val (.int n), .val (.int (0 : Int32)), .val (.int (1 : Int32)), .val (.int (0 : Int32)), .val (.int xa), .val (.int xb), .val (.int xq), .val (.ref b53), .val (.int ok2), .val (.int ex)] [(.int (own_isN xq (own_put (own_put (fun _ => (0 : Int32)) xa (own_ch (1 : Int32))) xb (own_ch (2 : Int32))) n (2 : Int32) (0 : Int32) (0 : Int32)))])) _
                          refine XS.iload X74.here hx rfl (hb hby at_207) rfl ?_
                          exact kt
                        show own_End p e below s (T74.setTop (mkF m 209 #[.val (.int p1), .val (.int p2), .val (.int p3), .val (.int p4), .val (.int p5), .val (.int n), .val (.int (0 : Int32)), .val (.int (1 : Int32)), .val (.int (0 : Int32)), .val (.int xa), .val (.int xb), .val (.int xq), .val (.ref b53), .val (.int ok2), .val (.int ex)] [(.int ex), (.int (own_isN xq (own_put (own_put (fun _ => (0 : Int32)) xa (own_ch (1 : Int32))) xb (own_ch (2 : Int32))) n (2 : Int32) (0 : Int32) (0 : Int32)))])) (Q0 Z p1 p2 p3 p4 p5 h0 n0) room_1.cells room_1.slots
                        by_cases hc209_75 : (own_isN xq (own_put (own_put (fun _ => (0 : Int32)) xa (own_ch (1 : Int32))) xb (own_ch (2 : Int32))) n (2 : Int32) (0 : Int32) (0 : Int32)) = ex
                        · refine own_pre (A := T74.setTop (mkF m 217 #[.val (.int p1), .val (.int p2), .val (.int p3), .val (.int p4), .val (.int p5), .val (.int n), .val (.int (0 : Int32)), .val (.int (1 : Int32)), .val (.int (0 : Int32)), .val (.int xa), .val (.int xb), .val (.int xq), .val (.ref b53), .val (.int ok2), .val (.int ex)] [(.int (1 : Int32))])) (fun tt kt => ?_) ?_
                          · show Steps p.tables e below (T74.setTop (mkF m 209 #[.val (.int p1), .val (.int p2), .val (.int p3), .val (.int p4), .val (.int p5), .val (.int n), .val (.int (0 : Int32)), .val (.int (1 : Int32)), .val (.int (0 : Int32)), .val (.int xa), .val (.int xb), .val (.int xq), .val (.ref b53), .val (.int ok2), .val (.int ex)] [(.int ex), (.int (own_isN xq (own_put (own_put (fun _ => (0 : Int32)) xa (own_ch (1 : Int32))) xb (own_ch (2 : Int32))) n (2 : Int32) (0 : Int32) (0 : Int32)))])) _
                            refine XS.icmpNo X74.here hx rfl (hb hby at_209) rfl (teq hc209_75).2 ?_
                            refine XS.iconst X74.here hx rfl (hb hby at_212) ?_
                            refine XS.goto X74.here hx rfl (pc0 := 213) (pc' := 217) rfl (hb hby at_213) (by decide) (by decide) ?_
                            exact kt
                          show own_End p e below s (T74.setTop (mkF m 217 #[.val (.int p1), .val (.int p2), .val (.int p3), .val (.int p4), .val (.int p5), .val (.int n), .val (.int (0 : Int32)), .val (.int (1 : Int32)), .val (.int (0 : Int32)), .val (.int xa), .val (.int xb), .val (.int xq), .val (.ref b53), .val (.int ok2), .val (.int ex)] [(.int (1 : Int32))])) (Q0 Z p1 p2 p3 p4 p5 h0 n0) room_1.cells room_1.slots
                          have hv : (own_law p1 p2 p3 p4 p5) = (1 : Int32) := hj.trans (by simp only [own_law_193b, if_neg hc197_73, if_pos hc209_75])
                          obtain ⟨fs, hr, hrun, hended, hW, hsame⟩ := X74.leave (v := some (.int (1 : Int32))) (fun h => by rw [Bd.returns] at h; cases h)
                          refine ⟨_, _, ?_, hrun, hended, _, _, rfl, ?_, ⟨_, rfl⟩, hW, hsame.mono (by decide) (by decide)⟩
                          · exact retN X74 hx (t := .boolean) Bd.returns (by simp) (hb hby at_217) hr
                          · show Q0 Z p1 p2 p3 p4 p5 h0 n0 _ T74.heap _
                            rw [e74]
                            exact ⟨(congrArg (fun z => some (Value.int z)) hv.symm), N74⟩
                        · refine own_pre (A := T74.setTop (mkF m 217 #[.val (.int p1), .val (.int p2), .val (.int p3), .val (.int p4), .val (.int p5), .val (.int n), .val (.int (0 : Int32)), .val (.int (1 : Int32)), .val (.int (0 : Int32)), .val (.int xa), .val (.int xb), .val (.int xq), .val (.ref b53), .val (.int ok2), .val (.int ex)] [(.int (0 : Int32))])) (fun tt kt => ?_) ?_
                          · show Steps p.tables e below (T74.setTop (mkF m 209 #[.val (.int p1), .val (.int p2), .val (.int p3), .val (.int p4), .val (.int p5), .val (.int n), .val (.int (0 : Int32)), .val (.int (1 : Int32)), .val (.int (0 : Int32)), .val (.int xa), .val (.int xb), .val (.int xq), .val (.ref b53), .val (.int ok2), .val (.int ex)] [(.int ex), (.int (own_isN xq (own_put (own_put (fun _ => (0 : Int32)) xa (own_ch (1 : Int32))) xb (own_ch (2 : Int32))) n (2 : Int32) (0 : Int32) (0 : Int32)))])) _
                            refine XS.icmpYes X74.here hx rfl (pc0 := 209) (pc' := 216) rfl (hb hby at_209) rfl (feq hc209_75).2 (by decide) (by decide) ?_
                            refine XS.iconst X74.here hx rfl (hb hby at_216) ?_
                            exact kt
                          show own_End p e below s (T74.setTop (mkF m 217 #[.val (.int p1), .val (.int p2), .val (.int p3), .val (.int p4), .val (.int p5), .val (.int n), .val (.int (0 : Int32)), .val (.int (1 : Int32)), .val (.int (0 : Int32)), .val (.int xa), .val (.int xb), .val (.int xq), .val (.ref b53), .val (.int ok2), .val (.int ex)] [(.int (0 : Int32))])) (Q0 Z p1 p2 p3 p4 p5 h0 n0) room_1.cells room_1.slots
                          have hv : (own_law p1 p2 p3 p4 p5) = (0 : Int32) := hj.trans (by simp only [own_law_193b, if_neg hc197_73, if_neg hc209_75])
                          obtain ⟨fs, hr, hrun, hended, hW, hsame⟩ := X74.leave (v := some (.int (0 : Int32))) (fun h => by rw [Bd.returns] at h; cases h)
                          refine ⟨_, _, ?_, hrun, hended, _, _, rfl, ?_, ⟨_, rfl⟩, hW, hsame.mono (by decide) (by decide)⟩
                          · exact retN X74 hx (t := .boolean) Bd.returns (by simp) (hb hby at_217) hr
                          · show Q0 Z p1 p2 p3 p4 p5 h0 n0 _ T74.heap _
                            rw [e74]
                            exact ⟨(congrArg (fun z => some (Value.int z)) hv.symm), N74⟩
                    by_cases hc173_76 : xq = xb
                    · refine own_pre (A := T72.setTop (mkF m 193 #[.val (.int p1), .val (.int p2), .val (.int p3), .val (.int p4), .val (.int p5), .val (.int n), .val (.int (0 : Int32)), .val (.int (1 : Int32)), .val (.int (0 : Int32)), .val (.int xa), .val (.int xb), .val (.int xq), .val (.ref b53), .val (.int ok2), .unset] [(.int (1 : Int32))])) (fun tt kt => ?_) ?_
                      · show Steps p.tables e below (T72.setTop (mkF m 173 #[.val (.int p1), .val (.int p2), .val (.int p3), .val (.int p4), .val (.int p5), .val (.int n), .val (.int (0 : Int32)), .val (.int (1 : Int32)), .val (.int (0 : Int32)), .val (.int xa), .val (.int xb), .val (.int xq), .val (.ref b53), .val (.int ok2), .unset] [(.int xb), (.int xq)])) _
                        refine XS.icmpYes X72.here hx rfl (pc0 := 173) (pc' := 188) rfl (hb hby at_173) rfl (teq hc173_76).1 (by decide) (by decide) ?_
                        refine XS.iconst X72.here hx rfl (hb hby at_188) ?_
                        refine XS.goto X72.here hx rfl (pc0 := 189) (pc' := 193) rfl (hb hby at_189) (by decide) (by decide) ?_
                        exact kt
                      show own_End p e below s (T72.setTop (mkF m 193 #[.val (.int p1), .val (.int p2), .val (.int p3), .val (.int p4), .val (.int p5), .val (.int n), .val (.int (0 : Int32)), .val (.int (1 : Int32)), .val (.int (0 : Int32)), .val (.int xa), .val (.int xb), .val (.int xq), .val (.ref b53), .val (.int ok2), .unset] [(.int (1 : Int32))])) (Q0 Z p1 p2 p3 p4 p5 h0 n0) room_1.cells room_1.slots
                      exact j193 _ _ X72 rfl N72 (1 : Int32)  (hj.trans (by simp only [own_law_134bb, if_pos hc173_76]))
                    · refine own_pre (A := T72.setTop (mkF m 193 #[.val (.int p1), .val (.int p2), .val (.int p3), .val (.int p4), .val (.int p5), .val (.int n), .val (.int (0 : Int32)), .val (.int (1 : Int32)), .val (.int (0 : Int32)), .val (.int xa), .val (.int xb), .val (.int xq), .val (.ref b53), .val (.int ok2), .unset] [(.int (0 : Int32))])) (fun tt kt => ?_) ?_
                      · show Steps p.tables e below (T72.setTop (mkF m 173 #[.val (.int p1), .val (.int p2), .val (.int p3), .val (.int p4), .val (.int p5), .val (.int n), .val (.int (0 : Int32)), .val (.int (1 : Int32)), .val (.int (0 : Int32)), .val (.int xa), .val (.int xb), .val (.int xq), .val (.ref b53), .val (.int ok2), .unset] [(.int xb), (.int xq)])) _
                        refine XS.icmpNo X72.here hx rfl (hb hby at_173) rfl (feq hc173_76).1 ?_
                        refine XS.iload X72.here hx rfl (hb hby at_176) rfl ?_
                        refine XS.ifYes X72.here hx rfl (pc0 := 178) (pc' := 192) rfl (hb hby at_178) rfl ((if0 _ _).trans (feq ((by decide) : ¬ ((1 : Int32) = (0 : Int32)))).2) (by decide) (by decide) ?_
                        refine XS.iconst X72.here hx rfl (hb hby at_192) ?_
                        exact kt
                      show own_End p e below s (T72.setTop (mkF m 193 #[.val (.int p1), .val (.int p2), .val (.int p3), .val (.int p4), .val (.int p5), .val (.int n), .val (.int (0 : Int32)), .val (.int (1 : Int32)), .val (.int (0 : Int32)), .val (.int xa), .val (.int xb), .val (.int xq), .val (.ref b53), .val (.int ok2), .unset] [(.int (0 : Int32))])) (Q0 Z p1 p2 p3 p4 p5 h0 n0) room_1.cells room_1.slots
                      exact j193 _ _ X72 rfl N72 (0 : Int32)  (hj.trans (by simp only [own_law_134bb, if_neg hc173_76]))
                  by_cases hc116_77 : ok1 = (0 : Int32)
                  · refine own_pre (A := T63.setTop (mkF m 134 #[.val (.int p1), .val (.int p2), .val (.int p3), .val (.int p4), .val (.int p5), .val (.int n), .val (.int (0 : Int32)), .val (.int (1 : Int32)), .val (.int (0 : Int32)), .val (.int xa), .val (.int xb), .val (.int xq), .val (.ref b53), .val (.int ok1), .unset] [(.int (0 : Int32))])) (fun tt kt => ?_) ?_
                    · show Steps p.tables e below (T63.setTop (mkF m 116 #[.val (.int p1), .val (.int p2), .val (.int p3), .val (.int p4), .val (.int p5), .val (.int n), .val (.int (0 : Int32)), .val (.int (1 : Int32)), .val (.int (0 : Int32)), .val (.int xa), .val (.int xb), .val (.int xq), .val (.ref b53), .val (.int ok1), .unset] [(.int ok1)])) _
                      refine XS.ifYes X63.here hx rfl (pc0 := 116) (pc' := 133) rfl (hb hby at_116) rfl ((if0 _ _).trans (teq hc116_77).1) (by decide) (by decide) ?_
                      refine XS.iconst X63.here hx rfl (hb hby at_133) ?_
                      exact kt
                    show own_End p e below s (T63.setTop (mkF m 134 #[.val (.int p1), .val (.int p2), .val (.int p3), .val (.int p4), .val (.int p5), .val (.int n), .val (.int (0 : Int32)), .val (.int (1 : Int32)), .val (.int (0 : Int32)), .val (.int xa), .val (.int xb), .val (.int xq), .val (.ref b53), .val (.int ok1), .unset] [(.int (0 : Int32))])) (Q0 Z p1 p2 p3 p4 p5 h0 n0) room_1.cells room_1.slots
                    exact j134 _ _ X63 rfl N63 (0 : Int32)  (hj.trans (by simp only [own_law_104bb, if_pos hc116_77]))
                  · obtain ⟨cq78, kq78, q78a, q78b, q78c⟩ := isOf hZ rfl fE_b53_x63
                    obtain ⟨_, _, ⟨T78, L78, k78, n78⟩, -, X78, ⟨Lc78, hQ78, l78, y78, z78⟩, st78⟩ := X63.virtualBack hx (y := (⟨"com/example/libfacet/libfacet/regex/StateSet", "isMarked", "(I)Z"⟩ : MethodName)) (z := (⟨"com/example/libfacet/libfacet/regex/StateSet", "isMarked", "(I)Z"⟩ : MethodName)) hown (mvT hZ (hw _ (List.mem_of_getElem? (i := 26) rfl))) (mvT hZ (hw _ (List.mem_of_getElem? (i := 27) rfl))) (notFace_of_selects (args := #[]) (mvT hZ (hw _ (List.mem_of_getElem? (i := 29) rfl)))) (mvT hZ (hw _ (List.mem_of_getElem? (i := 29) rfl))) (mvT hZ (hw _ (List.mem_of_getElem? (i := 28) rfl))) (by decide) (backOf (W := 0) (rm3N l Z a0 hw [] b53 xa (1 : Int32) c54_ak (0 : Int32) (0 : Int32) (own_put (fun _ => (0 : Int32)) xa (own_ch (1 : Int32))) n T63.heap n0 Z63 ⟨fE_b53_x63, fF_b53_stamp_x63, fF_b53_marks_x63, fF_b53_markBits_x63, fF_b53_marked_x63, fF_b53_markedCount_x63, fF_b53_size_x63⟩ V63_0 hxa0 hxa1) hZ (hw _ (List.mem_of_getElem? (i := 30) rfl)) (hw _ (List.mem_of_getElem? (i := 3) rfl)) (by decide) (by decide)) q78a q78c (g := (mkF m 123 #[.val (.int p1), .val (.int p2), .val (.int p3), .val (.int p4), .val (.int p5), .val (.int n), .val (.int (0 : Int32)), .val (.int (1 : Int32)), .val (.int (0 : Int32)), .val (.int xa), .val (.int xb), .val (.int xq), .val (.ref b53), .val (.int ok1), .unset] [(.int xa), (.ref b53)])) rfl (by rw [hml]; rfl) (Steps.refl _) (argsL := [(.int xa)]) (rest := []) (lenOf pd_0_1 rfl) rfl (by show 2 * 0 + _ ≤ _; exact Nat.le_of_eq rfl) (hb hby at_123) (fun _ _ => ⟨rfl, rfl, (by decide : 4 + 0 ≤ _), (by decide : 298 + 0 ≤ _)⟩)
                    dsimp only [Pt.U, Pt.locs, Pt.cells, Pt.slots] at X78 l78 y78 z78 st78 hQ78
                    subst l78 y78 z78
                    obtain ⟨rfl, N78q, e78⟩ := hQ78
                    have N78 := Fr.app N63 N78q
                    refine own_pre (A := T78.setTop (mkF m 126 #[.val (.int p1), .val (.int p2), .val (.int p3), .val (.int p4), .val (.int p5), .val (.int n), .val (.int (0 : Int32)), .val (.int (1 : Int32)), .val (.int (0 : Int32)), .val (.int xa), .val (.int xb), .val (.int xq), .val (.ref b53), .val (.int ok1), .unset] [(.int (own_isN xa (own_put (fun _ => (0 : Int32)) xa (own_ch (1 : Int32))) n (1 : Int32) (0 : Int32) (0 : Int32)))])) (fun tt kt => ?_) ?_
                    · show Steps p.tables e below (T63.setTop (mkF m 116 #[.val (.int p1), .val (.int p2), .val (.int p3), .val (.int p4), .val (.int p5), .val (.int n), .val (.int (0 : Int32)), .val (.int (1 : Int32)), .val (.int (0 : Int32)), .val (.int xa), .val (.int xb), .val (.int xq), .val (.ref b53), .val (.int ok1), .unset] [(.int ok1)])) _
                      refine XS.ifNo X63.here hx rfl (hb hby at_116) rfl ((if0 _ _).trans (feq hc116_77).1) ?_
                      refine XS.aload X63.here hx rfl (hb hby at_119) rfl rfl ?_
                      refine XS.iload X63.here hx rfl (hb hby at_121) rfl ?_
                      show Steps p.tables e below (T63.setTop (mkF m 123 #[.val (.int p1), .val (.int p2), .val (.int p3), .val (.int p4), .val (.int p5), .val (.int n), .val (.int (0 : Int32)), .val (.int (1 : Int32)), .val (.int (0 : Int32)), .val (.int xa), .val (.int xb), .val (.int xq), .val (.ref b53), .val (.int ok1), .unset] [(.int xa), (.ref b53)])) _
                      refine st78.trans ?_
                      exact kt
                    show own_End p e below s (T78.setTop (mkF m 126 #[.val (.int p1), .val (.int p2), .val (.int p3), .val (.int p4), .val (.int p5), .val (.int n), .val (.int (0 : Int32)), .val (.int (1 : Int32)), .val (.int (0 : Int32)), .val (.int xa), .val (.int xb), .val (.int xq), .val (.ref b53), .val (.int ok1), .unset] [(.int (own_isN xa (own_put (fun _ => (0 : Int32)) xa (own_ch (1 : Int32))) n (1 : Int32) (0 : Int32) (0 : Int32)))])) (Q0 Z p1 p2 p3 p4 p5 h0 n0) room_1.cells room_1.slots
                    by_cases hc126_79 : (own_isN xa (own_put (fun _ => (0 : Int32)) xa (own_ch (1 : Int32))) n (1 : Int32) (0 : Int32) (0 : Int32)) = (0 : Int32)
                    · refine own_pre (A := T78.setTop (mkF m 134 #[.val (.int p1), .val (.int p2), .val (.int p3), .val (.int p4), .val (.int p5), .val (.int n), .val (.int (0 : Int32)), .val (.int (1 : Int32)), .val (.int (0 : Int32)), .val (.int xa), .val (.int xb), .val (.int xq), .val (.ref b53), .val (.int ok1), .unset] [(.int (0 : Int32))])) (fun tt kt => ?_) ?_
                      · show Steps p.tables e below (T78.setTop (mkF m 126 #[.val (.int p1), .val (.int p2), .val (.int p3), .val (.int p4), .val (.int p5), .val (.int n), .val (.int (0 : Int32)), .val (.int (1 : Int32)), .val (.int (0 : Int32)), .val (.int xa), .val (.int xb), .val (.int xq), .val (.ref b53), .val (.int ok1), .unset] [(.int (own_isN xa (own_put (fun _ => (0 : Int32)) xa (own_ch (1 : Int32))) n (1 : Int32) (0 : Int32) (0 : Int32)))])) _
                        refine XS.ifYes X78.here hx rfl (pc0 := 126) (pc' := 133) rfl (hb hby at_126) rfl ((if0 _ _).trans (teq hc126_79).1) (by decide) (by decide) ?_
                        refine XS.iconst X78.here hx rfl (hb hby at_133) ?_
                        exact kt
                      show own_End p e below s (T78.setTop (mkF m 134 #[.val (.int p1), .val (.int p2), .val (.int p3), .val (.int p4), .val (.int p5), .val (.int n), .val (.int (0 : Int32)), .val (.int (1 : Int32)), .val (.int (0 : Int32)), .val (.int xa), .val (.int xb), .val (.int xq), .val (.ref b53), .val (.int ok1), .unset] [(.int (0 : Int32))])) (Q0 Z p1 p2 p3 p4 p5 h0 n0) room_1.cells room_1.slots
                      exact j134 _ _ X78 e78 N78 (0 : Int32)  (hj.trans (by simp only [own_law_104bb, if_neg hc116_77, if_pos hc126_79]))
                    · refine own_pre (A := T78.setTop (mkF m 134 #[.val (.int p1), .val (.int p2), .val (.int p3), .val (.int p4), .val (.int p5), .val (.int n), .val (.int (0 : Int32)), .val (.int (1 : Int32)), .val (.int (0 : Int32)), .val (.int xa), .val (.int xb), .val (.int xq), .val (.ref b53), .val (.int ok1), .unset] [(.int (1 : Int32))])) (fun tt kt => ?_) ?_
                      · show Steps p.tables e below (T78.setTop (mkF m 126 #[.val (.int p1), .val (.int p2), .val (.int p3), .val (.int p4), .val (.int p5), .val (.int n), .val (.int (0 : Int32)), .val (.int (1 : Int32)), .val (.int (0 : Int32)), .val (.int xa), .val (.int xb), .val (.int xq), .val (.ref b53), .val (.int ok1), .unset] [(.int (own_isN xa (own_put (fun _ => (0 : Int32)) xa (own_ch (1 : Int32))) n (1 : Int32) (0 : Int32) (0 : Int32)))])) _
                        refine XS.ifNo X78.here hx rfl (hb hby at_126) rfl ((if0 _ _).trans (feq hc126_79).1) ?_
                        refine XS.iconst X78.here hx rfl (hb hby at_129) ?_
                        refine XS.goto X78.here hx rfl (pc0 := 130) (pc' := 134) rfl (hb hby at_130) (by decide) (by decide) ?_
                        exact kt
                      show own_End p e below s (T78.setTop (mkF m 134 #[.val (.int p1), .val (.int p2), .val (.int p3), .val (.int p4), .val (.int p5), .val (.int n), .val (.int (0 : Int32)), .val (.int (1 : Int32)), .val (.int (0 : Int32)), .val (.int xa), .val (.int xb), .val (.int xq), .val (.ref b53), .val (.int ok1), .unset] [(.int (1 : Int32))])) (Q0 Z p1 p2 p3 p4 p5 h0 n0) room_1.cells room_1.slots
                      exact j134 _ _ X78 e78 N78 (1 : Int32)  (hj.trans (by simp only [own_law_104bb, if_neg hc116_77, if_neg hc126_79]))
                by_cases hc96_80 : (own_isN xq (fun _ => (0 : Int32)) n (1 : Int32) (0 : Int32) (0 : Int32)) = (0 : Int32)
                · refine own_pre (A := T62.setTop (mkF m 104 #[.val (.int p1), .val (.int p2), .val (.int p3), .val (.int p4), .val (.int p5), .val (.int n), .val (.int (0 : Int32)), .val (.int (1 : Int32)), .val (.int (0 : Int32)), .val (.int xa), .val (.int xb), .val (.int xq), .val (.ref b53), .unset, .unset] [(.int (1 : Int32))])) (fun tt kt => ?_) ?_
                  · show Steps p.tables e below (T62.setTop (mkF m 96 #[.val (.int p1), .val (.int p2), .val (.int p3), .val (.int p4), .val (.int p5), .val (.int n), .val (.int (0 : Int32)), .val (.int (1 : Int32)), .val (.int (0 : Int32)), .val (.int xa), .val (.int xb), .val (.int xq), .val (.ref b53), .unset, .unset] [(.int (own_isN xq (fun _ => (0 : Int32)) n (1 : Int32) (0 : Int32) (0 : Int32)))])) _
                    refine XS.ifNo X62.here hx rfl (hb hby at_96) rfl ((if0 _ _).trans (teq hc96_80).2) ?_
                    refine XS.iconst X62.here hx rfl (hb hby at_99) ?_
                    refine XS.goto X62.here hx rfl (pc0 := 100) (pc' := 104) rfl (hb hby at_100) (by decide) (by decide) ?_
                    exact kt
                  show own_End p e below s (T62.setTop (mkF m 104 #[.val (.int p1), .val (.int p2), .val (.int p3), .val (.int p4), .val (.int p5), .val (.int n), .val (.int (0 : Int32)), .val (.int (1 : Int32)), .val (.int (0 : Int32)), .val (.int xa), .val (.int xb), .val (.int xq), .val (.ref b53), .unset, .unset] [(.int (1 : Int32))])) (Q0 Z p1 p2 p3 p4 p5 h0 n0) room_1.cells room_1.slots
                  exact j104 _ _ X62 e62 N62 (1 : Int32)  (hj.trans (by simp only [own_law_76bb, if_pos hc96_80]))
                · refine own_pre (A := T62.setTop (mkF m 104 #[.val (.int p1), .val (.int p2), .val (.int p3), .val (.int p4), .val (.int p5), .val (.int n), .val (.int (0 : Int32)), .val (.int (1 : Int32)), .val (.int (0 : Int32)), .val (.int xa), .val (.int xb), .val (.int xq), .val (.ref b53), .unset, .unset] [(.int (0 : Int32))])) (fun tt kt => ?_) ?_
                  · show Steps p.tables e below (T62.setTop (mkF m 96 #[.val (.int p1), .val (.int p2), .val (.int p3), .val (.int p4), .val (.int p5), .val (.int n), .val (.int (0 : Int32)), .val (.int (1 : Int32)), .val (.int (0 : Int32)), .val (.int xa), .val (.int xb), .val (.int xq), .val (.ref b53), .unset, .unset] [(.int (own_isN xq (fun _ => (0 : Int32)) n (1 : Int32) (0 : Int32) (0 : Int32)))])) _
                    refine XS.ifYes X62.here hx rfl (pc0 := 96) (pc' := 103) rfl (hb hby at_96) rfl ((if0 _ _).trans (feq hc96_80).2) (by decide) (by decide) ?_
                    refine XS.iconst X62.here hx rfl (hb hby at_103) ?_
                    exact kt
                  show own_End p e below s (T62.setTop (mkF m 104 #[.val (.int p1), .val (.int p2), .val (.int p3), .val (.int p4), .val (.int p5), .val (.int n), .val (.int (0 : Int32)), .val (.int (1 : Int32)), .val (.int (0 : Int32)), .val (.int xa), .val (.int xb), .val (.int xq), .val (.ref b53), .unset, .unset] [(.int (0 : Int32))])) (Q0 Z p1 p2 p3 p4 p5 h0 n0) room_1.cells room_1.slots
                  exact j104 _ _ X62 e62 N62 (0 : Int32)  (hj.trans (by simp only [own_law_76bb, if_neg hc96_80]))
              exact j76 _ _ Xj66 ej66 Nj66 ((p5 &&& (2147483647 : Int32)) % n) (own_i p5 n hn0).1 (own_i p5 n hn0).2 (hj.trans (by simp only [own_law_66bb]))
            exact j66 _ _ Xj57 ej57 Nj57 ((p4 &&& (2147483647 : Int32)) % n) (own_i p4 n hn0).1 (own_i p4 n hn0).2 (hj.trans (by simp only [own_law_57bb]))
          exact j57 _ _ Xj9 ej9 Nj9 ((p3 &&& (2147483647 : Int32)) % n) (own_i p3 n hn0).1 (own_i p3 n hn0).2 (hj.trans (by simp only [own_law_9, if_pos hc12_1, if_neg hc25_2, if_pos hc38_52]))
        · refine own_pre (A := Tj9.setTop (mkF m 57 #[.val (.int p1), .val (.int p2), .val (.int p3), .val (.int p4), .val (.int p5), .val (.int n), .val (.int (0 : Int32)), .val (.int (1 : Int32)), .val (.int (1 : Int32)), .val (.int ((p3 &&& (2147483647 : Int32)) % n)), .unset, .unset, .unset, .unset, .unset] [])) (fun tt kt => ?_) ?_
          · show Steps p.tables e below (Tj9.setTop (mkF m 38 #[.val (.int p1), .val (.int p2), .val (.int p3), .val (.int p4), .val (.int p5), .val (.int n), .val (.int (0 : Int32)), .val (.int (1 : Int32)), .unset, .unset, .unset, .unset, .unset, .unset, .unset] [(.int (p2 &&& (4 : Int32)))])) _
            refine XS.ifNo Xj9.here hx rfl (hb hby at_38) rfl ((if0 _ _).trans (feq hc38_52).1) ?_
            refine XS.iconst Xj9.here hx rfl (hb hby at_41) ?_
            refine XS.goto Xj9.here hx rfl (pc0 := 42) (pc' := 46) rfl (hb hby at_42) (by decide) (by decide) ?_
            refine XS.istore Xj9.here hx rfl (hb hby at_46) rfl (l' := #[.val (.int p1), .val (.int p2), .val (.int p3), .val (.int p4), .val (.int p5), .val (.int n), .val (.int (0 : Int32)), .val (.int (1 : Int32)), .val (.int (1 : Int32)), .unset, .unset, .unset, .unset, .unset, .unset]) rfl ?_
            refine XS.iloadN Xj9.here hx rfl (hb hby at_48) rfl ?_
            show Steps p.tables e below (Tj9.setTop (mkF m 49 #[.val (.int p1), .val (.int p2), .val (.int p3), .val (.int p4), .val (.int p5), .val (.int n), .val (.int (0 : Int32)), .val (.int (1 : Int32)), .val (.int (1 : Int32)), .unset, .unset, .unset, .unset, .unset, .unset] [(.int p3)])) _
            refine Xj9.ldcInt hx hown (mvT hZ (hw _ (List.mem_of_getElem? (i := 0) rfl))) (g := (mkF m 49 #[.val (.int p1), .val (.int p2), .val (.int p3), .val (.int p4), .val (.int p5), .val (.int n), .val (.int (0 : Int32)), .val (.int (1 : Int32)), .val (.int (1 : Int32)), .unset, .unset, .unset, .unset, .unset, .unset] [(.int p3)])) rfl (hb hby at_49) _ ?_
            show Steps p.tables e below (Tj9.setTop (mkF m 51 #[.val (.int p1), .val (.int p2), .val (.int p3), .val (.int p4), .val (.int p5), .val (.int n), .val (.int (0 : Int32)), .val (.int (1 : Int32)), .val (.int (1 : Int32)), .unset, .unset, .unset, .unset, .unset, .unset] [(.int (2147483647 : Int32)), (.int p3)])) _
            refine XS.iand Xj9.here hx rfl (hb hby at_51) rfl ?_
            refine XS.iload Xj9.here hx rfl (hb hby at_52) rfl ?_
            refine iremM Xj9 hx rfl (hb hby at_54) rfl (own_nz hn0) ?_
            refine XS.istore Xj9.here hx rfl (hb hby at_55) rfl (l' := #[.val (.int p1), .val (.int p2), .val (.int p3), .val (.int p4), .val (.int p5), .val (.int n), .val (.int (0 : Int32)), .val (.int (1 : Int32)), .val (.int (1 : Int32)), .val (.int ((p3 &&& (2147483647 : Int32)) % n)), .unset, .unset, .unset, .unset, .unset]) rfl ?_
            exact kt
          show own_End p e below s (Tj9.setTop (mkF m 57 #[.val (.int p1), .val (.int p2), .val (.int p3), .val (.int p4), .val (.int p5), .val (.int n), .val (.int (0 : Int32)), .val (.int (1 : Int32)), .val (.int (1 : Int32)), .val (.int ((p3 &&& (2147483647 : Int32)) % n)), .unset, .unset, .unset, .unset, .unset] [])) (Q0 Z p1 p2 p3 p4 p5 h0 n0) room_1.cells room_1.slots
          have j57 : ∀ (Tj57 : State) (Lj57 : List Loc) (Xj57 : Stand p l e room_1 s m #[(.int p1), (.int p2), (.int p3), (.int p4), (.int p5)] below meth c Tj57 Lj57 0 0) (ej57 : Tj57.heap = h0) (Nj57 : Fr n0 Lj57) (xa : Int32) (hxa0 : 0 ≤ xa.toInt) (hxa1 : xa.toInt < n.toInt), own_law p1 p2 p3 p4 p5 = own_law_57bbb p1 p2 p3 p4 p5 n xa → own_End p e below s (Tj57.setTop (mkF m 57 #[.val (.int p1), .val (.int p2), .val (.int p3), .val (.int p4), .val (.int p5), .val (.int n), .val (.int (0 : Int32)), .val (.int (1 : Int32)), .val (.int (1 : Int32)), .val (.int xa), .unset, .unset, .unset, .unset, .unset] [])) (Q0 Z p1 p2 p3 p4 p5 h0 n0) room_1.cells room_1.slots := by
            intro Tj57 Lj57 Xj57 ej57 Nj57 xa hxa0 hxa1 hj
            refine own_pre (A := Tj57.setTop (mkF m 66 #[.val (.int p1), .val (.int p2), .val (.int p3), .val (.int p4), .val (.int p5), .val (.int n), .val (.int (0 : Int32)), .val (.int (1 : Int32)), .val (.int (1 : Int32)), .val (.int xa), .val (.int ((p4 &&& (2147483647 : Int32)) % n)), .unset, .unset, .unset, .unset] [])) (fun tt kt => ?_) ?_
            · show Steps p.tables e below (Tj57.setTop (mkF m 57 #[.val (.int p1), .val (.int p2), .val (.int p3), .val (.int p4), .val (.int p5), .val (.int n), .val (.int (0 : Int32)), .val (.int (1 : Int32)), .val (.int (1 : Int32)), .val (.int xa), .unset, .unset, .unset, .unset, .unset] [])) _
              refine XS.iloadN Xj57.here hx rfl (hb hby at_57) rfl ?_
              show Steps p.tables e below (Tj57.setTop (mkF m 58 #[.val (.int p1), .val (.int p2), .val (.int p3), .val (.int p4), .val (.int p5), .val (.int n), .val (.int (0 : Int32)), .val (.int (1 : Int32)), .val (.int (1 : Int32)), .val (.int xa), .unset, .unset, .unset, .unset, .unset] [(.int p4)])) _
              refine Xj57.ldcInt hx hown (mvT hZ (hw _ (List.mem_of_getElem? (i := 0) rfl))) (g := (mkF m 58 #[.val (.int p1), .val (.int p2), .val (.int p3), .val (.int p4), .val (.int p5), .val (.int n), .val (.int (0 : Int32)), .val (.int (1 : Int32)), .val (.int (1 : Int32)), .val (.int xa), .unset, .unset, .unset, .unset, .unset] [(.int p4)])) rfl (hb hby at_58) _ ?_
              show Steps p.tables e below (Tj57.setTop (mkF m 60 #[.val (.int p1), .val (.int p2), .val (.int p3), .val (.int p4), .val (.int p5), .val (.int n), .val (.int (0 : Int32)), .val (.int (1 : Int32)), .val (.int (1 : Int32)), .val (.int xa), .unset, .unset, .unset, .unset, .unset] [(.int (2147483647 : Int32)), (.int p4)])) _
              refine XS.iand Xj57.here hx rfl (hb hby at_60) rfl ?_
              refine XS.iload Xj57.here hx rfl (hb hby at_61) rfl ?_
              refine iremM Xj57 hx rfl (hb hby at_63) rfl (own_nz hn0) ?_
              refine XS.istore Xj57.here hx rfl (hb hby at_64) rfl (l' := #[.val (.int p1), .val (.int p2), .val (.int p3), .val (.int p4), .val (.int p5), .val (.int n), .val (.int (0 : Int32)), .val (.int (1 : Int32)), .val (.int (1 : Int32)), .val (.int xa), .val (.int ((p4 &&& (2147483647 : Int32)) % n)), .unset, .unset, .unset, .unset]) rfl ?_
              exact kt
            show own_End p e below s (Tj57.setTop (mkF m 66 #[.val (.int p1), .val (.int p2), .val (.int p3), .val (.int p4), .val (.int p5), .val (.int n), .val (.int (0 : Int32)), .val (.int (1 : Int32)), .val (.int (1 : Int32)), .val (.int xa), .val (.int ((p4 &&& (2147483647 : Int32)) % n)), .unset, .unset, .unset, .unset] [])) (Q0 Z p1 p2 p3 p4 p5 h0 n0) room_1.cells room_1.slots
            have j66 : ∀ (Tj66 : State) (Lj66 : List Loc) (Xj66 : Stand p l e room_1 s m #[(.int p1), (.int p2), (.int p3), (.int p4), (.int p5)] below meth c Tj66 Lj66 0 0) (ej66 : Tj66.heap = h0) (Nj66 : Fr n0 Lj66) (xb : Int32) (hxb0 : 0 ≤ xb.toInt) (hxb1 : xb.toInt < n.toInt), own_law p1 p2 p3 p4 p5 = own_law_66bbb p1 p2 p3 p4 p5 n xa xb → own_End p e below s (Tj66.setTop (mkF m 66 #[.val (.int p1), .val (.int p2), .val (.int p3), .val (.int p4), .val (.int p5), .val (.int n), .val (.int (0 : Int32)), .val (.int (1 : Int32)), .val (.int (1 : Int32)), .val (.int xa), .val (.int xb), .unset, .unset, .unset, .unset] [])) (Q0 Z p1 p2 p3 p4 p5 h0 n0) room_1.cells room_1.slots := by
              intro Tj66 Lj66 Xj66 ej66 Nj66 xb hxb0 hxb1 hj
              refine own_pre (A := Tj66.setTop (mkF m 76 #[.val (.int p1), .val (.int p2), .val (.int p3), .val (.int p4), .val (.int p5), .val (.int n), .val (.int (0 : Int32)), .val (.int (1 : Int32)), .val (.int (1 : Int32)), .val (.int xa), .val (.int xb), .val (.int ((p5 &&& (2147483647 : Int32)) % n)), .unset, .unset, .unset] [])) (fun tt kt => ?_) ?_
              · show Steps p.tables e below (Tj66.setTop (mkF m 66 #[.val (.int p1), .val (.int p2), .val (.int p3), .val (.int p4), .val (.int p5), .val (.int n), .val (.int (0 : Int32)), .val (.int (1 : Int32)), .val (.int (1 : Int32)), .val (.int xa), .val (.int xb), .unset, .unset, .unset, .unset] [])) _
                refine XS.iload Xj66.here hx rfl (hb hby at_66) rfl ?_
                show Steps p.tables e below (Tj66.setTop (mkF m 68 #[.val (.int p1), .val (.int p2), .val (.int p3), .val (.int p4), .val (.int p5), .val (.int n), .val (.int (0 : Int32)), .val (.int (1 : Int32)), .val (.int (1 : Int32)), .val (.int xa), .val (.int xb), .unset, .unset, .unset, .unset] [(.int p5)])) _
                refine Xj66.ldcInt hx hown (mvT hZ (hw _ (List.mem_of_getElem? (i := 0) rfl))) (g := (mkF m 68 #[.val (.int p1), .val (.int p2), .val (.int p3), .val (.int p4), .val (.int p5), .val (.int n), .val (.int (0 : Int32)), .val (.int (1 : Int32)), .val (.int (1 : Int32)), .val (.int xa), .val (.int xb), .unset, .unset, .unset, .unset] [(.int p5)])) rfl (hb hby at_68) _ ?_
                show Steps p.tables e below (Tj66.setTop (mkF m 70 #[.val (.int p1), .val (.int p2), .val (.int p3), .val (.int p4), .val (.int p5), .val (.int n), .val (.int (0 : Int32)), .val (.int (1 : Int32)), .val (.int (1 : Int32)), .val (.int xa), .val (.int xb), .unset, .unset, .unset, .unset] [(.int (2147483647 : Int32)), (.int p5)])) _
                refine XS.iand Xj66.here hx rfl (hb hby at_70) rfl ?_
                refine XS.iload Xj66.here hx rfl (hb hby at_71) rfl ?_
                refine iremM Xj66 hx rfl (hb hby at_73) rfl (own_nz hn0) ?_
                refine XS.istore Xj66.here hx rfl (hb hby at_74) rfl (l' := #[.val (.int p1), .val (.int p2), .val (.int p3), .val (.int p4), .val (.int p5), .val (.int n), .val (.int (0 : Int32)), .val (.int (1 : Int32)), .val (.int (1 : Int32)), .val (.int xa), .val (.int xb), .val (.int ((p5 &&& (2147483647 : Int32)) % n)), .unset, .unset, .unset]) rfl ?_
                exact kt
              show own_End p e below s (Tj66.setTop (mkF m 76 #[.val (.int p1), .val (.int p2), .val (.int p3), .val (.int p4), .val (.int p5), .val (.int n), .val (.int (0 : Int32)), .val (.int (1 : Int32)), .val (.int (1 : Int32)), .val (.int xa), .val (.int xb), .val (.int ((p5 &&& (2147483647 : Int32)) % n)), .unset, .unset, .unset] [])) (Q0 Z p1 p2 p3 p4 p5 h0 n0) room_1.cells room_1.slots
              have j76 : ∀ (Tj76 : State) (Lj76 : List Loc) (Xj76 : Stand p l e room_1 s m #[(.int p1), (.int p2), (.int p3), (.int p4), (.int p5)] below meth c Tj76 Lj76 0 0) (ej76 : Tj76.heap = h0) (Nj76 : Fr n0 Lj76) (xq : Int32) (hxq0 : 0 ≤ xq.toInt) (hxq1 : xq.toInt < n.toInt), own_law p1 p2 p3 p4 p5 = own_law_76bbb p1 p2 p3 p4 p5 n xa xb xq → own_End p e below s (Tj76.setTop (mkF m 76 #[.val (.int p1), .val (.int p2), .val (.int p3), .val (.int p4), .val (.int p5), .val (.int n), .val (.int (0 : Int32)), .val (.int (1 : Int32)), .val (.int (1 : Int32)), .val (.int xa), .val (.int xb), .val (.int xq), .unset, .unset, .unset] [])) (Q0 Z p1 p2 p3 p4 p5 h0 n0) room_1.cells room_1.slots := by
                intro Tj76 Lj76 Xj76 ej76 Nj76 xq hxq0 hxq1 hj
                obtain ⟨T81, h81, X81, e81, E81, A81, D81, -, st81⟩ := newO Xj76 hx hZ hown (hw _ (List.mem_of_getElem? (i := 1) rfl)) (hw _ (List.mem_of_getElem? (i := 2) rfl)) (hw _ (List.mem_of_getElem? (i := 3) rfl)) ej76 (g := (mkF m 76 #[.val (.int p1), .val (.int p2), .val (.int p3), .val (.int p4), .val (.int p5), .val (.int n), .val (.int (0 : Int32)), .val (.int (1 : Int32)), .val (.int (1 : Int32)), .val (.int xa), .val (.int xb), .val (.int xq), .unset, .unset, .unset] [])) rfl (hb hby at_76) (by decide) (by decide)
                obtain ⟨b81, g81⟩ : ∃ z, z = h0.size := ⟨_, rfl⟩
                rw [← g81] at A81 D81 st81
                have g_b81 : n0 ≤ b81 := Nat.le_trans Z0 (Nat.le_of_eq g81.symm)
                have sz_b81 : h0.size ≤ b81 := Nat.le_trans (show Keep h0 h0 [] from (Keep.refl h0 _)).1 (Nat.le_of_eq g81.symm)
                have K81 : Keep h0 h81 [] := Keep.ext (Keep.refl h0 _) E81
                have Z81 : n0 ≤ h81.size := Nat.le_trans Z0 E81.1
                have F_stamp_b81 : Fld Z h81 b81 "com/example/libfacet/libfacet/regex/StateSet" "stamp" "I" (.int (0 : Int32)) := D81 (Or.inl (hw _ (List.mem_of_getElem? (i := 11) rfl))) (ty := .int) (by decide)
                have F_stack_b81 : Fld Z h81 b81 "com/example/libfacet/libfacet/regex/StateSet" "stack" "[I" .null := D81 (Or.inl (hw _ (List.mem_of_getElem? (i := 14) rfl))) (ty := (.array .int)) (by decide)
                have F_instructions_b81 : Fld Z h81 b81 "com/example/libfacet/libfacet/regex/StateSet" "instructions" "I" (.int (0 : Int32)) := D81 (Or.inr (hw _ (List.mem_of_getElem? (i := 16) rfl))) (ty := .int) (by decide)
                have F_members_b81 : Fld Z h81 b81 "com/example/libfacet/libfacet/regex/StateSet" "members" "[I" .null := D81 (Or.inl (hw _ (List.mem_of_getElem? (i := 18) rfl))) (ty := (.array .int)) (by decide)
                have F_marks_b81 : Fld Z h81 b81 "com/example/libfacet/libfacet/regex/StateSet" "marks" "[C" .null := D81 (Or.inr (hw _ (List.mem_of_getElem? (i := 20) rfl))) (ty := (.array .char)) (by decide)
                have F_markBits_b81 : Fld Z h81 b81 "com/example/libfacet/libfacet/regex/StateSet" "markBits" "[J" .null := D81 (Or.inr (hw _ (List.mem_of_getElem? (i := 23) rfl))) (ty := (.array .long)) (by decide)
                have F_marked_b81 : Fld Z h81 b81 "com/example/libfacet/libfacet/regex/StateSet" "marked" "[I" .null := D81 (Or.inl (hw _ (List.mem_of_getElem? (i := 25) rfl))) (ty := (.array .int)) (by decide)
                have F_markedCount_b81 : Fld Z h81 b81 "com/example/libfacet/libfacet/regex/StateSet" "markedCount" "I" (.int (0 : Int32)) := D81 (Or.inl (hw _ (List.mem_of_getElem? (i := 37) rfl))) (ty := .int) (by decide)
                have F_size_b81 : Fld Z h81 b81 "com/example/libfacet/libfacet/regex/StateSet" "size" "I" (.int (0 : Int32)) := D81 (Or.inl (hw _ (List.mem_of_getElem? (i := 44) rfl))) (ty := .int) (by decide)
                obtain ⟨_, _, ⟨T82, L82, k82, n82⟩, -, X82, ⟨Lc82, hQ82, l82, y82, z82⟩, st82⟩ := X81.specialBack hx (y := (⟨"com/example/libfacet/libfacet/regex/StateSet", "<init>", "(IZ)V"⟩ : MethodName)) rfl hown (mvT hZ (hw _ (List.mem_of_getElem? (i := 4) rfl))) (mvT hZ (hw _ (List.mem_of_getElem? (i := 5) rfl))) (mvT hZ (hw _ (List.mem_of_getElem? (i := 6) rfl))) (by decide) (backOf (W := 1) (rm1N l Z a0 hw [] b81 n (0 : Int32) (0 : Int32) (0 : Int32) (0 : Int32) h81 n0 Z81 ⟨A81, F_stamp_b81, F_stack_b81, F_instructions_b81, F_members_b81, F_marks_b81, F_markBits_b81, F_marked_b81, F_markedCount_b81, F_size_b81⟩ g_b81 hn0 hn1) hZ (hw _ (List.mem_of_getElem? (i := 6) rfl)) (hw _ (List.mem_of_getElem? (i := 3) rfl)) (by decide) (by decide)) (g := (mkF m 84 #[.val (.int p1), .val (.int p2), .val (.int p3), .val (.int p4), .val (.int p5), .val (.int n), .val (.int (0 : Int32)), .val (.int (1 : Int32)), .val (.int (1 : Int32)), .val (.int xa), .val (.int xb), .val (.int xq), .unset, .unset, .unset] [(.int (0 : Int32)), (.int n), (.ref b81), (.ref b81)])) rfl (by rw [hml]; rfl) (Steps.refl _) (a := b81) (argsL := [(.int n), (.int (0 : Int32))]) (rest := [(.ref b81)]) (lenOf pd_0_0 rfl) rfl (by show 2 * 0 + _ ≤ _; exact Nat.le_of_eq rfl) (hb hby at_84) (fun _ _ => ⟨rfl, e81, (by decide : 1 + 3 ≤ _), (by decide : 10 + 288 ≤ _)⟩)
                dsimp only [Pt.U, Pt.locs, Pt.cells, Pt.slots] at X82 l82 y82 z82 st82 hQ82
                subst l82 y82 z82
                obtain ⟨rfl, N82q, c82_ak, Kq82, O82_0, szq_c82_ak, P82_ak_0⟩ := hQ82
                have ne_b81_c82_ak : b81 ≠ c82_ak := Nat.ne_of_lt (Nat.lt_of_lt_of_le A81.lt szq_c82_ak)
                have g_c82_ak : n0 ≤ c82_ak := Nat.le_trans Z81 szq_c82_ak
                have sz_c82_ak : h0.size ≤ c82_ak := Nat.le_trans (show Keep h0 h81 [] from K81).1 szq_c82_ak
                have N82 := Fr.app Nj76 N82q
                have fE_b81_x82 := (A81.keep Kq82)
                have K82 : Keep h0 T82.heap [] := Keep.trans K81 Kq82 (allS (Or.inr sz_b81) all0)
                have Z82 : n0 ≤ T82.heap.size := Nat.le_trans Z81 Kq82.1
                obtain ⟨E_b81_83, F_stamp_b81_84, F_marks_b81_85, F_markBits_b81_86, F_marked_b81_87, F_markedCount_b81_88, F_size_b81_89⟩ := O82_0
                obtain ⟨cq90, kq90, q90a, q90b, q90c⟩ := isOf hZ rfl E_b81_83
                obtain ⟨_, _, ⟨T90, L90, k90, n90⟩, -, X90, ⟨Lc90, hQ90, l90, y90, z90⟩, st90⟩ := X82.virtualBack hx (y := (⟨"com/example/libfacet/libfacet/regex/StateSet", "isMarked", "(I)Z"⟩ : MethodName)) (z := (⟨"com/example/libfacet/libfacet/regex/StateSet", "isMarked", "(I)Z"⟩ : MethodName)) hown (mvT hZ (hw _ (List.mem_of_getElem? (i := 26) rfl))) (mvT hZ (hw _ (List.mem_of_getElem? (i := 27) rfl))) (notFace_of_selects (args := #[]) (mvT hZ (hw _ (List.mem_of_getElem? (i := 29) rfl)))) (mvT hZ (hw _ (List.mem_of_getElem? (i := 29) rfl))) (mvT hZ (hw _ (List.mem_of_getElem? (i := 28) rfl))) (by decide) (backOf (W := 0) (rm3N l Z a0 hw [] b81 xq (1 : Int32) c82_ak (0 : Int32) (0 : Int32) (fun _ => (0 : Int32)) n T82.heap n0 Z82 ⟨E_b81_83, F_stamp_b81_84, F_marks_b81_85, F_markBits_b81_86, F_marked_b81_87, F_markedCount_b81_88, F_size_b81_89⟩ P82_ak_0 hxq0 hxq1) hZ (hw _ (List.mem_of_getElem? (i := 30) rfl)) (hw _ (List.mem_of_getElem? (i := 3) rfl)) (by decide) (by decide)) q90a q90c (g := (mkF m 93 #[.val (.int p1), .val (.int p2), .val (.int p3), .val (.int p4), .val (.int p5), .val (.int n), .val (.int (0 : Int32)), .val (.int (1 : Int32)), .val (.int (1 : Int32)), .val (.int xa), .val (.int xb), .val (.int xq), .val (.ref b81), .unset, .unset] [(.int xq), (.ref b81)])) rfl (by rw [hml]; rfl) (Steps.refl _) (argsL := [(.int xq)]) (rest := []) (lenOf pd_0_1 rfl) rfl (by show 2 * 0 + _ ≤ _; exact Nat.le_of_eq rfl) (hb hby at_93) (fun _ _ => ⟨rfl, rfl, (by decide : 4 + 0 ≤ _), (by decide : 298 + 0 ≤ _)⟩)
                dsimp only [Pt.U, Pt.locs, Pt.cells, Pt.slots] at X90 l90 y90 z90 st90 hQ90
                subst l90 y90 z90
                obtain ⟨rfl, N90q, e90⟩ := hQ90
                have N90 := Fr.app N82 N90q
                refine own_pre (A := T90.setTop (mkF m 96 #[.val (.int p1), .val (.int p2), .val (.int p3), .val (.int p4), .val (.int p5), .val (.int n), .val (.int (0 : Int32)), .val (.int (1 : Int32)), .val (.int (1 : Int32)), .val (.int xa), .val (.int xb), .val (.int xq), .val (.ref b81), .unset, .unset] [(.int (own_isN xq (fun _ => (0 : Int32)) n (1 : Int32) (0 : Int32) (0 : Int32)))])) (fun tt kt => ?_) ?_
                · show Steps p.tables e below (Tj76.setTop (mkF m 76 #[.val (.int p1), .val (.int p2), .val (.int p3), .val (.int p4), .val (.int p5), .val (.int n), .val (.int (0 : Int32)), .val (.int (1 : Int32)), .val (.int (1 : Int32)), .val (.int xa), .val (.int xb), .val (.int xq), .unset, .unset, .unset] [])) _
                  refine st81 _ ?_
                  show Steps p.tables e below (T81.setTop (mkF m 79 #[.val (.int p1), .val (.int p2), .val (.int p3), .val (.int p4), .val (.int p5), .val (.int n), .val (.int (0 : Int32)), .val (.int (1 : Int32)), .val (.int (1 : Int32)), .val (.int xa), .val (.int xb), .val (.int xq), .unset, .unset, .unset] [(.ref b81)])) _
                  refine XS.dup X81.here hx rfl (hb hby at_79) rfl rfl ?_
                  refine XS.iload X81.here hx rfl (hb hby at_80) rfl ?_
                  refine XS.iload X81.here hx rfl (hb hby at_82) rfl ?_
                  show Steps p.tables e below (T81.setTop (mkF m 84 #[.val (.int p1), .val (.int p2), .val (.int p3), .val (.int p4), .val (.int p5), .val (.int n), .val (.int (0 : Int32)), .val (.int (1 : Int32)), .val (.int (1 : Int32)), .val (.int xa), .val (.int xb), .val (.int xq), .unset, .unset, .unset] [(.int (0 : Int32)), (.int n), (.ref b81), (.ref b81)])) _
                  refine st82.trans ?_
                  show Steps p.tables e below (T82.setTop (mkF m 87 #[.val (.int p1), .val (.int p2), .val (.int p3), .val (.int p4), .val (.int p5), .val (.int n), .val (.int (0 : Int32)), .val (.int (1 : Int32)), .val (.int (1 : Int32)), .val (.int xa), .val (.int xb), .val (.int xq), .unset, .unset, .unset] [(.ref b81)])) _
                  refine XS.astore X82.here hx rfl (hb hby at_87) rfl rfl (l' := #[.val (.int p1), .val (.int p2), .val (.int p3), .val (.int p4), .val (.int p5), .val (.int n), .val (.int (0 : Int32)), .val (.int (1 : Int32)), .val (.int (1 : Int32)), .val (.int xa), .val (.int xb), .val (.int xq), .val (.ref b81), .unset, .unset]) rfl ?_
                  refine XS.aload X82.here hx rfl (hb hby at_89) rfl rfl ?_
                  refine XS.iload X82.here hx rfl (hb hby at_91) rfl ?_
                  show Steps p.tables e below (T82.setTop (mkF m 93 #[.val (.int p1), .val (.int p2), .val (.int p3), .val (.int p4), .val (.int p5), .val (.int n), .val (.int (0 : Int32)), .val (.int (1 : Int32)), .val (.int (1 : Int32)), .val (.int xa), .val (.int xb), .val (.int xq), .val (.ref b81), .unset, .unset] [(.int xq), (.ref b81)])) _
                  refine st90.trans ?_
                  exact kt
                show own_End p e below s (T90.setTop (mkF m 96 #[.val (.int p1), .val (.int p2), .val (.int p3), .val (.int p4), .val (.int p5), .val (.int n), .val (.int (0 : Int32)), .val (.int (1 : Int32)), .val (.int (1 : Int32)), .val (.int xa), .val (.int xb), .val (.int xq), .val (.ref b81), .unset, .unset] [(.int (own_isN xq (fun _ => (0 : Int32)) n (1 : Int32) (0 : Int32) (0 : Int32)))])) (Q0 Z p1 p2 p3 p4 p5 h0 n0) room_1.cells room_1.slots
                have j104 : ∀ (Tj104 : State) (Lj104 : List Loc) (Xj104 : Stand p l e room_1 s m #[(.int p1), (.int p2), (.int p3), (.int p4), (.int p5)] below meth c Tj104 Lj104 4 298) (ej104 : Tj104.heap = T82.heap) (Nj104 : Fr n0 Lj104) (ok1 : Int32) , own_law p1 p2 p3 p4 p5 = own_law_104bbb p1 p2 p3 p4 p5 n xa xb xq ok1 → own_End p e below s (Tj104.setTop (mkF m 104 #[.val (.int p1), .val (.int p2), .val (.int p3), .val (.int p4), .val (.int p5), .val (.int n), .val (.int (0 : Int32)), .val (.int (1 : Int32)), .val (.int (1 : Int32)), .val (.int xa), .val (.int xb), .val (.int xq), .val (.ref b81), .unset, .unset] [(.int ok1)])) (Q0 Z p1 p2 p3 p4 p5 h0 n0) room_1.cells room_1.slots := by
                  intro Tj104 Lj104 Xj104 ej104 Nj104 ok1  hj
                  obtain ⟨cq91, kq91, q91a, q91b, q91c⟩ := isOf hZ ej104 E_b81_83
                  obtain ⟨_, _, ⟨T91, L91, k91, n91⟩, -, X91, ⟨Lc91, hQ91, l91, y91, z91⟩, st91⟩ := Xj104.virtualBack hx (y := (⟨"com/example/libfacet/libfacet/regex/StateSet", "mark", "(I)Z"⟩ : MethodName)) (z := (⟨"com/example/libfacet/libfacet/regex/StateSet", "mark", "(I)Z"⟩ : MethodName)) hown (mvT hZ (hw _ (List.mem_of_getElem? (i := 31) rfl))) (mvT hZ (hw _ (List.mem_of_getElem? (i := 32) rfl))) (notFace_of_selects (args := #[]) (mvT hZ (hw _ (List.mem_of_getElem? (i := 34) rfl)))) (mvT hZ (hw _ (List.mem_of_getElem? (i := 34) rfl))) (mvT hZ (hw _ (List.mem_of_getElem? (i := 33) rfl))) (by decide) (backOf (W := 0) (rm4N l Z a0 hw [] b81 xa (1 : Int32) c82_ak (0 : Int32) (0 : Int32) (fun _ => (0 : Int32)) n T82.heap n0 Z82 ⟨E_b81_83, F_stamp_b81_84, F_marks_b81_85, F_markBits_b81_86, F_marked_b81_87, F_markedCount_b81_88, F_size_b81_89⟩ P82_ak_0 ne_b81_c82_ak g_c82_ak hxa0 hxa1) hZ (hw _ (List.mem_of_getElem? (i := 35) rfl)) (hw _ (List.mem_of_getElem? (i := 3) rfl)) (by decide) (by decide)) q91a q91c (g := (mkF m 110 #[.val (.int p1), .val (.int p2), .val (.int p3), .val (.int p4), .val (.int p5), .val (.int n), .val (.int (0 : Int32)), .val (.int (1 : Int32)), .val (.int (1 : Int32)), .val (.int xa), .val (.int xb), .val (.int xq), .val (.ref b81), .val (.int ok1), .unset] [(.int xa), (.ref b81)])) rfl (by rw [hml]; rfl) (Steps.refl _) (argsL := [(.int xa)]) (rest := []) (lenOf pd_0_1 rfl) rfl (by show 2 * 0 + _ ≤ _; exact Nat.le_of_eq rfl) (hb hby at_110) (fun _ _ => ⟨rfl, ej104, (by decide : 4 + 0 ≤ _), (by decide : 298 + 0 ≤ _)⟩)
                  dsimp only [Pt.U, Pt.locs, Pt.cells, Pt.slots] at X91 l91 y91 z91 st91 hQ91
                  subst l91 y91 z91
                  obtain ⟨rfl, N91q, Kq91, V91_0⟩ := hQ91
                  have N91 := Fr.app Nj104 N91q
                  have fE_b81_x91 := (E_b81_83.keep Kq91)
                  have fF_b81_stamp_x91 := (F_stamp_b81_84.keep Kq91 (ninS ne_b81_c82_ak nin0))
                  have fF_b81_marks_x91 := (F_marks_b81_85.keep Kq91 (ninS ne_b81_c82_ak nin0))
                  have fF_b81_markBits_x91 := (F_markBits_b81_86.keep Kq91 (ninS ne_b81_c82_ak nin0))
                  have fF_b81_marked_x91 := (F_marked_b81_87.keep Kq91 (ninS ne_b81_c82_ak nin0))
                  have fF_b81_markedCount_x91 := (F_markedCount_b81_88.keep Kq91 (ninS ne_b81_c82_ak nin0))
                  have fF_b81_size_x91 := (F_size_b81_89.keep Kq91 (ninS ne_b81_c82_ak nin0))
                  have K91 : Keep h0 T91.heap [] := Keep.trans K82 Kq91 (allS (Or.inr sz_c82_ak) all0)
                  have Z91 : n0 ≤ T91.heap.size := Nat.le_trans Z82 Kq91.1
                  refine own_pre (A := T91.setTop (mkF m 116 #[.val (.int p1), .val (.int p2), .val (.int p3), .val (.int p4), .val (.int p5), .val (.int n), .val (.int (0 : Int32)), .val (.int (1 : Int32)), .val (.int (1 : Int32)), .val (.int xa), .val (.int xb), .val (.int xq), .val (.ref b81), .val (.int ok1), .unset] [(.int ok1)])) (fun tt kt => ?_) ?_
                  · show Steps p.tables e below (Tj104.setTop (mkF m 104 #[.val (.int p1), .val (.int p2), .val (.int p3), .val (.int p4), .val (.int p5), .val (.int n), .val (.int (0 : Int32)), .val (.int (1 : Int32)), .val (.int (1 : Int32)), .val (.int xa), .val (.int xb), .val (.int xq), .val (.ref b81), .unset, .unset] [(.int ok1)])) _
                    refine XS.istore Xj104.here hx rfl (hb hby at_104) rfl (l' := #[.val (.int p1), .val (.int p2), .val (.int p3), .val (.int p4), .val (.int p5), .val (.int n), .val (.int (0 : Int32)), .val (.int (1 : Int32)), .val (.int (1 : Int32)), .val (.int xa), .val (.int xb), .val (.int xq), .val (.ref b81), .val (.int ok1), .unset]) rfl ?_
                    refine XS.aload Xj104.here hx rfl (hb hby at_106) rfl rfl ?_
                    refine XS.iload Xj104.here hx rfl (hb hby at_108) rfl ?_
                    show Steps p.tables e below (Tj104.setTop (mkF m 110 #[.val (.int p1), .val (.int p2), .val (.int p3), .val (.int p4), .val (.int p5), .val (.int n), .val (.int (0 : Int32)), .val (.int (1 : Int32)), .val (.int (1 : Int32)), .val (.int xa), .val (.int xb), .val (.int xq), .val (.ref b81), .val (.int ok1), .unset] [(.int xa), (.ref b81)])) _
                    refine st91.trans ?_
                    show Steps p.tables e below (T91.setTop (mkF m 113 #[.val (.int p1), .val (.int p2), .val (.int p3), .val (.int p4), .val (.int p5), .val (.int n), .val (.int (0 : Int32)), .val (.int (1 : Int32)), .val (.int (1 : Int32)), .val (.int xa), .val (.int xb), .val (.int xq), .val (.ref b81), .val (.int ok1), .unset] [(.int (own_markN xa (fun _ => (0 : Int32)) n (1 : Int32) (0 : Int32) (0 : Int32)))])) _
                    refine XS.pop X91.here hx rfl (hb hby at_113) rfl rfl ?_
                    refine XS.iload X91.here hx rfl (hb hby at_114) rfl ?_
                    exact kt
                  show own_End p e below s (T91.setTop (mkF m 116 #[.val (.int p1), .val (.int p2), .val (.int p3), .val (.int p4), .val (.int p5), .val (.int n), .val (.int (0 : Int32)), .val (.int (1 : Int32)), .val (.int (1 : Int32)), .val (.int xa), .val (.int xb), .val (.int xq), .val (.ref b81), .val (.int ok1), .unset] [(.int ok1)])) (Q0 Z p1 p2 p3 p4 p5 h0 n0) room_1.cells room_1.slots
                  have j134 : ∀ (Tj134 : State) (Lj134 : List Loc) (Xj134 : Stand p l e room_1 s m #[(.int p1), (.int p2), (.int p3), (.int p4), (.int p5)] below meth c Tj134 Lj134 4 298) (ej134 : Tj134.heap = T91.heap) (Nj134 : Fr n0 Lj134) (ok2 : Int32) , own_law p1 p2 p3 p4 p5 = own_law_134bbb p1 p2 p3 p4 p5 n xa xb xq ok1 ok2 → own_End p e below s (Tj134.setTop (mkF m 134 #[.val (.int p1), .val (.int p2), .val (.int p3), .val (.int p4), .val (.int p5), .val (.int n), .val (.int (0 : Int32)), .val (.int (1 : Int32)), .val (.int (1 : Int32)), .val (.int xa), .val (.int xb), .val (.int xq), .val (.ref b81), .val (.int ok1), .unset] [(.int ok2)])) (Q0 Z p1 p2 p3 p4 p5 h0 n0) room_1.cells room_1.slots := by
                    intro Tj134 Lj134 Xj134 ej134 Nj134 ok2  hj
                    obtain ⟨cq92, kq92, q92a, q92b, q92c⟩ := isOf hZ ej134 fE_b81_x91
                    obtain ⟨_, _, ⟨T92, L92, k92, n92⟩, -, X92, ⟨Lc92, hQ92, l92, y92, z92⟩, st92⟩ := Xj134.virtualBack hx (y := (⟨"com/example/libfacet/libfacet/regex/StateSet", "clear", "()V"⟩ : MethodName)) (z := (⟨"com/example/libfacet/libfacet/regex/StateSet", "clear", "()V"⟩ : MethodName)) hown (mvT hZ (hw _ (List.mem_of_getElem? (i := 38) rfl))) (mvT hZ (hw _ (List.mem_of_getElem? (i := 39) rfl))) (notFace_of_selects (args := #[]) (mvT hZ (hw _ (List.mem_of_getElem? (i := 41) rfl)))) (mvT hZ (hw _ (List.mem_of_getElem? (i := 41) rfl))) (mvT hZ (hw _ (List.mem_of_getElem? (i := 40) rfl))) (by decide) (backOf (W := 0) (rm5N l Z a0 hw [] b81 (1 : Int32) c82_ak (0 : Int32) (0 : Int32) T91.heap n0 Z91 ⟨fE_b81_x91, fF_b81_stamp_x91, fF_b81_marks_x91, fF_b81_markBits_x91, fF_b81_marked_x91, fF_b81_markedCount_x91, fF_b81_size_x91⟩ g_b81 (by decide)) hZ (hw _ (List.mem_of_getElem? (i := 42) rfl)) (hw _ (List.mem_of_getElem? (i := 3) rfl)) (by decide) (by decide)) q92a q92c (g := (mkF m 143 #[.val (.int p1), .val (.int p2), .val (.int p3), .val (.int p4), .val (.int p5), .val (.int n), .val (.int (0 : Int32)), .val (.int (1 : Int32)), .val (.int (1 : Int32)), .val (.int xa), .val (.int xb), .val (.int xq), .val (.ref b81), .val (.int ok2), .unset] [(.ref b81)])) rfl (by rw [hml]; rfl) (Steps.refl _) (argsL := []) (rest := []) (lenOf pd_0_2 rfl) rfl (by show 2 * 0 + _ ≤ _; exact Nat.le_of_eq rfl) (hb hby at_143) (fun _ _ => ⟨rfl, ej134, (by decide : 4 + 0 ≤ _), (by decide : 298 + 0 ≤ _)⟩)
                    dsimp only [Pt.U, Pt.locs, Pt.cells, Pt.slots] at X92 l92 y92 z92 st92 hQ92
                    subst l92 y92 z92
                    obtain ⟨rfl, N92q, Kq92, O92_0⟩ := hQ92
                    have N92 := Fr.app Nj134 N92q
                    have fE_b81_x92 := (fE_b81_x91.keep Kq92)
                    have fA_c82_ak_x92 := (V91_0.keep Kq92 (ninS (Ne.symm ne_b81_c82_ak) nin0))
                    have K92 : Keep h0 T92.heap [] := Keep.trans K91 Kq92 (allS (Or.inr sz_b81) all0)
                    have Z92 : n0 ≤ T92.heap.size := Nat.le_trans Z91 Kq92.1
                    obtain ⟨E_b81_93, F_stamp_b81_94, F_marks_b81_95, F_markBits_b81_96, F_marked_b81_97, F_markedCount_b81_98, F_size_b81_99⟩ := O92_0
                    obtain ⟨cq100, kq100, q100a, q100b, q100c⟩ := isOf hZ rfl E_b81_93
                    obtain ⟨_, _, ⟨T100, L100, k100, n100⟩, -, X100, ⟨Lc100, hQ100, l100, y100, z100⟩, st100⟩ := X92.virtualBack hx (y := (⟨"com/example/libfacet/libfacet/regex/StateSet", "mark", "(I)Z"⟩ : MethodName)) (z := (⟨"com/example/libfacet/libfacet/regex/StateSet", "mark", "(I)Z"⟩ : MethodName)) hown (mvT hZ (hw _ (List.mem_of_getElem? (i := 31) rfl))) (mvT hZ (hw _ (List.mem_of_getElem? (i := 32) rfl))) (notFace_of_selects (args := #[]) (mvT hZ (hw _ (List.mem_of_getElem? (i := 34) rfl)))) (mvT hZ (hw _ (List.mem_of_getElem? (i := 34) rfl))) (mvT hZ (hw _ (List.mem_of_getElem? (i := 33) rfl))) (by decide) (backOf (W := 0) (rm4N l Z a0 hw [] b81 xb (2 : Int32) c82_ak (0 : Int32) (0 : Int32) (own_put (fun _ => (0 : Int32)) xa (own_ch (1 : Int32))) n T92.heap n0 Z92 ⟨E_b81_93, F_stamp_b81_94, F_marks_b81_95, F_markBits_b81_96, F_marked_b81_97, F_markedCount_b81_98, F_size_b81_99⟩ fA_c82_ak_x92 ne_b81_c82_ak g_c82_ak hxb0 hxb1) hZ (hw _ (List.mem_of_getElem? (i := 35) rfl)) (hw _ (List.mem_of_getElem? (i := 3) rfl)) (by decide) (by decide)) q100a q100c (g := (mkF m 150 #[.val (.int p1), .val (.int p2), .val (.int p3), .val (.int p4), .val (.int p5), .val (.int n), .val (.int (0 : Int32)), .val (.int (1 : Int32)), .val (.int (1 : Int32)), .val (.int xa), .val (.int xb), .val (.int xq), .val (.ref b81), .val (.int ok2), .unset] [(.int xb), (.ref b81)])) rfl (by rw [hml]; rfl) (Steps.refl _) (argsL := [(.int xb)]) (rest := []) (lenOf pd_0_1 rfl) rfl (by show 2 * 0 + _ ≤ _; exact Nat.le_of_eq rfl) (hb hby at_150) (fun _ _ => ⟨rfl, rfl, (by decide : 4 + 0 ≤ _), (by decide : 298 + 0 ≤ _)⟩)
                    dsimp only [Pt.U, Pt.locs, Pt.cells, Pt.slots] at X100 l100 y100 z100 st100 hQ100
                    subst l100 y100 z100
                    obtain ⟨rfl, N100q, Kq100, V100_0⟩ := hQ100
                    have N100 := Fr.app N92 N100q
                    have fE_b81_x100 := (E_b81_93.keep Kq100)
                    have fF_b81_stamp_x100 := (F_stamp_b81_94.keep Kq100 (ninS ne_b81_c82_ak nin0))
                    have fF_b81_marks_x100 := (F_marks_b81_95.keep Kq100 (ninS ne_b81_c82_ak nin0))
                    have fF_b81_markBits_x100 := (F_markBits_b81_96.keep Kq100 (ninS ne_b81_c82_ak nin0))
                    have fF_b81_marked_x100 := (F_marked_b81_97.keep Kq100 (ninS ne_b81_c82_ak nin0))
                    have fF_b81_markedCount_x100 := (F_markedCount_b81_98.keep Kq100 (ninS ne_b81_c82_ak nin0))
                    have fF_b81_size_x100 := (F_size_b81_99.keep Kq100 (ninS ne_b81_c82_ak nin0))
                    have K100 : Keep h0 T100.heap [] := Keep.trans K92 Kq100 (allS (Or.inr sz_c82_ak) all0)
                    have Z100 : n0 ≤ T100.heap.size := Nat.le_trans Z92 Kq100.1
                    obtain ⟨cq101, kq101, q101a, q101b, q101c⟩ := isOf hZ rfl fE_b81_x100
                    obtain ⟨_, _, ⟨T101, L101, k101, n101⟩, -, X101, ⟨Lc101, hQ101, l101, y101, z101⟩, st101⟩ := X100.virtualBack hx (y := (⟨"com/example/libfacet/libfacet/regex/StateSet", "clear", "()V"⟩ : MethodName)) (z := (⟨"com/example/libfacet/libfacet/regex/StateSet", "clear", "()V"⟩ : MethodName)) hown (mvT hZ (hw _ (List.mem_of_getElem? (i := 38) rfl))) (mvT hZ (hw _ (List.mem_of_getElem? (i := 39) rfl))) (notFace_of_selects (args := #[]) (mvT hZ (hw _ (List.mem_of_getElem? (i := 41) rfl)))) (mvT hZ (hw _ (List.mem_of_getElem? (i := 41) rfl))) (mvT hZ (hw _ (List.mem_of_getElem? (i := 40) rfl))) (by decide) (backOf (W := 0) (rm5N l Z a0 hw [] b81 (2 : Int32) c82_ak (0 : Int32) (0 : Int32) T100.heap n0 Z100 ⟨fE_b81_x100, fF_b81_stamp_x100, fF_b81_marks_x100, fF_b81_markBits_x100, fF_b81_marked_x100, fF_b81_markedCount_x100, fF_b81_size_x100⟩ g_b81 (by decide)) hZ (hw _ (List.mem_of_getElem? (i := 42) rfl)) (hw _ (List.mem_of_getElem? (i := 3) rfl)) (by decide) (by decide)) q101a q101c (g := (mkF m 161 #[.val (.int p1), .val (.int p2), .val (.int p3), .val (.int p4), .val (.int p5), .val (.int n), .val (.int (0 : Int32)), .val (.int (1 : Int32)), .val (.int (1 : Int32)), .val (.int xa), .val (.int xb), .val (.int xq), .val (.ref b81), .val (.int ok2), .unset] [(.ref b81)])) rfl (by rw [hml]; rfl) (Steps.refl _) (argsL := []) (rest := []) (lenOf pd_0_2 rfl) rfl (by show 2 * 0 + _ ≤ _; exact Nat.le_of_eq rfl) (hb hby at_161) (fun _ _ => ⟨rfl, rfl, (by decide : 4 + 0 ≤ _), (by decide : 298 + 0 ≤ _)⟩)
                    dsimp only [Pt.U, Pt.locs, Pt.cells, Pt.slots] at X101 l101 y101 z101 st101 hQ101
                    subst l101 y101 z101
                    obtain ⟨rfl, N101q, Kq101, O101_0⟩ := hQ101
                    have N101 := Fr.app N100 N101q
                    have fE_b81_x101 := (fE_b81_x100.keep Kq101)
                    have fA_c82_ak_x101 := (V100_0.keep Kq101 (ninS (Ne.symm ne_b81_c82_ak) nin0))
                    have K101 : Keep h0 T101.heap [] := Keep.trans K100 Kq101 (allS (Or.inr sz_b81) all0)
                    have Z101 : n0 ≤ T101.heap.size := Nat.le_trans Z100 Kq101.1
                    obtain ⟨E_b81_102, F_stamp_b81_103, F_marks_b81_104, F_markBits_b81_105, F_marked_b81_106, F_markedCount_b81_107, F_size_b81_108⟩ := O101_0
                    refine own_pre (A := T101.setTop (mkF m 197 #[.val (.int p1), .val (.int p2), .val (.int p3), .val (.int p4), .val (.int p5), .val (.int n), .val (.int (0 : Int32)), .val (.int (1 : Int32)), .val (.int (1 : Int32)), .val (.int xa), .val (.int xb), .val (.int xq), .val (.ref b81), .val (.int ok2), .val (.int (0 : Int32))] [(.int ok2)])) (fun tt kt => ?_) ?_
                    · show Steps p.tables e below (Tj134.setTop (mkF m 134 #[.val (.int p1), .val (.int p2), .val (.int p3), .val (.int p4), .val (.int p5), .val (.int n), .val (.int (0 : Int32)), .val (.int (1 : Int32)), .val (.int (1 : Int32)), .val (.int xa), .val (.int xb), .val (.int xq), .val (.ref b81), .val (.int ok1), .unset] [(.int ok2)])) _
                      refine XS.istore Xj134.here hx rfl (hb hby at_134) rfl (l' := #[.val (.int p1), .val (.int p2), .val (.int p3), .val (.int p4), .val (.int p5), .val (.int n), .val (.int (0 : Int32)), .val (.int (1 : Int32)), .val (.int (1 : Int32)), .val (.int xa), .val (.int xb), .val (.int xq), .val (.ref b81), .val (.int ok2), .unset]) rfl ?_
                      refine XS.iload Xj134.here hx rfl (hb hby at_136) rfl ?_
                      refine XS.ifNo Xj134.here hx rfl (hb hby at_138) rfl ((if0 _ _).trans (feq ((by decide) : ¬ ((1 : Int32) = (0 : Int32)))).1) ?_
                      refine XS.aload Xj134.here hx rfl (hb hby at_141) rfl rfl ?_
                      show Steps p.tables e below (Tj134.setTop (mkF m 143 #[.val (.int p1), .val (.int p2), .val (.int p3), .val (.int p4), .val (.int p5), .val (.int n), .val (.int (0 : Int32)), .val (.int (1 : Int32)), .val (.int (1 : Int32)), .val (.int xa), .val (.int xb), .val (.int xq), .val (.ref b81), .val (.int ok2), .unset] [(.ref b81)])) _
                      refine st92.trans ?_
                      show Steps p.tables e below (T92.setTop (mkF m 146 #[.val (.int p1), .val (.int p2), .val (.int p3), .val (.int p4), .val (.int p5), .val (.int n), .val (.int (0 : Int32)), .val (.int (1 : Int32)), .val (.int (1 : Int32)), .val (.int xa), .val (.int xb), .val (.int xq), .val (.ref b81), .val (.int ok2), .unset] [])) _
                      refine XS.aload X92.here hx rfl (hb hby at_146) rfl rfl ?_
                      refine XS.iload X92.here hx rfl (hb hby at_148) rfl ?_
                      show Steps p.tables e below (T92.setTop (mkF m 150 #[.val (.int p1), .val (.int p2), .val (.int p3), .val (.int p4), .val (.int p5), .val (.int n), .val (.int (0 : Int32)), .val (.int (1 : Int32)), .val (.int (1 : Int32)), .val (.int xa), .val (.int xb), .val (.int xq), .val (.ref b81), .val (.int ok2), .unset] [(.int xb), (.ref b81)])) _
                      refine st100.trans ?_
                      show Steps p.tables e below (T100.setTop (mkF m 153 #[.val (.int p1), .val (.int p2), .val (.int p3), .val (.int p4), .val (.int p5), .val (.int n), .val (.int (0 : Int32)), .val (.int (1 : Int32)), .val (.int (1 : Int32)), .val (.int xa), .val (.int xb), .val (.int xq), .val (.ref b81), .val (.int ok2), .unset] [(.int (own_markN xb (own_put (fun _ => (0 : Int32)) xa (own_ch (1 : Int32))) n (2 : Int32) (0 : Int32) (0 : Int32)))])) _
                      refine XS.pop X100.here hx rfl (hb hby at_153) rfl rfl ?_
                      refine XS.iload X100.here hx rfl (hb hby at_154) rfl ?_
                      refine XS.ifNo X100.here hx rfl (hb hby at_156) rfl ((if0 _ _).trans (feq ((by decide) : ¬ ((1 : Int32) = (0 : Int32)))).1) ?_
                      refine XS.aload X100.here hx rfl (hb hby at_159) rfl rfl ?_
                      show Steps p.tables e below (T100.setTop (mkF m 161 #[.val (.int p1), .val (.int p2), .val (.int p3), .val (.int p4), .val (.int p5), .val (.int n), .val (.int (0 : Int32)), .val (.int (1 : Int32)), .val (.int (1 : Int32)), .val (.int xa), .val (.int xb), .val (.int xq), .val (.ref b81), .val (.int ok2), .unset] [(.ref b81)])) _
                      refine st101.trans ?_
                      show Steps p.tables e below (T101.setTop (mkF m 164 #[.val (.int p1), .val (.int p2), .val (.int p3), .val (.int p4), .val (.int p5), .val (.int n), .val (.int (0 : Int32)), .val (.int (1 : Int32)), .val (.int (1 : Int32)), .val (.int xa), .val (.int xb), .val (.int xq), .val (.ref b81), .val (.int ok2), .unset] [])) _
                      refine XS.iload X101.here hx rfl (hb hby at_164) rfl ?_
                      refine XS.ifYes X101.here hx rfl (pc0 := 166) (pc' := 192) rfl (hb hby at_166) rfl ((if0 _ _).trans (feq ((by decide) : ¬ ((1 : Int32) = (0 : Int32)))).2) (by decide) (by decide) ?_
                      refine XS.iconst X101.here hx rfl (hb hby at_192) ?_
                      refine XS.istore X101.here hx rfl (hb hby at_193) rfl (l' := #[.val (.int p1), .val (.int p2), .val (.int p3), .val (.int p4), .val (.int p5), .val (.int n), .val (.int (0 : Int32)), .val (.int (1 : Int32)), .val (.int (1 : Int32)), .val (.int xa), .val (.int xb), .val (.int xq), .val (.ref b81), .val (.int ok2), .val (.int (0 : Int32))]) rfl ?_
                      refine XS.iload X101.here hx rfl (hb hby at_195) rfl ?_
                      exact kt
                    show own_End p e below s (T101.setTop (mkF m 197 #[.val (.int p1), .val (.int p2), .val (.int p3), .val (.int p4), .val (.int p5), .val (.int n), .val (.int (0 : Int32)), .val (.int (1 : Int32)), .val (.int (1 : Int32)), .val (.int xa), .val (.int xb), .val (.int xq), .val (.ref b81), .val (.int ok2), .val (.int (0 : Int32))] [(.int ok2)])) (Q0 Z p1 p2 p3 p4 p5 h0 n0) room_1.cells room_1.slots
                    by_cases hc197_109 : ok2 = (0 : Int32)
                    · refine own_pre (A := T101.setTop (mkF m 217 #[.val (.int p1), .val (.int p2), .val (.int p3), .val (.int p4), .val (.int p5), .val (.int n), .val (.int (0 : Int32)), .val (.int (1 : Int32)), .val (.int (1 : Int32)), .val (.int xa), .val (.int xb), .val (.int xq), .val (.ref b81), .val (.int ok2), .val (.int (0 : Int32))] [(.int (0 : Int32))])) (fun tt kt => ?_) ?_
                      · show Steps p.tables e below (T101.setTop (mkF m 197 #[.val (.int p1), .val (.int p2), .val (.int p3), .val (.int p4), .val (.int p5), .val (.int n), .val (.int (0 : Int32)), .val (.int (1 : Int32)), .val (.int (1 : Int32)), .val (.int xa), .val (.int xb), .val (.int xq), .val (.ref b81), .val (.int ok2), .val (.int (0 : Int32))] [(.int ok2)])) _
                        refine XS.ifYes X101.here hx rfl (pc0 := 197) (pc' := 216) rfl (hb hby at_197) rfl ((if0 _ _).trans (teq hc197_109).1) (by decide) (by decide) ?_
                        refine XS.iconst X101.here hx rfl (hb hby at_216) ?_
                        exact kt
                      show own_End p e below s (T101.setTop (mkF m 217 #[.val (.int p1), .val (.int p2), .val (.int p3), .val (.int p4), .val (.int p5), .val (.int n), .val (.int (0 : Int32)), .val (.int (1 : Int32)), .val (.int (1 : Int32)), .val (.int xa), .val (.int xb), .val (.int xq), .val (.ref b81), .val (.int ok2), .val (.int (0 : Int32))] [(.int (0 : Int32))])) (Q0 Z p1 p2 p3 p4 p5 h0 n0) room_1.cells room_1.slots
                      have hv : (own_law p1 p2 p3 p4 p5) = (0 : Int32) := hj.trans (by simp only [own_law_134bbb, if_pos hc197_109])
                      obtain ⟨fs, hr, hrun, hended, hW, hsame⟩ := X101.leave (v := some (.int (0 : Int32))) (fun h => by rw [Bd.returns] at h; cases h)
                      refine ⟨_, _, ?_, hrun, hended, _, _, rfl, ?_, ⟨_, rfl⟩, hW, hsame.mono (by decide) (by decide)⟩
                      · exact retN X101 hx (t := .boolean) Bd.returns (by simp) (hb hby at_217) hr
                      · show Q0 Z p1 p2 p3 p4 p5 h0 n0 _ T101.heap _
                        exact ⟨(congrArg (fun z => some (Value.int z)) hv.symm), N101⟩
                    · obtain ⟨cq110, kq110, q110a, q110b, q110c⟩ := isOf hZ rfl E_b81_102
                      obtain ⟨_, _, ⟨T110, L110, k110, n110⟩, -, X110, ⟨Lc110, hQ110, l110, y110, z110⟩, st110⟩ := X101.virtualBack hx (y := (⟨"com/example/libfacet/libfacet/regex/StateSet", "isMarked", "(I)Z"⟩ : MethodName)) (z := (⟨"com/example/libfacet/libfacet/regex/StateSet", "isMarked", "(I)Z"⟩ : MethodName)) hown (mvT hZ (hw _ (List.mem_of_getElem? (i := 26) rfl))) (mvT hZ (hw _ (List.mem_of_getElem? (i := 27) rfl))) (notFace_of_selects (args := #[]) (mvT hZ (hw _ (List.mem_of_getElem? (i := 29) rfl)))) (mvT hZ (hw _ (List.mem_of_getElem? (i := 29) rfl))) (mvT hZ (hw _ (List.mem_of_getElem? (i := 28) rfl))) (by decide) (backOf (W := 0) (rm3N l Z a0 hw [] b81 xq (3 : Int32) c82_ak (0 : Int32) (0 : Int32) (own_put (own_put (fun _ => (0 : Int32)) xa (own_ch (1 : Int32))) xb (own_ch (2 : Int32))) n T101.heap n0 Z101 ⟨E_b81_102, F_stamp_b81_103, F_marks_b81_104, F_markBits_b81_105, F_marked_b81_106, F_markedCount_b81_107, F_size_b81_108⟩ fA_c82_ak_x101 hxq0 hxq1) hZ (hw _ (List.mem_of_getElem? (i := 30) rfl)) (hw _ (List.mem_of_getElem? (i := 3) rfl)) (by decide) (by decide)) q110a q110c (g := (mkF m 204 #[.val (.int p1), .val (.int p2), .val (.int p3), .val (.int p4), .val (.int p5), .val (.int n), .val (.int (0 : Int32)), .val (.int (1 : Int32)), .val (.int (1 : Int32)), .val (.int xa), .val (.int xb), .val (.int xq), .val (.ref b81), .val (.int ok2), .val (.int (0 : Int32))] [(.int xq), (.ref b81)])) rfl (by rw [hml]; rfl) (Steps.refl _) (argsL := [(.int xq)]) (rest := []) (lenOf pd_0_1 rfl) rfl (by show 2 * 0 + _ ≤ _; exact Nat.le_of_eq rfl) (hb hby at_204) (fun _ _ => ⟨rfl, rfl, (by decide : 4 + 0 ≤ _), (by decide : 298 + 0 ≤ _)⟩)
                      dsimp only [Pt.U, Pt.locs, Pt.cells, Pt.slots] at X110 l110 y110 z110 st110 hQ110
                      subst l110 y110 z110
                      obtain ⟨rfl, N110q, e110⟩ := hQ110
                      have N110 := Fr.app N101 N110q
                      refine own_pre (A := T110.setTop (mkF m 209 #[.val (.int p1), .val (.int p2), .val (.int p3), .val (.int p4), .val (.int p5), .val (.int n), .val (.int (0 : Int32)), .val (.int (1 : Int32)), .val (.int (1 : Int32)), .val (.int xa), .val (.int xb), .val (.int xq), .val (.ref b81), .val (.int ok2), .val (.int (0 : Int32))] [(.int (0 : Int32)), (.int (own_isN xq (own_put (own_put (fun _ => (0 : Int32)) xa (own_ch (1 : Int32))) xb (own_ch (2 : Int32))) n (3 : Int32) (0 : Int32) (0 : Int32)))])) (fun tt kt => ?_) ?_
                      · show Steps p.tables e below (T101.setTop (mkF m 197 #[.val (.int p1), .val (.int p2), .val (.int p3), .val (.int p4), .val (.int p5), .val (.int n), .val (.int (0 : Int32)), .val (.int (1 : Int32)), .val (.int (1 : Int32)), .val (.int xa), .val (.int xb), .val (.int xq), .val (.ref b81), .val (.int ok2), .val (.int (0 : Int32))] [(.int ok2)])) _
                        refine XS.ifNo X101.here hx rfl (hb hby at_197) rfl ((if0 _ _).trans (feq hc197_109).1) ?_
                        refine XS.aload X101.here hx rfl (hb hby at_200) rfl rfl ?_
                        refine XS.iload X101.here hx rfl (hb hby at_202) rfl ?_
                        show Steps p.tables e below (T101.setTop (mkF m 204 #[.val (.int p1), .val (.int p2), .val (.int p3), .val (.int p4), .val (.int p5), .val (.int n), .val (.int (0 : Int32)), .val (.int (1 : Int32)), .val (.int (1 : Int32)), .val (.int xa), .val (.int xb), .val (.int xq), .val (.ref b81), .val (.int ok2), .val (.int (0 : Int32))] [(.int xq), (.ref b81)])) _
                        refine st110.trans ?_
                        show Steps p.tables e below (T110.setTop (mkF m 207 #[.val (.int p1), .val (.int p2), .val (.int p3), .val (.int p4), .val (.int p5), .val (.int n), .val (.int (0 : Int32)), .val (.int (1 : Int32)), .val (.int (1 : Int32)), .val (.int xa), .val (.int xb), .val (.int xq), .val (.ref b81), .val (.int ok2), .val (.int (0 : Int32))] [(.int (own_isN xq (own_put (own_put (fun _ => (0 : Int32)) xa (own_ch (1 : Int32))) xb (own_ch (2 : Int32))) n (3 : Int32) (0 : Int32) (0 : Int32)))])) _
                        refine XS.iload X110.here hx rfl (hb hby at_207) rfl ?_
                        exact kt
                      show own_End p e below s (T110.setTop (mkF m 209 #[.val (.int p1), .val (.int p2), .val (.int p3), .val (.int p4), .val (.int p5), .val (.int n), .val (.int (0 : Int32)), .val (.int (1 : Int32)), .val (.int (1 : Int32)), .val (.int xa), .val (.int xb), .val (.int xq), .val (.ref b81), .val (.int ok2), .val (.int (0 : Int32))] [(.int (0 : Int32)), (.int (own_isN xq (own_put (own_put (fun _ => (0 : Int32)) xa (own_ch (1 : Int32))) xb (own_ch (2 : Int32))) n (3 : Int32) (0 : Int32) (0 : Int32)))])) (Q0 Z p1 p2 p3 p4 p5 h0 n0) room_1.cells room_1.slots
                      by_cases hc209_111 : (own_isN xq (own_put (own_put (fun _ => (0 : Int32)) xa (own_ch (1 : Int32))) xb (own_ch (2 : Int32))) n (3 : Int32) (0 : Int32) (0 : Int32)) = (0 : Int32)
                      · refine own_pre (A := T110.setTop (mkF m 217 #[.val (.int p1), .val (.int p2), .val (.int p3), .val (.int p4), .val (.int p5), .val (.int n), .val (.int (0 : Int32)), .val (.int (1 : Int32)), .val (.int (1 : Int32)), .val (.int xa), .val (.int xb), .val (.int xq), .val (.ref b81), .val (.int ok2), .val (.int (0 : Int32))] [(.int (1 : Int32))])) (fun tt kt => ?_) ?_
                        · show Steps p.tables e below (T110.setTop (mkF m 209 #[.val (.int p1), .val (.int p2), .val (.int p3), .val (.int p4), .val (.int p5), .val (.int n), .val (.int (0 : Int32)), .val (.int (1 : Int32)), .val (.int (1 : Int32)), .val (.int xa), .val (.int xb), .val (.int xq), .val (.ref b81), .val (.int ok2), .val (.int (0 : Int32))] [(.int (0 : Int32)), (.int (own_isN xq (own_put (own_put (fun _ => (0 : Int32)) xa (own_ch (1 : Int32))) xb (own_ch (2 : Int32))) n (3 : Int32) (0 : Int32) (0 : Int32)))])) _
                          refine XS.icmpNo X110.here hx rfl (hb hby at_209) rfl (teq hc209_111).2 ?_
                          refine XS.iconst X110.here hx rfl (hb hby at_212) ?_
                          refine XS.goto X110.here hx rfl (pc0 := 213) (pc' := 217) rfl (hb hby at_213) (by decide) (by decide) ?_
                          exact kt
                        show own_End p e below s (T110.setTop (mkF m 217 #[.val (.int p1), .val (.int p2), .val (.int p3), .val (.int p4), .val (.int p5), .val (.int n), .val (.int (0 : Int32)), .val (.int (1 : Int32)), .val (.int (1 : Int32)), .val (.int xa), .val (.int xb), .val (.int xq), .val (.ref b81), .val (.int ok2), .val (.int (0 : Int32))] [(.int (1 : Int32))])) (Q0 Z p1 p2 p3 p4 p5 h0 n0) room_1.cells room_1.slots
                        have hv : (own_law p1 p2 p3 p4 p5) = (1 : Int32) := hj.trans (by simp only [own_law_134bbb, if_neg hc197_109, if_pos hc209_111])
                        obtain ⟨fs, hr, hrun, hended, hW, hsame⟩ := X110.leave (v := some (.int (1 : Int32))) (fun h => by rw [Bd.returns] at h; cases h)
                        refine ⟨_, _, ?_, hrun, hended, _, _, rfl, ?_, ⟨_, rfl⟩, hW, hsame.mono (by decide) (by decide)⟩
                        · exact retN X110 hx (t := .boolean) Bd.returns (by simp) (hb hby at_217) hr
                        · show Q0 Z p1 p2 p3 p4 p5 h0 n0 _ T110.heap _
                          rw [e110]
                          exact ⟨(congrArg (fun z => some (Value.int z)) hv.symm), N110⟩
                      · refine own_pre (A := T110.setTop (mkF m 217 #[.val (.int p1), .val (.int p2), .val (.int p3), .val (.int p4), .val (.int p5), .val (.int n), .val (.int (0 : Int32)), .val (.int (1 : Int32)), .val (.int (1 : Int32)), .val (.int xa), .val (.int xb), .val (.int xq), .val (.ref b81), .val (.int ok2), .val (.int (0 : Int32))] [(.int (0 : Int32))])) (fun tt kt => ?_) ?_
                        · show Steps p.tables e below (T110.setTop (mkF m 209 #[.val (.int p1), .val (.int p2), .val (.int p3), .val (.int p4), .val (.int p5), .val (.int n), .val (.int (0 : Int32)), .val (.int (1 : Int32)), .val (.int (1 : Int32)), .val (.int xa), .val (.int xb), .val (.int xq), .val (.ref b81), .val (.int ok2), .val (.int (0 : Int32))] [(.int (0 : Int32)), (.int (own_isN xq (own_put (own_put (fun _ => (0 : Int32)) xa (own_ch (1 : Int32))) xb (own_ch (2 : Int32))) n (3 : Int32) (0 : Int32) (0 : Int32)))])) _
                          refine XS.icmpYes X110.here hx rfl (pc0 := 209) (pc' := 216) rfl (hb hby at_209) rfl (feq hc209_111).2 (by decide) (by decide) ?_
                          refine XS.iconst X110.here hx rfl (hb hby at_216) ?_
                          exact kt
                        show own_End p e below s (T110.setTop (mkF m 217 #[.val (.int p1), .val (.int p2), .val (.int p3), .val (.int p4), .val (.int p5), .val (.int n), .val (.int (0 : Int32)), .val (.int (1 : Int32)), .val (.int (1 : Int32)), .val (.int xa), .val (.int xb), .val (.int xq), .val (.ref b81), .val (.int ok2), .val (.int (0 : Int32))] [(.int (0 : Int32))])) (Q0 Z p1 p2 p3 p4 p5 h0 n0) room_1.cells room_1.slots
                        have hv : (own_law p1 p2 p3 p4 p5) = (0 : Int32) := hj.trans (by simp only [own_law_134bbb, if_neg hc197_109, if_neg hc209_111])
                        obtain ⟨fs, hr, hrun, hended, hW, hsame⟩ := X110.leave (v := some (.int (0 : Int32))) (fun h => by rw [Bd.returns] at h; cases h)
                        refine ⟨_, _, ?_, hrun, hended, _, _, rfl, ?_, ⟨_, rfl⟩, hW, hsame.mono (by decide) (by decide)⟩
                        · exact retN X110 hx (t := .boolean) Bd.returns (by simp) (hb hby at_217) hr
                        · show Q0 Z p1 p2 p3 p4 p5 h0 n0 _ T110.heap _
                          rw [e110]
                          exact ⟨(congrArg (fun z => some (Value.int z)) hv.symm), N110⟩
                  by_cases hc116_112 : ok1 = (0 : Int32)
                  · refine own_pre (A := T91.setTop (mkF m 134 #[.val (.int p1), .val (.int p2), .val (.int p3), .val (.int p4), .val (.int p5), .val (.int n), .val (.int (0 : Int32)), .val (.int (1 : Int32)), .val (.int (1 : Int32)), .val (.int xa), .val (.int xb), .val (.int xq), .val (.ref b81), .val (.int ok1), .unset] [(.int (0 : Int32))])) (fun tt kt => ?_) ?_
                    · show Steps p.tables e below (T91.setTop (mkF m 116 #[.val (.int p1), .val (.int p2), .val (.int p3), .val (.int p4), .val (.int p5), .val (.int n), .val (.int (0 : Int32)), .val (.int (1 : Int32)), .val (.int (1 : Int32)), .val (.int xa), .val (.int xb), .val (.int xq), .val (.ref b81), .val (.int ok1), .unset] [(.int ok1)])) _
                      refine XS.ifYes X91.here hx rfl (pc0 := 116) (pc' := 133) rfl (hb hby at_116) rfl ((if0 _ _).trans (teq hc116_112).1) (by decide) (by decide) ?_
                      refine XS.iconst X91.here hx rfl (hb hby at_133) ?_
                      exact kt
                    show own_End p e below s (T91.setTop (mkF m 134 #[.val (.int p1), .val (.int p2), .val (.int p3), .val (.int p4), .val (.int p5), .val (.int n), .val (.int (0 : Int32)), .val (.int (1 : Int32)), .val (.int (1 : Int32)), .val (.int xa), .val (.int xb), .val (.int xq), .val (.ref b81), .val (.int ok1), .unset] [(.int (0 : Int32))])) (Q0 Z p1 p2 p3 p4 p5 h0 n0) room_1.cells room_1.slots
                    exact j134 _ _ X91 rfl N91 (0 : Int32)  (hj.trans (by simp only [own_law_104bbb, if_pos hc116_112]))
                  · obtain ⟨cq113, kq113, q113a, q113b, q113c⟩ := isOf hZ rfl fE_b81_x91
                    obtain ⟨_, _, ⟨T113, L113, k113, n113⟩, -, X113, ⟨Lc113, hQ113, l113, y113, z113⟩, st113⟩ := X91.virtualBack hx (y := (⟨"com/example/libfacet/libfacet/regex/StateSet", "isMarked", "(I)Z"⟩ : MethodName)) (z := (⟨"com/example/libfacet/libfacet/regex/StateSet", "isMarked", "(I)Z"⟩ : MethodName)) hown (mvT hZ (hw _ (List.mem_of_getElem? (i := 26) rfl))) (mvT hZ (hw _ (List.mem_of_getElem? (i := 27) rfl))) (notFace_of_selects (args := #[]) (mvT hZ (hw _ (List.mem_of_getElem? (i := 29) rfl)))) (mvT hZ (hw _ (List.mem_of_getElem? (i := 29) rfl))) (mvT hZ (hw _ (List.mem_of_getElem? (i := 28) rfl))) (by decide) (backOf (W := 0) (rm3N l Z a0 hw [] b81 xa (1 : Int32) c82_ak (0 : Int32) (0 : Int32) (own_put (fun _ => (0 : Int32)) xa (own_ch (1 : Int32))) n T91.heap n0 Z91 ⟨fE_b81_x91, fF_b81_stamp_x91, fF_b81_marks_x91, fF_b81_markBits_x91, fF_b81_marked_x91, fF_b81_markedCount_x91, fF_b81_size_x91⟩ V91_0 hxa0 hxa1) hZ (hw _ (List.mem_of_getElem? (i := 30) rfl)) (hw _ (List.mem_of_getElem? (i := 3) rfl)) (by decide) (by decide)) q113a q113c (g := (mkF m 123 #[.val (.int p1), .val (.int p2), .val (.int p3), .val (.int p4), .val (.int p5), .val (.int n), .val (.int (0 : Int32)), .val (.int (1 : Int32)), .val (.int (1 : Int32)), .val (.int xa), .val (.int xb), .val (.int xq), .val (.ref b81), .val (.int ok1), .unset] [(.int xa), (.ref b81)])) rfl (by rw [hml]; rfl) (Steps.refl _) (argsL := [(.int xa)]) (rest := []) (lenOf pd_0_1 rfl) rfl (by show 2 * 0 + _ ≤ _; exact Nat.le_of_eq rfl) (hb hby at_123) (fun _ _ => ⟨rfl, rfl, (by decide : 4 + 0 ≤ _), (by decide : 298 + 0 ≤ _)⟩)
                    dsimp only [Pt.U, Pt.locs, Pt.cells, Pt.slots] at X113 l113 y113 z113 st113 hQ113
                    subst l113 y113 z113
                    obtain ⟨rfl, N113q, e113⟩ := hQ113
                    have N113 := Fr.app N91 N113q
                    refine own_pre (A := T113.setTop (mkF m 126 #[.val (.int p1), .val (.int p2), .val (.int p3), .val (.int p4), .val (.int p5), .val (.int n), .val (.int (0 : Int32)), .val (.int (1 : Int32)), .val (.int (1 : Int32)), .val (.int xa), .val (.int xb), .val (.int xq), .val (.ref b81), .val (.int ok1), .unset] [(.int (own_isN xa (own_put (fun _ => (0 : Int32)) xa (own_ch (1 : Int32))) n (1 : Int32) (0 : Int32) (0 : Int32)))])) (fun tt kt => ?_) ?_
                    · show Steps p.tables e below (T91.setTop (mkF m 116 #[.val (.int p1), .val (.int p2), .val (.int p3), .val (.int p4), .val (.int p5), .val (.int n), .val (.int (0 : Int32)), .val (.int (1 : Int32)), .val (.int (1 : Int32)), .val (.int xa), .val (.int xb), .val (.int xq), .val (.ref b81), .val (.int ok1), .unset] [(.int ok1)])) _
                      refine XS.ifNo X91.here hx rfl (hb hby at_116) rfl ((if0 _ _).trans (feq hc116_112).1) ?_
                      refine XS.aload X91.here hx rfl (hb hby at_119) rfl rfl ?_
                      refine XS.iload X91.here hx rfl (hb hby at_121) rfl ?_
                      show Steps p.tables e below (T91.setTop (mkF m 123 #[.val (.int p1), .val (.int p2), .val (.int p3), .val (.int p4), .val (.int p5), .val (.int n), .val (.int (0 : Int32)), .val (.int (1 : Int32)), .val (.int (1 : Int32)), .val (.int xa), .val (.int xb), .val (.int xq), .val (.ref b81), .val (.int ok1), .unset] [(.int xa), (.ref b81)])) _
                      refine st113.trans ?_
                      exact kt
                    show own_End p e below s (T113.setTop (mkF m 126 #[.val (.int p1), .val (.int p2), .val (.int p3), .val (.int p4), .val (.int p5), .val (.int n), .val (.int (0 : Int32)), .val (.int (1 : Int32)), .val (.int (1 : Int32)), .val (.int xa), .val (.int xb), .val (.int xq), .val (.ref b81), .val (.int ok1), .unset] [(.int (own_isN xa (own_put (fun _ => (0 : Int32)) xa (own_ch (1 : Int32))) n (1 : Int32) (0 : Int32) (0 : Int32)))])) (Q0 Z p1 p2 p3 p4 p5 h0 n0) room_1.cells room_1.slots
                    by_cases hc126_114 : (own_isN xa (own_put (fun _ => (0 : Int32)) xa (own_ch (1 : Int32))) n (1 : Int32) (0 : Int32) (0 : Int32)) = (0 : Int32)
                    · refine own_pre (A := T113.setTop (mkF m 134 #[.val (.int p1), .val (.int p2), .val (.int p3), .val (.int p4), .val (.int p5), .val (.int n), .val (.int (0 : Int32)), .val (.int (1 : Int32)), .val (.int (1 : Int32)), .val (.int xa), .val (.int xb), .val (.int xq), .val (.ref b81), .val (.int ok1), .unset] [(.int (0 : Int32))])) (fun tt kt => ?_) ?_
                      · show Steps p.tables e below (T113.setTop (mkF m 126 #[.val (.int p1), .val (.int p2), .val (.int p3), .val (.int p4), .val (.int p5), .val (.int n), .val (.int (0 : Int32)), .val (.int (1 : Int32)), .val (.int (1 : Int32)), .val (.int xa), .val (.int xb), .val (.int xq), .val (.ref b81), .val (.int ok1), .unset] [(.int (own_isN xa (own_put (fun _ => (0 : Int32)) xa (own_ch (1 : Int32))) n (1 : Int32) (0 : Int32) (0 : Int32)))])) _
                        refine XS.ifYes X113.here hx rfl (pc0 := 126) (pc' := 133) rfl (hb hby at_126) rfl ((if0 _ _).trans (teq hc126_114).1) (by decide) (by decide) ?_
                        refine XS.iconst X113.here hx rfl (hb hby at_133) ?_
                        exact kt
                      show own_End p e below s (T113.setTop (mkF m 134 #[.val (.int p1), .val (.int p2), .val (.int p3), .val (.int p4), .val (.int p5), .val (.int n), .val (.int (0 : Int32)), .val (.int (1 : Int32)), .val (.int (1 : Int32)), .val (.int xa), .val (.int xb), .val (.int xq), .val (.ref b81), .val (.int ok1), .unset] [(.int (0 : Int32))])) (Q0 Z p1 p2 p3 p4 p5 h0 n0) room_1.cells room_1.slots
                      exact j134 _ _ X113 e113 N113 (0 : Int32)  (hj.trans (by simp only [own_law_104bbb, if_neg hc116_112, if_pos hc126_114]))
                    · refine own_pre (A := T113.setTop (mkF m 134 #[.val (.int p1), .val (.int p2), .val (.int p3), .val (.int p4), .val (.int p5), .val (.int n), .val (.int (0 : Int32)), .val (.int (1 : Int32)), .val (.int (1 : Int32)), .val (.int xa), .val (.int xb), .val (.int xq), .val (.ref b81), .val (.int ok1), .unset] [(.int (1 : Int32))])) (fun tt kt => ?_) ?_
                      · show Steps p.tables e below (T113.setTop (mkF m 126 #[.val (.int p1), .val (.int p2), .val (.int p3), .val (.int p4), .val (.int p5), .val (.int n), .val (.int (0 : Int32)), .val (.int (1 : Int32)), .val (.int (1 : Int32)), .val (.int xa), .val (.int xb), .val (.int xq), .val (.ref b81), .val (.int ok1), .unset] [(.int (own_isN xa (own_put (fun _ => (0 : Int32)) xa (own_ch (1 : Int32))) n (1 : Int32) (0 : Int32) (0 : Int32)))])) _
                        refine XS.ifNo X113.here hx rfl (hb hby at_126) rfl ((if0 _ _).trans (feq hc126_114).1) ?_
                        refine XS.iconst X113.here hx rfl (hb hby at_129) ?_
                        refine XS.goto X113.here hx rfl (pc0 := 130) (pc' := 134) rfl (hb hby at_130) (by decide) (by decide) ?_
                        exact kt
                      show own_End p e below s (T113.setTop (mkF m 134 #[.val (.int p1), .val (.int p2), .val (.int p3), .val (.int p4), .val (.int p5), .val (.int n), .val (.int (0 : Int32)), .val (.int (1 : Int32)), .val (.int (1 : Int32)), .val (.int xa), .val (.int xb), .val (.int xq), .val (.ref b81), .val (.int ok1), .unset] [(.int (1 : Int32))])) (Q0 Z p1 p2 p3 p4 p5 h0 n0) room_1.cells room_1.slots
                      exact j134 _ _ X113 e113 N113 (1 : Int32)  (hj.trans (by simp only [own_law_104bbb, if_neg hc116_112, if_neg hc126_114]))
                by_cases hc96_115 : (own_isN xq (fun _ => (0 : Int32)) n (1 : Int32) (0 : Int32) (0 : Int32)) = (0 : Int32)
                · refine own_pre (A := T90.setTop (mkF m 104 #[.val (.int p1), .val (.int p2), .val (.int p3), .val (.int p4), .val (.int p5), .val (.int n), .val (.int (0 : Int32)), .val (.int (1 : Int32)), .val (.int (1 : Int32)), .val (.int xa), .val (.int xb), .val (.int xq), .val (.ref b81), .unset, .unset] [(.int (1 : Int32))])) (fun tt kt => ?_) ?_
                  · show Steps p.tables e below (T90.setTop (mkF m 96 #[.val (.int p1), .val (.int p2), .val (.int p3), .val (.int p4), .val (.int p5), .val (.int n), .val (.int (0 : Int32)), .val (.int (1 : Int32)), .val (.int (1 : Int32)), .val (.int xa), .val (.int xb), .val (.int xq), .val (.ref b81), .unset, .unset] [(.int (own_isN xq (fun _ => (0 : Int32)) n (1 : Int32) (0 : Int32) (0 : Int32)))])) _
                    refine XS.ifNo X90.here hx rfl (hb hby at_96) rfl ((if0 _ _).trans (teq hc96_115).2) ?_
                    refine XS.iconst X90.here hx rfl (hb hby at_99) ?_
                    refine XS.goto X90.here hx rfl (pc0 := 100) (pc' := 104) rfl (hb hby at_100) (by decide) (by decide) ?_
                    exact kt
                  show own_End p e below s (T90.setTop (mkF m 104 #[.val (.int p1), .val (.int p2), .val (.int p3), .val (.int p4), .val (.int p5), .val (.int n), .val (.int (0 : Int32)), .val (.int (1 : Int32)), .val (.int (1 : Int32)), .val (.int xa), .val (.int xb), .val (.int xq), .val (.ref b81), .unset, .unset] [(.int (1 : Int32))])) (Q0 Z p1 p2 p3 p4 p5 h0 n0) room_1.cells room_1.slots
                  exact j104 _ _ X90 e90 N90 (1 : Int32)  (hj.trans (by simp only [own_law_76bbb, if_pos hc96_115]))
                · refine own_pre (A := T90.setTop (mkF m 104 #[.val (.int p1), .val (.int p2), .val (.int p3), .val (.int p4), .val (.int p5), .val (.int n), .val (.int (0 : Int32)), .val (.int (1 : Int32)), .val (.int (1 : Int32)), .val (.int xa), .val (.int xb), .val (.int xq), .val (.ref b81), .unset, .unset] [(.int (0 : Int32))])) (fun tt kt => ?_) ?_
                  · show Steps p.tables e below (T90.setTop (mkF m 96 #[.val (.int p1), .val (.int p2), .val (.int p3), .val (.int p4), .val (.int p5), .val (.int n), .val (.int (0 : Int32)), .val (.int (1 : Int32)), .val (.int (1 : Int32)), .val (.int xa), .val (.int xb), .val (.int xq), .val (.ref b81), .unset, .unset] [(.int (own_isN xq (fun _ => (0 : Int32)) n (1 : Int32) (0 : Int32) (0 : Int32)))])) _
                    refine XS.ifYes X90.here hx rfl (pc0 := 96) (pc' := 103) rfl (hb hby at_96) rfl ((if0 _ _).trans (feq hc96_115).2) (by decide) (by decide) ?_
                    refine XS.iconst X90.here hx rfl (hb hby at_103) ?_
                    exact kt
                  show own_End p e below s (T90.setTop (mkF m 104 #[.val (.int p1), .val (.int p2), .val (.int p3), .val (.int p4), .val (.int p5), .val (.int n), .val (.int (0 : Int32)), .val (.int (1 : Int32)), .val (.int (1 : Int32)), .val (.int xa), .val (.int xb), .val (.int xq), .val (.ref b81), .unset, .unset] [(.int (0 : Int32))])) (Q0 Z p1 p2 p3 p4 p5 h0 n0) room_1.cells room_1.slots
                  exact j104 _ _ X90 e90 N90 (0 : Int32)  (hj.trans (by simp only [own_law_76bbb, if_neg hc96_115]))
              exact j76 _ _ Xj66 ej66 Nj66 ((p5 &&& (2147483647 : Int32)) % n) (own_i p5 n hn0).1 (own_i p5 n hn0).2 (hj.trans (by simp only [own_law_66bbb]))
            exact j66 _ _ Xj57 ej57 Nj57 ((p4 &&& (2147483647 : Int32)) % n) (own_i p4 n hn0).1 (own_i p4 n hn0).2 (hj.trans (by simp only [own_law_57bbb]))
          exact j57 _ _ Xj9 ej9 Nj9 ((p3 &&& (2147483647 : Int32)) % n) (own_i p3 n hn0).1 (own_i p3 n hn0).2 (hj.trans (by simp only [own_law_9, if_pos hc12_1, if_neg hc25_2, if_neg hc38_52]))
    · refine own_pre (A := Tj9.setTop (mkF m 25 #[.val (.int p1), .val (.int p2), .val (.int p3), .val (.int p4), .val (.int p5), .val (.int n), .val (.int (1 : Int32)), .unset, .unset, .unset, .unset, .unset, .unset, .unset, .unset] [(.int (p2 &&& (2 : Int32)))])) (fun tt kt => ?_) ?_
      · show Steps p.tables e below (Tj9.setTop (mkF m 12 #[.val (.int p1), .val (.int p2), .val (.int p3), .val (.int p4), .val (.int p5), .val (.int n), .unset, .unset, .unset, .unset, .unset, .unset, .unset, .unset, .unset] [(.int (p2 &&& (1 : Int32)))])) _
        refine XS.ifNo Xj9.here hx rfl (hb hby at_12) rfl ((if0 _ _).trans (feq hc12_1).1) ?_
        refine XS.iconst Xj9.here hx rfl (hb hby at_15) ?_
        refine XS.goto Xj9.here hx rfl (pc0 := 16) (pc' := 20) rfl (hb hby at_16) (by decide) (by decide) ?_
        refine XS.istore Xj9.here hx rfl (hb hby at_20) rfl (l' := #[.val (.int p1), .val (.int p2), .val (.int p3), .val (.int p4), .val (.int p5), .val (.int n), .val (.int (1 : Int32)), .unset, .unset, .unset, .unset, .unset, .unset, .unset, .unset]) rfl ?_
        refine XS.iloadN Xj9.here hx rfl (hb hby at_22) rfl ?_
        refine XS.iconst Xj9.here hx rfl (hb hby at_23) ?_
        refine XS.iand Xj9.here hx rfl (hb hby at_24) rfl ?_
        exact kt
      show own_End p e below s (Tj9.setTop (mkF m 25 #[.val (.int p1), .val (.int p2), .val (.int p3), .val (.int p4), .val (.int p5), .val (.int n), .val (.int (1 : Int32)), .unset, .unset, .unset, .unset, .unset, .unset, .unset, .unset] [(.int (p2 &&& (2 : Int32)))])) (Q0 Z p1 p2 p3 p4 p5 h0 n0) room_1.cells room_1.slots
      by_cases hc25_116 : (p2 &&& (2 : Int32)) = (0 : Int32)
      · refine own_pre (A := Tj9.setTop (mkF m 38 #[.val (.int p1), .val (.int p2), .val (.int p3), .val (.int p4), .val (.int p5), .val (.int n), .val (.int (1 : Int32)), .val (.int (0 : Int32)), .unset, .unset, .unset, .unset, .unset, .unset, .unset] [(.int (p2 &&& (4 : Int32)))])) (fun tt kt => ?_) ?_
        · show Steps p.tables e below (Tj9.setTop (mkF m 25 #[.val (.int p1), .val (.int p2), .val (.int p3), .val (.int p4), .val (.int p5), .val (.int n), .val (.int (1 : Int32)), .unset, .unset, .unset, .unset, .unset, .unset, .unset, .unset] [(.int (p2 &&& (2 : Int32)))])) _
          refine XS.ifYes Xj9.here hx rfl (pc0 := 25) (pc' := 32) rfl (hb hby at_25) rfl ((if0 _ _).trans (teq hc25_116).1) (by decide) (by decide) ?_
          refine XS.iconst Xj9.here hx rfl (hb hby at_32) ?_
          refine XS.istore Xj9.here hx rfl (hb hby at_33) rfl (l' := #[.val (.int p1), .val (.int p2), .val (.int p3), .val (.int p4), .val (.int p5), .val (.int n), .val (.int (1 : Int32)), .val (.int (0 : Int32)), .unset, .unset, .unset, .unset, .unset, .unset, .unset]) rfl ?_
          refine XS.iloadN Xj9.here hx rfl (hb hby at_35) rfl ?_
          refine XS.iconst Xj9.here hx rfl (hb hby at_36) ?_
          refine XS.iand Xj9.here hx rfl (hb hby at_37) rfl ?_
          exact kt
        show own_End p e below s (Tj9.setTop (mkF m 38 #[.val (.int p1), .val (.int p2), .val (.int p3), .val (.int p4), .val (.int p5), .val (.int n), .val (.int (1 : Int32)), .val (.int (0 : Int32)), .unset, .unset, .unset, .unset, .unset, .unset, .unset] [(.int (p2 &&& (4 : Int32)))])) (Q0 Z p1 p2 p3 p4 p5 h0 n0) room_1.cells room_1.slots
        by_cases hc38_117 : (p2 &&& (4 : Int32)) = (0 : Int32)
        · refine own_pre (A := Tj9.setTop (mkF m 57 #[.val (.int p1), .val (.int p2), .val (.int p3), .val (.int p4), .val (.int p5), .val (.int n), .val (.int (1 : Int32)), .val (.int (0 : Int32)), .val (.int (0 : Int32)), .val (.int ((p3 &&& (2147483647 : Int32)) % n)), .unset, .unset, .unset, .unset, .unset] [])) (fun tt kt => ?_) ?_
          · show Steps p.tables e below (Tj9.setTop (mkF m 38 #[.val (.int p1), .val (.int p2), .val (.int p3), .val (.int p4), .val (.int p5), .val (.int n), .val (.int (1 : Int32)), .val (.int (0 : Int32)), .unset, .unset, .unset, .unset, .unset, .unset, .unset] [(.int (p2 &&& (4 : Int32)))])) _
            refine XS.ifYes Xj9.here hx rfl (pc0 := 38) (pc' := 45) rfl (hb hby at_38) rfl ((if0 _ _).trans (teq hc38_117).1) (by decide) (by decide) ?_
            refine XS.iconst Xj9.here hx rfl (hb hby at_45) ?_
            refine XS.istore Xj9.here hx rfl (hb hby at_46) rfl (l' := #[.val (.int p1), .val (.int p2), .val (.int p3), .val (.int p4), .val (.int p5), .val (.int n), .val (.int (1 : Int32)), .val (.int (0 : Int32)), .val (.int (0 : Int32)), .unset, .unset, .unset, .unset, .unset, .unset]) rfl ?_
            refine XS.iloadN Xj9.here hx rfl (hb hby at_48) rfl ?_
            show Steps p.tables e below (Tj9.setTop (mkF m 49 #[.val (.int p1), .val (.int p2), .val (.int p3), .val (.int p4), .val (.int p5), .val (.int n), .val (.int (1 : Int32)), .val (.int (0 : Int32)), .val (.int (0 : Int32)), .unset, .unset, .unset, .unset, .unset, .unset] [(.int p3)])) _
            refine Xj9.ldcInt hx hown (mvT hZ (hw _ (List.mem_of_getElem? (i := 0) rfl))) (g := (mkF m 49 #[.val (.int p1), .val (.int p2), .val (.int p3), .val (.int p4), .val (.int p5), .val (.int n), .val (.int (1 : Int32)), .val (.int (0 : Int32)), .val (.int (0 : Int32)), .unset, .unset, .unset, .unset, .unset, .unset] [(.int p3)])) rfl (hb hby at_49) _ ?_
            show Steps p.tables e below (Tj9.setTop (mkF m 51 #[.val (.int p1), .val (.int p2), .val (.int p3), .val (.int p4), .val (.int p5), .val (.int n), .val (.int (1 : Int32)), .val (.int (0 : Int32)), .val (.int (0 : Int32)), .unset, .unset, .unset, .unset, .unset, .unset] [(.int (2147483647 : Int32)), (.int p3)])) _
            refine XS.iand Xj9.here hx rfl (hb hby at_51) rfl ?_
            refine XS.iload Xj9.here hx rfl (hb hby at_52) rfl ?_
            refine iremM Xj9 hx rfl (hb hby at_54) rfl (own_nz hn0) ?_
            refine XS.istore Xj9.here hx rfl (hb hby at_55) rfl (l' := #[.val (.int p1), .val (.int p2), .val (.int p3), .val (.int p4), .val (.int p5), .val (.int n), .val (.int (1 : Int32)), .val (.int (0 : Int32)), .val (.int (0 : Int32)), .val (.int ((p3 &&& (2147483647 : Int32)) % n)), .unset, .unset, .unset, .unset, .unset]) rfl ?_
            exact kt
          show own_End p e below s (Tj9.setTop (mkF m 57 #[.val (.int p1), .val (.int p2), .val (.int p3), .val (.int p4), .val (.int p5), .val (.int n), .val (.int (1 : Int32)), .val (.int (0 : Int32)), .val (.int (0 : Int32)), .val (.int ((p3 &&& (2147483647 : Int32)) % n)), .unset, .unset, .unset, .unset, .unset] [])) (Q0 Z p1 p2 p3 p4 p5 h0 n0) room_1.cells room_1.slots
          have j57 : ∀ (Tj57 : State) (Lj57 : List Loc) (Xj57 : Stand p l e room_1 s m #[(.int p1), (.int p2), (.int p3), (.int p4), (.int p5)] below meth c Tj57 Lj57 0 0) (ej57 : Tj57.heap = h0) (Nj57 : Fr n0 Lj57) (xa : Int32) (hxa0 : 0 ≤ xa.toInt) (hxa1 : xa.toInt < n.toInt), own_law p1 p2 p3 p4 p5 = own_law_57bbbb p1 p2 p3 p4 p5 n xa → own_End p e below s (Tj57.setTop (mkF m 57 #[.val (.int p1), .val (.int p2), .val (.int p3), .val (.int p4), .val (.int p5), .val (.int n), .val (.int (1 : Int32)), .val (.int (0 : Int32)), .val (.int (0 : Int32)), .val (.int xa), .unset, .unset, .unset, .unset, .unset] [])) (Q0 Z p1 p2 p3 p4 p5 h0 n0) room_1.cells room_1.slots := by
            intro Tj57 Lj57 Xj57 ej57 Nj57 xa hxa0 hxa1 hj
            refine own_pre (A := Tj57.setTop (mkF m 66 #[.val (.int p1), .val (.int p2), .val (.int p3), .val (.int p4), .val (.int p5), .val (.int n), .val (.int (1 : Int32)), .val (.int (0 : Int32)), .val (.int (0 : Int32)), .val (.int xa), .val (.int ((p4 &&& (2147483647 : Int32)) % n)), .unset, .unset, .unset, .unset] [])) (fun tt kt => ?_) ?_
            · show Steps p.tables e below (Tj57.setTop (mkF m 57 #[.val (.int p1), .val (.int p2), .val (.int p3), .val (.int p4), .val (.int p5), .val (.int n), .val (.int (1 : Int32)), .val (.int (0 : Int32)), .val (.int (0 : Int32)), .val (.int xa), .unset, .unset, .unset, .unset, .unset] [])) _
              refine XS.iloadN Xj57.here hx rfl (hb hby at_57) rfl ?_
              show Steps p.tables e below (Tj57.setTop (mkF m 58 #[.val (.int p1), .val (.int p2), .val (.int p3), .val (.int p4), .val (.int p5), .val (.int n), .val (.int (1 : Int32)), .val (.int (0 : Int32)), .val (.int (0 : Int32)), .val (.int xa), .unset, .unset, .unset, .unset, .unset] [(.int p4)])) _
              refine Xj57.ldcInt hx hown (mvT hZ (hw _ (List.mem_of_getElem? (i := 0) rfl))) (g := (mkF m 58 #[.val (.int p1), .val (.int p2), .val (.int p3), .val (.int p4), .val (.int p5), .val (.int n), .val (.int (1 : Int32)), .val (.int (0 : Int32)), .val (.int (0 : Int32)), .val (.int xa), .unset, .unset, .unset, .unset, .unset] [(.int p4)])) rfl (hb hby at_58) _ ?_
              show Steps p.tables e below (Tj57.setTop (mkF m 60 #[.val (.int p1), .val (.int p2), .val (.int p3), .val (.int p4), .val (.int p5), .val (.int n), .val (.int (1 : Int32)), .val (.int (0 : Int32)), .val (.int (0 : Int32)), .val (.int xa), .unset, .unset, .unset, .unset, .unset] [(.int (2147483647 : Int32)), (.int p4)])) _
              refine XS.iand Xj57.here hx rfl (hb hby at_60) rfl ?_
              refine XS.iload Xj57.here hx rfl (hb hby at_61) rfl ?_
              refine iremM Xj57 hx rfl (hb hby at_63) rfl (own_nz hn0) ?_
              refine XS.istore Xj57.here hx rfl (hb hby at_64) rfl (l' := #[.val (.int p1), .val (.int p2), .val (.int p3), .val (.int p4), .val (.int p5), .val (.int n), .val (.int (1 : Int32)), .val (.int (0 : Int32)), .val (.int (0 : Int32)), .val (.int xa), .val (.int ((p4 &&& (2147483647 : Int32)) % n)), .unset, .unset, .unset, .unset]) rfl ?_
              exact kt
            show own_End p e below s (Tj57.setTop (mkF m 66 #[.val (.int p1), .val (.int p2), .val (.int p3), .val (.int p4), .val (.int p5), .val (.int n), .val (.int (1 : Int32)), .val (.int (0 : Int32)), .val (.int (0 : Int32)), .val (.int xa), .val (.int ((p4 &&& (2147483647 : Int32)) % n)), .unset, .unset, .unset, .unset] [])) (Q0 Z p1 p2 p3 p4 p5 h0 n0) room_1.cells room_1.slots
            have j66 : ∀ (Tj66 : State) (Lj66 : List Loc) (Xj66 : Stand p l e room_1 s m #[(.int p1), (.int p2), (.int p3), (.int p4), (.int p5)] below meth c Tj66 Lj66 0 0) (ej66 : Tj66.heap = h0) (Nj66 : Fr n0 Lj66) (xb : Int32) (hxb0 : 0 ≤ xb.toInt) (hxb1 : xb.toInt < n.toInt), own_law p1 p2 p3 p4 p5 = own_law_66bbbb p1 p2 p3 p4 p5 n xa xb → own_End p e below s (Tj66.setTop (mkF m 66 #[.val (.int p1), .val (.int p2), .val (.int p3), .val (.int p4), .val (.int p5), .val (.int n), .val (.int (1 : Int32)), .val (.int (0 : Int32)), .val (.int (0 : Int32)), .val (.int xa), .val (.int xb), .unset, .unset, .unset, .unset] [])) (Q0 Z p1 p2 p3 p4 p5 h0 n0) room_1.cells room_1.slots := by
              intro Tj66 Lj66 Xj66 ej66 Nj66 xb hxb0 hxb1 hj
              refine own_pre (A := Tj66.setTop (mkF m 76 #[.val (.int p1), .val (.int p2), .val (.int p3), .val (.int p4), .val (.int p5), .val (.int n), .val (.int (1 : Int32)), .val (.int (0 : Int32)), .val (.int (0 : Int32)), .val (.int xa), .val (.int xb), .val (.int ((p5 &&& (2147483647 : Int32)) % n)), .unset, .unset, .unset] [])) (fun tt kt => ?_) ?_
              · show Steps p.tables e below (Tj66.setTop (mkF m 66 #[.val (.int p1), .val (.int p2), .val (.int p3), .val (.int p4), .val (.int p5), .val (.int n), .val (.int (1 : Int32)), .val (.int (0 : Int32)), .val (.int (0 : Int32)), .val (.int xa), .val (.int xb), .unset, .unset, .unset, .unset] [])) _
                refine XS.iload Xj66.here hx rfl (hb hby at_66) rfl ?_
                show Steps p.tables e below (Tj66.setTop (mkF m 68 #[.val (.int p1), .val (.int p2), .val (.int p3), .val (.int p4), .val (.int p5), .val (.int n), .val (.int (1 : Int32)), .val (.int (0 : Int32)), .val (.int (0 : Int32)), .val (.int xa), .val (.int xb), .unset, .unset, .unset, .unset] [(.int p5)])) _
                refine Xj66.ldcInt hx hown (mvT hZ (hw _ (List.mem_of_getElem? (i := 0) rfl))) (g := (mkF m 68 #[.val (.int p1), .val (.int p2), .val (.int p3), .val (.int p4), .val (.int p5), .val (.int n), .val (.int (1 : Int32)), .val (.int (0 : Int32)), .val (.int (0 : Int32)), .val (.int xa), .val (.int xb), .unset, .unset, .unset, .unset] [(.int p5)])) rfl (hb hby at_68) _ ?_
                show Steps p.tables e below (Tj66.setTop (mkF m 70 #[.val (.int p1), .val (.int p2), .val (.int p3), .val (.int p4), .val (.int p5), .val (.int n), .val (.int (1 : Int32)), .val (.int (0 : Int32)), .val (.int (0 : Int32)), .val (.int xa), .val (.int xb), .unset, .unset, .unset, .unset] [(.int (2147483647 : Int32)), (.int p5)])) _
                refine XS.iand Xj66.here hx rfl (hb hby at_70) rfl ?_
                refine XS.iload Xj66.here hx rfl (hb hby at_71) rfl ?_
                refine iremM Xj66 hx rfl (hb hby at_73) rfl (own_nz hn0) ?_
                refine XS.istore Xj66.here hx rfl (hb hby at_74) rfl (l' := #[.val (.int p1), .val (.int p2), .val (.int p3), .val (.int p4), .val (.int p5), .val (.int n), .val (.int (1 : Int32)), .val (.int (0 : Int32)), .val (.int (0 : Int32)), .val (.int xa), .val (.int xb), .val (.int ((p5 &&& (2147483647 : Int32)) % n)), .unset, .unset, .unset]) rfl ?_
                exact kt
              show own_End p e below s (Tj66.setTop (mkF m 76 #[.val (.int p1), .val (.int p2), .val (.int p3), .val (.int p4), .val (.int p5), .val (.int n), .val (.int (1 : Int32)), .val (.int (0 : Int32)), .val (.int (0 : Int32)), .val (.int xa), .val (.int xb), .val (.int ((p5 &&& (2147483647 : Int32)) % n)), .unset, .unset, .unset] [])) (Q0 Z p1 p2 p3 p4 p5 h0 n0) room_1.cells room_1.slots
              have j76 : ∀ (Tj76 : State) (Lj76 : List Loc) (Xj76 : Stand p l e room_1 s m #[(.int p1), (.int p2), (.int p3), (.int p4), (.int p5)] below meth c Tj76 Lj76 0 0) (ej76 : Tj76.heap = h0) (Nj76 : Fr n0 Lj76) (xq : Int32) (hxq0 : 0 ≤ xq.toInt) (hxq1 : xq.toInt < n.toInt), own_law p1 p2 p3 p4 p5 = own_law_76bbbb p1 p2 p3 p4 p5 n xa xb xq → own_End p e below s (Tj76.setTop (mkF m 76 #[.val (.int p1), .val (.int p2), .val (.int p3), .val (.int p4), .val (.int p5), .val (.int n), .val (.int (1 : Int32)), .val (.int (0 : Int32)), .val (.int (0 : Int32)), .val (.int xa), .val (.int xb), .val (.int xq), .unset, .unset, .unset] [])) (Q0 Z p1 p2 p3 p4 p5 h0 n0) room_1.cells room_1.slots := by
                intro Tj76 Lj76 Xj76 ej76 Nj76 xq hxq0 hxq1 hj
                obtain ⟨T118, h118, X118, e118, E118, A118, D118, -, st118⟩ := newO Xj76 hx hZ hown (hw _ (List.mem_of_getElem? (i := 1) rfl)) (hw _ (List.mem_of_getElem? (i := 2) rfl)) (hw _ (List.mem_of_getElem? (i := 3) rfl)) ej76 (g := (mkF m 76 #[.val (.int p1), .val (.int p2), .val (.int p3), .val (.int p4), .val (.int p5), .val (.int n), .val (.int (1 : Int32)), .val (.int (0 : Int32)), .val (.int (0 : Int32)), .val (.int xa), .val (.int xb), .val (.int xq), .unset, .unset, .unset] [])) rfl (hb hby at_76) (by decide) (by decide)
                obtain ⟨b118, g118⟩ : ∃ z, z = h0.size := ⟨_, rfl⟩
                rw [← g118] at A118 D118 st118
                have g_b118 : n0 ≤ b118 := Nat.le_trans Z0 (Nat.le_of_eq g118.symm)
                have sz_b118 : h0.size ≤ b118 := Nat.le_trans (show Keep h0 h0 [] from (Keep.refl h0 _)).1 (Nat.le_of_eq g118.symm)
                have K118 : Keep h0 h118 [] := Keep.ext (Keep.refl h0 _) E118
                have Z118 : n0 ≤ h118.size := Nat.le_trans Z0 E118.1
                have F_stamp_b118 : Fld Z h118 b118 "com/example/libfacet/libfacet/regex/StateSet" "stamp" "I" (.int (0 : Int32)) := D118 (Or.inl (hw _ (List.mem_of_getElem? (i := 11) rfl))) (ty := .int) (by decide)
                have F_stack_b118 : Fld Z h118 b118 "com/example/libfacet/libfacet/regex/StateSet" "stack" "[I" .null := D118 (Or.inl (hw _ (List.mem_of_getElem? (i := 14) rfl))) (ty := (.array .int)) (by decide)
                have F_instructions_b118 : Fld Z h118 b118 "com/example/libfacet/libfacet/regex/StateSet" "instructions" "I" (.int (0 : Int32)) := D118 (Or.inr (hw _ (List.mem_of_getElem? (i := 16) rfl))) (ty := .int) (by decide)
                have F_members_b118 : Fld Z h118 b118 "com/example/libfacet/libfacet/regex/StateSet" "members" "[I" .null := D118 (Or.inl (hw _ (List.mem_of_getElem? (i := 18) rfl))) (ty := (.array .int)) (by decide)
                have F_marks_b118 : Fld Z h118 b118 "com/example/libfacet/libfacet/regex/StateSet" "marks" "[C" .null := D118 (Or.inr (hw _ (List.mem_of_getElem? (i := 20) rfl))) (ty := (.array .char)) (by decide)
                have F_markBits_b118 : Fld Z h118 b118 "com/example/libfacet/libfacet/regex/StateSet" "markBits" "[J" .null := D118 (Or.inr (hw _ (List.mem_of_getElem? (i := 23) rfl))) (ty := (.array .long)) (by decide)
                have F_marked_b118 : Fld Z h118 b118 "com/example/libfacet/libfacet/regex/StateSet" "marked" "[I" .null := D118 (Or.inl (hw _ (List.mem_of_getElem? (i := 25) rfl))) (ty := (.array .int)) (by decide)
                have F_markedCount_b118 : Fld Z h118 b118 "com/example/libfacet/libfacet/regex/StateSet" "markedCount" "I" (.int (0 : Int32)) := D118 (Or.inl (hw _ (List.mem_of_getElem? (i := 37) rfl))) (ty := .int) (by decide)
                have F_size_b118 : Fld Z h118 b118 "com/example/libfacet/libfacet/regex/StateSet" "size" "I" (.int (0 : Int32)) := D118 (Or.inl (hw _ (List.mem_of_getElem? (i := 44) rfl))) (ty := .int) (by decide)
                obtain ⟨_, _, ⟨T119, L119, k119, n119⟩, -, X119, ⟨Lc119, hQ119, l119, y119, z119⟩, st119⟩ := X118.specialBack hx (y := (⟨"com/example/libfacet/libfacet/regex/StateSet", "<init>", "(IZ)V"⟩ : MethodName)) rfl hown (mvT hZ (hw _ (List.mem_of_getElem? (i := 4) rfl))) (mvT hZ (hw _ (List.mem_of_getElem? (i := 5) rfl))) (mvT hZ (hw _ (List.mem_of_getElem? (i := 6) rfl))) (by decide) (backOf (W := 1) (rm1L l Z a0 hw [] b118 n (0 : Int32) (0 : Int32) (0 : Int32) (0 : Int32) h118 n0 Z118 ⟨A118, F_stamp_b118, F_stack_b118, F_instructions_b118, F_members_b118, F_marks_b118, F_markBits_b118, F_marked_b118, F_markedCount_b118, F_size_b118⟩ g_b118 hn0 hn1) hZ (hw _ (List.mem_of_getElem? (i := 6) rfl)) (hw _ (List.mem_of_getElem? (i := 3) rfl)) (by decide) (by decide)) (g := (mkF m 84 #[.val (.int p1), .val (.int p2), .val (.int p3), .val (.int p4), .val (.int p5), .val (.int n), .val (.int (1 : Int32)), .val (.int (0 : Int32)), .val (.int (0 : Int32)), .val (.int xa), .val (.int xb), .val (.int xq), .unset, .unset, .unset] [(.int (1 : Int32)), (.int n), (.ref b118), (.ref b118)])) rfl (by rw [hml]; rfl) (Steps.refl _) (a := b118) (argsL := [(.int n), (.int (1 : Int32))]) (rest := [(.ref b118)]) (lenOf pd_0_0 rfl) rfl (by show 2 * 0 + _ ≤ _; exact Nat.le_of_eq rfl) (hb hby at_84) (fun _ _ => ⟨rfl, e118, (by decide : 1 + 3 ≤ _), (by decide : 10 + 36 ≤ _)⟩)
                dsimp only [Pt.U, Pt.locs, Pt.cells, Pt.slots] at X119 l119 y119 z119 st119 hQ119
                subst l119 y119 z119
                obtain ⟨rfl, N119q, c119_ab, c119_am, Kq119, O119_0, szq_c119_ab, P119_ab_0, szq_c119_am, P119_am_0, ne_c119_ab_c119_am⟩ := hQ119
                have ne_b118_c119_ab : b118 ≠ c119_ab := Nat.ne_of_lt (Nat.lt_of_lt_of_le A118.lt szq_c119_ab)
                have g_c119_ab : n0 ≤ c119_ab := Nat.le_trans Z118 szq_c119_ab
                have sz_c119_ab : h0.size ≤ c119_ab := Nat.le_trans (show Keep h0 h118 [] from K118).1 szq_c119_ab
                have ne_b118_c119_am : b118 ≠ c119_am := Nat.ne_of_lt (Nat.lt_of_lt_of_le A118.lt szq_c119_am)
                have g_c119_am : n0 ≤ c119_am := Nat.le_trans Z118 szq_c119_am
                have sz_c119_am : h0.size ≤ c119_am := Nat.le_trans (show Keep h0 h118 [] from K118).1 szq_c119_am
                have N119 := Fr.app Nj76 N119q
                have fE_b118_x119 := (A118.keep Kq119)
                have K119 : Keep h0 T119.heap [] := Keep.trans K118 Kq119 (allS (Or.inr sz_b118) all0)
                have Z119 : n0 ≤ T119.heap.size := Nat.le_trans Z118 Kq119.1
                obtain ⟨E_b118_120, F_markBits_b118_121, F_marked_b118_122, F_markedCount_b118_123, F_size_b118_124⟩ := O119_0
                obtain ⟨cq125, kq125, q125a, q125b, q125c⟩ := isOf hZ rfl E_b118_120
                obtain ⟨_, _, ⟨T125, L125, k125, n125⟩, -, X125, ⟨Lc125, hQ125, l125, y125, z125⟩, st125⟩ := X119.virtualBack hx (y := (⟨"com/example/libfacet/libfacet/regex/StateSet", "isMarked", "(I)Z"⟩ : MethodName)) (z := (⟨"com/example/libfacet/libfacet/regex/StateSet", "isMarked", "(I)Z"⟩ : MethodName)) hown (mvT hZ (hw _ (List.mem_of_getElem? (i := 26) rfl))) (mvT hZ (hw _ (List.mem_of_getElem? (i := 27) rfl))) (notFace_of_selects (args := #[]) (mvT hZ (hw _ (List.mem_of_getElem? (i := 29) rfl)))) (mvT hZ (hw _ (List.mem_of_getElem? (i := 29) rfl))) (mvT hZ (hw _ (List.mem_of_getElem? (i := 28) rfl))) (by decide) (backOf (W := 0) (rm3L l Z a0 hw [] b118 xq c119_ab c119_am (0 : Int32) (0 : Int32) (fun _ => (0 : Int64)) (((n + (63 : Int32)).toUInt32 >>> ((6 : Int32) &&& 31).toUInt32).toInt32) T119.heap n0 Z119 ⟨E_b118_120, F_markBits_b118_121, F_marked_b118_122, F_markedCount_b118_123, F_size_b118_124⟩ P119_ab_0 (own_wd hn0 hn1 hxq0 hxq1)) hZ (hw _ (List.mem_of_getElem? (i := 30) rfl)) (hw _ (List.mem_of_getElem? (i := 3) rfl)) (by decide) (by decide)) q125a q125c (g := (mkF m 93 #[.val (.int p1), .val (.int p2), .val (.int p3), .val (.int p4), .val (.int p5), .val (.int n), .val (.int (1 : Int32)), .val (.int (0 : Int32)), .val (.int (0 : Int32)), .val (.int xa), .val (.int xb), .val (.int xq), .val (.ref b118), .unset, .unset] [(.int xq), (.ref b118)])) rfl (by rw [hml]; rfl) (Steps.refl _) (argsL := [(.int xq)]) (rest := []) (lenOf pd_0_1 rfl) rfl (by show 2 * 0 + _ ≤ _; exact Nat.le_of_eq rfl) (hb hby at_93) (fun _ _ => ⟨rfl, rfl, (by decide : 4 + 0 ≤ _), (by decide : 46 + 0 ≤ _)⟩)
                dsimp only [Pt.U, Pt.locs, Pt.cells, Pt.slots] at X125 l125 y125 z125 st125 hQ125
                subst l125 y125 z125
                obtain ⟨rfl, N125q, e125⟩ := hQ125
                have N125 := Fr.app N119 N125q
                refine own_pre (A := T125.setTop (mkF m 96 #[.val (.int p1), .val (.int p2), .val (.int p3), .val (.int p4), .val (.int p5), .val (.int n), .val (.int (1 : Int32)), .val (.int (0 : Int32)), .val (.int (0 : Int32)), .val (.int xa), .val (.int xb), .val (.int xq), .val (.ref b118), .unset, .unset] [(.int (own_isL xq (fun _ => (0 : Int64)) (((n + (63 : Int32)).toUInt32 >>> ((6 : Int32) &&& 31).toUInt32).toInt32) (0 : Int32) (0 : Int32)))])) (fun tt kt => ?_) ?_
                · show Steps p.tables e below (Tj76.setTop (mkF m 76 #[.val (.int p1), .val (.int p2), .val (.int p3), .val (.int p4), .val (.int p5), .val (.int n), .val (.int (1 : Int32)), .val (.int (0 : Int32)), .val (.int (0 : Int32)), .val (.int xa), .val (.int xb), .val (.int xq), .unset, .unset, .unset] [])) _
                  refine st118 _ ?_
                  show Steps p.tables e below (T118.setTop (mkF m 79 #[.val (.int p1), .val (.int p2), .val (.int p3), .val (.int p4), .val (.int p5), .val (.int n), .val (.int (1 : Int32)), .val (.int (0 : Int32)), .val (.int (0 : Int32)), .val (.int xa), .val (.int xb), .val (.int xq), .unset, .unset, .unset] [(.ref b118)])) _
                  refine XS.dup X118.here hx rfl (hb hby at_79) rfl rfl ?_
                  refine XS.iload X118.here hx rfl (hb hby at_80) rfl ?_
                  refine XS.iload X118.here hx rfl (hb hby at_82) rfl ?_
                  show Steps p.tables e below (T118.setTop (mkF m 84 #[.val (.int p1), .val (.int p2), .val (.int p3), .val (.int p4), .val (.int p5), .val (.int n), .val (.int (1 : Int32)), .val (.int (0 : Int32)), .val (.int (0 : Int32)), .val (.int xa), .val (.int xb), .val (.int xq), .unset, .unset, .unset] [(.int (1 : Int32)), (.int n), (.ref b118), (.ref b118)])) _
                  refine st119.trans ?_
                  show Steps p.tables e below (T119.setTop (mkF m 87 #[.val (.int p1), .val (.int p2), .val (.int p3), .val (.int p4), .val (.int p5), .val (.int n), .val (.int (1 : Int32)), .val (.int (0 : Int32)), .val (.int (0 : Int32)), .val (.int xa), .val (.int xb), .val (.int xq), .unset, .unset, .unset] [(.ref b118)])) _
                  refine XS.astore X119.here hx rfl (hb hby at_87) rfl rfl (l' := #[.val (.int p1), .val (.int p2), .val (.int p3), .val (.int p4), .val (.int p5), .val (.int n), .val (.int (1 : Int32)), .val (.int (0 : Int32)), .val (.int (0 : Int32)), .val (.int xa), .val (.int xb), .val (.int xq), .val (.ref b118), .unset, .unset]) rfl ?_
                  refine XS.aload X119.here hx rfl (hb hby at_89) rfl rfl ?_
                  refine XS.iload X119.here hx rfl (hb hby at_91) rfl ?_
                  show Steps p.tables e below (T119.setTop (mkF m 93 #[.val (.int p1), .val (.int p2), .val (.int p3), .val (.int p4), .val (.int p5), .val (.int n), .val (.int (1 : Int32)), .val (.int (0 : Int32)), .val (.int (0 : Int32)), .val (.int xa), .val (.int xb), .val (.int xq), .val (.ref b118), .unset, .unset] [(.int xq), (.ref b118)])) _
                  refine st125.trans ?_
                  exact kt
                show own_End p e below s (T125.setTop (mkF m 96 #[.val (.int p1), .val (.int p2), .val (.int p3), .val (.int p4), .val (.int p5), .val (.int n), .val (.int (1 : Int32)), .val (.int (0 : Int32)), .val (.int (0 : Int32)), .val (.int xa), .val (.int xb), .val (.int xq), .val (.ref b118), .unset, .unset] [(.int (own_isL xq (fun _ => (0 : Int64)) (((n + (63 : Int32)).toUInt32 >>> ((6 : Int32) &&& 31).toUInt32).toInt32) (0 : Int32) (0 : Int32)))])) (Q0 Z p1 p2 p3 p4 p5 h0 n0) room_1.cells room_1.slots
                have j104 : ∀ (Tj104 : State) (Lj104 : List Loc) (Xj104 : Stand p l e room_1 s m #[(.int p1), (.int p2), (.int p3), (.int p4), (.int p5)] below meth c Tj104 Lj104 4 46) (ej104 : Tj104.heap = T119.heap) (Nj104 : Fr n0 Lj104) (ok1 : Int32) , own_law p1 p2 p3 p4 p5 = own_law_104bbbb p1 p2 p3 p4 p5 n xa xb xq ok1 → own_End p e below s (Tj104.setTop (mkF m 104 #[.val (.int p1), .val (.int p2), .val (.int p3), .val (.int p4), .val (.int p5), .val (.int n), .val (.int (1 : Int32)), .val (.int (0 : Int32)), .val (.int (0 : Int32)), .val (.int xa), .val (.int xb), .val (.int xq), .val (.ref b118), .unset, .unset] [(.int ok1)])) (Q0 Z p1 p2 p3 p4 p5 h0 n0) room_1.cells room_1.slots := by
                  intro Tj104 Lj104 Xj104 ej104 Nj104 ok1  hj
                  obtain ⟨cq126, kq126, q126a, q126b, q126c⟩ := isOf hZ ej104 E_b118_120
                  obtain ⟨_, _, ⟨T126, L126, k126, n126⟩, -, X126, ⟨Lc126, hQ126, l126, y126, z126⟩, st126⟩ := Xj104.virtualBack hx (y := (⟨"com/example/libfacet/libfacet/regex/StateSet", "mark", "(I)Z"⟩ : MethodName)) (z := (⟨"com/example/libfacet/libfacet/regex/StateSet", "mark", "(I)Z"⟩ : MethodName)) hown (mvT hZ (hw _ (List.mem_of_getElem? (i := 31) rfl))) (mvT hZ (hw _ (List.mem_of_getElem? (i := 32) rfl))) (notFace_of_selects (args := #[]) (mvT hZ (hw _ (List.mem_of_getElem? (i := 34) rfl)))) (mvT hZ (hw _ (List.mem_of_getElem? (i := 34) rfl))) (mvT hZ (hw _ (List.mem_of_getElem? (i := 33) rfl))) (by decide) (backOf (W := 0) (rm4Lu l Z a0 hw [] b118 xa c119_ab c119_am (0 : Int32) (0 : Int32) (fun _ => (0 : Int64)) (((n + (63 : Int32)).toUInt32 >>> ((6 : Int32) &&& 31).toUInt32).toInt32) (fun _ => (0 : Int32)) T119.heap n0 Z119 ⟨E_b118_120, F_markBits_b118_121, F_marked_b118_122, F_markedCount_b118_123, F_size_b118_124⟩ P119_ab_0 P119_am_0 ne_b118_c119_ab ne_b118_c119_am ne_c119_ab_c119_am g_b118 g_c119_ab g_c119_am (own_wd hn0 hn1 hxa0 hxa1) (own_zand _) (by decide) (by decide)) hZ (hw _ (List.mem_of_getElem? (i := 35) rfl)) (hw _ (List.mem_of_getElem? (i := 3) rfl)) (by decide) (by decide)) q126a q126c (g := (mkF m 110 #[.val (.int p1), .val (.int p2), .val (.int p3), .val (.int p4), .val (.int p5), .val (.int n), .val (.int (1 : Int32)), .val (.int (0 : Int32)), .val (.int (0 : Int32)), .val (.int xa), .val (.int xb), .val (.int xq), .val (.ref b118), .val (.int ok1), .unset] [(.int xa), (.ref b118)])) rfl (by rw [hml]; rfl) (Steps.refl _) (argsL := [(.int xa)]) (rest := []) (lenOf pd_0_1 rfl) rfl (by show 2 * 0 + _ ≤ _; exact Nat.le_of_eq rfl) (hb hby at_110) (fun _ _ => ⟨rfl, ej104, (by decide : 4 + 0 ≤ _), (by decide : 46 + 0 ≤ _)⟩)
                  dsimp only [Pt.U, Pt.locs, Pt.cells, Pt.slots] at X126 l126 y126 z126 st126 hQ126
                  subst l126 y126 z126
                  obtain ⟨rfl, N126q, Kq126, O126_0, V126_0, V126_1⟩ := hQ126
                  have N126 := Fr.app Nj104 N126q
                  have fE_b118_x126 := (E_b118_120.keep Kq126)
                  have K126 : Keep h0 T126.heap [] := Keep.trans K119 Kq126 (allS (Or.inr sz_b118) (allS (Or.inr sz_c119_ab) (allS (Or.inr sz_c119_am) all0)))
                  have Z126 : n0 ≤ T126.heap.size := Nat.le_trans Z119 Kq126.1
                  obtain ⟨E_b118_127, F_markBits_b118_128, F_marked_b118_129, F_markedCount_b118_130, F_size_b118_131⟩ := O126_0
                  refine own_pre (A := T126.setTop (mkF m 116 #[.val (.int p1), .val (.int p2), .val (.int p3), .val (.int p4), .val (.int p5), .val (.int n), .val (.int (1 : Int32)), .val (.int (0 : Int32)), .val (.int (0 : Int32)), .val (.int xa), .val (.int xb), .val (.int xq), .val (.ref b118), .val (.int ok1), .unset] [(.int ok1)])) (fun tt kt => ?_) ?_
                  · show Steps p.tables e below (Tj104.setTop (mkF m 104 #[.val (.int p1), .val (.int p2), .val (.int p3), .val (.int p4), .val (.int p5), .val (.int n), .val (.int (1 : Int32)), .val (.int (0 : Int32)), .val (.int (0 : Int32)), .val (.int xa), .val (.int xb), .val (.int xq), .val (.ref b118), .unset, .unset] [(.int ok1)])) _
                    refine XS.istore Xj104.here hx rfl (hb hby at_104) rfl (l' := #[.val (.int p1), .val (.int p2), .val (.int p3), .val (.int p4), .val (.int p5), .val (.int n), .val (.int (1 : Int32)), .val (.int (0 : Int32)), .val (.int (0 : Int32)), .val (.int xa), .val (.int xb), .val (.int xq), .val (.ref b118), .val (.int ok1), .unset]) rfl ?_
                    refine XS.aload Xj104.here hx rfl (hb hby at_106) rfl rfl ?_
                    refine XS.iload Xj104.here hx rfl (hb hby at_108) rfl ?_
                    show Steps p.tables e below (Tj104.setTop (mkF m 110 #[.val (.int p1), .val (.int p2), .val (.int p3), .val (.int p4), .val (.int p5), .val (.int n), .val (.int (1 : Int32)), .val (.int (0 : Int32)), .val (.int (0 : Int32)), .val (.int xa), .val (.int xb), .val (.int xq), .val (.ref b118), .val (.int ok1), .unset] [(.int xa), (.ref b118)])) _
                    refine st126.trans ?_
                    show Steps p.tables e below (T126.setTop (mkF m 113 #[.val (.int p1), .val (.int p2), .val (.int p3), .val (.int p4), .val (.int p5), .val (.int n), .val (.int (1 : Int32)), .val (.int (0 : Int32)), .val (.int (0 : Int32)), .val (.int xa), .val (.int xb), .val (.int xq), .val (.ref b118), .val (.int ok1), .unset] [(.int (1 : Int32))])) _
                    refine XS.pop X126.here hx rfl (hb hby at_113) rfl rfl ?_
                    refine XS.iload X126.here hx rfl (hb hby at_114) rfl ?_
                    exact kt
                  show own_End p e below s (T126.setTop (mkF m 116 #[.val (.int p1), .val (.int p2), .val (.int p3), .val (.int p4), .val (.int p5), .val (.int n), .val (.int (1 : Int32)), .val (.int (0 : Int32)), .val (.int (0 : Int32)), .val (.int xa), .val (.int xb), .val (.int xq), .val (.ref b118), .val (.int ok1), .unset] [(.int ok1)])) (Q0 Z p1 p2 p3 p4 p5 h0 n0) room_1.cells room_1.slots
                  have j134 : ∀ (Tj134 : State) (Lj134 : List Loc) (Xj134 : Stand p l e room_1 s m #[(.int p1), (.int p2), (.int p3), (.int p4), (.int p5)] below meth c Tj134 Lj134 4 46) (ej134 : Tj134.heap = T126.heap) (Nj134 : Fr n0 Lj134) (ok2 : Int32) , own_law p1 p2 p3 p4 p5 = own_law_134bbbb p1 p2 p3 p4 p5 n xa xb xq ok1 ok2 → own_End p e below s (Tj134.setTop (mkF m 134 #[.val (.int p1), .val (.int p2), .val (.int p3), .val (.int p4), .val (.int p5), .val (.int n), .val (.int (1 : Int32)), .val (.int (0 : Int32)), .val (.int (0 : Int32)), .val (.int xa), .val (.int xb), .val (.int xq), .val (.ref b118), .val (.int ok1), .unset] [(.int ok2)])) (Q0 Z p1 p2 p3 p4 p5 h0 n0) room_1.cells room_1.slots := by
                    intro Tj134 Lj134 Xj134 ej134 Nj134 ok2  hj
                    refine own_pre (A := Tj134.setTop (mkF m 150 #[.val (.int p1), .val (.int p2), .val (.int p3), .val (.int p4), .val (.int p5), .val (.int n), .val (.int (1 : Int32)), .val (.int (0 : Int32)), .val (.int (0 : Int32)), .val (.int xa), .val (.int xb), .val (.int xq), .val (.ref b118), .val (.int ok2), .unset] [(.int xb), (.ref b118)])) (fun tt kt => ?_) ?_
                    · show Steps p.tables e below (Tj134.setTop (mkF m 134 #[.val (.int p1), .val (.int p2), .val (.int p3), .val (.int p4), .val (.int p5), .val (.int n), .val (.int (1 : Int32)), .val (.int (0 : Int32)), .val (.int (0 : Int32)), .val (.int xa), .val (.int xb), .val (.int xq), .val (.ref b118), .val (.int ok1), .unset] [(.int ok2)])) _
                      refine XS.istore Xj134.here hx rfl (hb hby at_134) rfl (l' := #[.val (.int p1), .val (.int p2), .val (.int p3), .val (.int p4), .val (.int p5), .val (.int n), .val (.int (1 : Int32)), .val (.int (0 : Int32)), .val (.int (0 : Int32)), .val (.int xa), .val (.int xb), .val (.int xq), .val (.ref b118), .val (.int ok2), .unset]) rfl ?_
                      refine XS.iload Xj134.here hx rfl (hb hby at_136) rfl ?_
                      refine XS.ifYes Xj134.here hx rfl (pc0 := 138) (pc' := 146) rfl (hb hby at_138) rfl ((if0 _ _).trans (teq ((by decide) : (0 : Int32) = (0 : Int32))).1) (by decide) (by decide) ?_
                      refine XS.aload Xj134.here hx rfl (hb hby at_146) rfl rfl ?_
                      refine XS.iload Xj134.here hx rfl (hb hby at_148) rfl ?_
                      exact kt
                    show own_End p e below s (Tj134.setTop (mkF m 150 #[.val (.int p1), .val (.int p2), .val (.int p3), .val (.int p4), .val (.int p5), .val (.int n), .val (.int (1 : Int32)), .val (.int (0 : Int32)), .val (.int (0 : Int32)), .val (.int xa), .val (.int xb), .val (.int xq), .val (.ref b118), .val (.int ok2), .unset] [(.int xb), (.ref b118)])) (Q0 Z p1 p2 p3 p4 p5 h0 n0) room_1.cells room_1.slots
                    by_cases hU132 : (((own_orb (fun _ => (0 : Int64)) xa) ((xb.toUInt32 >>> ((6 : Int32) &&& 31).toUInt32).toInt32).toNatClampNeg) &&& ((1 : Int64) <<< (xb &&& 0x3f).toInt64)) = (0 : Int64)
                    · obtain ⟨cq133, kq133, q133a, q133b, q133c⟩ := isOf hZ ej134 E_b118_127
                      obtain ⟨_, _, ⟨T133, L133, k133, n133⟩, -, X133, ⟨Lc133, hQ133, l133, y133, z133⟩, st133⟩ := Xj134.virtualBack hx (y := (⟨"com/example/libfacet/libfacet/regex/StateSet", "mark", "(I)Z"⟩ : MethodName)) (z := (⟨"com/example/libfacet/libfacet/regex/StateSet", "mark", "(I)Z"⟩ : MethodName)) hown (mvT hZ (hw _ (List.mem_of_getElem? (i := 31) rfl))) (mvT hZ (hw _ (List.mem_of_getElem? (i := 32) rfl))) (notFace_of_selects (args := #[]) (mvT hZ (hw _ (List.mem_of_getElem? (i := 34) rfl)))) (mvT hZ (hw _ (List.mem_of_getElem? (i := 34) rfl))) (mvT hZ (hw _ (List.mem_of_getElem? (i := 33) rfl))) (by decide) (backOf (W := 0) (rm4Lu l Z a0 hw [] b118 xb c119_ab c119_am (1 : Int32) (0 : Int32) (own_orb (fun _ => (0 : Int64)) xa) (((n + (63 : Int32)).toUInt32 >>> ((6 : Int32) &&& 31).toUInt32).toInt32) (own_put (fun _ => (0 : Int32)) (0 : Int32) xa) T126.heap n0 Z126 ⟨E_b118_127, F_markBits_b118_128, F_marked_b118_129, F_markedCount_b118_130, F_size_b118_131⟩ V126_0 V126_1 ne_b118_c119_ab ne_b118_c119_am ne_c119_ab_c119_am g_b118 g_c119_ab g_c119_am (own_wd hn0 hn1 hxb0 hxb1) hU132 (by decide) (by decide)) hZ (hw _ (List.mem_of_getElem? (i := 35) rfl)) (hw _ (List.mem_of_getElem? (i := 3) rfl)) (by decide) (by decide)) q133a q133c (g := (mkF m 150 #[.val (.int p1), .val (.int p2), .val (.int p3), .val (.int p4), .val (.int p5), .val (.int n), .val (.int (1 : Int32)), .val (.int (0 : Int32)), .val (.int (0 : Int32)), .val (.int xa), .val (.int xb), .val (.int xq), .val (.ref b118), .val (.int ok2), .unset] [(.int xb), (.ref b118)])) rfl (by rw [hml]; rfl) (Steps.refl _) (argsL := [(.int xb)]) (rest := []) (lenOf pd_0_1 rfl) rfl (by show 2 * 0 + _ ≤ _; exact Nat.le_of_eq rfl) (hb hby at_150) (fun _ _ => ⟨rfl, ej134, (by decide : 4 + 0 ≤ _), (by decide : 46 + 0 ≤ _)⟩)
                      dsimp only [Pt.U, Pt.locs, Pt.cells, Pt.slots] at X133 l133 y133 z133 st133 hQ133
                      subst l133 y133 z133
                      obtain ⟨rfl, N133q, Kq133, O133_0, V133_0, V133_1⟩ := hQ133
                      have N133 := Fr.app Nj134 N133q
                      have fE_b118_x133 := (E_b118_127.keep Kq133)
                      have K133 : Keep h0 T133.heap [] := Keep.trans K126 Kq133 (allS (Or.inr sz_b118) (allS (Or.inr sz_c119_ab) (allS (Or.inr sz_c119_am) all0)))
                      have Z133 : n0 ≤ T133.heap.size := Nat.le_trans Z126 Kq133.1
                      obtain ⟨E_b118_134, F_markBits_b118_135, F_marked_b118_136, F_markedCount_b118_137, F_size_b118_138⟩ := O133_0
                      refine own_pre (A := T133.setTop (mkF m 173 #[.val (.int p1), .val (.int p2), .val (.int p3), .val (.int p4), .val (.int p5), .val (.int n), .val (.int (1 : Int32)), .val (.int (0 : Int32)), .val (.int (0 : Int32)), .val (.int xa), .val (.int xb), .val (.int xq), .val (.ref b118), .val (.int ok2), .unset] [(.int xb), (.int xq)])) (fun tt kt => ?_) ?_
                      · show Steps p.tables e below (Tj134.setTop (mkF m 150 #[.val (.int p1), .val (.int p2), .val (.int p3), .val (.int p4), .val (.int p5), .val (.int n), .val (.int (1 : Int32)), .val (.int (0 : Int32)), .val (.int (0 : Int32)), .val (.int xa), .val (.int xb), .val (.int xq), .val (.ref b118), .val (.int ok2), .unset] [(.int xb), (.ref b118)])) _
                        refine st133.trans ?_
                        show Steps p.tables e below (T133.setTop (mkF m 153 #[.val (.int p1), .val (.int p2), .val (.int p3), .val (.int p4), .val (.int p5), .val (.int n), .val (.int (1 : Int32)), .val (.int (0 : Int32)), .val (.int (0 : Int32)), .val (.int xa), .val (.int xb), .val (.int xq), .val (.ref b118), .val (.int ok2), .unset] [(.int (1 : Int32))])) _
                        refine XS.pop X133.here hx rfl (hb hby at_153) rfl rfl ?_
                        refine XS.iload X133.here hx rfl (hb hby at_154) rfl ?_
                        refine XS.ifYes X133.here hx rfl (pc0 := 156) (pc' := 164) rfl (hb hby at_156) rfl ((if0 _ _).trans (teq ((by decide) : (0 : Int32) = (0 : Int32))).1) (by decide) (by decide) ?_
                        refine XS.iload X133.here hx rfl (hb hby at_164) rfl ?_
                        refine XS.ifNo X133.here hx rfl (hb hby at_166) rfl ((if0 _ _).trans (teq ((by decide) : (0 : Int32) = (0 : Int32))).2) ?_
                        refine XS.iload X133.here hx rfl (hb hby at_169) rfl ?_
                        refine XS.iload X133.here hx rfl (hb hby at_171) rfl ?_
                        exact kt
                      show own_End p e below s (T133.setTop (mkF m 173 #[.val (.int p1), .val (.int p2), .val (.int p3), .val (.int p4), .val (.int p5), .val (.int n), .val (.int (1 : Int32)), .val (.int (0 : Int32)), .val (.int (0 : Int32)), .val (.int xa), .val (.int xb), .val (.int xq), .val (.ref b118), .val (.int ok2), .unset] [(.int xb), (.int xq)])) (Q0 Z p1 p2 p3 p4 p5 h0 n0) room_1.cells room_1.slots
                      have j193 : ∀ (Tj193 : State) (Lj193 : List Loc) (Xj193 : Stand p l e room_1 s m #[(.int p1), (.int p2), (.int p3), (.int p4), (.int p5)] below meth c Tj193 Lj193 4 46) (ej193 : Tj193.heap = T133.heap) (Nj193 : Fr n0 Lj193) (ex : Int32) , own_law p1 p2 p3 p4 p5 = own_law_193bb p1 p2 p3 p4 p5 n xa xb xq ok1 ok2 ex → own_End p e below s (Tj193.setTop (mkF m 193 #[.val (.int p1), .val (.int p2), .val (.int p3), .val (.int p4), .val (.int p5), .val (.int n), .val (.int (1 : Int32)), .val (.int (0 : Int32)), .val (.int (0 : Int32)), .val (.int xa), .val (.int xb), .val (.int xq), .val (.ref b118), .val (.int ok2), .unset] [(.int ex)])) (Q0 Z p1 p2 p3 p4 p5 h0 n0) room_1.cells room_1.slots := by
                        intro Tj193 Lj193 Xj193 ej193 Nj193 ex  hj
                        refine own_pre (A := Tj193.setTop (mkF m 197 #[.val (.int p1), .val (.int p2), .val (.int p3), .val (.int p4), .val (.int p5), .val (.int n), .val (.int (1 : Int32)), .val (.int (0 : Int32)), .val (.int (0 : Int32)), .val (.int xa), .val (.int xb), .val (.int xq), .val (.ref b118), .val (.int ok2), .val (.int ex)] [(.int ok2)])) (fun tt kt => ?_) ?_
                        · show Steps p.tables e below (Tj193.setTop (mkF m 193 #[.val (.int p1), .val (.int p2), .val (.int p3), .val (.int p4), .val (.int p5), .val (.int n), .val (.int (1 : Int32)), .val (.int (0 : Int32)), .val (.int (0 : Int32)), .val (.int xa), .val (.int xb), .val (.int xq), .val (.ref b118), .val (.int ok2), .unset] [(.int ex)])) _
                          refine XS.istore Xj193.here hx rfl (hb hby at_193) rfl (l' := #[.val (.int p1), .val (.int p2), .val (.int p3), .val (.int p4), .val (.int p5), .val (.int n), .val (.int (1 : Int32)), .val (.int (0 : Int32)), .val (.int (0 : Int32)), .val (.int xa), .val (.int xb), .val (.int xq), .val (.ref b118), .val (.int ok2), .val (.int ex)]) rfl ?_
                          refine XS.iload Xj193.here hx rfl (hb hby at_195) rfl ?_
                          exact kt
                        show own_End p e below s (Tj193.setTop (mkF m 197 #[.val (.int p1), .val (.int p2), .val (.int p3), .val (.int p4), .val (.int p5), .val (.int n), .val (.int (1 : Int32)), .val (.int (0 : Int32)), .val (.int (0 : Int32)), .val (.int xa), .val (.int xb), .val (.int xq), .val (.ref b118), .val (.int ok2), .val (.int ex)] [(.int ok2)])) (Q0 Z p1 p2 p3 p4 p5 h0 n0) room_1.cells room_1.slots
                        by_cases hc197_139 : ok2 = (0 : Int32)
                        · refine own_pre (A := Tj193.setTop (mkF m 217 #[.val (.int p1), .val (.int p2), .val (.int p3), .val (.int p4), .val (.int p5), .val (.int n), .val (.int (1 : Int32)), .val (.int (0 : Int32)), .val (.int (0 : Int32)), .val (.int xa), .val (.int xb), .val (.int xq), .val (.ref b118), .val (.int ok2), .val (.int ex)] [(.int (0 : Int32))])) (fun tt kt => ?_) ?_
                          · show Steps p.tables e below (Tj193.setTop (mkF m 197 #[.val (.int p1), .val (.int p2), .val (.int p3), .val (.int p4), .val (.int p5), .val (.int n), .val (.int (1 : Int32)), .val (.int (0 : Int32)), .val (.int (0 : Int32)), .val (.int xa), .val (.int xb), .val (.int xq), .val (.ref b118), .val (.int ok2), .val (.int ex)] [(.int ok2)])) _
                            refine XS.ifYes Xj193.here hx rfl (pc0 := 197) (pc' := 216) rfl (hb hby at_197) rfl ((if0 _ _).trans (teq hc197_139).1) (by decide) (by decide) ?_
                            refine XS.iconst Xj193.here hx rfl (hb hby at_216) ?_
                            exact kt
                          show own_End p e below s (Tj193.setTop (mkF m 217 #[.val (.int p1), .val (.int p2), .val (.int p3), .val (.int p4), .val (.int p5), .val (.int n), .val (.int (1 : Int32)), .val (.int (0 : Int32)), .val (.int (0 : Int32)), .val (.int xa), .val (.int xb), .val (.int xq), .val (.ref b118), .val (.int ok2), .val (.int ex)] [(.int (0 : Int32))])) (Q0 Z p1 p2 p3 p4 p5 h0 n0) room_1.cells room_1.slots
                          have hv : (own_law p1 p2 p3 p4 p5) = (0 : Int32) := hj.trans (by simp only [own_law_193bb, if_pos hc197_139])
                          obtain ⟨fs, hr, hrun, hended, hW, hsame⟩ := Xj193.leave (v := some (.int (0 : Int32))) (fun h => by rw [Bd.returns] at h; cases h)
                          refine ⟨_, _, ?_, hrun, hended, _, _, rfl, ?_, ⟨_, rfl⟩, hW, hsame.mono (by decide) (by decide)⟩
                          · exact retN Xj193 hx (t := .boolean) Bd.returns (by simp) (hb hby at_217) hr
                          · show Q0 Z p1 p2 p3 p4 p5 h0 n0 _ Tj193.heap _
                            rw [ej193]
                            exact ⟨(congrArg (fun z => some (Value.int z)) hv.symm), Nj193⟩
                        · obtain ⟨cq140, kq140, q140a, q140b, q140c⟩ := isOf hZ ej193 E_b118_134
                          obtain ⟨_, _, ⟨T140, L140, k140, n140⟩, -, X140, ⟨Lc140, hQ140, l140, y140, z140⟩, st140⟩ := Xj193.virtualBack hx (y := (⟨"com/example/libfacet/libfacet/regex/StateSet", "isMarked", "(I)Z"⟩ : MethodName)) (z := (⟨"com/example/libfacet/libfacet/regex/StateSet", "isMarked", "(I)Z"⟩ : MethodName)) hown (mvT hZ (hw _ (List.mem_of_getElem? (i := 26) rfl))) (mvT hZ (hw _ (List.mem_of_getElem? (i := 27) rfl))) (notFace_of_selects (args := #[]) (mvT hZ (hw _ (List.mem_of_getElem? (i := 29) rfl)))) (mvT hZ (hw _ (List.mem_of_getElem? (i := 29) rfl))) (mvT hZ (hw _ (List.mem_of_getElem? (i := 28) rfl))) (by decide) (backOf (W := 0) (rm3L l Z a0 hw [] b118 xq c119_ab c119_am (2 : Int32) (0 : Int32) (own_orb (own_orb (fun _ => (0 : Int64)) xa) xb) (((n + (63 : Int32)).toUInt32 >>> ((6 : Int32) &&& 31).toUInt32).toInt32) T133.heap n0 Z133 ⟨E_b118_134, F_markBits_b118_135, F_marked_b118_136, F_markedCount_b118_137, F_size_b118_138⟩ V133_0 (own_wd hn0 hn1 hxq0 hxq1)) hZ (hw _ (List.mem_of_getElem? (i := 30) rfl)) (hw _ (List.mem_of_getElem? (i := 3) rfl)) (by decide) (by decide)) q140a q140c (g := (mkF m 204 #[.val (.int p1), .val (.int p2), .val (.int p3), .val (.int p4), .val (.int p5), .val (.int n), .val (.int (1 : Int32)), .val (.int (0 : Int32)), .val (.int (0 : Int32)), .val (.int xa), .val (.int xb), .val (.int xq), .val (.ref b118), .val (.int ok2), .val (.int ex)] [(.int xq), (.ref b118)])) rfl (by rw [hml]; rfl) (Steps.refl _) (argsL := [(.int xq)]) (rest := []) (lenOf pd_0_1 rfl) rfl (by show 2 * 0 + _ ≤ _; exact Nat.le_of_eq rfl) (hb hby at_204) (fun _ _ => ⟨rfl, ej193, (by decide : 4 + 0 ≤ _), (by decide : 46 + 0 ≤ _)⟩)
                          dsimp only [Pt.U, Pt.locs, Pt.cells, Pt.slots] at X140 l140 y140 z140 st140 hQ140
                          subst l140 y140 z140
                          obtain ⟨rfl, N140q, e140⟩ := hQ140
                          have N140 := Fr.app Nj193 N140q
                          refine own_pre (A := T140.setTop (mkF m 209 #[.val (.int p1), .val (.int p2), .val (.int p3), .val (.int p4), .val (.int p5), .val (.int n), .val (.int (1 : Int32)), .val (.int (0 : Int32)), .val (.int (0 : Int32)), .val (.int xa), .val (.int xb), .val (.int xq), .val (.ref b118), .val (.int ok2), .val (.int ex)] [(.int ex), (.int (own_isL xq (own_orb (own_orb (fun _ => (0 : Int64)) xa) xb) (((n + (63 : Int32)).toUInt32 >>> ((6 : Int32) &&& 31).toUInt32).toInt32) (2 : Int32) (0 : Int32)))])) (fun tt kt => ?_) ?_
                          · show Steps p.tables e below (Tj193.setTop (mkF m 197 #[.val (.int p1), .val (.int p2), .val (.int p3), .val (.int p4), .val (.int p5), .val (.int n), .val (.int (1 : Int32)), .val (.int (0 : Int32)), .val (.int (0 : Int32)), .val (.int xa), .val (.int xb), .val (.int xq), .val (.ref b118), .val (.int ok2), .val (.int ex)] [(.int ok2)])) _
                            refine XS.ifNo Xj193.here hx rfl (hb hby at_197) rfl ((if0 _ _).trans (feq hc197_139).1) ?_
                            refine XS.aload Xj193.here hx rfl (hb hby at_200) rfl rfl ?_
                            refine XS.iload Xj193.here hx rfl (hb hby at_202) rfl ?_
                            show Steps p.tables e below (Tj193.setTop (mkF m 204 #[.val (.int p1), .val (.int p2), .val (.int p3), .val (.int p4), .val (.int p5), .val (.int n), .val (.int (1 : Int32)), .val (.int (0 : Int32)), .val (.int (0 : Int32)), .val (.int xa), .val (.int xb), .val (.int xq), .val (.ref b118), .val (.int ok2), .val (.int ex)] [(.int xq), (.ref b118)])) _
                            refine st140.trans ?_
                            show Steps p.tables e below (T140.setTop (mkF m 207 #[.val (.int p1), .val (.int p2), .val (.int p3), .val (.int p4), .val (.int p5), .val (.int n), .val (.int (1 : Int32)), .val (.int (0 : Int32)), .val (.int (0 : Int32)), .val (.int xa), .val (.int xb), .val (.int xq), .val (.ref b118), .val (.int ok2), .val (.int ex)] [(.int (own_isL xq (own_orb (own_orb (fun _ => (0 : Int64)) xa) xb) (((n + (63 : Int32)).toUInt32 >>> ((6 : Int32) &&& 31).toUInt32).toInt32) (2 : Int32) (0 : Int32)))])) _
                            refine XS.iload X140.here hx rfl (hb hby at_207) rfl ?_
                            exact kt
                          show own_End p e below s (T140.setTop (mkF m 209 #[.val (.int p1), .val (.int p2), .val (.int p3), .val (.int p4), .val (.int p5), .val (.int n), .val (.int (1 : Int32)), .val (.int (0 : Int32)), .val (.int (0 : Int32)), .val (.int xa), .val (.int xb), .val (.int xq), .val (.ref b118), .val (.int ok2), .val (.int ex)] [(.int ex), (.int (own_isL xq (own_orb (own_orb (fun _ => (0 : Int64)) xa) xb) (((n + (63 : Int32)).toUInt32 >>> ((6 : Int32) &&& 31).toUInt32).toInt32) (2 : Int32) (0 : Int32)))])) (Q0 Z p1 p2 p3 p4 p5 h0 n0) room_1.cells room_1.slots
                          by_cases hc209_141 : (own_isL xq (own_orb (own_orb (fun _ => (0 : Int64)) xa) xb) (((n + (63 : Int32)).toUInt32 >>> ((6 : Int32) &&& 31).toUInt32).toInt32) (2 : Int32) (0 : Int32)) = ex
                          · refine own_pre (A := T140.setTop (mkF m 217 #[.val (.int p1), .val (.int p2), .val (.int p3), .val (.int p4), .val (.int p5), .val (.int n), .val (.int (1 : Int32)), .val (.int (0 : Int32)), .val (.int (0 : Int32)), .val (.int xa), .val (.int xb), .val (.int xq), .val (.ref b118), .val (.int ok2), .val (.int ex)] [(.int (1 : Int32))])) (fun tt kt => ?_) ?_
                            · show Steps p.tables e below (T140.setTop (mkF m 209 #[.val (.int p1), .val (.int p2), .val (.int p3), .val (.int p4), .val (.int p5), .val (.int n), .val (.int (1 : Int32)), .val (.int (0 : Int32)), .val (.int (0 : Int32)), .val (.int xa), .val (.int xb), .val (.int xq), .val (.ref b118), .val (.int ok2), .val (.int ex)] [(.int ex), (.int (own_isL xq (own_orb (own_orb (fun _ => (0 : Int64)) xa) xb) (((n + (63 : Int32)).toUInt32 >>> ((6 : Int32) &&& 31).toUInt32).toInt32) (2 : Int32) (0 : Int32)))])) _
                              refine XS.icmpNo X140.here hx rfl (hb hby at_209) rfl (teq hc209_141).2 ?_
                              refine XS.iconst X140.here hx rfl (hb hby at_212) ?_
                              refine XS.goto X140.here hx rfl (pc0 := 213) (pc' := 217) rfl (hb hby at_213) (by decide) (by decide) ?_
                              exact kt
                            show own_End p e below s (T140.setTop (mkF m 217 #[.val (.int p1), .val (.int p2), .val (.int p3), .val (.int p4), .val (.int p5), .val (.int n), .val (.int (1 : Int32)), .val (.int (0 : Int32)), .val (.int (0 : Int32)), .val (.int xa), .val (.int xb), .val (.int xq), .val (.ref b118), .val (.int ok2), .val (.int ex)] [(.int (1 : Int32))])) (Q0 Z p1 p2 p3 p4 p5 h0 n0) room_1.cells room_1.slots
                            have hv : (own_law p1 p2 p3 p4 p5) = (1 : Int32) := hj.trans (by simp only [own_law_193bb, if_neg hc197_139, if_pos hc209_141])
                            obtain ⟨fs, hr, hrun, hended, hW, hsame⟩ := X140.leave (v := some (.int (1 : Int32))) (fun h => by rw [Bd.returns] at h; cases h)
                            refine ⟨_, _, ?_, hrun, hended, _, _, rfl, ?_, ⟨_, rfl⟩, hW, hsame.mono (by decide) (by decide)⟩
                            · exact retN X140 hx (t := .boolean) Bd.returns (by simp) (hb hby at_217) hr
                            · show Q0 Z p1 p2 p3 p4 p5 h0 n0 _ T140.heap _
                              rw [e140]
                              exact ⟨(congrArg (fun z => some (Value.int z)) hv.symm), N140⟩
                          · refine own_pre (A := T140.setTop (mkF m 217 #[.val (.int p1), .val (.int p2), .val (.int p3), .val (.int p4), .val (.int p5), .val (.int n), .val (.int (1 : Int32)), .val (.int (0 : Int32)), .val (.int (0 : Int32)), .val (.int xa), .val (.int xb), .val (.int xq), .val (.ref b118), .val (.int ok2), .val (.int ex)] [(.int (0 : Int32))])) (fun tt kt => ?_) ?_
                            · show Steps p.tables e below (T140.setTop (mkF m 209 #[.val (.int p1), .val (.int p2), .val (.int p3), .val (.int p4), .val (.int p5), .val (.int n), .val (.int (1 : Int32)), .val (.int (0 : Int32)), .val (.int (0 : Int32)), .val (.int xa), .val (.int xb), .val (.int xq), .val (.ref b118), .val (.int ok2), .val (.int ex)] [(.int ex), (.int (own_isL xq (own_orb (own_orb (fun _ => (0 : Int64)) xa) xb) (((n + (63 : Int32)).toUInt32 >>> ((6 : Int32) &&& 31).toUInt32).toInt32) (2 : Int32) (0 : Int32)))])) _
                              refine XS.icmpYes X140.here hx rfl (pc0 := 209) (pc' := 216) rfl (hb hby at_209) rfl (feq hc209_141).2 (by decide) (by decide) ?_
                              refine XS.iconst X140.here hx rfl (hb hby at_216) ?_
                              exact kt
                            show own_End p e below s (T140.setTop (mkF m 217 #[.val (.int p1), .val (.int p2), .val (.int p3), .val (.int p4), .val (.int p5), .val (.int n), .val (.int (1 : Int32)), .val (.int (0 : Int32)), .val (.int (0 : Int32)), .val (.int xa), .val (.int xb), .val (.int xq), .val (.ref b118), .val (.int ok2), .val (.int ex)] [(.int (0 : Int32))])) (Q0 Z p1 p2 p3 p4 p5 h0 n0) room_1.cells room_1.slots
                            have hv : (own_law p1 p2 p3 p4 p5) = (0 : Int32) := hj.trans (by simp only [own_law_193bb, if_neg hc197_139, if_neg hc209_141])
                            obtain ⟨fs, hr, hrun, hended, hW, hsame⟩ := X140.leave (v := some (.int (0 : Int32))) (fun h => by rw [Bd.returns] at h; cases h)
                            refine ⟨_, _, ?_, hrun, hended, _, _, rfl, ?_, ⟨_, rfl⟩, hW, hsame.mono (by decide) (by decide)⟩
                            · exact retN X140 hx (t := .boolean) Bd.returns (by simp) (hb hby at_217) hr
                            · show Q0 Z p1 p2 p3 p4 p5 h0 n0 _ T140.heap _
                              rw [e140]
                              exact ⟨(congrArg (fun z => some (Value.int z)) hv.symm), N140⟩
                      by_cases hc173_142 : xq = xb
                      · refine own_pre (A := T133.setTop (mkF m 193 #[.val (.int p1), .val (.int p2), .val (.int p3), .val (.int p4), .val (.int p5), .val (.int n), .val (.int (1 : Int32)), .val (.int (0 : Int32)), .val (.int (0 : Int32)), .val (.int xa), .val (.int xb), .val (.int xq), .val (.ref b118), .val (.int ok2), .unset] [(.int (1 : Int32))])) (fun tt kt => ?_) ?_
                        · show Steps p.tables e below (T133.setTop (mkF m 173 #[.val (.int p1), .val (.int p2), .val (.int p3), .val (.int p4), .val (.int p5), .val (.int n), .val (.int (1 : Int32)), .val (.int (0 : Int32)), .val (.int (0 : Int32)), .val (.int xa), .val (.int xb), .val (.int xq), .val (.ref b118), .val (.int ok2), .unset] [(.int xb), (.int xq)])) _
                          refine XS.icmpYes X133.here hx rfl (pc0 := 173) (pc' := 188) rfl (hb hby at_173) rfl (teq hc173_142).1 (by decide) (by decide) ?_
                          refine XS.iconst X133.here hx rfl (hb hby at_188) ?_
                          refine XS.goto X133.here hx rfl (pc0 := 189) (pc' := 193) rfl (hb hby at_189) (by decide) (by decide) ?_
                          exact kt
                        show own_End p e below s (T133.setTop (mkF m 193 #[.val (.int p1), .val (.int p2), .val (.int p3), .val (.int p4), .val (.int p5), .val (.int n), .val (.int (1 : Int32)), .val (.int (0 : Int32)), .val (.int (0 : Int32)), .val (.int xa), .val (.int xb), .val (.int xq), .val (.ref b118), .val (.int ok2), .unset] [(.int (1 : Int32))])) (Q0 Z p1 p2 p3 p4 p5 h0 n0) room_1.cells room_1.slots
                        exact j193 _ _ X133 rfl N133 (1 : Int32)  (hj.trans (by simp only [own_law_134bbbb, if_pos hU132, if_pos hc173_142]))
                      · refine own_pre (A := T133.setTop (mkF m 185 #[.val (.int p1), .val (.int p2), .val (.int p3), .val (.int p4), .val (.int p5), .val (.int n), .val (.int (1 : Int32)), .val (.int (0 : Int32)), .val (.int (0 : Int32)), .val (.int xa), .val (.int xb), .val (.int xq), .val (.ref b118), .val (.int ok2), .unset] [(.int xa), (.int xq)])) (fun tt kt => ?_) ?_
                        · show Steps p.tables e below (T133.setTop (mkF m 173 #[.val (.int p1), .val (.int p2), .val (.int p3), .val (.int p4), .val (.int p5), .val (.int n), .val (.int (1 : Int32)), .val (.int (0 : Int32)), .val (.int (0 : Int32)), .val (.int xa), .val (.int xb), .val (.int xq), .val (.ref b118), .val (.int ok2), .unset] [(.int xb), (.int xq)])) _
                          refine XS.icmpNo X133.here hx rfl (hb hby at_173) rfl (feq hc173_142).1 ?_
                          refine XS.iload X133.here hx rfl (hb hby at_176) rfl ?_
                          refine XS.ifNo X133.here hx rfl (hb hby at_178) rfl ((if0 _ _).trans (teq ((by decide) : (0 : Int32) = (0 : Int32))).2) ?_
                          refine XS.iload X133.here hx rfl (hb hby at_181) rfl ?_
                          refine XS.iload X133.here hx rfl (hb hby at_183) rfl ?_
                          exact kt
                        show own_End p e below s (T133.setTop (mkF m 185 #[.val (.int p1), .val (.int p2), .val (.int p3), .val (.int p4), .val (.int p5), .val (.int n), .val (.int (1 : Int32)), .val (.int (0 : Int32)), .val (.int (0 : Int32)), .val (.int xa), .val (.int xb), .val (.int xq), .val (.ref b118), .val (.int ok2), .unset] [(.int xa), (.int xq)])) (Q0 Z p1 p2 p3 p4 p5 h0 n0) room_1.cells room_1.slots
                        by_cases hc185_143 : xq = xa
                        · refine own_pre (A := T133.setTop (mkF m 193 #[.val (.int p1), .val (.int p2), .val (.int p3), .val (.int p4), .val (.int p5), .val (.int n), .val (.int (1 : Int32)), .val (.int (0 : Int32)), .val (.int (0 : Int32)), .val (.int xa), .val (.int xb), .val (.int xq), .val (.ref b118), .val (.int ok2), .unset] [(.int (1 : Int32))])) (fun tt kt => ?_) ?_
                          · show Steps p.tables e below (T133.setTop (mkF m 185 #[.val (.int p1), .val (.int p2), .val (.int p3), .val (.int p4), .val (.int p5), .val (.int n), .val (.int (1 : Int32)), .val (.int (0 : Int32)), .val (.int (0 : Int32)), .val (.int xa), .val (.int xb), .val (.int xq), .val (.ref b118), .val (.int ok2), .unset] [(.int xa), (.int xq)])) _
                            refine XS.icmpNo X133.here hx rfl (hb hby at_185) rfl (teq hc185_143).2 ?_
                            refine XS.iconst X133.here hx rfl (hb hby at_188) ?_
                            refine XS.goto X133.here hx rfl (pc0 := 189) (pc' := 193) rfl (hb hby at_189) (by decide) (by decide) ?_
                            exact kt
                          show own_End p e below s (T133.setTop (mkF m 193 #[.val (.int p1), .val (.int p2), .val (.int p3), .val (.int p4), .val (.int p5), .val (.int n), .val (.int (1 : Int32)), .val (.int (0 : Int32)), .val (.int (0 : Int32)), .val (.int xa), .val (.int xb), .val (.int xq), .val (.ref b118), .val (.int ok2), .unset] [(.int (1 : Int32))])) (Q0 Z p1 p2 p3 p4 p5 h0 n0) room_1.cells room_1.slots
                          exact j193 _ _ X133 rfl N133 (1 : Int32)  (hj.trans (by simp only [own_law_134bbbb, if_pos hU132, if_neg hc173_142, if_pos hc185_143]))
                        · refine own_pre (A := T133.setTop (mkF m 193 #[.val (.int p1), .val (.int p2), .val (.int p3), .val (.int p4), .val (.int p5), .val (.int n), .val (.int (1 : Int32)), .val (.int (0 : Int32)), .val (.int (0 : Int32)), .val (.int xa), .val (.int xb), .val (.int xq), .val (.ref b118), .val (.int ok2), .unset] [(.int (0 : Int32))])) (fun tt kt => ?_) ?_
                          · show Steps p.tables e below (T133.setTop (mkF m 185 #[.val (.int p1), .val (.int p2), .val (.int p3), .val (.int p4), .val (.int p5), .val (.int n), .val (.int (1 : Int32)), .val (.int (0 : Int32)), .val (.int (0 : Int32)), .val (.int xa), .val (.int xb), .val (.int xq), .val (.ref b118), .val (.int ok2), .unset] [(.int xa), (.int xq)])) _
                            refine XS.icmpYes X133.here hx rfl (pc0 := 185) (pc' := 192) rfl (hb hby at_185) rfl (feq hc185_143).2 (by decide) (by decide) ?_
                            refine XS.iconst X133.here hx rfl (hb hby at_192) ?_
                            exact kt
                          show own_End p e below s (T133.setTop (mkF m 193 #[.val (.int p1), .val (.int p2), .val (.int p3), .val (.int p4), .val (.int p5), .val (.int n), .val (.int (1 : Int32)), .val (.int (0 : Int32)), .val (.int (0 : Int32)), .val (.int xa), .val (.int xb), .val (.int xq), .val (.ref b118), .val (.int ok2), .unset] [(.int (0 : Int32))])) (Q0 Z p1 p2 p3 p4 p5 h0 n0) room_1.cells room_1.slots
                          exact j193 _ _ X133 rfl N133 (0 : Int32)  (hj.trans (by simp only [own_law_134bbbb, if_pos hU132, if_neg hc173_142, if_neg hc185_143]))
                    · obtain ⟨cq144, kq144, q144a, q144b, q144c⟩ := isOf hZ ej134 E_b118_127
                      obtain ⟨_, _, ⟨T144, L144, k144, n144⟩, -, X144, ⟨Lc144, hQ144, l144, y144, z144⟩, st144⟩ := Xj134.virtualBack hx (y := (⟨"com/example/libfacet/libfacet/regex/StateSet", "mark", "(I)Z"⟩ : MethodName)) (z := (⟨"com/example/libfacet/libfacet/regex/StateSet", "mark", "(I)Z"⟩ : MethodName)) hown (mvT hZ (hw _ (List.mem_of_getElem? (i := 31) rfl))) (mvT hZ (hw _ (List.mem_of_getElem? (i := 32) rfl))) (notFace_of_selects (args := #[]) (mvT hZ (hw _ (List.mem_of_getElem? (i := 34) rfl)))) (mvT hZ (hw _ (List.mem_of_getElem? (i := 34) rfl))) (mvT hZ (hw _ (List.mem_of_getElem? (i := 33) rfl))) (by decide) (backOf (W := 0) (rm4Lm l Z a0 hw [] b118 xb c119_ab c119_am (1 : Int32) (0 : Int32) (own_orb (fun _ => (0 : Int64)) xa) (((n + (63 : Int32)).toUInt32 >>> ((6 : Int32) &&& 31).toUInt32).toInt32) (own_put (fun _ => (0 : Int32)) (0 : Int32) xa) T126.heap n0 Z126 ⟨E_b118_127, F_markBits_b118_128, F_marked_b118_129, F_markedCount_b118_130, F_size_b118_131⟩ V126_0 V126_1 ne_b118_c119_ab ne_b118_c119_am ne_c119_ab_c119_am g_c119_ab (own_wd hn0 hn1 hxb0 hxb1) hU132 (by decide) (by decide)) hZ (hw _ (List.mem_of_getElem? (i := 35) rfl)) (hw _ (List.mem_of_getElem? (i := 3) rfl)) (by decide) (by decide)) q144a q144c (g := (mkF m 150 #[.val (.int p1), .val (.int p2), .val (.int p3), .val (.int p4), .val (.int p5), .val (.int n), .val (.int (1 : Int32)), .val (.int (0 : Int32)), .val (.int (0 : Int32)), .val (.int xa), .val (.int xb), .val (.int xq), .val (.ref b118), .val (.int ok2), .unset] [(.int xb), (.ref b118)])) rfl (by rw [hml]; rfl) (Steps.refl _) (argsL := [(.int xb)]) (rest := []) (lenOf pd_0_1 rfl) rfl (by show 2 * 0 + _ ≤ _; exact Nat.le_of_eq rfl) (hb hby at_150) (fun _ _ => ⟨rfl, ej134, (by decide : 4 + 0 ≤ _), (by decide : 46 + 0 ≤ _)⟩)
                      dsimp only [Pt.U, Pt.locs, Pt.cells, Pt.slots] at X144 l144 y144 z144 st144 hQ144
                      subst l144 y144 z144
                      obtain ⟨rfl, N144q, Kq144, V144_0⟩ := hQ144
                      have N144 := Fr.app Nj134 N144q
                      have fE_b118_x144 := (E_b118_127.keep Kq144)
                      have fF_b118_markBits_x144 := (F_markBits_b118_128.keep Kq144 (ninS ne_b118_c119_ab nin0))
                      have fF_b118_marked_x144 := (F_marked_b118_129.keep Kq144 (ninS ne_b118_c119_ab nin0))
                      have fF_b118_markedCount_x144 := (F_markedCount_b118_130.keep Kq144 (ninS ne_b118_c119_ab nin0))
                      have fF_b118_size_x144 := (F_size_b118_131.keep Kq144 (ninS ne_b118_c119_ab nin0))
                      have fA_c119_am_x144 := (V126_1.keep Kq144 (ninS (Ne.symm ne_c119_ab_c119_am) nin0))
                      have K144 : Keep h0 T144.heap [] := Keep.trans K126 Kq144 (allS (Or.inr sz_c119_ab) all0)
                      have Z144 : n0 ≤ T144.heap.size := Nat.le_trans Z126 Kq144.1
                      refine own_pre (A := T144.setTop (mkF m 173 #[.val (.int p1), .val (.int p2), .val (.int p3), .val (.int p4), .val (.int p5), .val (.int n), .val (.int (1 : Int32)), .val (.int (0 : Int32)), .val (.int (0 : Int32)), .val (.int xa), .val (.int xb), .val (.int xq), .val (.ref b118), .val (.int ok2), .unset] [(.int xb), (.int xq)])) (fun tt kt => ?_) ?_
                      · show Steps p.tables e below (Tj134.setTop (mkF m 150 #[.val (.int p1), .val (.int p2), .val (.int p3), .val (.int p4), .val (.int p5), .val (.int n), .val (.int (1 : Int32)), .val (.int (0 : Int32)), .val (.int (0 : Int32)), .val (.int xa), .val (.int xb), .val (.int xq), .val (.ref b118), .val (.int ok2), .unset] [(.int xb), (.ref b118)])) _
                        refine st144.trans ?_
                        show Steps p.tables e below (T144.setTop (mkF m 153 #[.val (.int p1), .val (.int p2), .val (.int p3), .val (.int p4), .val (.int p5), .val (.int n), .val (.int (1 : Int32)), .val (.int (0 : Int32)), .val (.int (0 : Int32)), .val (.int xa), .val (.int xb), .val (.int xq), .val (.ref b118), .val (.int ok2), .unset] [(.int (0 : Int32))])) _
                        refine XS.pop X144.here hx rfl (hb hby at_153) rfl rfl ?_
                        refine XS.iload X144.here hx rfl (hb hby at_154) rfl ?_
                        refine XS.ifYes X144.here hx rfl (pc0 := 156) (pc' := 164) rfl (hb hby at_156) rfl ((if0 _ _).trans (teq ((by decide) : (0 : Int32) = (0 : Int32))).1) (by decide) (by decide) ?_
                        refine XS.iload X144.here hx rfl (hb hby at_164) rfl ?_
                        refine XS.ifNo X144.here hx rfl (hb hby at_166) rfl ((if0 _ _).trans (teq ((by decide) : (0 : Int32) = (0 : Int32))).2) ?_
                        refine XS.iload X144.here hx rfl (hb hby at_169) rfl ?_
                        refine XS.iload X144.here hx rfl (hb hby at_171) rfl ?_
                        exact kt
                      show own_End p e below s (T144.setTop (mkF m 173 #[.val (.int p1), .val (.int p2), .val (.int p3), .val (.int p4), .val (.int p5), .val (.int n), .val (.int (1 : Int32)), .val (.int (0 : Int32)), .val (.int (0 : Int32)), .val (.int xa), .val (.int xb), .val (.int xq), .val (.ref b118), .val (.int ok2), .unset] [(.int xb), (.int xq)])) (Q0 Z p1 p2 p3 p4 p5 h0 n0) room_1.cells room_1.slots
                      have j193 : ∀ (Tj193 : State) (Lj193 : List Loc) (Xj193 : Stand p l e room_1 s m #[(.int p1), (.int p2), (.int p3), (.int p4), (.int p5)] below meth c Tj193 Lj193 4 46) (ej193 : Tj193.heap = T144.heap) (Nj193 : Fr n0 Lj193) (ex : Int32) , own_law p1 p2 p3 p4 p5 = own_law_193bbb p1 p2 p3 p4 p5 n xa xb xq ok1 ok2 ex → own_End p e below s (Tj193.setTop (mkF m 193 #[.val (.int p1), .val (.int p2), .val (.int p3), .val (.int p4), .val (.int p5), .val (.int n), .val (.int (1 : Int32)), .val (.int (0 : Int32)), .val (.int (0 : Int32)), .val (.int xa), .val (.int xb), .val (.int xq), .val (.ref b118), .val (.int ok2), .unset] [(.int ex)])) (Q0 Z p1 p2 p3 p4 p5 h0 n0) room_1.cells room_1.slots := by
                        intro Tj193 Lj193 Xj193 ej193 Nj193 ex  hj
                        refine own_pre (A := Tj193.setTop (mkF m 197 #[.val (.int p1), .val (.int p2), .val (.int p3), .val (.int p4), .val (.int p5), .val (.int n), .val (.int (1 : Int32)), .val (.int (0 : Int32)), .val (.int (0 : Int32)), .val (.int xa), .val (.int xb), .val (.int xq), .val (.ref b118), .val (.int ok2), .val (.int ex)] [(.int ok2)])) (fun tt kt => ?_) ?_
                        · show Steps p.tables e below (Tj193.setTop (mkF m 193 #[.val (.int p1), .val (.int p2), .val (.int p3), .val (.int p4), .val (.int p5), .val (.int n), .val (.int (1 : Int32)), .val (.int (0 : Int32)), .val (.int (0 : Int32)), .val (.int xa), .val (.int xb), .val (.int xq), .val (.ref b118), .val (.int ok2), .unset] [(.int ex)])) _
                          refine XS.istore Xj193.here hx rfl (hb hby at_193) rfl (l' := #[.val (.int p1), .val (.int p2), .val (.int p3), .val (.int p4), .val (.int p5), .val (.int n), .val (.int (1 : Int32)), .val (.int (0 : Int32)), .val (.int (0 : Int32)), .val (.int xa), .val (.int xb), .val (.int xq), .val (.ref b118), .val (.int ok2), .val (.int ex)]) rfl ?_
                          refine XS.iload Xj193.here hx rfl (hb hby at_195) rfl ?_
                          exact kt
                        show own_End p e below s (Tj193.setTop (mkF m 197 #[.val (.int p1), .val (.int p2), .val (.int p3), .val (.int p4), .val (.int p5), .val (.int n), .val (.int (1 : Int32)), .val (.int (0 : Int32)), .val (.int (0 : Int32)), .val (.int xa), .val (.int xb), .val (.int xq), .val (.ref b118), .val (.int ok2), .val (.int ex)] [(.int ok2)])) (Q0 Z p1 p2 p3 p4 p5 h0 n0) room_1.cells room_1.slots
                        by_cases hc197_145 : ok2 = (0 : Int32)
                        · refine own_pre (A := Tj193.setTop (mkF m 217 #[.val (.int p1), .val (.int p2), .val (.int p3), .val (.int p4), .val (.int p5), .val (.int n), .val (.int (1 : Int32)), .val (.int (0 : Int32)), .val (.int (0 : Int32)), .val (.int xa), .val (.int xb), .val (.int xq), .val (.ref b118), .val (.int ok2), .val (.int ex)] [(.int (0 : Int32))])) (fun tt kt => ?_) ?_
                          · show Steps p.tables e below (Tj193.setTop (mkF m 197 #[.val (.int p1), .val (.int p2), .val (.int p3), .val (.int p4), .val (.int p5), .val (.int n), .val (.int (1 : Int32)), .val (.int (0 : Int32)), .val (.int (0 : Int32)), .val (.int xa), .val (.int xb), .val (.int xq), .val (.ref b118), .val (.int ok2), .val (.int ex)] [(.int ok2)])) _
                            refine XS.ifYes Xj193.here hx rfl (pc0 := 197) (pc' := 216) rfl (hb hby at_197) rfl ((if0 _ _).trans (teq hc197_145).1) (by decide) (by decide) ?_
                            refine XS.iconst Xj193.here hx rfl (hb hby at_216) ?_
                            exact kt
                          show own_End p e below s (Tj193.setTop (mkF m 217 #[.val (.int p1), .val (.int p2), .val (.int p3), .val (.int p4), .val (.int p5), .val (.int n), .val (.int (1 : Int32)), .val (.int (0 : Int32)), .val (.int (0 : Int32)), .val (.int xa), .val (.int xb), .val (.int xq), .val (.ref b118), .val (.int ok2), .val (.int ex)] [(.int (0 : Int32))])) (Q0 Z p1 p2 p3 p4 p5 h0 n0) room_1.cells room_1.slots
                          have hv : (own_law p1 p2 p3 p4 p5) = (0 : Int32) := hj.trans (by simp only [own_law_193bbb, if_pos hc197_145])
                          obtain ⟨fs, hr, hrun, hended, hW, hsame⟩ := Xj193.leave (v := some (.int (0 : Int32))) (fun h => by rw [Bd.returns] at h; cases h)
                          refine ⟨_, _, ?_, hrun, hended, _, _, rfl, ?_, ⟨_, rfl⟩, hW, hsame.mono (by decide) (by decide)⟩
                          · exact retN Xj193 hx (t := .boolean) Bd.returns (by simp) (hb hby at_217) hr
                          · show Q0 Z p1 p2 p3 p4 p5 h0 n0 _ Tj193.heap _
                            rw [ej193]
                            exact ⟨(congrArg (fun z => some (Value.int z)) hv.symm), Nj193⟩
                        · obtain ⟨cq146, kq146, q146a, q146b, q146c⟩ := isOf hZ ej193 fE_b118_x144
                          obtain ⟨_, _, ⟨T146, L146, k146, n146⟩, -, X146, ⟨Lc146, hQ146, l146, y146, z146⟩, st146⟩ := Xj193.virtualBack hx (y := (⟨"com/example/libfacet/libfacet/regex/StateSet", "isMarked", "(I)Z"⟩ : MethodName)) (z := (⟨"com/example/libfacet/libfacet/regex/StateSet", "isMarked", "(I)Z"⟩ : MethodName)) hown (mvT hZ (hw _ (List.mem_of_getElem? (i := 26) rfl))) (mvT hZ (hw _ (List.mem_of_getElem? (i := 27) rfl))) (notFace_of_selects (args := #[]) (mvT hZ (hw _ (List.mem_of_getElem? (i := 29) rfl)))) (mvT hZ (hw _ (List.mem_of_getElem? (i := 29) rfl))) (mvT hZ (hw _ (List.mem_of_getElem? (i := 28) rfl))) (by decide) (backOf (W := 0) (rm3L l Z a0 hw [] b118 xq c119_ab c119_am (1 : Int32) (0 : Int32) (own_orb (own_orb (fun _ => (0 : Int64)) xa) xb) (((n + (63 : Int32)).toUInt32 >>> ((6 : Int32) &&& 31).toUInt32).toInt32) T144.heap n0 Z144 ⟨fE_b118_x144, fF_b118_markBits_x144, fF_b118_marked_x144, fF_b118_markedCount_x144, fF_b118_size_x144⟩ V144_0 (own_wd hn0 hn1 hxq0 hxq1)) hZ (hw _ (List.mem_of_getElem? (i := 30) rfl)) (hw _ (List.mem_of_getElem? (i := 3) rfl)) (by decide) (by decide)) q146a q146c (g := (mkF m 204 #[.val (.int p1), .val (.int p2), .val (.int p3), .val (.int p4), .val (.int p5), .val (.int n), .val (.int (1 : Int32)), .val (.int (0 : Int32)), .val (.int (0 : Int32)), .val (.int xa), .val (.int xb), .val (.int xq), .val (.ref b118), .val (.int ok2), .val (.int ex)] [(.int xq), (.ref b118)])) rfl (by rw [hml]; rfl) (Steps.refl _) (argsL := [(.int xq)]) (rest := []) (lenOf pd_0_1 rfl) rfl (by show 2 * 0 + _ ≤ _; exact Nat.le_of_eq rfl) (hb hby at_204) (fun _ _ => ⟨rfl, ej193, (by decide : 4 + 0 ≤ _), (by decide : 46 + 0 ≤ _)⟩)
                          dsimp only [Pt.U, Pt.locs, Pt.cells, Pt.slots] at X146 l146 y146 z146 st146 hQ146
                          subst l146 y146 z146
                          obtain ⟨rfl, N146q, e146⟩ := hQ146
                          have N146 := Fr.app Nj193 N146q
                          refine own_pre (A := T146.setTop (mkF m 209 #[.val (.int p1), .val (.int p2), .val (.int p3), .val (.int p4), .val (.int p5), .val (.int n), .val (.int (1 : Int32)), .val (.int (0 : Int32)), .val (.int (0 : Int32)), .val (.int xa), .val (.int xb), .val (.int xq), .val (.ref b118), .val (.int ok2), .val (.int ex)] [(.int ex), (.int (own_isL xq (own_orb (own_orb (fun _ => (0 : Int64)) xa) xb) (((n + (63 : Int32)).toUInt32 >>> ((6 : Int32) &&& 31).toUInt32).toInt32) (1 : Int32) (0 : Int32)))])) (fun tt kt => ?_) ?_
                          · show Steps p.tables e below (Tj193.setTop (mkF m 197 #[.val (.int p1), .val (.int p2), .val (.int p3), .val (.int p4), .val (.int p5), .val (.int n), .val (.int (1 : Int32)), .val (.int (0 : Int32)), .val (.int (0 : Int32)), .val (.int xa), .val (.int xb), .val (.int xq), .val (.ref b118), .val (.int ok2), .val (.int ex)] [(.int ok2)])) _
                            refine XS.ifNo Xj193.here hx rfl (hb hby at_197) rfl ((if0 _ _).trans (feq hc197_145).1) ?_
                            refine XS.aload Xj193.here hx rfl (hb hby at_200) rfl rfl ?_
                            refine XS.iload Xj193.here hx rfl (hb hby at_202) rfl ?_
                            show Steps p.tables e below (Tj193.setTop (mkF m 204 #[.val (.int p1), .val (.int p2), .val (.int p3), .val (.int p4), .val (.int p5), .val (.int n), .val (.int (1 : Int32)), .val (.int (0 : Int32)), .val (.int (0 : Int32)), .val (.int xa), .val (.int xb), .val (.int xq), .val (.ref b118), .val (.int ok2), .val (.int ex)] [(.int xq), (.ref b118)])) _
                            refine st146.trans ?_
                            show Steps p.tables e below (T146.setTop (mkF m 207 #[.val (.int p1), .val (.int p2), .val (.int p3), .val (.int p4), .val (.int p5), .val (.int n), .val (.int (1 : Int32)), .val (.int (0 : Int32)), .val (.int (0 : Int32)), .val (.int xa), .val (.int xb), .val (.int xq), .val (.ref b118), .val (.int ok2), .val (.int ex)] [(.int (own_isL xq (own_orb (own_orb (fun _ => (0 : Int64)) xa) xb) (((n + (63 : Int32)).toUInt32 >>> ((6 : Int32) &&& 31).toUInt32).toInt32) (1 : Int32) (0 : Int32)))])) _
                            refine XS.iload X146.here hx rfl (hb hby at_207) rfl ?_
                            exact kt
                          show own_End p e below s (T146.setTop (mkF m 209 #[.val (.int p1), .val (.int p2), .val (.int p3), .val (.int p4), .val (.int p5), .val (.int n), .val (.int (1 : Int32)), .val (.int (0 : Int32)), .val (.int (0 : Int32)), .val (.int xa), .val (.int xb), .val (.int xq), .val (.ref b118), .val (.int ok2), .val (.int ex)] [(.int ex), (.int (own_isL xq (own_orb (own_orb (fun _ => (0 : Int64)) xa) xb) (((n + (63 : Int32)).toUInt32 >>> ((6 : Int32) &&& 31).toUInt32).toInt32) (1 : Int32) (0 : Int32)))])) (Q0 Z p1 p2 p3 p4 p5 h0 n0) room_1.cells room_1.slots
                          by_cases hc209_147 : (own_isL xq (own_orb (own_orb (fun _ => (0 : Int64)) xa) xb) (((n + (63 : Int32)).toUInt32 >>> ((6 : Int32) &&& 31).toUInt32).toInt32) (1 : Int32) (0 : Int32)) = ex
                          · refine own_pre (A := T146.setTop (mkF m 217 #[.val (.int p1), .val (.int p2), .val (.int p3), .val (.int p4), .val (.int p5), .val (.int n), .val (.int (1 : Int32)), .val (.int (0 : Int32)), .val (.int (0 : Int32)), .val (.int xa), .val (.int xb), .val (.int xq), .val (.ref b118), .val (.int ok2), .val (.int ex)] [(.int (1 : Int32))])) (fun tt kt => ?_) ?_
                            · show Steps p.tables e below (T146.setTop (mkF m 209 #[.val (.int p1), .val (.int p2), .val (.int p3), .val (.int p4), .val (.int p5), .val (.int n), .val (.int (1 : Int32)), .val (.int (0 : Int32)), .val (.int (0 : Int32)), .val (.int xa), .val (.int xb), .val (.int xq), .val (.ref b118), .val (.int ok2), .val (.int ex)] [(.int ex), (.int (own_isL xq (own_orb (own_orb (fun _ => (0 : Int64)) xa) xb) (((n + (63 : Int32)).toUInt32 >>> ((6 : Int32) &&& 31).toUInt32).toInt32) (1 : Int32) (0 : Int32)))])) _
                              refine XS.icmpNo X146.here hx rfl (hb hby at_209) rfl (teq hc209_147).2 ?_
                              refine XS.iconst X146.here hx rfl (hb hby at_212) ?_
                              refine XS.goto X146.here hx rfl (pc0 := 213) (pc' := 217) rfl (hb hby at_213) (by decide) (by decide) ?_
                              exact kt
                            show own_End p e below s (T146.setTop (mkF m 217 #[.val (.int p1), .val (.int p2), .val (.int p3), .val (.int p4), .val (.int p5), .val (.int n), .val (.int (1 : Int32)), .val (.int (0 : Int32)), .val (.int (0 : Int32)), .val (.int xa), .val (.int xb), .val (.int xq), .val (.ref b118), .val (.int ok2), .val (.int ex)] [(.int (1 : Int32))])) (Q0 Z p1 p2 p3 p4 p5 h0 n0) room_1.cells room_1.slots
                            have hv : (own_law p1 p2 p3 p4 p5) = (1 : Int32) := hj.trans (by simp only [own_law_193bbb, if_neg hc197_145, if_pos hc209_147])
                            obtain ⟨fs, hr, hrun, hended, hW, hsame⟩ := X146.leave (v := some (.int (1 : Int32))) (fun h => by rw [Bd.returns] at h; cases h)
                            refine ⟨_, _, ?_, hrun, hended, _, _, rfl, ?_, ⟨_, rfl⟩, hW, hsame.mono (by decide) (by decide)⟩
                            · exact retN X146 hx (t := .boolean) Bd.returns (by simp) (hb hby at_217) hr
                            · show Q0 Z p1 p2 p3 p4 p5 h0 n0 _ T146.heap _
                              rw [e146]
                              exact ⟨(congrArg (fun z => some (Value.int z)) hv.symm), N146⟩
                          · refine own_pre (A := T146.setTop (mkF m 217 #[.val (.int p1), .val (.int p2), .val (.int p3), .val (.int p4), .val (.int p5), .val (.int n), .val (.int (1 : Int32)), .val (.int (0 : Int32)), .val (.int (0 : Int32)), .val (.int xa), .val (.int xb), .val (.int xq), .val (.ref b118), .val (.int ok2), .val (.int ex)] [(.int (0 : Int32))])) (fun tt kt => ?_) ?_
                            · show Steps p.tables e below (T146.setTop (mkF m 209 #[.val (.int p1), .val (.int p2), .val (.int p3), .val (.int p4), .val (.int p5), .val (.int n), .val (.int (1 : Int32)), .val (.int (0 : Int32)), .val (.int (0 : Int32)), .val (.int xa), .val (.int xb), .val (.int xq), .val (.ref b118), .val (.int ok2), .val (.int ex)] [(.int ex), (.int (own_isL xq (own_orb (own_orb (fun _ => (0 : Int64)) xa) xb) (((n + (63 : Int32)).toUInt32 >>> ((6 : Int32) &&& 31).toUInt32).toInt32) (1 : Int32) (0 : Int32)))])) _
                              refine XS.icmpYes X146.here hx rfl (pc0 := 209) (pc' := 216) rfl (hb hby at_209) rfl (feq hc209_147).2 (by decide) (by decide) ?_
                              refine XS.iconst X146.here hx rfl (hb hby at_216) ?_
                              exact kt
                            show own_End p e below s (T146.setTop (mkF m 217 #[.val (.int p1), .val (.int p2), .val (.int p3), .val (.int p4), .val (.int p5), .val (.int n), .val (.int (1 : Int32)), .val (.int (0 : Int32)), .val (.int (0 : Int32)), .val (.int xa), .val (.int xb), .val (.int xq), .val (.ref b118), .val (.int ok2), .val (.int ex)] [(.int (0 : Int32))])) (Q0 Z p1 p2 p3 p4 p5 h0 n0) room_1.cells room_1.slots
                            have hv : (own_law p1 p2 p3 p4 p5) = (0 : Int32) := hj.trans (by simp only [own_law_193bbb, if_neg hc197_145, if_neg hc209_147])
                            obtain ⟨fs, hr, hrun, hended, hW, hsame⟩ := X146.leave (v := some (.int (0 : Int32))) (fun h => by rw [Bd.returns] at h; cases h)
                            refine ⟨_, _, ?_, hrun, hended, _, _, rfl, ?_, ⟨_, rfl⟩, hW, hsame.mono (by decide) (by decide)⟩
                            · exact retN X146 hx (t := .boolean) Bd.returns (by simp) (hb hby at_217) hr
                            · show Q0 Z p1 p2 p3 p4 p5 h0 n0 _ T146.heap _
                              rw [e146]
                              exact ⟨(congrArg (fun z => some (Value.int z)) hv.symm), N146⟩
                      by_cases hc173_148 : xq = xb
                      · refine own_pre (A := T144.setTop (mkF m 193 #[.val (.int p1), .val (.int p2), .val (.int p3), .val (.int p4), .val (.int p5), .val (.int n), .val (.int (1 : Int32)), .val (.int (0 : Int32)), .val (.int (0 : Int32)), .val (.int xa), .val (.int xb), .val (.int xq), .val (.ref b118), .val (.int ok2), .unset] [(.int (1 : Int32))])) (fun tt kt => ?_) ?_
                        · show Steps p.tables e below (T144.setTop (mkF m 173 #[.val (.int p1), .val (.int p2), .val (.int p3), .val (.int p4), .val (.int p5), .val (.int n), .val (.int (1 : Int32)), .val (.int (0 : Int32)), .val (.int (0 : Int32)), .val (.int xa), .val (.int xb), .val (.int xq), .val (.ref b118), .val (.int ok2), .unset] [(.int xb), (.int xq)])) _
                          refine XS.icmpYes X144.here hx rfl (pc0 := 173) (pc' := 188) rfl (hb hby at_173) rfl (teq hc173_148).1 (by decide) (by decide) ?_
                          refine XS.iconst X144.here hx rfl (hb hby at_188) ?_
                          refine XS.goto X144.here hx rfl (pc0 := 189) (pc' := 193) rfl (hb hby at_189) (by decide) (by decide) ?_
                          exact kt
                        show own_End p e below s (T144.setTop (mkF m 193 #[.val (.int p1), .val (.int p2), .val (.int p3), .val (.int p4), .val (.int p5), .val (.int n), .val (.int (1 : Int32)), .val (.int (0 : Int32)), .val (.int (0 : Int32)), .val (.int xa), .val (.int xb), .val (.int xq), .val (.ref b118), .val (.int ok2), .unset] [(.int (1 : Int32))])) (Q0 Z p1 p2 p3 p4 p5 h0 n0) room_1.cells room_1.slots
                        exact j193 _ _ X144 rfl N144 (1 : Int32)  (hj.trans (by simp only [own_law_134bbbb, if_neg hU132, if_pos hc173_148]))
                      · refine own_pre (A := T144.setTop (mkF m 185 #[.val (.int p1), .val (.int p2), .val (.int p3), .val (.int p4), .val (.int p5), .val (.int n), .val (.int (1 : Int32)), .val (.int (0 : Int32)), .val (.int (0 : Int32)), .val (.int xa), .val (.int xb), .val (.int xq), .val (.ref b118), .val (.int ok2), .unset] [(.int xa), (.int xq)])) (fun tt kt => ?_) ?_
                        · show Steps p.tables e below (T144.setTop (mkF m 173 #[.val (.int p1), .val (.int p2), .val (.int p3), .val (.int p4), .val (.int p5), .val (.int n), .val (.int (1 : Int32)), .val (.int (0 : Int32)), .val (.int (0 : Int32)), .val (.int xa), .val (.int xb), .val (.int xq), .val (.ref b118), .val (.int ok2), .unset] [(.int xb), (.int xq)])) _
                          refine XS.icmpNo X144.here hx rfl (hb hby at_173) rfl (feq hc173_148).1 ?_
                          refine XS.iload X144.here hx rfl (hb hby at_176) rfl ?_
                          refine XS.ifNo X144.here hx rfl (hb hby at_178) rfl ((if0 _ _).trans (teq ((by decide) : (0 : Int32) = (0 : Int32))).2) ?_
                          refine XS.iload X144.here hx rfl (hb hby at_181) rfl ?_
                          refine XS.iload X144.here hx rfl (hb hby at_183) rfl ?_
                          exact kt
                        show own_End p e below s (T144.setTop (mkF m 185 #[.val (.int p1), .val (.int p2), .val (.int p3), .val (.int p4), .val (.int p5), .val (.int n), .val (.int (1 : Int32)), .val (.int (0 : Int32)), .val (.int (0 : Int32)), .val (.int xa), .val (.int xb), .val (.int xq), .val (.ref b118), .val (.int ok2), .unset] [(.int xa), (.int xq)])) (Q0 Z p1 p2 p3 p4 p5 h0 n0) room_1.cells room_1.slots
                        by_cases hc185_149 : xq = xa
                        · refine own_pre (A := T144.setTop (mkF m 193 #[.val (.int p1), .val (.int p2), .val (.int p3), .val (.int p4), .val (.int p5), .val (.int n), .val (.int (1 : Int32)), .val (.int (0 : Int32)), .val (.int (0 : Int32)), .val (.int xa), .val (.int xb), .val (.int xq), .val (.ref b118), .val (.int ok2), .unset] [(.int (1 : Int32))])) (fun tt kt => ?_) ?_
                          · show Steps p.tables e below (T144.setTop (mkF m 185 #[.val (.int p1), .val (.int p2), .val (.int p3), .val (.int p4), .val (.int p5), .val (.int n), .val (.int (1 : Int32)), .val (.int (0 : Int32)), .val (.int (0 : Int32)), .val (.int xa), .val (.int xb), .val (.int xq), .val (.ref b118), .val (.int ok2), .unset] [(.int xa), (.int xq)])) _
                            refine XS.icmpNo X144.here hx rfl (hb hby at_185) rfl (teq hc185_149).2 ?_
                            refine XS.iconst X144.here hx rfl (hb hby at_188) ?_
                            refine XS.goto X144.here hx rfl (pc0 := 189) (pc' := 193) rfl (hb hby at_189) (by decide) (by decide) ?_
                            exact kt
                          show own_End p e below s (T144.setTop (mkF m 193 #[.val (.int p1), .val (.int p2), .val (.int p3), .val (.int p4), .val (.int p5), .val (.int n), .val (.int (1 : Int32)), .val (.int (0 : Int32)), .val (.int (0 : Int32)), .val (.int xa), .val (.int xb), .val (.int xq), .val (.ref b118), .val (.int ok2), .unset] [(.int (1 : Int32))])) (Q0 Z p1 p2 p3 p4 p5 h0 n0) room_1.cells room_1.slots
                          exact j193 _ _ X144 rfl N144 (1 : Int32)  (hj.trans (by simp only [own_law_134bbbb, if_neg hU132, if_neg hc173_148, if_pos hc185_149]))
                        · refine own_pre (A := T144.setTop (mkF m 193 #[.val (.int p1), .val (.int p2), .val (.int p3), .val (.int p4), .val (.int p5), .val (.int n), .val (.int (1 : Int32)), .val (.int (0 : Int32)), .val (.int (0 : Int32)), .val (.int xa), .val (.int xb), .val (.int xq), .val (.ref b118), .val (.int ok2), .unset] [(.int (0 : Int32))])) (fun tt kt => ?_) ?_
                          · show Steps p.tables e below (T144.setTop (mkF m 185 #[.val (.int p1), .val (.int p2), .val (.int p3), .val (.int p4), .val (.int p5), .val (.int n), .val (.int (1 : Int32)), .val (.int (0 : Int32)), .val (.int (0 : Int32)), .val (.int xa), .val (.int xb), .val (.int xq), .val (.ref b118), .val (.int ok2), .unset] [(.int xa), (.int xq)])) _
                            refine XS.icmpYes X144.here hx rfl (pc0 := 185) (pc' := 192) rfl (hb hby at_185) rfl (feq hc185_149).2 (by decide) (by decide) ?_
                            refine XS.iconst X144.here hx rfl (hb hby at_192) ?_
                            exact kt
                          show own_End p e below s (T144.setTop (mkF m 193 #[.val (.int p1), .val (.int p2), .val (.int p3), .val (.int p4), .val (.int p5), .val (.int n), .val (.int (1 : Int32)), .val (.int (0 : Int32)), .val (.int (0 : Int32)), .val (.int xa), .val (.int xb), .val (.int xq), .val (.ref b118), .val (.int ok2), .unset] [(.int (0 : Int32))])) (Q0 Z p1 p2 p3 p4 p5 h0 n0) room_1.cells room_1.slots
                          exact j193 _ _ X144 rfl N144 (0 : Int32)  (hj.trans (by simp only [own_law_134bbbb, if_neg hU132, if_neg hc173_148, if_neg hc185_149]))
                  by_cases hc116_150 : ok1 = (0 : Int32)
                  · refine own_pre (A := T126.setTop (mkF m 134 #[.val (.int p1), .val (.int p2), .val (.int p3), .val (.int p4), .val (.int p5), .val (.int n), .val (.int (1 : Int32)), .val (.int (0 : Int32)), .val (.int (0 : Int32)), .val (.int xa), .val (.int xb), .val (.int xq), .val (.ref b118), .val (.int ok1), .unset] [(.int (0 : Int32))])) (fun tt kt => ?_) ?_
                    · show Steps p.tables e below (T126.setTop (mkF m 116 #[.val (.int p1), .val (.int p2), .val (.int p3), .val (.int p4), .val (.int p5), .val (.int n), .val (.int (1 : Int32)), .val (.int (0 : Int32)), .val (.int (0 : Int32)), .val (.int xa), .val (.int xb), .val (.int xq), .val (.ref b118), .val (.int ok1), .unset] [(.int ok1)])) _
                      refine XS.ifYes X126.here hx rfl (pc0 := 116) (pc' := 133) rfl (hb hby at_116) rfl ((if0 _ _).trans (teq hc116_150).1) (by decide) (by decide) ?_
                      refine XS.iconst X126.here hx rfl (hb hby at_133) ?_
                      exact kt
                    show own_End p e below s (T126.setTop (mkF m 134 #[.val (.int p1), .val (.int p2), .val (.int p3), .val (.int p4), .val (.int p5), .val (.int n), .val (.int (1 : Int32)), .val (.int (0 : Int32)), .val (.int (0 : Int32)), .val (.int xa), .val (.int xb), .val (.int xq), .val (.ref b118), .val (.int ok1), .unset] [(.int (0 : Int32))])) (Q0 Z p1 p2 p3 p4 p5 h0 n0) room_1.cells room_1.slots
                    exact j134 _ _ X126 rfl N126 (0 : Int32)  (hj.trans (by simp only [own_law_104bbbb, if_pos hc116_150]))
                  · obtain ⟨cq151, kq151, q151a, q151b, q151c⟩ := isOf hZ rfl E_b118_127
                    obtain ⟨_, _, ⟨T151, L151, k151, n151⟩, -, X151, ⟨Lc151, hQ151, l151, y151, z151⟩, st151⟩ := X126.virtualBack hx (y := (⟨"com/example/libfacet/libfacet/regex/StateSet", "isMarked", "(I)Z"⟩ : MethodName)) (z := (⟨"com/example/libfacet/libfacet/regex/StateSet", "isMarked", "(I)Z"⟩ : MethodName)) hown (mvT hZ (hw _ (List.mem_of_getElem? (i := 26) rfl))) (mvT hZ (hw _ (List.mem_of_getElem? (i := 27) rfl))) (notFace_of_selects (args := #[]) (mvT hZ (hw _ (List.mem_of_getElem? (i := 29) rfl)))) (mvT hZ (hw _ (List.mem_of_getElem? (i := 29) rfl))) (mvT hZ (hw _ (List.mem_of_getElem? (i := 28) rfl))) (by decide) (backOf (W := 0) (rm3L l Z a0 hw [] b118 xa c119_ab c119_am (1 : Int32) (0 : Int32) (own_orb (fun _ => (0 : Int64)) xa) (((n + (63 : Int32)).toUInt32 >>> ((6 : Int32) &&& 31).toUInt32).toInt32) T126.heap n0 Z126 ⟨E_b118_127, F_markBits_b118_128, F_marked_b118_129, F_markedCount_b118_130, F_size_b118_131⟩ V126_0 (own_wd hn0 hn1 hxa0 hxa1)) hZ (hw _ (List.mem_of_getElem? (i := 30) rfl)) (hw _ (List.mem_of_getElem? (i := 3) rfl)) (by decide) (by decide)) q151a q151c (g := (mkF m 123 #[.val (.int p1), .val (.int p2), .val (.int p3), .val (.int p4), .val (.int p5), .val (.int n), .val (.int (1 : Int32)), .val (.int (0 : Int32)), .val (.int (0 : Int32)), .val (.int xa), .val (.int xb), .val (.int xq), .val (.ref b118), .val (.int ok1), .unset] [(.int xa), (.ref b118)])) rfl (by rw [hml]; rfl) (Steps.refl _) (argsL := [(.int xa)]) (rest := []) (lenOf pd_0_1 rfl) rfl (by show 2 * 0 + _ ≤ _; exact Nat.le_of_eq rfl) (hb hby at_123) (fun _ _ => ⟨rfl, rfl, (by decide : 4 + 0 ≤ _), (by decide : 46 + 0 ≤ _)⟩)
                    dsimp only [Pt.U, Pt.locs, Pt.cells, Pt.slots] at X151 l151 y151 z151 st151 hQ151
                    subst l151 y151 z151
                    obtain ⟨rfl, N151q, e151⟩ := hQ151
                    have N151 := Fr.app N126 N151q
                    refine own_pre (A := T151.setTop (mkF m 126 #[.val (.int p1), .val (.int p2), .val (.int p3), .val (.int p4), .val (.int p5), .val (.int n), .val (.int (1 : Int32)), .val (.int (0 : Int32)), .val (.int (0 : Int32)), .val (.int xa), .val (.int xb), .val (.int xq), .val (.ref b118), .val (.int ok1), .unset] [(.int (own_isL xa (own_orb (fun _ => (0 : Int64)) xa) (((n + (63 : Int32)).toUInt32 >>> ((6 : Int32) &&& 31).toUInt32).toInt32) (1 : Int32) (0 : Int32)))])) (fun tt kt => ?_) ?_
                    · show Steps p.tables e below (T126.setTop (mkF m 116 #[.val (.int p1), .val (.int p2), .val (.int p3), .val (.int p4), .val (.int p5), .val (.int n), .val (.int (1 : Int32)), .val (.int (0 : Int32)), .val (.int (0 : Int32)), .val (.int xa), .val (.int xb), .val (.int xq), .val (.ref b118), .val (.int ok1), .unset] [(.int ok1)])) _
                      refine XS.ifNo X126.here hx rfl (hb hby at_116) rfl ((if0 _ _).trans (feq hc116_150).1) ?_
                      refine XS.aload X126.here hx rfl (hb hby at_119) rfl rfl ?_
                      refine XS.iload X126.here hx rfl (hb hby at_121) rfl ?_
                      show Steps p.tables e below (T126.setTop (mkF m 123 #[.val (.int p1), .val (.int p2), .val (.int p3), .val (.int p4), .val (.int p5), .val (.int n), .val (.int (1 : Int32)), .val (.int (0 : Int32)), .val (.int (0 : Int32)), .val (.int xa), .val (.int xb), .val (.int xq), .val (.ref b118), .val (.int ok1), .unset] [(.int xa), (.ref b118)])) _
                      refine st151.trans ?_
                      exact kt
                    show own_End p e below s (T151.setTop (mkF m 126 #[.val (.int p1), .val (.int p2), .val (.int p3), .val (.int p4), .val (.int p5), .val (.int n), .val (.int (1 : Int32)), .val (.int (0 : Int32)), .val (.int (0 : Int32)), .val (.int xa), .val (.int xb), .val (.int xq), .val (.ref b118), .val (.int ok1), .unset] [(.int (own_isL xa (own_orb (fun _ => (0 : Int64)) xa) (((n + (63 : Int32)).toUInt32 >>> ((6 : Int32) &&& 31).toUInt32).toInt32) (1 : Int32) (0 : Int32)))])) (Q0 Z p1 p2 p3 p4 p5 h0 n0) room_1.cells room_1.slots
                    by_cases hc126_152 : (own_isL xa (own_orb (fun _ => (0 : Int64)) xa) (((n + (63 : Int32)).toUInt32 >>> ((6 : Int32) &&& 31).toUInt32).toInt32) (1 : Int32) (0 : Int32)) = (0 : Int32)
                    · refine own_pre (A := T151.setTop (mkF m 134 #[.val (.int p1), .val (.int p2), .val (.int p3), .val (.int p4), .val (.int p5), .val (.int n), .val (.int (1 : Int32)), .val (.int (0 : Int32)), .val (.int (0 : Int32)), .val (.int xa), .val (.int xb), .val (.int xq), .val (.ref b118), .val (.int ok1), .unset] [(.int (0 : Int32))])) (fun tt kt => ?_) ?_
                      · show Steps p.tables e below (T151.setTop (mkF m 126 #[.val (.int p1), .val (.int p2), .val (.int p3), .val (.int p4), .val (.int p5), .val (.int n), .val (.int (1 : Int32)), .val (.int (0 : Int32)), .val (.int (0 : Int32)), .val (.int xa), .val (.int xb), .val (.int xq), .val (.ref b118), .val (.int ok1), .unset] [(.int (own_isL xa (own_orb (fun _ => (0 : Int64)) xa) (((n + (63 : Int32)).toUInt32 >>> ((6 : Int32) &&& 31).toUInt32).toInt32) (1 : Int32) (0 : Int32)))])) _
                        refine XS.ifYes X151.here hx rfl (pc0 := 126) (pc' := 133) rfl (hb hby at_126) rfl ((if0 _ _).trans (teq hc126_152).1) (by decide) (by decide) ?_
                        refine XS.iconst X151.here hx rfl (hb hby at_133) ?_
                        exact kt
                      show own_End p e below s (T151.setTop (mkF m 134 #[.val (.int p1), .val (.int p2), .val (.int p3), .val (.int p4), .val (.int p5), .val (.int n), .val (.int (1 : Int32)), .val (.int (0 : Int32)), .val (.int (0 : Int32)), .val (.int xa), .val (.int xb), .val (.int xq), .val (.ref b118), .val (.int ok1), .unset] [(.int (0 : Int32))])) (Q0 Z p1 p2 p3 p4 p5 h0 n0) room_1.cells room_1.slots
                      exact j134 _ _ X151 e151 N151 (0 : Int32)  (hj.trans (by simp only [own_law_104bbbb, if_neg hc116_150, if_pos hc126_152]))
                    · refine own_pre (A := T151.setTop (mkF m 134 #[.val (.int p1), .val (.int p2), .val (.int p3), .val (.int p4), .val (.int p5), .val (.int n), .val (.int (1 : Int32)), .val (.int (0 : Int32)), .val (.int (0 : Int32)), .val (.int xa), .val (.int xb), .val (.int xq), .val (.ref b118), .val (.int ok1), .unset] [(.int (1 : Int32))])) (fun tt kt => ?_) ?_
                      · show Steps p.tables e below (T151.setTop (mkF m 126 #[.val (.int p1), .val (.int p2), .val (.int p3), .val (.int p4), .val (.int p5), .val (.int n), .val (.int (1 : Int32)), .val (.int (0 : Int32)), .val (.int (0 : Int32)), .val (.int xa), .val (.int xb), .val (.int xq), .val (.ref b118), .val (.int ok1), .unset] [(.int (own_isL xa (own_orb (fun _ => (0 : Int64)) xa) (((n + (63 : Int32)).toUInt32 >>> ((6 : Int32) &&& 31).toUInt32).toInt32) (1 : Int32) (0 : Int32)))])) _
                        refine XS.ifNo X151.here hx rfl (hb hby at_126) rfl ((if0 _ _).trans (feq hc126_152).1) ?_
                        refine XS.iconst X151.here hx rfl (hb hby at_129) ?_
                        refine XS.goto X151.here hx rfl (pc0 := 130) (pc' := 134) rfl (hb hby at_130) (by decide) (by decide) ?_
                        exact kt
                      show own_End p e below s (T151.setTop (mkF m 134 #[.val (.int p1), .val (.int p2), .val (.int p3), .val (.int p4), .val (.int p5), .val (.int n), .val (.int (1 : Int32)), .val (.int (0 : Int32)), .val (.int (0 : Int32)), .val (.int xa), .val (.int xb), .val (.int xq), .val (.ref b118), .val (.int ok1), .unset] [(.int (1 : Int32))])) (Q0 Z p1 p2 p3 p4 p5 h0 n0) room_1.cells room_1.slots
                      exact j134 _ _ X151 e151 N151 (1 : Int32)  (hj.trans (by simp only [own_law_104bbbb, if_neg hc116_150, if_neg hc126_152]))
                by_cases hc96_153 : (own_isL xq (fun _ => (0 : Int64)) (((n + (63 : Int32)).toUInt32 >>> ((6 : Int32) &&& 31).toUInt32).toInt32) (0 : Int32) (0 : Int32)) = (0 : Int32)
                · refine own_pre (A := T125.setTop (mkF m 104 #[.val (.int p1), .val (.int p2), .val (.int p3), .val (.int p4), .val (.int p5), .val (.int n), .val (.int (1 : Int32)), .val (.int (0 : Int32)), .val (.int (0 : Int32)), .val (.int xa), .val (.int xb), .val (.int xq), .val (.ref b118), .unset, .unset] [(.int (1 : Int32))])) (fun tt kt => ?_) ?_
                  · show Steps p.tables e below (T125.setTop (mkF m 96 #[.val (.int p1), .val (.int p2), .val (.int p3), .val (.int p4), .val (.int p5), .val (.int n), .val (.int (1 : Int32)), .val (.int (0 : Int32)), .val (.int (0 : Int32)), .val (.int xa), .val (.int xb), .val (.int xq), .val (.ref b118), .unset, .unset] [(.int (own_isL xq (fun _ => (0 : Int64)) (((n + (63 : Int32)).toUInt32 >>> ((6 : Int32) &&& 31).toUInt32).toInt32) (0 : Int32) (0 : Int32)))])) _
                    refine XS.ifNo X125.here hx rfl (hb hby at_96) rfl ((if0 _ _).trans (teq hc96_153).2) ?_
                    refine XS.iconst X125.here hx rfl (hb hby at_99) ?_
                    refine XS.goto X125.here hx rfl (pc0 := 100) (pc' := 104) rfl (hb hby at_100) (by decide) (by decide) ?_
                    exact kt
                  show own_End p e below s (T125.setTop (mkF m 104 #[.val (.int p1), .val (.int p2), .val (.int p3), .val (.int p4), .val (.int p5), .val (.int n), .val (.int (1 : Int32)), .val (.int (0 : Int32)), .val (.int (0 : Int32)), .val (.int xa), .val (.int xb), .val (.int xq), .val (.ref b118), .unset, .unset] [(.int (1 : Int32))])) (Q0 Z p1 p2 p3 p4 p5 h0 n0) room_1.cells room_1.slots
                  exact j104 _ _ X125 e125 N125 (1 : Int32)  (hj.trans (by simp only [own_law_76bbbb, if_pos hc96_153]))
                · refine own_pre (A := T125.setTop (mkF m 104 #[.val (.int p1), .val (.int p2), .val (.int p3), .val (.int p4), .val (.int p5), .val (.int n), .val (.int (1 : Int32)), .val (.int (0 : Int32)), .val (.int (0 : Int32)), .val (.int xa), .val (.int xb), .val (.int xq), .val (.ref b118), .unset, .unset] [(.int (0 : Int32))])) (fun tt kt => ?_) ?_
                  · show Steps p.tables e below (T125.setTop (mkF m 96 #[.val (.int p1), .val (.int p2), .val (.int p3), .val (.int p4), .val (.int p5), .val (.int n), .val (.int (1 : Int32)), .val (.int (0 : Int32)), .val (.int (0 : Int32)), .val (.int xa), .val (.int xb), .val (.int xq), .val (.ref b118), .unset, .unset] [(.int (own_isL xq (fun _ => (0 : Int64)) (((n + (63 : Int32)).toUInt32 >>> ((6 : Int32) &&& 31).toUInt32).toInt32) (0 : Int32) (0 : Int32)))])) _
                    refine XS.ifYes X125.here hx rfl (pc0 := 96) (pc' := 103) rfl (hb hby at_96) rfl ((if0 _ _).trans (feq hc96_153).2) (by decide) (by decide) ?_
                    refine XS.iconst X125.here hx rfl (hb hby at_103) ?_
                    exact kt
                  show own_End p e below s (T125.setTop (mkF m 104 #[.val (.int p1), .val (.int p2), .val (.int p3), .val (.int p4), .val (.int p5), .val (.int n), .val (.int (1 : Int32)), .val (.int (0 : Int32)), .val (.int (0 : Int32)), .val (.int xa), .val (.int xb), .val (.int xq), .val (.ref b118), .unset, .unset] [(.int (0 : Int32))])) (Q0 Z p1 p2 p3 p4 p5 h0 n0) room_1.cells room_1.slots
                  exact j104 _ _ X125 e125 N125 (0 : Int32)  (hj.trans (by simp only [own_law_76bbbb, if_neg hc96_153]))
              exact j76 _ _ Xj66 ej66 Nj66 ((p5 &&& (2147483647 : Int32)) % n) (own_i p5 n hn0).1 (own_i p5 n hn0).2 (hj.trans (by simp only [own_law_66bbbb]))
            exact j66 _ _ Xj57 ej57 Nj57 ((p4 &&& (2147483647 : Int32)) % n) (own_i p4 n hn0).1 (own_i p4 n hn0).2 (hj.trans (by simp only [own_law_57bbbb]))
          exact j57 _ _ Xj9 ej9 Nj9 ((p3 &&& (2147483647 : Int32)) % n) (own_i p3 n hn0).1 (own_i p3 n hn0).2 (hj.trans (by simp only [own_law_9, if_neg hc12_1, if_pos hc25_116, if_pos hc38_117]))
        · refine own_pre (A := Tj9.setTop (mkF m 57 #[.val (.int p1), .val (.int p2), .val (.int p3), .val (.int p4), .val (.int p5), .val (.int n), .val (.int (1 : Int32)), .val (.int (0 : Int32)), .val (.int (1 : Int32)), .val (.int ((p3 &&& (2147483647 : Int32)) % n)), .unset, .unset, .unset, .unset, .unset] [])) (fun tt kt => ?_) ?_
          · show Steps p.tables e below (Tj9.setTop (mkF m 38 #[.val (.int p1), .val (.int p2), .val (.int p3), .val (.int p4), .val (.int p5), .val (.int n), .val (.int (1 : Int32)), .val (.int (0 : Int32)), .unset, .unset, .unset, .unset, .unset, .unset, .unset] [(.int (p2 &&& (4 : Int32)))])) _
            refine XS.ifNo Xj9.here hx rfl (hb hby at_38) rfl ((if0 _ _).trans (feq hc38_117).1) ?_
            refine XS.iconst Xj9.here hx rfl (hb hby at_41) ?_
            refine XS.goto Xj9.here hx rfl (pc0 := 42) (pc' := 46) rfl (hb hby at_42) (by decide) (by decide) ?_
            refine XS.istore Xj9.here hx rfl (hb hby at_46) rfl (l' := #[.val (.int p1), .val (.int p2), .val (.int p3), .val (.int p4), .val (.int p5), .val (.int n), .val (.int (1 : Int32)), .val (.int (0 : Int32)), .val (.int (1 : Int32)), .unset, .unset, .unset, .unset, .unset, .unset]) rfl ?_
            refine XS.iloadN Xj9.here hx rfl (hb hby at_48) rfl ?_
            show Steps p.tables e below (Tj9.setTop (mkF m 49 #[.val (.int p1), .val (.int p2), .val (.int p3), .val (.int p4), .val (.int p5), .val (.int n), .val (.int (1 : Int32)), .val (.int (0 : Int32)), .val (.int (1 : Int32)), .unset, .unset, .unset, .unset, .unset, .unset] [(.int p3)])) _
            refine Xj9.ldcInt hx hown (mvT hZ (hw _ (List.mem_of_getElem? (i := 0) rfl))) (g := (mkF m 49 #[.val (.int p1), .val (.int p2), .val (.int p3), .val (.int p4), .val (.int p5), .val (.int n), .val (.int (1 : Int32)), .val (.int (0 : Int32)), .val (.int (1 : Int32)), .unset, .unset, .unset, .unset, .unset, .unset] [(.int p3)])) rfl (hb hby at_49) _ ?_
            show Steps p.tables e below (Tj9.setTop (mkF m 51 #[.val (.int p1), .val (.int p2), .val (.int p3), .val (.int p4), .val (.int p5), .val (.int n), .val (.int (1 : Int32)), .val (.int (0 : Int32)), .val (.int (1 : Int32)), .unset, .unset, .unset, .unset, .unset, .unset] [(.int (2147483647 : Int32)), (.int p3)])) _
            refine XS.iand Xj9.here hx rfl (hb hby at_51) rfl ?_
            refine XS.iload Xj9.here hx rfl (hb hby at_52) rfl ?_
            refine iremM Xj9 hx rfl (hb hby at_54) rfl (own_nz hn0) ?_
            refine XS.istore Xj9.here hx rfl (hb hby at_55) rfl (l' := #[.val (.int p1), .val (.int p2), .val (.int p3), .val (.int p4), .val (.int p5), .val (.int n), .val (.int (1 : Int32)), .val (.int (0 : Int32)), .val (.int (1 : Int32)), .val (.int ((p3 &&& (2147483647 : Int32)) % n)), .unset, .unset, .unset, .unset, .unset]) rfl ?_
            exact kt
          show own_End p e below s (Tj9.setTop (mkF m 57 #[.val (.int p1), .val (.int p2), .val (.int p3), .val (.int p4), .val (.int p5), .val (.int n), .val (.int (1 : Int32)), .val (.int (0 : Int32)), .val (.int (1 : Int32)), .val (.int ((p3 &&& (2147483647 : Int32)) % n)), .unset, .unset, .unset, .unset, .unset] [])) (Q0 Z p1 p2 p3 p4 p5 h0 n0) room_1.cells room_1.slots
          have j57 : ∀ (Tj57 : State) (Lj57 : List Loc) (Xj57 : Stand p l e room_1 s m #[(.int p1), (.int p2), (.int p3), (.int p4), (.int p5)] below meth c Tj57 Lj57 0 0) (ej57 : Tj57.heap = h0) (Nj57 : Fr n0 Lj57) (xa : Int32) (hxa0 : 0 ≤ xa.toInt) (hxa1 : xa.toInt < n.toInt), own_law p1 p2 p3 p4 p5 = own_law_57bbbbb p1 p2 p3 p4 p5 n xa → own_End p e below s (Tj57.setTop (mkF m 57 #[.val (.int p1), .val (.int p2), .val (.int p3), .val (.int p4), .val (.int p5), .val (.int n), .val (.int (1 : Int32)), .val (.int (0 : Int32)), .val (.int (1 : Int32)), .val (.int xa), .unset, .unset, .unset, .unset, .unset] [])) (Q0 Z p1 p2 p3 p4 p5 h0 n0) room_1.cells room_1.slots := by
            intro Tj57 Lj57 Xj57 ej57 Nj57 xa hxa0 hxa1 hj
            refine own_pre (A := Tj57.setTop (mkF m 66 #[.val (.int p1), .val (.int p2), .val (.int p3), .val (.int p4), .val (.int p5), .val (.int n), .val (.int (1 : Int32)), .val (.int (0 : Int32)), .val (.int (1 : Int32)), .val (.int xa), .val (.int ((p4 &&& (2147483647 : Int32)) % n)), .unset, .unset, .unset, .unset] [])) (fun tt kt => ?_) ?_
            · show Steps p.tables e below (Tj57.setTop (mkF m 57 #[.val (.int p1), .val (.int p2), .val (.int p3), .val (.int p4), .val (.int p5), .val (.int n), .val (.int (1 : Int32)), .val (.int (0 : Int32)), .val (.int (1 : Int32)), .val (.int xa), .unset, .unset, .unset, .unset, .unset] [])) _
              refine XS.iloadN Xj57.here hx rfl (hb hby at_57) rfl ?_
              show Steps p.tables e below (Tj57.setTop (mkF m 58 #[.val (.int p1), .val (.int p2), .val (.int p3), .val (.int p4), .val (.int p5), .val (.int n), .val (.int (1 : Int32)), .val (.int (0 : Int32)), .val (.int (1 : Int32)), .val (.int xa), .unset, .unset, .unset, .unset, .unset] [(.int p4)])) _
              refine Xj57.ldcInt hx hown (mvT hZ (hw _ (List.mem_of_getElem? (i := 0) rfl))) (g := (mkF m 58 #[.val (.int p1), .val (.int p2), .val (.int p3), .val (.int p4), .val (.int p5), .val (.int n), .val (.int (1 : Int32)), .val (.int (0 : Int32)), .val (.int (1 : Int32)), .val (.int xa), .unset, .unset, .unset, .unset, .unset] [(.int p4)])) rfl (hb hby at_58) _ ?_
              show Steps p.tables e below (Tj57.setTop (mkF m 60 #[.val (.int p1), .val (.int p2), .val (.int p3), .val (.int p4), .val (.int p5), .val (.int n), .val (.int (1 : Int32)), .val (.int (0 : Int32)), .val (.int (1 : Int32)), .val (.int xa), .unset, .unset, .unset, .unset, .unset] [(.int (2147483647 : Int32)), (.int p4)])) _
              refine XS.iand Xj57.here hx rfl (hb hby at_60) rfl ?_
              refine XS.iload Xj57.here hx rfl (hb hby at_61) rfl ?_
              refine iremM Xj57 hx rfl (hb hby at_63) rfl (own_nz hn0) ?_
              refine XS.istore Xj57.here hx rfl (hb hby at_64) rfl (l' := #[.val (.int p1), .val (.int p2), .val (.int p3), .val (.int p4), .val (.int p5), .val (.int n), .val (.int (1 : Int32)), .val (.int (0 : Int32)), .val (.int (1 : Int32)), .val (.int xa), .val (.int ((p4 &&& (2147483647 : Int32)) % n)), .unset, .unset, .unset, .unset]) rfl ?_
              exact kt
            show own_End p e below s (Tj57.setTop (mkF m 66 #[.val (.int p1), .val (.int p2), .val (.int p3), .val (.int p4), .val (.int p5), .val (.int n), .val (.int (1 : Int32)), .val (.int (0 : Int32)), .val (.int (1 : Int32)), .val (.int xa), .val (.int ((p4 &&& (2147483647 : Int32)) % n)), .unset, .unset, .unset, .unset] [])) (Q0 Z p1 p2 p3 p4 p5 h0 n0) room_1.cells room_1.slots
            have j66 : ∀ (Tj66 : State) (Lj66 : List Loc) (Xj66 : Stand p l e room_1 s m #[(.int p1), (.int p2), (.int p3), (.int p4), (.int p5)] below meth c Tj66 Lj66 0 0) (ej66 : Tj66.heap = h0) (Nj66 : Fr n0 Lj66) (xb : Int32) (hxb0 : 0 ≤ xb.toInt) (hxb1 : xb.toInt < n.toInt), own_law p1 p2 p3 p4 p5 = own_law_66bbbbb p1 p2 p3 p4 p5 n xa xb → own_End p e below s (Tj66.setTop (mkF m 66 #[.val (.int p1), .val (.int p2), .val (.int p3), .val (.int p4), .val (.int p5), .val (.int n), .val (.int (1 : Int32)), .val (.int (0 : Int32)), .val (.int (1 : Int32)), .val (.int xa), .val (.int xb), .unset, .unset, .unset, .unset] [])) (Q0 Z p1 p2 p3 p4 p5 h0 n0) room_1.cells room_1.slots := by
              intro Tj66 Lj66 Xj66 ej66 Nj66 xb hxb0 hxb1 hj
              refine own_pre (A := Tj66.setTop (mkF m 76 #[.val (.int p1), .val (.int p2), .val (.int p3), .val (.int p4), .val (.int p5), .val (.int n), .val (.int (1 : Int32)), .val (.int (0 : Int32)), .val (.int (1 : Int32)), .val (.int xa), .val (.int xb), .val (.int ((p5 &&& (2147483647 : Int32)) % n)), .unset, .unset, .unset] [])) (fun tt kt => ?_) ?_
              · show Steps p.tables e below (Tj66.setTop (mkF m 66 #[.val (.int p1), .val (.int p2), .val (.int p3), .val (.int p4), .val (.int p5), .val (.int n), .val (.int (1 : Int32)), .val (.int (0 : Int32)), .val (.int (1 : Int32)), .val (.int xa), .val (.int xb), .unset, .unset, .unset, .unset] [])) _
                refine XS.iload Xj66.here hx rfl (hb hby at_66) rfl ?_
                show Steps p.tables e below (Tj66.setTop (mkF m 68 #[.val (.int p1), .val (.int p2), .val (.int p3), .val (.int p4), .val (.int p5), .val (.int n), .val (.int (1 : Int32)), .val (.int (0 : Int32)), .val (.int (1 : Int32)), .val (.int xa), .val (.int xb), .unset, .unset, .unset, .unset] [(.int p5)])) _
                refine Xj66.ldcInt hx hown (mvT hZ (hw _ (List.mem_of_getElem? (i := 0) rfl))) (g := (mkF m 68 #[.val (.int p1), .val (.int p2), .val (.int p3), .val (.int p4), .val (.int p5), .val (.int n), .val (.int (1 : Int32)), .val (.int (0 : Int32)), .val (.int (1 : Int32)), .val (.int xa), .val (.int xb), .unset, .unset, .unset, .unset] [(.int p5)])) rfl (hb hby at_68) _ ?_
                show Steps p.tables e below (Tj66.setTop (mkF m 70 #[.val (.int p1), .val (.int p2), .val (.int p3), .val (.int p4), .val (.int p5), .val (.int n), .val (.int (1 : Int32)), .val (.int (0 : Int32)), .val (.int (1 : Int32)), .val (.int xa), .val (.int xb), .unset, .unset, .unset, .unset] [(.int (2147483647 : Int32)), (.int p5)])) _
                refine XS.iand Xj66.here hx rfl (hb hby at_70) rfl ?_
                refine XS.iload Xj66.here hx rfl (hb hby at_71) rfl ?_
                refine iremM Xj66 hx rfl (hb hby at_73) rfl (own_nz hn0) ?_
                refine XS.istore Xj66.here hx rfl (hb hby at_74) rfl (l' := #[.val (.int p1), .val (.int p2), .val (.int p3), .val (.int p4), .val (.int p5), .val (.int n), .val (.int (1 : Int32)), .val (.int (0 : Int32)), .val (.int (1 : Int32)), .val (.int xa), .val (.int xb), .val (.int ((p5 &&& (2147483647 : Int32)) % n)), .unset, .unset, .unset]) rfl ?_
                exact kt
              show own_End p e below s (Tj66.setTop (mkF m 76 #[.val (.int p1), .val (.int p2), .val (.int p3), .val (.int p4), .val (.int p5), .val (.int n), .val (.int (1 : Int32)), .val (.int (0 : Int32)), .val (.int (1 : Int32)), .val (.int xa), .val (.int xb), .val (.int ((p5 &&& (2147483647 : Int32)) % n)), .unset, .unset, .unset] [])) (Q0 Z p1 p2 p3 p4 p5 h0 n0) room_1.cells room_1.slots
              have j76 : ∀ (Tj76 : State) (Lj76 : List Loc) (Xj76 : Stand p l e room_1 s m #[(.int p1), (.int p2), (.int p3), (.int p4), (.int p5)] below meth c Tj76 Lj76 0 0) (ej76 : Tj76.heap = h0) (Nj76 : Fr n0 Lj76) (xq : Int32) (hxq0 : 0 ≤ xq.toInt) (hxq1 : xq.toInt < n.toInt), own_law p1 p2 p3 p4 p5 = own_law_76bbbbb p1 p2 p3 p4 p5 n xa xb xq → own_End p e below s (Tj76.setTop (mkF m 76 #[.val (.int p1), .val (.int p2), .val (.int p3), .val (.int p4), .val (.int p5), .val (.int n), .val (.int (1 : Int32)), .val (.int (0 : Int32)), .val (.int (1 : Int32)), .val (.int xa), .val (.int xb), .val (.int xq), .unset, .unset, .unset] [])) (Q0 Z p1 p2 p3 p4 p5 h0 n0) room_1.cells room_1.slots := by
                intro Tj76 Lj76 Xj76 ej76 Nj76 xq hxq0 hxq1 hj
                obtain ⟨T154, h154, X154, e154, E154, A154, D154, -, st154⟩ := newO Xj76 hx hZ hown (hw _ (List.mem_of_getElem? (i := 1) rfl)) (hw _ (List.mem_of_getElem? (i := 2) rfl)) (hw _ (List.mem_of_getElem? (i := 3) rfl)) ej76 (g := (mkF m 76 #[.val (.int p1), .val (.int p2), .val (.int p3), .val (.int p4), .val (.int p5), .val (.int n), .val (.int (1 : Int32)), .val (.int (0 : Int32)), .val (.int (1 : Int32)), .val (.int xa), .val (.int xb), .val (.int xq), .unset, .unset, .unset] [])) rfl (hb hby at_76) (by decide) (by decide)
                obtain ⟨b154, g154⟩ : ∃ z, z = h0.size := ⟨_, rfl⟩
                rw [← g154] at A154 D154 st154
                have g_b154 : n0 ≤ b154 := Nat.le_trans Z0 (Nat.le_of_eq g154.symm)
                have sz_b154 : h0.size ≤ b154 := Nat.le_trans (show Keep h0 h0 [] from (Keep.refl h0 _)).1 (Nat.le_of_eq g154.symm)
                have K154 : Keep h0 h154 [] := Keep.ext (Keep.refl h0 _) E154
                have Z154 : n0 ≤ h154.size := Nat.le_trans Z0 E154.1
                have F_stamp_b154 : Fld Z h154 b154 "com/example/libfacet/libfacet/regex/StateSet" "stamp" "I" (.int (0 : Int32)) := D154 (Or.inl (hw _ (List.mem_of_getElem? (i := 11) rfl))) (ty := .int) (by decide)
                have F_stack_b154 : Fld Z h154 b154 "com/example/libfacet/libfacet/regex/StateSet" "stack" "[I" .null := D154 (Or.inl (hw _ (List.mem_of_getElem? (i := 14) rfl))) (ty := (.array .int)) (by decide)
                have F_instructions_b154 : Fld Z h154 b154 "com/example/libfacet/libfacet/regex/StateSet" "instructions" "I" (.int (0 : Int32)) := D154 (Or.inr (hw _ (List.mem_of_getElem? (i := 16) rfl))) (ty := .int) (by decide)
                have F_members_b154 : Fld Z h154 b154 "com/example/libfacet/libfacet/regex/StateSet" "members" "[I" .null := D154 (Or.inl (hw _ (List.mem_of_getElem? (i := 18) rfl))) (ty := (.array .int)) (by decide)
                have F_marks_b154 : Fld Z h154 b154 "com/example/libfacet/libfacet/regex/StateSet" "marks" "[C" .null := D154 (Or.inr (hw _ (List.mem_of_getElem? (i := 20) rfl))) (ty := (.array .char)) (by decide)
                have F_markBits_b154 : Fld Z h154 b154 "com/example/libfacet/libfacet/regex/StateSet" "markBits" "[J" .null := D154 (Or.inr (hw _ (List.mem_of_getElem? (i := 23) rfl))) (ty := (.array .long)) (by decide)
                have F_marked_b154 : Fld Z h154 b154 "com/example/libfacet/libfacet/regex/StateSet" "marked" "[I" .null := D154 (Or.inl (hw _ (List.mem_of_getElem? (i := 25) rfl))) (ty := (.array .int)) (by decide)
                have F_markedCount_b154 : Fld Z h154 b154 "com/example/libfacet/libfacet/regex/StateSet" "markedCount" "I" (.int (0 : Int32)) := D154 (Or.inl (hw _ (List.mem_of_getElem? (i := 37) rfl))) (ty := .int) (by decide)
                have F_size_b154 : Fld Z h154 b154 "com/example/libfacet/libfacet/regex/StateSet" "size" "I" (.int (0 : Int32)) := D154 (Or.inl (hw _ (List.mem_of_getElem? (i := 44) rfl))) (ty := .int) (by decide)
                obtain ⟨_, _, ⟨T155, L155, k155, n155⟩, -, X155, ⟨Lc155, hQ155, l155, y155, z155⟩, st155⟩ := X154.specialBack hx (y := (⟨"com/example/libfacet/libfacet/regex/StateSet", "<init>", "(IZ)V"⟩ : MethodName)) rfl hown (mvT hZ (hw _ (List.mem_of_getElem? (i := 4) rfl))) (mvT hZ (hw _ (List.mem_of_getElem? (i := 5) rfl))) (mvT hZ (hw _ (List.mem_of_getElem? (i := 6) rfl))) (by decide) (backOf (W := 1) (rm1L l Z a0 hw [] b154 n (0 : Int32) (0 : Int32) (0 : Int32) (0 : Int32) h154 n0 Z154 ⟨A154, F_stamp_b154, F_stack_b154, F_instructions_b154, F_members_b154, F_marks_b154, F_markBits_b154, F_marked_b154, F_markedCount_b154, F_size_b154⟩ g_b154 hn0 hn1) hZ (hw _ (List.mem_of_getElem? (i := 6) rfl)) (hw _ (List.mem_of_getElem? (i := 3) rfl)) (by decide) (by decide)) (g := (mkF m 84 #[.val (.int p1), .val (.int p2), .val (.int p3), .val (.int p4), .val (.int p5), .val (.int n), .val (.int (1 : Int32)), .val (.int (0 : Int32)), .val (.int (1 : Int32)), .val (.int xa), .val (.int xb), .val (.int xq), .unset, .unset, .unset] [(.int (1 : Int32)), (.int n), (.ref b154), (.ref b154)])) rfl (by rw [hml]; rfl) (Steps.refl _) (a := b154) (argsL := [(.int n), (.int (1 : Int32))]) (rest := [(.ref b154)]) (lenOf pd_0_0 rfl) rfl (by show 2 * 0 + _ ≤ _; exact Nat.le_of_eq rfl) (hb hby at_84) (fun _ _ => ⟨rfl, e154, (by decide : 1 + 3 ≤ _), (by decide : 10 + 36 ≤ _)⟩)
                dsimp only [Pt.U, Pt.locs, Pt.cells, Pt.slots] at X155 l155 y155 z155 st155 hQ155
                subst l155 y155 z155
                obtain ⟨rfl, N155q, c155_ab, c155_am, Kq155, O155_0, szq_c155_ab, P155_ab_0, szq_c155_am, P155_am_0, ne_c155_ab_c155_am⟩ := hQ155
                have ne_b154_c155_ab : b154 ≠ c155_ab := Nat.ne_of_lt (Nat.lt_of_lt_of_le A154.lt szq_c155_ab)
                have g_c155_ab : n0 ≤ c155_ab := Nat.le_trans Z154 szq_c155_ab
                have sz_c155_ab : h0.size ≤ c155_ab := Nat.le_trans (show Keep h0 h154 [] from K154).1 szq_c155_ab
                have ne_b154_c155_am : b154 ≠ c155_am := Nat.ne_of_lt (Nat.lt_of_lt_of_le A154.lt szq_c155_am)
                have g_c155_am : n0 ≤ c155_am := Nat.le_trans Z154 szq_c155_am
                have sz_c155_am : h0.size ≤ c155_am := Nat.le_trans (show Keep h0 h154 [] from K154).1 szq_c155_am
                have N155 := Fr.app Nj76 N155q
                have fE_b154_x155 := (A154.keep Kq155)
                have K155 : Keep h0 T155.heap [] := Keep.trans K154 Kq155 (allS (Or.inr sz_b154) all0)
                have Z155 : n0 ≤ T155.heap.size := Nat.le_trans Z154 Kq155.1
                obtain ⟨E_b154_156, F_markBits_b154_157, F_marked_b154_158, F_markedCount_b154_159, F_size_b154_160⟩ := O155_0
                obtain ⟨cq161, kq161, q161a, q161b, q161c⟩ := isOf hZ rfl E_b154_156
                obtain ⟨_, _, ⟨T161, L161, k161, n161⟩, -, X161, ⟨Lc161, hQ161, l161, y161, z161⟩, st161⟩ := X155.virtualBack hx (y := (⟨"com/example/libfacet/libfacet/regex/StateSet", "isMarked", "(I)Z"⟩ : MethodName)) (z := (⟨"com/example/libfacet/libfacet/regex/StateSet", "isMarked", "(I)Z"⟩ : MethodName)) hown (mvT hZ (hw _ (List.mem_of_getElem? (i := 26) rfl))) (mvT hZ (hw _ (List.mem_of_getElem? (i := 27) rfl))) (notFace_of_selects (args := #[]) (mvT hZ (hw _ (List.mem_of_getElem? (i := 29) rfl)))) (mvT hZ (hw _ (List.mem_of_getElem? (i := 29) rfl))) (mvT hZ (hw _ (List.mem_of_getElem? (i := 28) rfl))) (by decide) (backOf (W := 0) (rm3L l Z a0 hw [] b154 xq c155_ab c155_am (0 : Int32) (0 : Int32) (fun _ => (0 : Int64)) (((n + (63 : Int32)).toUInt32 >>> ((6 : Int32) &&& 31).toUInt32).toInt32) T155.heap n0 Z155 ⟨E_b154_156, F_markBits_b154_157, F_marked_b154_158, F_markedCount_b154_159, F_size_b154_160⟩ P155_ab_0 (own_wd hn0 hn1 hxq0 hxq1)) hZ (hw _ (List.mem_of_getElem? (i := 30) rfl)) (hw _ (List.mem_of_getElem? (i := 3) rfl)) (by decide) (by decide)) q161a q161c (g := (mkF m 93 #[.val (.int p1), .val (.int p2), .val (.int p3), .val (.int p4), .val (.int p5), .val (.int n), .val (.int (1 : Int32)), .val (.int (0 : Int32)), .val (.int (1 : Int32)), .val (.int xa), .val (.int xb), .val (.int xq), .val (.ref b154), .unset, .unset] [(.int xq), (.ref b154)])) rfl (by rw [hml]; rfl) (Steps.refl _) (argsL := [(.int xq)]) (rest := []) (lenOf pd_0_1 rfl) rfl (by show 2 * 0 + _ ≤ _; exact Nat.le_of_eq rfl) (hb hby at_93) (fun _ _ => ⟨rfl, rfl, (by decide : 4 + 0 ≤ _), (by decide : 46 + 0 ≤ _)⟩)
                dsimp only [Pt.U, Pt.locs, Pt.cells, Pt.slots] at X161 l161 y161 z161 st161 hQ161
                subst l161 y161 z161
                obtain ⟨rfl, N161q, e161⟩ := hQ161
                have N161 := Fr.app N155 N161q
                refine own_pre (A := T161.setTop (mkF m 96 #[.val (.int p1), .val (.int p2), .val (.int p3), .val (.int p4), .val (.int p5), .val (.int n), .val (.int (1 : Int32)), .val (.int (0 : Int32)), .val (.int (1 : Int32)), .val (.int xa), .val (.int xb), .val (.int xq), .val (.ref b154), .unset, .unset] [(.int (own_isL xq (fun _ => (0 : Int64)) (((n + (63 : Int32)).toUInt32 >>> ((6 : Int32) &&& 31).toUInt32).toInt32) (0 : Int32) (0 : Int32)))])) (fun tt kt => ?_) ?_
                · show Steps p.tables e below (Tj76.setTop (mkF m 76 #[.val (.int p1), .val (.int p2), .val (.int p3), .val (.int p4), .val (.int p5), .val (.int n), .val (.int (1 : Int32)), .val (.int (0 : Int32)), .val (.int (1 : Int32)), .val (.int xa), .val (.int xb), .val (.int xq), .unset, .unset, .unset] [])) _
                  refine st154 _ ?_
                  show Steps p.tables e below (T154.setTop (mkF m 79 #[.val (.int p1), .val (.int p2), .val (.int p3), .val (.int p4), .val (.int p5), .val (.int n), .val (.int (1 : Int32)), .val (.int (0 : Int32)), .val (.int (1 : Int32)), .val (.int xa), .val (.int xb), .val (.int xq), .unset, .unset, .unset] [(.ref b154)])) _
                  refine XS.dup X154.here hx rfl (hb hby at_79) rfl rfl ?_
                  refine XS.iload X154.here hx rfl (hb hby at_80) rfl ?_
                  refine XS.iload X154.here hx rfl (hb hby at_82) rfl ?_
                  show Steps p.tables e below (T154.setTop (mkF m 84 #[.val (.int p1), .val (.int p2), .val (.int p3), .val (.int p4), .val (.int p5), .val (.int n), .val (.int (1 : Int32)), .val (.int (0 : Int32)), .val (.int (1 : Int32)), .val (.int xa), .val (.int xb), .val (.int xq), .unset, .unset, .unset] [(.int (1 : Int32)), (.int n), (.ref b154), (.ref b154)])) _
                  refine st155.trans ?_
                  show Steps p.tables e below (T155.setTop (mkF m 87 #[.val (.int p1), .val (.int p2), .val (.int p3), .val (.int p4), .val (.int p5), .val (.int n), .val (.int (1 : Int32)), .val (.int (0 : Int32)), .val (.int (1 : Int32)), .val (.int xa), .val (.int xb), .val (.int xq), .unset, .unset, .unset] [(.ref b154)])) _
                  refine XS.astore X155.here hx rfl (hb hby at_87) rfl rfl (l' := #[.val (.int p1), .val (.int p2), .val (.int p3), .val (.int p4), .val (.int p5), .val (.int n), .val (.int (1 : Int32)), .val (.int (0 : Int32)), .val (.int (1 : Int32)), .val (.int xa), .val (.int xb), .val (.int xq), .val (.ref b154), .unset, .unset]) rfl ?_
                  refine XS.aload X155.here hx rfl (hb hby at_89) rfl rfl ?_
                  refine XS.iload X155.here hx rfl (hb hby at_91) rfl ?_
                  show Steps p.tables e below (T155.setTop (mkF m 93 #[.val (.int p1), .val (.int p2), .val (.int p3), .val (.int p4), .val (.int p5), .val (.int n), .val (.int (1 : Int32)), .val (.int (0 : Int32)), .val (.int (1 : Int32)), .val (.int xa), .val (.int xb), .val (.int xq), .val (.ref b154), .unset, .unset] [(.int xq), (.ref b154)])) _
                  refine st161.trans ?_
                  exact kt
                show own_End p e below s (T161.setTop (mkF m 96 #[.val (.int p1), .val (.int p2), .val (.int p3), .val (.int p4), .val (.int p5), .val (.int n), .val (.int (1 : Int32)), .val (.int (0 : Int32)), .val (.int (1 : Int32)), .val (.int xa), .val (.int xb), .val (.int xq), .val (.ref b154), .unset, .unset] [(.int (own_isL xq (fun _ => (0 : Int64)) (((n + (63 : Int32)).toUInt32 >>> ((6 : Int32) &&& 31).toUInt32).toInt32) (0 : Int32) (0 : Int32)))])) (Q0 Z p1 p2 p3 p4 p5 h0 n0) room_1.cells room_1.slots
                have j104 : ∀ (Tj104 : State) (Lj104 : List Loc) (Xj104 : Stand p l e room_1 s m #[(.int p1), (.int p2), (.int p3), (.int p4), (.int p5)] below meth c Tj104 Lj104 4 46) (ej104 : Tj104.heap = T155.heap) (Nj104 : Fr n0 Lj104) (ok1 : Int32) , own_law p1 p2 p3 p4 p5 = own_law_104bbbbb p1 p2 p3 p4 p5 n xa xb xq ok1 → own_End p e below s (Tj104.setTop (mkF m 104 #[.val (.int p1), .val (.int p2), .val (.int p3), .val (.int p4), .val (.int p5), .val (.int n), .val (.int (1 : Int32)), .val (.int (0 : Int32)), .val (.int (1 : Int32)), .val (.int xa), .val (.int xb), .val (.int xq), .val (.ref b154), .unset, .unset] [(.int ok1)])) (Q0 Z p1 p2 p3 p4 p5 h0 n0) room_1.cells room_1.slots := by
                  intro Tj104 Lj104 Xj104 ej104 Nj104 ok1  hj
                  obtain ⟨cq162, kq162, q162a, q162b, q162c⟩ := isOf hZ ej104 E_b154_156
                  obtain ⟨_, _, ⟨T162, L162, k162, n162⟩, -, X162, ⟨Lc162, hQ162, l162, y162, z162⟩, st162⟩ := Xj104.virtualBack hx (y := (⟨"com/example/libfacet/libfacet/regex/StateSet", "mark", "(I)Z"⟩ : MethodName)) (z := (⟨"com/example/libfacet/libfacet/regex/StateSet", "mark", "(I)Z"⟩ : MethodName)) hown (mvT hZ (hw _ (List.mem_of_getElem? (i := 31) rfl))) (mvT hZ (hw _ (List.mem_of_getElem? (i := 32) rfl))) (notFace_of_selects (args := #[]) (mvT hZ (hw _ (List.mem_of_getElem? (i := 34) rfl)))) (mvT hZ (hw _ (List.mem_of_getElem? (i := 34) rfl))) (mvT hZ (hw _ (List.mem_of_getElem? (i := 33) rfl))) (by decide) (backOf (W := 0) (rm4Lu l Z a0 hw [] b154 xa c155_ab c155_am (0 : Int32) (0 : Int32) (fun _ => (0 : Int64)) (((n + (63 : Int32)).toUInt32 >>> ((6 : Int32) &&& 31).toUInt32).toInt32) (fun _ => (0 : Int32)) T155.heap n0 Z155 ⟨E_b154_156, F_markBits_b154_157, F_marked_b154_158, F_markedCount_b154_159, F_size_b154_160⟩ P155_ab_0 P155_am_0 ne_b154_c155_ab ne_b154_c155_am ne_c155_ab_c155_am g_b154 g_c155_ab g_c155_am (own_wd hn0 hn1 hxa0 hxa1) (own_zand _) (by decide) (by decide)) hZ (hw _ (List.mem_of_getElem? (i := 35) rfl)) (hw _ (List.mem_of_getElem? (i := 3) rfl)) (by decide) (by decide)) q162a q162c (g := (mkF m 110 #[.val (.int p1), .val (.int p2), .val (.int p3), .val (.int p4), .val (.int p5), .val (.int n), .val (.int (1 : Int32)), .val (.int (0 : Int32)), .val (.int (1 : Int32)), .val (.int xa), .val (.int xb), .val (.int xq), .val (.ref b154), .val (.int ok1), .unset] [(.int xa), (.ref b154)])) rfl (by rw [hml]; rfl) (Steps.refl _) (argsL := [(.int xa)]) (rest := []) (lenOf pd_0_1 rfl) rfl (by show 2 * 0 + _ ≤ _; exact Nat.le_of_eq rfl) (hb hby at_110) (fun _ _ => ⟨rfl, ej104, (by decide : 4 + 0 ≤ _), (by decide : 46 + 0 ≤ _)⟩)
                  dsimp only [Pt.U, Pt.locs, Pt.cells, Pt.slots] at X162 l162 y162 z162 st162 hQ162
                  subst l162 y162 z162
                  obtain ⟨rfl, N162q, Kq162, O162_0, V162_0, V162_1⟩ := hQ162
                  have N162 := Fr.app Nj104 N162q
                  have fE_b154_x162 := (E_b154_156.keep Kq162)
                  have K162 : Keep h0 T162.heap [] := Keep.trans K155 Kq162 (allS (Or.inr sz_b154) (allS (Or.inr sz_c155_ab) (allS (Or.inr sz_c155_am) all0)))
                  have Z162 : n0 ≤ T162.heap.size := Nat.le_trans Z155 Kq162.1
                  obtain ⟨E_b154_163, F_markBits_b154_164, F_marked_b154_165, F_markedCount_b154_166, F_size_b154_167⟩ := O162_0
                  refine own_pre (A := T162.setTop (mkF m 116 #[.val (.int p1), .val (.int p2), .val (.int p3), .val (.int p4), .val (.int p5), .val (.int n), .val (.int (1 : Int32)), .val (.int (0 : Int32)), .val (.int (1 : Int32)), .val (.int xa), .val (.int xb), .val (.int xq), .val (.ref b154), .val (.int ok1), .unset] [(.int ok1)])) (fun tt kt => ?_) ?_
                  · show Steps p.tables e below (Tj104.setTop (mkF m 104 #[.val (.int p1), .val (.int p2), .val (.int p3), .val (.int p4), .val (.int p5), .val (.int n), .val (.int (1 : Int32)), .val (.int (0 : Int32)), .val (.int (1 : Int32)), .val (.int xa), .val (.int xb), .val (.int xq), .val (.ref b154), .unset, .unset] [(.int ok1)])) _
                    refine XS.istore Xj104.here hx rfl (hb hby at_104) rfl (l' := #[.val (.int p1), .val (.int p2), .val (.int p3), .val (.int p4), .val (.int p5), .val (.int n), .val (.int (1 : Int32)), .val (.int (0 : Int32)), .val (.int (1 : Int32)), .val (.int xa), .val (.int xb), .val (.int xq), .val (.ref b154), .val (.int ok1), .unset]) rfl ?_
                    refine XS.aload Xj104.here hx rfl (hb hby at_106) rfl rfl ?_
                    refine XS.iload Xj104.here hx rfl (hb hby at_108) rfl ?_
                    show Steps p.tables e below (Tj104.setTop (mkF m 110 #[.val (.int p1), .val (.int p2), .val (.int p3), .val (.int p4), .val (.int p5), .val (.int n), .val (.int (1 : Int32)), .val (.int (0 : Int32)), .val (.int (1 : Int32)), .val (.int xa), .val (.int xb), .val (.int xq), .val (.ref b154), .val (.int ok1), .unset] [(.int xa), (.ref b154)])) _
                    refine st162.trans ?_
                    show Steps p.tables e below (T162.setTop (mkF m 113 #[.val (.int p1), .val (.int p2), .val (.int p3), .val (.int p4), .val (.int p5), .val (.int n), .val (.int (1 : Int32)), .val (.int (0 : Int32)), .val (.int (1 : Int32)), .val (.int xa), .val (.int xb), .val (.int xq), .val (.ref b154), .val (.int ok1), .unset] [(.int (1 : Int32))])) _
                    refine XS.pop X162.here hx rfl (hb hby at_113) rfl rfl ?_
                    refine XS.iload X162.here hx rfl (hb hby at_114) rfl ?_
                    exact kt
                  show own_End p e below s (T162.setTop (mkF m 116 #[.val (.int p1), .val (.int p2), .val (.int p3), .val (.int p4), .val (.int p5), .val (.int n), .val (.int (1 : Int32)), .val (.int (0 : Int32)), .val (.int (1 : Int32)), .val (.int xa), .val (.int xb), .val (.int xq), .val (.ref b154), .val (.int ok1), .unset] [(.int ok1)])) (Q0 Z p1 p2 p3 p4 p5 h0 n0) room_1.cells room_1.slots
                  have j134 : ∀ (Tj134 : State) (Lj134 : List Loc) (Xj134 : Stand p l e room_1 s m #[(.int p1), (.int p2), (.int p3), (.int p4), (.int p5)] below meth c Tj134 Lj134 4 46) (ej134 : Tj134.heap = T162.heap) (Nj134 : Fr n0 Lj134) (ok2 : Int32) , own_law p1 p2 p3 p4 p5 = own_law_134bbbbb p1 p2 p3 p4 p5 n xa xb xq ok1 ok2 → own_End p e below s (Tj134.setTop (mkF m 134 #[.val (.int p1), .val (.int p2), .val (.int p3), .val (.int p4), .val (.int p5), .val (.int n), .val (.int (1 : Int32)), .val (.int (0 : Int32)), .val (.int (1 : Int32)), .val (.int xa), .val (.int xb), .val (.int xq), .val (.ref b154), .val (.int ok1), .unset] [(.int ok2)])) (Q0 Z p1 p2 p3 p4 p5 h0 n0) room_1.cells room_1.slots := by
                    intro Tj134 Lj134 Xj134 ej134 Nj134 ok2  hj
                    refine own_pre (A := Tj134.setTop (mkF m 150 #[.val (.int p1), .val (.int p2), .val (.int p3), .val (.int p4), .val (.int p5), .val (.int n), .val (.int (1 : Int32)), .val (.int (0 : Int32)), .val (.int (1 : Int32)), .val (.int xa), .val (.int xb), .val (.int xq), .val (.ref b154), .val (.int ok2), .unset] [(.int xb), (.ref b154)])) (fun tt kt => ?_) ?_
                    · show Steps p.tables e below (Tj134.setTop (mkF m 134 #[.val (.int p1), .val (.int p2), .val (.int p3), .val (.int p4), .val (.int p5), .val (.int n), .val (.int (1 : Int32)), .val (.int (0 : Int32)), .val (.int (1 : Int32)), .val (.int xa), .val (.int xb), .val (.int xq), .val (.ref b154), .val (.int ok1), .unset] [(.int ok2)])) _
                      refine XS.istore Xj134.here hx rfl (hb hby at_134) rfl (l' := #[.val (.int p1), .val (.int p2), .val (.int p3), .val (.int p4), .val (.int p5), .val (.int n), .val (.int (1 : Int32)), .val (.int (0 : Int32)), .val (.int (1 : Int32)), .val (.int xa), .val (.int xb), .val (.int xq), .val (.ref b154), .val (.int ok2), .unset]) rfl ?_
                      refine XS.iload Xj134.here hx rfl (hb hby at_136) rfl ?_
                      refine XS.ifYes Xj134.here hx rfl (pc0 := 138) (pc' := 146) rfl (hb hby at_138) rfl ((if0 _ _).trans (teq ((by decide) : (0 : Int32) = (0 : Int32))).1) (by decide) (by decide) ?_
                      refine XS.aload Xj134.here hx rfl (hb hby at_146) rfl rfl ?_
                      refine XS.iload Xj134.here hx rfl (hb hby at_148) rfl ?_
                      exact kt
                    show own_End p e below s (Tj134.setTop (mkF m 150 #[.val (.int p1), .val (.int p2), .val (.int p3), .val (.int p4), .val (.int p5), .val (.int n), .val (.int (1 : Int32)), .val (.int (0 : Int32)), .val (.int (1 : Int32)), .val (.int xa), .val (.int xb), .val (.int xq), .val (.ref b154), .val (.int ok2), .unset] [(.int xb), (.ref b154)])) (Q0 Z p1 p2 p3 p4 p5 h0 n0) room_1.cells room_1.slots
                    by_cases hU168 : (((own_orb (fun _ => (0 : Int64)) xa) ((xb.toUInt32 >>> ((6 : Int32) &&& 31).toUInt32).toInt32).toNatClampNeg) &&& ((1 : Int64) <<< (xb &&& 0x3f).toInt64)) = (0 : Int64)
                    · obtain ⟨cq169, kq169, q169a, q169b, q169c⟩ := isOf hZ ej134 E_b154_163
                      obtain ⟨_, _, ⟨T169, L169, k169, n169⟩, -, X169, ⟨Lc169, hQ169, l169, y169, z169⟩, st169⟩ := Xj134.virtualBack hx (y := (⟨"com/example/libfacet/libfacet/regex/StateSet", "mark", "(I)Z"⟩ : MethodName)) (z := (⟨"com/example/libfacet/libfacet/regex/StateSet", "mark", "(I)Z"⟩ : MethodName)) hown (mvT hZ (hw _ (List.mem_of_getElem? (i := 31) rfl))) (mvT hZ (hw _ (List.mem_of_getElem? (i := 32) rfl))) (notFace_of_selects (args := #[]) (mvT hZ (hw _ (List.mem_of_getElem? (i := 34) rfl)))) (mvT hZ (hw _ (List.mem_of_getElem? (i := 34) rfl))) (mvT hZ (hw _ (List.mem_of_getElem? (i := 33) rfl))) (by decide) (backOf (W := 0) (rm4Lu l Z a0 hw [] b154 xb c155_ab c155_am (1 : Int32) (0 : Int32) (own_orb (fun _ => (0 : Int64)) xa) (((n + (63 : Int32)).toUInt32 >>> ((6 : Int32) &&& 31).toUInt32).toInt32) (own_put (fun _ => (0 : Int32)) (0 : Int32) xa) T162.heap n0 Z162 ⟨E_b154_163, F_markBits_b154_164, F_marked_b154_165, F_markedCount_b154_166, F_size_b154_167⟩ V162_0 V162_1 ne_b154_c155_ab ne_b154_c155_am ne_c155_ab_c155_am g_b154 g_c155_ab g_c155_am (own_wd hn0 hn1 hxb0 hxb1) hU168 (by decide) (by decide)) hZ (hw _ (List.mem_of_getElem? (i := 35) rfl)) (hw _ (List.mem_of_getElem? (i := 3) rfl)) (by decide) (by decide)) q169a q169c (g := (mkF m 150 #[.val (.int p1), .val (.int p2), .val (.int p3), .val (.int p4), .val (.int p5), .val (.int n), .val (.int (1 : Int32)), .val (.int (0 : Int32)), .val (.int (1 : Int32)), .val (.int xa), .val (.int xb), .val (.int xq), .val (.ref b154), .val (.int ok2), .unset] [(.int xb), (.ref b154)])) rfl (by rw [hml]; rfl) (Steps.refl _) (argsL := [(.int xb)]) (rest := []) (lenOf pd_0_1 rfl) rfl (by show 2 * 0 + _ ≤ _; exact Nat.le_of_eq rfl) (hb hby at_150) (fun _ _ => ⟨rfl, ej134, (by decide : 4 + 0 ≤ _), (by decide : 46 + 0 ≤ _)⟩)
                      dsimp only [Pt.U, Pt.locs, Pt.cells, Pt.slots] at X169 l169 y169 z169 st169 hQ169
                      subst l169 y169 z169
                      obtain ⟨rfl, N169q, Kq169, O169_0, V169_0, V169_1⟩ := hQ169
                      have N169 := Fr.app Nj134 N169q
                      have fE_b154_x169 := (E_b154_163.keep Kq169)
                      have K169 : Keep h0 T169.heap [] := Keep.trans K162 Kq169 (allS (Or.inr sz_b154) (allS (Or.inr sz_c155_ab) (allS (Or.inr sz_c155_am) all0)))
                      have Z169 : n0 ≤ T169.heap.size := Nat.le_trans Z162 Kq169.1
                      obtain ⟨E_b154_170, F_markBits_b154_171, F_marked_b154_172, F_markedCount_b154_173, F_size_b154_174⟩ := O169_0
                      obtain ⟨cq175, kq175, q175a, q175b, q175c⟩ := isOf hZ rfl E_b154_170
                      obtain ⟨_, _, ⟨T175, L175, k175, n175⟩, -, X175, ⟨Lc175, hQ175, l175, y175, z175⟩, st175⟩ := X169.virtualBack hx (y := (⟨"com/example/libfacet/libfacet/regex/StateSet", "clear", "()V"⟩ : MethodName)) (z := (⟨"com/example/libfacet/libfacet/regex/StateSet", "clear", "()V"⟩ : MethodName)) hown (mvT hZ (hw _ (List.mem_of_getElem? (i := 38) rfl))) (mvT hZ (hw _ (List.mem_of_getElem? (i := 39) rfl))) (notFace_of_selects (args := #[]) (mvT hZ (hw _ (List.mem_of_getElem? (i := 41) rfl)))) (mvT hZ (hw _ (List.mem_of_getElem? (i := 41) rfl))) (mvT hZ (hw _ (List.mem_of_getElem? (i := 40) rfl))) (by decide) (backOf (W := 0) (rm5L2 l Z a0 hw [] b154 c155_ab c155_am (0 : Int32) (own_orb (own_orb (fun _ => (0 : Int64)) xa) xb) (((n + (63 : Int32)).toUInt32 >>> ((6 : Int32) &&& 31).toUInt32).toInt32) (own_put (own_put (fun _ => (0 : Int32)) (0 : Int32) xa) (1 : Int32) xb) T169.heap n0 Z169 ⟨E_b154_170, F_markBits_b154_171, F_marked_b154_172, F_markedCount_b154_173, F_size_b154_174⟩ V169_0 V169_1 ne_b154_c155_ab ne_b154_c155_am ne_c155_ab_c155_am g_b154 g_c155_ab (own_wd hn0 hn1 hxa0 hxa1) (own_wd hn0 hn1 hxb0 hxb1)) hZ (hw _ (List.mem_of_getElem? (i := 42) rfl)) (hw _ (List.mem_of_getElem? (i := 3) rfl)) (by decide) (by decide)) q175a q175c (g := (mkF m 161 #[.val (.int p1), .val (.int p2), .val (.int p3), .val (.int p4), .val (.int p5), .val (.int n), .val (.int (1 : Int32)), .val (.int (0 : Int32)), .val (.int (1 : Int32)), .val (.int xa), .val (.int xb), .val (.int xq), .val (.ref b154), .val (.int ok2), .unset] [(.ref b154)])) rfl (by rw [hml]; rfl) (Steps.refl _) (argsL := []) (rest := []) (lenOf pd_0_2 rfl) rfl (by show 2 * 0 + _ ≤ _; exact Nat.le_of_eq rfl) (hb hby at_161) (fun _ _ => ⟨rfl, rfl, (by decide : 4 + 0 ≤ _), (by decide : 46 + 0 ≤ _)⟩)
                      dsimp only [Pt.U, Pt.locs, Pt.cells, Pt.slots] at X175 l175 y175 z175 st175 hQ175
                      subst l175 y175 z175
                      obtain ⟨rfl, N175q, Kq175, O175_0, V175_0⟩ := hQ175
                      have N175 := Fr.app N169 N175q
                      have fE_b154_x175 := (E_b154_170.keep Kq175)
                      have fA_c155_am_x175 := (V169_1.keep Kq175 (ninS (Ne.symm ne_b154_c155_am) (ninS (Ne.symm ne_c155_ab_c155_am) nin0)))
                      have K175 : Keep h0 T175.heap [] := Keep.trans K169 Kq175 (allS (Or.inr sz_b154) (allS (Or.inr sz_c155_ab) all0))
                      have Z175 : n0 ≤ T175.heap.size := Nat.le_trans Z169 Kq175.1
                      obtain ⟨E_b154_176, F_markBits_b154_177, F_marked_b154_178, F_markedCount_b154_179, F_size_b154_180⟩ := O175_0
                      refine own_pre (A := T175.setTop (mkF m 197 #[.val (.int p1), .val (.int p2), .val (.int p3), .val (.int p4), .val (.int p5), .val (.int n), .val (.int (1 : Int32)), .val (.int (0 : Int32)), .val (.int (1 : Int32)), .val (.int xa), .val (.int xb), .val (.int xq), .val (.ref b154), .val (.int ok2), .val (.int (0 : Int32))] [(.int ok2)])) (fun tt kt => ?_) ?_
                      · show Steps p.tables e below (Tj134.setTop (mkF m 150 #[.val (.int p1), .val (.int p2), .val (.int p3), .val (.int p4), .val (.int p5), .val (.int n), .val (.int (1 : Int32)), .val (.int (0 : Int32)), .val (.int (1 : Int32)), .val (.int xa), .val (.int xb), .val (.int xq), .val (.ref b154), .val (.int ok2), .unset] [(.int xb), (.ref b154)])) _
                        refine st169.trans ?_
                        show Steps p.tables e below (T169.setTop (mkF m 153 #[.val (.int p1), .val (.int p2), .val (.int p3), .val (.int p4), .val (.int p5), .val (.int n), .val (.int (1 : Int32)), .val (.int (0 : Int32)), .val (.int (1 : Int32)), .val (.int xa), .val (.int xb), .val (.int xq), .val (.ref b154), .val (.int ok2), .unset] [(.int (1 : Int32))])) _
                        refine XS.pop X169.here hx rfl (hb hby at_153) rfl rfl ?_
                        refine XS.iload X169.here hx rfl (hb hby at_154) rfl ?_
                        refine XS.ifNo X169.here hx rfl (hb hby at_156) rfl ((if0 _ _).trans (feq ((by decide) : ¬ ((1 : Int32) = (0 : Int32)))).1) ?_
                        refine XS.aload X169.here hx rfl (hb hby at_159) rfl rfl ?_
                        show Steps p.tables e below (T169.setTop (mkF m 161 #[.val (.int p1), .val (.int p2), .val (.int p3), .val (.int p4), .val (.int p5), .val (.int n), .val (.int (1 : Int32)), .val (.int (0 : Int32)), .val (.int (1 : Int32)), .val (.int xa), .val (.int xb), .val (.int xq), .val (.ref b154), .val (.int ok2), .unset] [(.ref b154)])) _
                        refine st175.trans ?_
                        show Steps p.tables e below (T175.setTop (mkF m 164 #[.val (.int p1), .val (.int p2), .val (.int p3), .val (.int p4), .val (.int p5), .val (.int n), .val (.int (1 : Int32)), .val (.int (0 : Int32)), .val (.int (1 : Int32)), .val (.int xa), .val (.int xb), .val (.int xq), .val (.ref b154), .val (.int ok2), .unset] [])) _
                        refine XS.iload X175.here hx rfl (hb hby at_164) rfl ?_
                        refine XS.ifYes X175.here hx rfl (pc0 := 166) (pc' := 192) rfl (hb hby at_166) rfl ((if0 _ _).trans (feq ((by decide) : ¬ ((1 : Int32) = (0 : Int32)))).2) (by decide) (by decide) ?_
                        refine XS.iconst X175.here hx rfl (hb hby at_192) ?_
                        refine XS.istore X175.here hx rfl (hb hby at_193) rfl (l' := #[.val (.int p1), .val (.int p2), .val (.int p3), .val (.int p4), .val (.int p5), .val (.int n), .val (.int (1 : Int32)), .val (.int (0 : Int32)), .val (.int (1 : Int32)), .val (.int xa), .val (.int xb), .val (.int xq), .val (.ref b154), .val (.int ok2), .val (.int (0 : Int32))]) rfl ?_
                        refine XS.iload X175.here hx rfl (hb hby at_195) rfl ?_
                        exact kt
                      show own_End p e below s (T175.setTop (mkF m 197 #[.val (.int p1), .val (.int p2), .val (.int p3), .val (.int p4), .val (.int p5), .val (.int n), .val (.int (1 : Int32)), .val (.int (0 : Int32)), .val (.int (1 : Int32)), .val (.int xa), .val (.int xb), .val (.int xq), .val (.ref b154), .val (.int ok2), .val (.int (0 : Int32))] [(.int ok2)])) (Q0 Z p1 p2 p3 p4 p5 h0 n0) room_1.cells room_1.slots
                      by_cases hc197_181 : ok2 = (0 : Int32)
                      · refine own_pre (A := T175.setTop (mkF m 217 #[.val (.int p1), .val (.int p2), .val (.int p3), .val (.int p4), .val (.int p5), .val (.int n), .val (.int (1 : Int32)), .val (.int (0 : Int32)), .val (.int (1 : Int32)), .val (.int xa), .val (.int xb), .val (.int xq), .val (.ref b154), .val (.int ok2), .val (.int (0 : Int32))] [(.int (0 : Int32))])) (fun tt kt => ?_) ?_
                        · show Steps p.tables e below (T175.setTop (mkF m 197 #[.val (.int p1), .val (.int p2), .val (.int p3), .val (.int p4), .val (.int p5), .val (.int n), .val (.int (1 : Int32)), .val (.int (0 : Int32)), .val (.int (1 : Int32)), .val (.int xa), .val (.int xb), .val (.int xq), .val (.ref b154), .val (.int ok2), .val (.int (0 : Int32))] [(.int ok2)])) _
                          refine XS.ifYes X175.here hx rfl (pc0 := 197) (pc' := 216) rfl (hb hby at_197) rfl ((if0 _ _).trans (teq hc197_181).1) (by decide) (by decide) ?_
                          refine XS.iconst X175.here hx rfl (hb hby at_216) ?_
                          exact kt
                        show own_End p e below s (T175.setTop (mkF m 217 #[.val (.int p1), .val (.int p2), .val (.int p3), .val (.int p4), .val (.int p5), .val (.int n), .val (.int (1 : Int32)), .val (.int (0 : Int32)), .val (.int (1 : Int32)), .val (.int xa), .val (.int xb), .val (.int xq), .val (.ref b154), .val (.int ok2), .val (.int (0 : Int32))] [(.int (0 : Int32))])) (Q0 Z p1 p2 p3 p4 p5 h0 n0) room_1.cells room_1.slots
                        have hv : (own_law p1 p2 p3 p4 p5) = (0 : Int32) := hj.trans (by simp only [own_law_134bbbbb, if_pos hU168, if_pos hc197_181])
                        obtain ⟨fs, hr, hrun, hended, hW, hsame⟩ := X175.leave (v := some (.int (0 : Int32))) (fun h => by rw [Bd.returns] at h; cases h)
                        refine ⟨_, _, ?_, hrun, hended, _, _, rfl, ?_, ⟨_, rfl⟩, hW, hsame.mono (by decide) (by decide)⟩
                        · exact retN X175 hx (t := .boolean) Bd.returns (by simp) (hb hby at_217) hr
                        · show Q0 Z p1 p2 p3 p4 p5 h0 n0 _ T175.heap _
                          exact ⟨(congrArg (fun z => some (Value.int z)) hv.symm), N175⟩
                      · obtain ⟨cq182, kq182, q182a, q182b, q182c⟩ := isOf hZ rfl E_b154_176
                        obtain ⟨_, _, ⟨T182, L182, k182, n182⟩, -, X182, ⟨Lc182, hQ182, l182, y182, z182⟩, st182⟩ := X175.virtualBack hx (y := (⟨"com/example/libfacet/libfacet/regex/StateSet", "isMarked", "(I)Z"⟩ : MethodName)) (z := (⟨"com/example/libfacet/libfacet/regex/StateSet", "isMarked", "(I)Z"⟩ : MethodName)) hown (mvT hZ (hw _ (List.mem_of_getElem? (i := 26) rfl))) (mvT hZ (hw _ (List.mem_of_getElem? (i := 27) rfl))) (notFace_of_selects (args := #[]) (mvT hZ (hw _ (List.mem_of_getElem? (i := 29) rfl)))) (mvT hZ (hw _ (List.mem_of_getElem? (i := 29) rfl))) (mvT hZ (hw _ (List.mem_of_getElem? (i := 28) rfl))) (by decide) (backOf (W := 0) (rm3L l Z a0 hw [] b154 xq c155_ab c155_am (0 : Int32) (0 : Int32) (own_zero (own_zero (own_orb (own_orb (fun _ => (0 : Int64)) xa) xb) ((own_put (own_put (fun _ => (0 : Int32)) (0 : Int32) xa) (1 : Int32) xb) 0)) ((own_put (own_put (fun _ => (0 : Int32)) (0 : Int32) xa) (1 : Int32) xb) 1)) (((n + (63 : Int32)).toUInt32 >>> ((6 : Int32) &&& 31).toUInt32).toInt32) T175.heap n0 Z175 ⟨E_b154_176, F_markBits_b154_177, F_marked_b154_178, F_markedCount_b154_179, F_size_b154_180⟩ V175_0 (own_wd hn0 hn1 hxq0 hxq1)) hZ (hw _ (List.mem_of_getElem? (i := 30) rfl)) (hw _ (List.mem_of_getElem? (i := 3) rfl)) (by decide) (by decide)) q182a q182c (g := (mkF m 204 #[.val (.int p1), .val (.int p2), .val (.int p3), .val (.int p4), .val (.int p5), .val (.int n), .val (.int (1 : Int32)), .val (.int (0 : Int32)), .val (.int (1 : Int32)), .val (.int xa), .val (.int xb), .val (.int xq), .val (.ref b154), .val (.int ok2), .val (.int (0 : Int32))] [(.int xq), (.ref b154)])) rfl (by rw [hml]; rfl) (Steps.refl _) (argsL := [(.int xq)]) (rest := []) (lenOf pd_0_1 rfl) rfl (by show 2 * 0 + _ ≤ _; exact Nat.le_of_eq rfl) (hb hby at_204) (fun _ _ => ⟨rfl, rfl, (by decide : 4 + 0 ≤ _), (by decide : 46 + 0 ≤ _)⟩)
                        dsimp only [Pt.U, Pt.locs, Pt.cells, Pt.slots] at X182 l182 y182 z182 st182 hQ182
                        subst l182 y182 z182
                        obtain ⟨rfl, N182q, e182⟩ := hQ182
                        have N182 := Fr.app N175 N182q
                        refine own_pre (A := T182.setTop (mkF m 209 #[.val (.int p1), .val (.int p2), .val (.int p3), .val (.int p4), .val (.int p5), .val (.int n), .val (.int (1 : Int32)), .val (.int (0 : Int32)), .val (.int (1 : Int32)), .val (.int xa), .val (.int xb), .val (.int xq), .val (.ref b154), .val (.int ok2), .val (.int (0 : Int32))] [(.int (0 : Int32)), (.int (own_isL xq (own_zero (own_zero (own_orb (own_orb (fun _ => (0 : Int64)) xa) xb) ((own_put (own_put (fun _ => (0 : Int32)) (0 : Int32) xa) (1 : Int32) xb) 0)) ((own_put (own_put (fun _ => (0 : Int32)) (0 : Int32) xa) (1 : Int32) xb) 1)) (((n + (63 : Int32)).toUInt32 >>> ((6 : Int32) &&& 31).toUInt32).toInt32) (0 : Int32) (0 : Int32)))])) (fun tt kt => ?_) ?_
                        · show Steps p.tables e below (T175.setTop (mkF m 197 #[.val (.int p1), .val (.int p2), .val (.int p3), .val (.int p4), .val (.int p5), .val (.int n), .val (.int (1 : Int32)), .val (.int (0 : Int32)), .val (.int (1 : Int32)), .val (.int xa), .val (.int xb), .val (.int xq), .val (.ref b154), .val (.int ok2), .val (.int (0 : Int32))] [(.int ok2)])) _
                          refine XS.ifNo X175.here hx rfl (hb hby at_197) rfl ((if0 _ _).trans (feq hc197_181).1) ?_
                          refine XS.aload X175.here hx rfl (hb hby at_200) rfl rfl ?_
                          refine XS.iload X175.here hx rfl (hb hby at_202) rfl ?_
                          show Steps p.tables e below (T175.setTop (mkF m 204 #[.val (.int p1), .val (.int p2), .val (.int p3), .val (.int p4), .val (.int p5), .val (.int n), .val (.int (1 : Int32)), .val (.int (0 : Int32)), .val (.int (1 : Int32)), .val (.int xa), .val (.int xb), .val (.int xq), .val (.ref b154), .val (.int ok2), .val (.int (0 : Int32))] [(.int xq), (.ref b154)])) _
                          refine st182.trans ?_
                          show Steps p.tables e below (T182.setTop (mkF m 207 #[.val (.int p1), .val (.int p2), .val (.int p3), .val (.int p4), .val (.int p5), .val (.int n), .val (.int (1 : Int32)), .val (.int (0 : Int32)), .val (.int (1 : Int32)), .val (.int xa), .val (.int xb), .val (.int xq), .val (.ref b154), .val (.int ok2), .val (.int (0 : Int32))] [(.int (own_isL xq (own_zero (own_zero (own_orb (own_orb (fun _ => (0 : Int64)) xa) xb) ((own_put (own_put (fun _ => (0 : Int32)) (0 : Int32) xa) (1 : Int32) xb) 0)) ((own_put (own_put (fun _ => (0 : Int32)) (0 : Int32) xa) (1 : Int32) xb) 1)) (((n + (63 : Int32)).toUInt32 >>> ((6 : Int32) &&& 31).toUInt32).toInt32) (0 : Int32) (0 : Int32)))])) _
                          refine XS.iload X182.here hx rfl (hb hby at_207) rfl ?_
                          exact kt
                        show own_End p e below s (T182.setTop (mkF m 209 #[.val (.int p1), .val (.int p2), .val (.int p3), .val (.int p4), .val (.int p5), .val (.int n), .val (.int (1 : Int32)), .val (.int (0 : Int32)), .val (.int (1 : Int32)), .val (.int xa), .val (.int xb), .val (.int xq), .val (.ref b154), .val (.int ok2), .val (.int (0 : Int32))] [(.int (0 : Int32)), (.int (own_isL xq (own_zero (own_zero (own_orb (own_orb (fun _ => (0 : Int64)) xa) xb) ((own_put (own_put (fun _ => (0 : Int32)) (0 : Int32) xa) (1 : Int32) xb) 0)) ((own_put (own_put (fun _ => (0 : Int32)) (0 : Int32) xa) (1 : Int32) xb) 1)) (((n + (63 : Int32)).toUInt32 >>> ((6 : Int32) &&& 31).toUInt32).toInt32) (0 : Int32) (0 : Int32)))])) (Q0 Z p1 p2 p3 p4 p5 h0 n0) room_1.cells room_1.slots
                        by_cases hc209_183 : (own_isL xq (own_zero (own_zero (own_orb (own_orb (fun _ => (0 : Int64)) xa) xb) ((own_put (own_put (fun _ => (0 : Int32)) (0 : Int32) xa) (1 : Int32) xb) 0)) ((own_put (own_put (fun _ => (0 : Int32)) (0 : Int32) xa) (1 : Int32) xb) 1)) (((n + (63 : Int32)).toUInt32 >>> ((6 : Int32) &&& 31).toUInt32).toInt32) (0 : Int32) (0 : Int32)) = (0 : Int32)
                        · refine own_pre (A := T182.setTop (mkF m 217 #[.val (.int p1), .val (.int p2), .val (.int p3), .val (.int p4), .val (.int p5), .val (.int n), .val (.int (1 : Int32)), .val (.int (0 : Int32)), .val (.int (1 : Int32)), .val (.int xa), .val (.int xb), .val (.int xq), .val (.ref b154), .val (.int ok2), .val (.int (0 : Int32))] [(.int (1 : Int32))])) (fun tt kt => ?_) ?_
                          · show Steps p.tables e below (T182.setTop (mkF m 209 #[.val (.int p1), .val (.int p2), .val (.int p3), .val (.int p4), .val (.int p5), .val (.int n), .val (.int (1 : Int32)), .val (.int (0 : Int32)), .val (.int (1 : Int32)), .val (.int xa), .val (.int xb), .val (.int xq), .val (.ref b154), .val (.int ok2), .val (.int (0 : Int32))] [(.int (0 : Int32)), (.int (own_isL xq (own_zero (own_zero (own_orb (own_orb (fun _ => (0 : Int64)) xa) xb) ((own_put (own_put (fun _ => (0 : Int32)) (0 : Int32) xa) (1 : Int32) xb) 0)) ((own_put (own_put (fun _ => (0 : Int32)) (0 : Int32) xa) (1 : Int32) xb) 1)) (((n + (63 : Int32)).toUInt32 >>> ((6 : Int32) &&& 31).toUInt32).toInt32) (0 : Int32) (0 : Int32)))])) _
                            refine XS.icmpNo X182.here hx rfl (hb hby at_209) rfl (teq hc209_183).2 ?_
                            refine XS.iconst X182.here hx rfl (hb hby at_212) ?_
                            refine XS.goto X182.here hx rfl (pc0 := 213) (pc' := 217) rfl (hb hby at_213) (by decide) (by decide) ?_
                            exact kt
                          show own_End p e below s (T182.setTop (mkF m 217 #[.val (.int p1), .val (.int p2), .val (.int p3), .val (.int p4), .val (.int p5), .val (.int n), .val (.int (1 : Int32)), .val (.int (0 : Int32)), .val (.int (1 : Int32)), .val (.int xa), .val (.int xb), .val (.int xq), .val (.ref b154), .val (.int ok2), .val (.int (0 : Int32))] [(.int (1 : Int32))])) (Q0 Z p1 p2 p3 p4 p5 h0 n0) room_1.cells room_1.slots
                          have hv : (own_law p1 p2 p3 p4 p5) = (1 : Int32) := hj.trans (by simp only [own_law_134bbbbb, if_pos hU168, if_neg hc197_181, if_pos hc209_183])
                          obtain ⟨fs, hr, hrun, hended, hW, hsame⟩ := X182.leave (v := some (.int (1 : Int32))) (fun h => by rw [Bd.returns] at h; cases h)
                          refine ⟨_, _, ?_, hrun, hended, _, _, rfl, ?_, ⟨_, rfl⟩, hW, hsame.mono (by decide) (by decide)⟩
                          · exact retN X182 hx (t := .boolean) Bd.returns (by simp) (hb hby at_217) hr
                          · show Q0 Z p1 p2 p3 p4 p5 h0 n0 _ T182.heap _
                            rw [e182]
                            exact ⟨(congrArg (fun z => some (Value.int z)) hv.symm), N182⟩
                        · refine own_pre (A := T182.setTop (mkF m 217 #[.val (.int p1), .val (.int p2), .val (.int p3), .val (.int p4), .val (.int p5), .val (.int n), .val (.int (1 : Int32)), .val (.int (0 : Int32)), .val (.int (1 : Int32)), .val (.int xa), .val (.int xb), .val (.int xq), .val (.ref b154), .val (.int ok2), .val (.int (0 : Int32))] [(.int (0 : Int32))])) (fun tt kt => ?_) ?_
                          · show Steps p.tables e below (T182.setTop (mkF m 209 #[.val (.int p1), .val (.int p2), .val (.int p3), .val (.int p4), .val (.int p5), .val (.int n), .val (.int (1 : Int32)), .val (.int (0 : Int32)), .val (.int (1 : Int32)), .val (.int xa), .val (.int xb), .val (.int xq), .val (.ref b154), .val (.int ok2), .val (.int (0 : Int32))] [(.int (0 : Int32)), (.int (own_isL xq (own_zero (own_zero (own_orb (own_orb (fun _ => (0 : Int64)) xa) xb) ((own_put (own_put (fun _ => (0 : Int32)) (0 : Int32) xa) (1 : Int32) xb) 0)) ((own_put (own_put (fun _ => (0 : Int32)) (0 : Int32) xa) (1 : Int32) xb) 1)) (((n + (63 : Int32)).toUInt32 >>> ((6 : Int32) &&& 31).toUInt32).toInt32) (0 : Int32) (0 : Int32)))])) _
                            refine XS.icmpYes X182.here hx rfl (pc0 := 209) (pc' := 216) rfl (hb hby at_209) rfl (feq hc209_183).2 (by decide) (by decide) ?_
                            refine XS.iconst X182.here hx rfl (hb hby at_216) ?_
                            exact kt
                          show own_End p e below s (T182.setTop (mkF m 217 #[.val (.int p1), .val (.int p2), .val (.int p3), .val (.int p4), .val (.int p5), .val (.int n), .val (.int (1 : Int32)), .val (.int (0 : Int32)), .val (.int (1 : Int32)), .val (.int xa), .val (.int xb), .val (.int xq), .val (.ref b154), .val (.int ok2), .val (.int (0 : Int32))] [(.int (0 : Int32))])) (Q0 Z p1 p2 p3 p4 p5 h0 n0) room_1.cells room_1.slots
                          have hv : (own_law p1 p2 p3 p4 p5) = (0 : Int32) := hj.trans (by simp only [own_law_134bbbbb, if_pos hU168, if_neg hc197_181, if_neg hc209_183])
                          obtain ⟨fs, hr, hrun, hended, hW, hsame⟩ := X182.leave (v := some (.int (0 : Int32))) (fun h => by rw [Bd.returns] at h; cases h)
                          refine ⟨_, _, ?_, hrun, hended, _, _, rfl, ?_, ⟨_, rfl⟩, hW, hsame.mono (by decide) (by decide)⟩
                          · exact retN X182 hx (t := .boolean) Bd.returns (by simp) (hb hby at_217) hr
                          · show Q0 Z p1 p2 p3 p4 p5 h0 n0 _ T182.heap _
                            rw [e182]
                            exact ⟨(congrArg (fun z => some (Value.int z)) hv.symm), N182⟩
                    · obtain ⟨cq184, kq184, q184a, q184b, q184c⟩ := isOf hZ ej134 E_b154_163
                      obtain ⟨_, _, ⟨T184, L184, k184, n184⟩, -, X184, ⟨Lc184, hQ184, l184, y184, z184⟩, st184⟩ := Xj134.virtualBack hx (y := (⟨"com/example/libfacet/libfacet/regex/StateSet", "mark", "(I)Z"⟩ : MethodName)) (z := (⟨"com/example/libfacet/libfacet/regex/StateSet", "mark", "(I)Z"⟩ : MethodName)) hown (mvT hZ (hw _ (List.mem_of_getElem? (i := 31) rfl))) (mvT hZ (hw _ (List.mem_of_getElem? (i := 32) rfl))) (notFace_of_selects (args := #[]) (mvT hZ (hw _ (List.mem_of_getElem? (i := 34) rfl)))) (mvT hZ (hw _ (List.mem_of_getElem? (i := 34) rfl))) (mvT hZ (hw _ (List.mem_of_getElem? (i := 33) rfl))) (by decide) (backOf (W := 0) (rm4Lm l Z a0 hw [] b154 xb c155_ab c155_am (1 : Int32) (0 : Int32) (own_orb (fun _ => (0 : Int64)) xa) (((n + (63 : Int32)).toUInt32 >>> ((6 : Int32) &&& 31).toUInt32).toInt32) (own_put (fun _ => (0 : Int32)) (0 : Int32) xa) T162.heap n0 Z162 ⟨E_b154_163, F_markBits_b154_164, F_marked_b154_165, F_markedCount_b154_166, F_size_b154_167⟩ V162_0 V162_1 ne_b154_c155_ab ne_b154_c155_am ne_c155_ab_c155_am g_c155_ab (own_wd hn0 hn1 hxb0 hxb1) hU168 (by decide) (by decide)) hZ (hw _ (List.mem_of_getElem? (i := 35) rfl)) (hw _ (List.mem_of_getElem? (i := 3) rfl)) (by decide) (by decide)) q184a q184c (g := (mkF m 150 #[.val (.int p1), .val (.int p2), .val (.int p3), .val (.int p4), .val (.int p5), .val (.int n), .val (.int (1 : Int32)), .val (.int (0 : Int32)), .val (.int (1 : Int32)), .val (.int xa), .val (.int xb), .val (.int xq), .val (.ref b154), .val (.int ok2), .unset] [(.int xb), (.ref b154)])) rfl (by rw [hml]; rfl) (Steps.refl _) (argsL := [(.int xb)]) (rest := []) (lenOf pd_0_1 rfl) rfl (by show 2 * 0 + _ ≤ _; exact Nat.le_of_eq rfl) (hb hby at_150) (fun _ _ => ⟨rfl, ej134, (by decide : 4 + 0 ≤ _), (by decide : 46 + 0 ≤ _)⟩)
                      dsimp only [Pt.U, Pt.locs, Pt.cells, Pt.slots] at X184 l184 y184 z184 st184 hQ184
                      subst l184 y184 z184
                      obtain ⟨rfl, N184q, Kq184, V184_0⟩ := hQ184
                      have N184 := Fr.app Nj134 N184q
                      have fE_b154_x184 := (E_b154_163.keep Kq184)
                      have fF_b154_markBits_x184 := (F_markBits_b154_164.keep Kq184 (ninS ne_b154_c155_ab nin0))
                      have fF_b154_marked_x184 := (F_marked_b154_165.keep Kq184 (ninS ne_b154_c155_ab nin0))
                      have fF_b154_markedCount_x184 := (F_markedCount_b154_166.keep Kq184 (ninS ne_b154_c155_ab nin0))
                      have fF_b154_size_x184 := (F_size_b154_167.keep Kq184 (ninS ne_b154_c155_ab nin0))
                      have fA_c155_am_x184 := (V162_1.keep Kq184 (ninS (Ne.symm ne_c155_ab_c155_am) nin0))
                      have K184 : Keep h0 T184.heap [] := Keep.trans K162 Kq184 (allS (Or.inr sz_c155_ab) all0)
                      have Z184 : n0 ≤ T184.heap.size := Nat.le_trans Z162 Kq184.1
                      obtain ⟨cq185, kq185, q185a, q185b, q185c⟩ := isOf hZ rfl fE_b154_x184
                      obtain ⟨_, _, ⟨T185, L185, k185, n185⟩, -, X185, ⟨Lc185, hQ185, l185, y185, z185⟩, st185⟩ := X184.virtualBack hx (y := (⟨"com/example/libfacet/libfacet/regex/StateSet", "clear", "()V"⟩ : MethodName)) (z := (⟨"com/example/libfacet/libfacet/regex/StateSet", "clear", "()V"⟩ : MethodName)) hown (mvT hZ (hw _ (List.mem_of_getElem? (i := 38) rfl))) (mvT hZ (hw _ (List.mem_of_getElem? (i := 39) rfl))) (notFace_of_selects (args := #[]) (mvT hZ (hw _ (List.mem_of_getElem? (i := 41) rfl)))) (mvT hZ (hw _ (List.mem_of_getElem? (i := 41) rfl))) (mvT hZ (hw _ (List.mem_of_getElem? (i := 40) rfl))) (by decide) (backOf (W := 0) (rm5L1 l Z a0 hw [] b154 c155_ab c155_am (0 : Int32) (own_orb (own_orb (fun _ => (0 : Int64)) xa) xb) (((n + (63 : Int32)).toUInt32 >>> ((6 : Int32) &&& 31).toUInt32).toInt32) (own_put (fun _ => (0 : Int32)) (0 : Int32) xa) T184.heap n0 Z184 ⟨fE_b154_x184, fF_b154_markBits_x184, fF_b154_marked_x184, fF_b154_markedCount_x184, fF_b154_size_x184⟩ V184_0 fA_c155_am_x184 ne_b154_c155_ab ne_b154_c155_am ne_c155_ab_c155_am g_b154 g_c155_ab (own_wd hn0 hn1 hxa0 hxa1)) hZ (hw _ (List.mem_of_getElem? (i := 42) rfl)) (hw _ (List.mem_of_getElem? (i := 3) rfl)) (by decide) (by decide)) q185a q185c (g := (mkF m 161 #[.val (.int p1), .val (.int p2), .val (.int p3), .val (.int p4), .val (.int p5), .val (.int n), .val (.int (1 : Int32)), .val (.int (0 : Int32)), .val (.int (1 : Int32)), .val (.int xa), .val (.int xb), .val (.int xq), .val (.ref b154), .val (.int ok2), .unset] [(.ref b154)])) rfl (by rw [hml]; rfl) (Steps.refl _) (argsL := []) (rest := []) (lenOf pd_0_2 rfl) rfl (by show 2 * 0 + _ ≤ _; exact Nat.le_of_eq rfl) (hb hby at_161) (fun _ _ => ⟨rfl, rfl, (by decide : 4 + 0 ≤ _), (by decide : 46 + 0 ≤ _)⟩)
                      dsimp only [Pt.U, Pt.locs, Pt.cells, Pt.slots] at X185 l185 y185 z185 st185 hQ185
                      subst l185 y185 z185
                      obtain ⟨rfl, N185q, Kq185, O185_0, V185_0⟩ := hQ185
                      have N185 := Fr.app N184 N185q
                      have fE_b154_x185 := (fE_b154_x184.keep Kq185)
                      have fA_c155_am_x185 := (fA_c155_am_x184.keep Kq185 (ninS (Ne.symm ne_b154_c155_am) (ninS (Ne.symm ne_c155_ab_c155_am) nin0)))
                      have K185 : Keep h0 T185.heap [] := Keep.trans K184 Kq185 (allS (Or.inr sz_b154) (allS (Or.inr sz_c155_ab) all0))
                      have Z185 : n0 ≤ T185.heap.size := Nat.le_trans Z184 Kq185.1
                      obtain ⟨E_b154_186, F_markBits_b154_187, F_marked_b154_188, F_markedCount_b154_189, F_size_b154_190⟩ := O185_0
                      refine own_pre (A := T185.setTop (mkF m 197 #[.val (.int p1), .val (.int p2), .val (.int p3), .val (.int p4), .val (.int p5), .val (.int n), .val (.int (1 : Int32)), .val (.int (0 : Int32)), .val (.int (1 : Int32)), .val (.int xa), .val (.int xb), .val (.int xq), .val (.ref b154), .val (.int ok2), .val (.int (0 : Int32))] [(.int ok2)])) (fun tt kt => ?_) ?_
                      · show Steps p.tables e below (Tj134.setTop (mkF m 150 #[.val (.int p1), .val (.int p2), .val (.int p3), .val (.int p4), .val (.int p5), .val (.int n), .val (.int (1 : Int32)), .val (.int (0 : Int32)), .val (.int (1 : Int32)), .val (.int xa), .val (.int xb), .val (.int xq), .val (.ref b154), .val (.int ok2), .unset] [(.int xb), (.ref b154)])) _
                        refine st184.trans ?_
                        show Steps p.tables e below (T184.setTop (mkF m 153 #[.val (.int p1), .val (.int p2), .val (.int p3), .val (.int p4), .val (.int p5), .val (.int n), .val (.int (1 : Int32)), .val (.int (0 : Int32)), .val (.int (1 : Int32)), .val (.int xa), .val (.int xb), .val (.int xq), .val (.ref b154), .val (.int ok2), .unset] [(.int (0 : Int32))])) _
                        refine XS.pop X184.here hx rfl (hb hby at_153) rfl rfl ?_
                        refine XS.iload X184.here hx rfl (hb hby at_154) rfl ?_
                        refine XS.ifNo X184.here hx rfl (hb hby at_156) rfl ((if0 _ _).trans (feq ((by decide) : ¬ ((1 : Int32) = (0 : Int32)))).1) ?_
                        refine XS.aload X184.here hx rfl (hb hby at_159) rfl rfl ?_
                        show Steps p.tables e below (T184.setTop (mkF m 161 #[.val (.int p1), .val (.int p2), .val (.int p3), .val (.int p4), .val (.int p5), .val (.int n), .val (.int (1 : Int32)), .val (.int (0 : Int32)), .val (.int (1 : Int32)), .val (.int xa), .val (.int xb), .val (.int xq), .val (.ref b154), .val (.int ok2), .unset] [(.ref b154)])) _
                        refine st185.trans ?_
                        show Steps p.tables e below (T185.setTop (mkF m 164 #[.val (.int p1), .val (.int p2), .val (.int p3), .val (.int p4), .val (.int p5), .val (.int n), .val (.int (1 : Int32)), .val (.int (0 : Int32)), .val (.int (1 : Int32)), .val (.int xa), .val (.int xb), .val (.int xq), .val (.ref b154), .val (.int ok2), .unset] [])) _
                        refine XS.iload X185.here hx rfl (hb hby at_164) rfl ?_
                        refine XS.ifYes X185.here hx rfl (pc0 := 166) (pc' := 192) rfl (hb hby at_166) rfl ((if0 _ _).trans (feq ((by decide) : ¬ ((1 : Int32) = (0 : Int32)))).2) (by decide) (by decide) ?_
                        refine XS.iconst X185.here hx rfl (hb hby at_192) ?_
                        refine XS.istore X185.here hx rfl (hb hby at_193) rfl (l' := #[.val (.int p1), .val (.int p2), .val (.int p3), .val (.int p4), .val (.int p5), .val (.int n), .val (.int (1 : Int32)), .val (.int (0 : Int32)), .val (.int (1 : Int32)), .val (.int xa), .val (.int xb), .val (.int xq), .val (.ref b154), .val (.int ok2), .val (.int (0 : Int32))]) rfl ?_
                        refine XS.iload X185.here hx rfl (hb hby at_195) rfl ?_
                        exact kt
                      show own_End p e below s (T185.setTop (mkF m 197 #[.val (.int p1), .val (.int p2), .val (.int p3), .val (.int p4), .val (.int p5), .val (.int n), .val (.int (1 : Int32)), .val (.int (0 : Int32)), .val (.int (1 : Int32)), .val (.int xa), .val (.int xb), .val (.int xq), .val (.ref b154), .val (.int ok2), .val (.int (0 : Int32))] [(.int ok2)])) (Q0 Z p1 p2 p3 p4 p5 h0 n0) room_1.cells room_1.slots
                      by_cases hc197_191 : ok2 = (0 : Int32)
                      · refine own_pre (A := T185.setTop (mkF m 217 #[.val (.int p1), .val (.int p2), .val (.int p3), .val (.int p4), .val (.int p5), .val (.int n), .val (.int (1 : Int32)), .val (.int (0 : Int32)), .val (.int (1 : Int32)), .val (.int xa), .val (.int xb), .val (.int xq), .val (.ref b154), .val (.int ok2), .val (.int (0 : Int32))] [(.int (0 : Int32))])) (fun tt kt => ?_) ?_
                        · show Steps p.tables e below (T185.setTop (mkF m 197 #[.val (.int p1), .val (.int p2), .val (.int p3), .val (.int p4), .val (.int p5), .val (.int n), .val (.int (1 : Int32)), .val (.int (0 : Int32)), .val (.int (1 : Int32)), .val (.int xa), .val (.int xb), .val (.int xq), .val (.ref b154), .val (.int ok2), .val (.int (0 : Int32))] [(.int ok2)])) _
                          refine XS.ifYes X185.here hx rfl (pc0 := 197) (pc' := 216) rfl (hb hby at_197) rfl ((if0 _ _).trans (teq hc197_191).1) (by decide) (by decide) ?_
                          refine XS.iconst X185.here hx rfl (hb hby at_216) ?_
                          exact kt
                        show own_End p e below s (T185.setTop (mkF m 217 #[.val (.int p1), .val (.int p2), .val (.int p3), .val (.int p4), .val (.int p5), .val (.int n), .val (.int (1 : Int32)), .val (.int (0 : Int32)), .val (.int (1 : Int32)), .val (.int xa), .val (.int xb), .val (.int xq), .val (.ref b154), .val (.int ok2), .val (.int (0 : Int32))] [(.int (0 : Int32))])) (Q0 Z p1 p2 p3 p4 p5 h0 n0) room_1.cells room_1.slots
                        have hv : (own_law p1 p2 p3 p4 p5) = (0 : Int32) := hj.trans (by simp only [own_law_134bbbbb, if_neg hU168, if_pos hc197_191])
                        obtain ⟨fs, hr, hrun, hended, hW, hsame⟩ := X185.leave (v := some (.int (0 : Int32))) (fun h => by rw [Bd.returns] at h; cases h)
                        refine ⟨_, _, ?_, hrun, hended, _, _, rfl, ?_, ⟨_, rfl⟩, hW, hsame.mono (by decide) (by decide)⟩
                        · exact retN X185 hx (t := .boolean) Bd.returns (by simp) (hb hby at_217) hr
                        · show Q0 Z p1 p2 p3 p4 p5 h0 n0 _ T185.heap _
                          exact ⟨(congrArg (fun z => some (Value.int z)) hv.symm), N185⟩
                      · obtain ⟨cq192, kq192, q192a, q192b, q192c⟩ := isOf hZ rfl E_b154_186
                        obtain ⟨_, _, ⟨T192, L192, k192, n192⟩, -, X192, ⟨Lc192, hQ192, l192, y192, z192⟩, st192⟩ := X185.virtualBack hx (y := (⟨"com/example/libfacet/libfacet/regex/StateSet", "isMarked", "(I)Z"⟩ : MethodName)) (z := (⟨"com/example/libfacet/libfacet/regex/StateSet", "isMarked", "(I)Z"⟩ : MethodName)) hown (mvT hZ (hw _ (List.mem_of_getElem? (i := 26) rfl))) (mvT hZ (hw _ (List.mem_of_getElem? (i := 27) rfl))) (notFace_of_selects (args := #[]) (mvT hZ (hw _ (List.mem_of_getElem? (i := 29) rfl)))) (mvT hZ (hw _ (List.mem_of_getElem? (i := 29) rfl))) (mvT hZ (hw _ (List.mem_of_getElem? (i := 28) rfl))) (by decide) (backOf (W := 0) (rm3L l Z a0 hw [] b154 xq c155_ab c155_am (0 : Int32) (0 : Int32) (own_zero (own_orb (own_orb (fun _ => (0 : Int64)) xa) xb) ((own_put (fun _ => (0 : Int32)) (0 : Int32) xa) 0)) (((n + (63 : Int32)).toUInt32 >>> ((6 : Int32) &&& 31).toUInt32).toInt32) T185.heap n0 Z185 ⟨E_b154_186, F_markBits_b154_187, F_marked_b154_188, F_markedCount_b154_189, F_size_b154_190⟩ V185_0 (own_wd hn0 hn1 hxq0 hxq1)) hZ (hw _ (List.mem_of_getElem? (i := 30) rfl)) (hw _ (List.mem_of_getElem? (i := 3) rfl)) (by decide) (by decide)) q192a q192c (g := (mkF m 204 #[.val (.int p1), .val (.int p2), .val (.int p3), .val (.int p4), .val (.int p5), .val (.int n), .val (.int (1 : Int32)), .val (.int (0 : Int32)), .val (.int (1 : Int32)), .val (.int xa), .val (.int xb), .val (.int xq), .val (.ref b154), .val (.int ok2), .val (.int (0 : Int32))] [(.int xq), (.ref b154)])) rfl (by rw [hml]; rfl) (Steps.refl _) (argsL := [(.int xq)]) (rest := []) (lenOf pd_0_1 rfl) rfl (by show 2 * 0 + _ ≤ _; exact Nat.le_of_eq rfl) (hb hby at_204) (fun _ _ => ⟨rfl, rfl, (by decide : 4 + 0 ≤ _), (by decide : 46 + 0 ≤ _)⟩)
                        dsimp only [Pt.U, Pt.locs, Pt.cells, Pt.slots] at X192 l192 y192 z192 st192 hQ192
                        subst l192 y192 z192
                        obtain ⟨rfl, N192q, e192⟩ := hQ192
                        have N192 := Fr.app N185 N192q
                        refine own_pre (A := T192.setTop (mkF m 209 #[.val (.int p1), .val (.int p2), .val (.int p3), .val (.int p4), .val (.int p5), .val (.int n), .val (.int (1 : Int32)), .val (.int (0 : Int32)), .val (.int (1 : Int32)), .val (.int xa), .val (.int xb), .val (.int xq), .val (.ref b154), .val (.int ok2), .val (.int (0 : Int32))] [(.int (0 : Int32)), (.int (own_isL xq (own_zero (own_orb (own_orb (fun _ => (0 : Int64)) xa) xb) ((own_put (fun _ => (0 : Int32)) (0 : Int32) xa) 0)) (((n + (63 : Int32)).toUInt32 >>> ((6 : Int32) &&& 31).toUInt32).toInt32) (0 : Int32) (0 : Int32)))])) (fun tt kt => ?_) ?_
                        · show Steps p.tables e below (T185.setTop (mkF m 197 #[.val (.int p1), .val (.int p2), .val (.int p3), .val (.int p4), .val (.int p5), .val (.int n), .val (.int (1 : Int32)), .val (.int (0 : Int32)), .val (.int (1 : Int32)), .val (.int xa), .val (.int xb), .val (.int xq), .val (.ref b154), .val (.int ok2), .val (.int (0 : Int32))] [(.int ok2)])) _
                          refine XS.ifNo X185.here hx rfl (hb hby at_197) rfl ((if0 _ _).trans (feq hc197_191).1) ?_
                          refine XS.aload X185.here hx rfl (hb hby at_200) rfl rfl ?_
                          refine XS.iload X185.here hx rfl (hb hby at_202) rfl ?_
                          show Steps p.tables e below (T185.setTop (mkF m 204 #[.val (.int p1), .val (.int p2), .val (.int p3), .val (.int p4), .val (.int p5), .val (.int n), .val (.int (1 : Int32)), .val (.int (0 : Int32)), .val (.int (1 : Int32)), .val (.int xa), .val (.int xb), .val (.int xq), .val (.ref b154), .val (.int ok2), .val (.int (0 : Int32))] [(.int xq), (.ref b154)])) _
                          refine st192.trans ?_
                          show Steps p.tables e below (T192.setTop (mkF m 207 #[.val (.int p1), .val (.int p2), .val (.int p3), .val (.int p4), .val (.int p5), .val (.int n), .val (.int (1 : Int32)), .val (.int (0 : Int32)), .val (.int (1 : Int32)), .val (.int xa), .val (.int xb), .val (.int xq), .val (.ref b154), .val (.int ok2), .val (.int (0 : Int32))] [(.int (own_isL xq (own_zero (own_orb (own_orb (fun _ => (0 : Int64)) xa) xb) ((own_put (fun _ => (0 : Int32)) (0 : Int32) xa) 0)) (((n + (63 : Int32)).toUInt32 >>> ((6 : Int32) &&& 31).toUInt32).toInt32) (0 : Int32) (0 : Int32)))])) _
                          refine XS.iload X192.here hx rfl (hb hby at_207) rfl ?_
                          exact kt
                        show own_End p e below s (T192.setTop (mkF m 209 #[.val (.int p1), .val (.int p2), .val (.int p3), .val (.int p4), .val (.int p5), .val (.int n), .val (.int (1 : Int32)), .val (.int (0 : Int32)), .val (.int (1 : Int32)), .val (.int xa), .val (.int xb), .val (.int xq), .val (.ref b154), .val (.int ok2), .val (.int (0 : Int32))] [(.int (0 : Int32)), (.int (own_isL xq (own_zero (own_orb (own_orb (fun _ => (0 : Int64)) xa) xb) ((own_put (fun _ => (0 : Int32)) (0 : Int32) xa) 0)) (((n + (63 : Int32)).toUInt32 >>> ((6 : Int32) &&& 31).toUInt32).toInt32) (0 : Int32) (0 : Int32)))])) (Q0 Z p1 p2 p3 p4 p5 h0 n0) room_1.cells room_1.slots
                        by_cases hc209_193 : (own_isL xq (own_zero (own_orb (own_orb (fun _ => (0 : Int64)) xa) xb) ((own_put (fun _ => (0 : Int32)) (0 : Int32) xa) 0)) (((n + (63 : Int32)).toUInt32 >>> ((6 : Int32) &&& 31).toUInt32).toInt32) (0 : Int32) (0 : Int32)) = (0 : Int32)
                        · refine own_pre (A := T192.setTop (mkF m 217 #[.val (.int p1), .val (.int p2), .val (.int p3), .val (.int p4), .val (.int p5), .val (.int n), .val (.int (1 : Int32)), .val (.int (0 : Int32)), .val (.int (1 : Int32)), .val (.int xa), .val (.int xb), .val (.int xq), .val (.ref b154), .val (.int ok2), .val (.int (0 : Int32))] [(.int (1 : Int32))])) (fun tt kt => ?_) ?_
                          · show Steps p.tables e below (T192.setTop (mkF m 209 #[.val (.int p1), .val (.int p2), .val (.int p3), .val (.int p4), .val (.int p5), .val (.int n), .val (.int (1 : Int32)), .val (.int (0 : Int32)), .val (.int (1 : Int32)), .val (.int xa), .val (.int xb), .val (.int xq), .val (.ref b154), .val (.int ok2), .val (.int (0 : Int32))] [(.int (0 : Int32)), (.int (own_isL xq (own_zero (own_orb (own_orb (fun _ => (0 : Int64)) xa) xb) ((own_put (fun _ => (0 : Int32)) (0 : Int32) xa) 0)) (((n + (63 : Int32)).toUInt32 >>> ((6 : Int32) &&& 31).toUInt32).toInt32) (0 : Int32) (0 : Int32)))])) _
                            refine XS.icmpNo X192.here hx rfl (hb hby at_209) rfl (teq hc209_193).2 ?_
                            refine XS.iconst X192.here hx rfl (hb hby at_212) ?_
                            refine XS.goto X192.here hx rfl (pc0 := 213) (pc' := 217) rfl (hb hby at_213) (by decide) (by decide) ?_
                            exact kt
                          show own_End p e below s (T192.setTop (mkF m 217 #[.val (.int p1), .val (.int p2), .val (.int p3), .val (.int p4), .val (.int p5), .val (.int n), .val (.int (1 : Int32)), .val (.int (0 : Int32)), .val (.int (1 : Int32)), .val (.int xa), .val (.int xb), .val (.int xq), .val (.ref b154), .val (.int ok2), .val (.int (0 : Int32))] [(.int (1 : Int32))])) (Q0 Z p1 p2 p3 p4 p5 h0 n0) room_1.cells room_1.slots
                          have hv : (own_law p1 p2 p3 p4 p5) = (1 : Int32) := hj.trans (by simp only [own_law_134bbbbb, if_neg hU168, if_neg hc197_191, if_pos hc209_193])
                          obtain ⟨fs, hr, hrun, hended, hW, hsame⟩ := X192.leave (v := some (.int (1 : Int32))) (fun h => by rw [Bd.returns] at h; cases h)
                          refine ⟨_, _, ?_, hrun, hended, _, _, rfl, ?_, ⟨_, rfl⟩, hW, hsame.mono (by decide) (by decide)⟩
                          · exact retN X192 hx (t := .boolean) Bd.returns (by simp) (hb hby at_217) hr
                          · show Q0 Z p1 p2 p3 p4 p5 h0 n0 _ T192.heap _
                            rw [e192]
                            exact ⟨(congrArg (fun z => some (Value.int z)) hv.symm), N192⟩
                        · refine own_pre (A := T192.setTop (mkF m 217 #[.val (.int p1), .val (.int p2), .val (.int p3), .val (.int p4), .val (.int p5), .val (.int n), .val (.int (1 : Int32)), .val (.int (0 : Int32)), .val (.int (1 : Int32)), .val (.int xa), .val (.int xb), .val (.int xq), .val (.ref b154), .val (.int ok2), .val (.int (0 : Int32))] [(.int (0 : Int32))])) (fun tt kt => ?_) ?_
                          · show Steps p.tables e below (T192.setTop (mkF m 209 #[.val (.int p1), .val (.int p2), .val (.int p3), .val (.int p4), .val (.int p5), .val (.int n), .val (.int (1 : Int32)), .val (.int (0 : Int32)), .val (.int (1 : Int32)), .val (.int xa), .val (.int xb), .val (.int xq), .val (.ref b154), .val (.int ok2), .val (.int (0 : Int32))] [(.int (0 : Int32)), (.int (own_isL xq (own_zero (own_orb (own_orb (fun _ => (0 : Int64)) xa) xb) ((own_put (fun _ => (0 : Int32)) (0 : Int32) xa) 0)) (((n + (63 : Int32)).toUInt32 >>> ((6 : Int32) &&& 31).toUInt32).toInt32) (0 : Int32) (0 : Int32)))])) _
                            refine XS.icmpYes X192.here hx rfl (pc0 := 209) (pc' := 216) rfl (hb hby at_209) rfl (feq hc209_193).2 (by decide) (by decide) ?_
                            refine XS.iconst X192.here hx rfl (hb hby at_216) ?_
                            exact kt
                          show own_End p e below s (T192.setTop (mkF m 217 #[.val (.int p1), .val (.int p2), .val (.int p3), .val (.int p4), .val (.int p5), .val (.int n), .val (.int (1 : Int32)), .val (.int (0 : Int32)), .val (.int (1 : Int32)), .val (.int xa), .val (.int xb), .val (.int xq), .val (.ref b154), .val (.int ok2), .val (.int (0 : Int32))] [(.int (0 : Int32))])) (Q0 Z p1 p2 p3 p4 p5 h0 n0) room_1.cells room_1.slots
                          have hv : (own_law p1 p2 p3 p4 p5) = (0 : Int32) := hj.trans (by simp only [own_law_134bbbbb, if_neg hU168, if_neg hc197_191, if_neg hc209_193])
                          obtain ⟨fs, hr, hrun, hended, hW, hsame⟩ := X192.leave (v := some (.int (0 : Int32))) (fun h => by rw [Bd.returns] at h; cases h)
                          refine ⟨_, _, ?_, hrun, hended, _, _, rfl, ?_, ⟨_, rfl⟩, hW, hsame.mono (by decide) (by decide)⟩
                          · exact retN X192 hx (t := .boolean) Bd.returns (by simp) (hb hby at_217) hr
                          · show Q0 Z p1 p2 p3 p4 p5 h0 n0 _ T192.heap _
                            rw [e192]
                            exact ⟨(congrArg (fun z => some (Value.int z)) hv.symm), N192⟩
                  by_cases hc116_194 : ok1 = (0 : Int32)
                  · refine own_pre (A := T162.setTop (mkF m 134 #[.val (.int p1), .val (.int p2), .val (.int p3), .val (.int p4), .val (.int p5), .val (.int n), .val (.int (1 : Int32)), .val (.int (0 : Int32)), .val (.int (1 : Int32)), .val (.int xa), .val (.int xb), .val (.int xq), .val (.ref b154), .val (.int ok1), .unset] [(.int (0 : Int32))])) (fun tt kt => ?_) ?_
                    · show Steps p.tables e below (T162.setTop (mkF m 116 #[.val (.int p1), .val (.int p2), .val (.int p3), .val (.int p4), .val (.int p5), .val (.int n), .val (.int (1 : Int32)), .val (.int (0 : Int32)), .val (.int (1 : Int32)), .val (.int xa), .val (.int xb), .val (.int xq), .val (.ref b154), .val (.int ok1), .unset] [(.int ok1)])) _
                      refine XS.ifYes X162.here hx rfl (pc0 := 116) (pc' := 133) rfl (hb hby at_116) rfl ((if0 _ _).trans (teq hc116_194).1) (by decide) (by decide) ?_
                      refine XS.iconst X162.here hx rfl (hb hby at_133) ?_
                      exact kt
                    show own_End p e below s (T162.setTop (mkF m 134 #[.val (.int p1), .val (.int p2), .val (.int p3), .val (.int p4), .val (.int p5), .val (.int n), .val (.int (1 : Int32)), .val (.int (0 : Int32)), .val (.int (1 : Int32)), .val (.int xa), .val (.int xb), .val (.int xq), .val (.ref b154), .val (.int ok1), .unset] [(.int (0 : Int32))])) (Q0 Z p1 p2 p3 p4 p5 h0 n0) room_1.cells room_1.slots
                    exact j134 _ _ X162 rfl N162 (0 : Int32)  (hj.trans (by simp only [own_law_104bbbbb, if_pos hc116_194]))
                  · obtain ⟨cq195, kq195, q195a, q195b, q195c⟩ := isOf hZ rfl E_b154_163
                    obtain ⟨_, _, ⟨T195, L195, k195, n195⟩, -, X195, ⟨Lc195, hQ195, l195, y195, z195⟩, st195⟩ := X162.virtualBack hx (y := (⟨"com/example/libfacet/libfacet/regex/StateSet", "isMarked", "(I)Z"⟩ : MethodName)) (z := (⟨"com/example/libfacet/libfacet/regex/StateSet", "isMarked", "(I)Z"⟩ : MethodName)) hown (mvT hZ (hw _ (List.mem_of_getElem? (i := 26) rfl))) (mvT hZ (hw _ (List.mem_of_getElem? (i := 27) rfl))) (notFace_of_selects (args := #[]) (mvT hZ (hw _ (List.mem_of_getElem? (i := 29) rfl)))) (mvT hZ (hw _ (List.mem_of_getElem? (i := 29) rfl))) (mvT hZ (hw _ (List.mem_of_getElem? (i := 28) rfl))) (by decide) (backOf (W := 0) (rm3L l Z a0 hw [] b154 xa c155_ab c155_am (1 : Int32) (0 : Int32) (own_orb (fun _ => (0 : Int64)) xa) (((n + (63 : Int32)).toUInt32 >>> ((6 : Int32) &&& 31).toUInt32).toInt32) T162.heap n0 Z162 ⟨E_b154_163, F_markBits_b154_164, F_marked_b154_165, F_markedCount_b154_166, F_size_b154_167⟩ V162_0 (own_wd hn0 hn1 hxa0 hxa1)) hZ (hw _ (List.mem_of_getElem? (i := 30) rfl)) (hw _ (List.mem_of_getElem? (i := 3) rfl)) (by decide) (by decide)) q195a q195c (g := (mkF m 123 #[.val (.int p1), .val (.int p2), .val (.int p3), .val (.int p4), .val (.int p5), .val (.int n), .val (.int (1 : Int32)), .val (.int (0 : Int32)), .val (.int (1 : Int32)), .val (.int xa), .val (.int xb), .val (.int xq), .val (.ref b154), .val (.int ok1), .unset] [(.int xa), (.ref b154)])) rfl (by rw [hml]; rfl) (Steps.refl _) (argsL := [(.int xa)]) (rest := []) (lenOf pd_0_1 rfl) rfl (by show 2 * 0 + _ ≤ _; exact Nat.le_of_eq rfl) (hb hby at_123) (fun _ _ => ⟨rfl, rfl, (by decide : 4 + 0 ≤ _), (by decide : 46 + 0 ≤ _)⟩)
                    dsimp only [Pt.U, Pt.locs, Pt.cells, Pt.slots] at X195 l195 y195 z195 st195 hQ195
                    subst l195 y195 z195
                    obtain ⟨rfl, N195q, e195⟩ := hQ195
                    have N195 := Fr.app N162 N195q
                    refine own_pre (A := T195.setTop (mkF m 126 #[.val (.int p1), .val (.int p2), .val (.int p3), .val (.int p4), .val (.int p5), .val (.int n), .val (.int (1 : Int32)), .val (.int (0 : Int32)), .val (.int (1 : Int32)), .val (.int xa), .val (.int xb), .val (.int xq), .val (.ref b154), .val (.int ok1), .unset] [(.int (own_isL xa (own_orb (fun _ => (0 : Int64)) xa) (((n + (63 : Int32)).toUInt32 >>> ((6 : Int32) &&& 31).toUInt32).toInt32) (1 : Int32) (0 : Int32)))])) (fun tt kt => ?_) ?_
                    · show Steps p.tables e below (T162.setTop (mkF m 116 #[.val (.int p1), .val (.int p2), .val (.int p3), .val (.int p4), .val (.int p5), .val (.int n), .val (.int (1 : Int32)), .val (.int (0 : Int32)), .val (.int (1 : Int32)), .val (.int xa), .val (.int xb), .val (.int xq), .val (.ref b154), .val (.int ok1), .unset] [(.int ok1)])) _
                      refine XS.ifNo X162.here hx rfl (hb hby at_116) rfl ((if0 _ _).trans (feq hc116_194).1) ?_
                      refine XS.aload X162.here hx rfl (hb hby at_119) rfl rfl ?_
                      refine XS.iload X162.here hx rfl (hb hby at_121) rfl ?_
                      show Steps p.tables e below (T162.setTop (mkF m 123 #[.val (.int p1), .val (.int p2), .val (.int p3), .val (.int p4), .val (.int p5), .val (.int n), .val (.int (1 : Int32)), .val (.int (0 : Int32)), .val (.int (1 : Int32)), .val (.int xa), .val (.int xb), .val (.int xq), .val (.ref b154), .val (.int ok1), .unset] [(.int xa), (.ref b154)])) _
                      refine st195.trans ?_
                      exact kt
                    show own_End p e below s (T195.setTop (mkF m 126 #[.val (.int p1), .val (.int p2), .val (.int p3), .val (.int p4), .val (.int p5), .val (.int n), .val (.int (1 : Int32)), .val (.int (0 : Int32)), .val (.int (1 : Int32)), .val (.int xa), .val (.int xb), .val (.int xq), .val (.ref b154), .val (.int ok1), .unset] [(.int (own_isL xa (own_orb (fun _ => (0 : Int64)) xa) (((n + (63 : Int32)).toUInt32 >>> ((6 : Int32) &&& 31).toUInt32).toInt32) (1 : Int32) (0 : Int32)))])) (Q0 Z p1 p2 p3 p4 p5 h0 n0) room_1.cells room_1.slots
                    by_cases hc126_196 : (own_isL xa (own_orb (fun _ => (0 : Int64)) xa) (((n + (63 : Int32)).toUInt32 >>> ((6 : Int32) &&& 31).toUInt32).toInt32) (1 : Int32) (0 : Int32)) = (0 : Int32)
                    · refine own_pre (A := T195.setTop (mkF m 134 #[.val (.int p1), .val (.int p2), .val (.int p3), .val (.int p4), .val (.int p5), .val (.int n), .val (.int (1 : Int32)), .val (.int (0 : Int32)), .val (.int (1 : Int32)), .val (.int xa), .val (.int xb), .val (.int xq), .val (.ref b154), .val (.int ok1), .unset] [(.int (0 : Int32))])) (fun tt kt => ?_) ?_
                      · show Steps p.tables e below (T195.setTop (mkF m 126 #[.val (.int p1), .val (.int p2), .val (.int p3), .val (.int p4), .val (.int p5), .val (.int n), .val (.int (1 : Int32)), .val (.int (0 : Int32)), .val (.int (1 : Int32)), .val (.int xa), .val (.int xb), .val (.int xq), .val (.ref b154), .val (.int ok1), .unset] [(.int (own_isL xa (own_orb (fun _ => (0 : Int64)) xa) (((n + (63 : Int32)).toUInt32 >>> ((6 : Int32) &&& 31).toUInt32).toInt32) (1 : Int32) (0 : Int32)))])) _
                        refine XS.ifYes X195.here hx rfl (pc0 := 126) (pc' := 133) rfl (hb hby at_126) rfl ((if0 _ _).trans (teq hc126_196).1) (by decide) (by decide) ?_
                        refine XS.iconst X195.here hx rfl (hb hby at_133) ?_
                        exact kt
                      show own_End p e below s (T195.setTop (mkF m 134 #[.val (.int p1), .val (.int p2), .val (.int p3), .val (.int p4), .val (.int p5), .val (.int n), .val (.int (1 : Int32)), .val (.int (0 : Int32)), .val (.int (1 : Int32)), .val (.int xa), .val (.int xb), .val (.int xq), .val (.ref b154), .val (.int ok1), .unset] [(.int (0 : Int32))])) (Q0 Z p1 p2 p3 p4 p5 h0 n0) room_1.cells room_1.slots
                      exact j134 _ _ X195 e195 N195 (0 : Int32)  (hj.trans (by simp only [own_law_104bbbbb, if_neg hc116_194, if_pos hc126_196]))
                    · refine own_pre (A := T195.setTop (mkF m 134 #[.val (.int p1), .val (.int p2), .val (.int p3), .val (.int p4), .val (.int p5), .val (.int n), .val (.int (1 : Int32)), .val (.int (0 : Int32)), .val (.int (1 : Int32)), .val (.int xa), .val (.int xb), .val (.int xq), .val (.ref b154), .val (.int ok1), .unset] [(.int (1 : Int32))])) (fun tt kt => ?_) ?_
                      · show Steps p.tables e below (T195.setTop (mkF m 126 #[.val (.int p1), .val (.int p2), .val (.int p3), .val (.int p4), .val (.int p5), .val (.int n), .val (.int (1 : Int32)), .val (.int (0 : Int32)), .val (.int (1 : Int32)), .val (.int xa), .val (.int xb), .val (.int xq), .val (.ref b154), .val (.int ok1), .unset] [(.int (own_isL xa (own_orb (fun _ => (0 : Int64)) xa) (((n + (63 : Int32)).toUInt32 >>> ((6 : Int32) &&& 31).toUInt32).toInt32) (1 : Int32) (0 : Int32)))])) _
                        refine XS.ifNo X195.here hx rfl (hb hby at_126) rfl ((if0 _ _).trans (feq hc126_196).1) ?_
                        refine XS.iconst X195.here hx rfl (hb hby at_129) ?_
                        refine XS.goto X195.here hx rfl (pc0 := 130) (pc' := 134) rfl (hb hby at_130) (by decide) (by decide) ?_
                        exact kt
                      show own_End p e below s (T195.setTop (mkF m 134 #[.val (.int p1), .val (.int p2), .val (.int p3), .val (.int p4), .val (.int p5), .val (.int n), .val (.int (1 : Int32)), .val (.int (0 : Int32)), .val (.int (1 : Int32)), .val (.int xa), .val (.int xb), .val (.int xq), .val (.ref b154), .val (.int ok1), .unset] [(.int (1 : Int32))])) (Q0 Z p1 p2 p3 p4 p5 h0 n0) room_1.cells room_1.slots
                      exact j134 _ _ X195 e195 N195 (1 : Int32)  (hj.trans (by simp only [own_law_104bbbbb, if_neg hc116_194, if_neg hc126_196]))
                by_cases hc96_197 : (own_isL xq (fun _ => (0 : Int64)) (((n + (63 : Int32)).toUInt32 >>> ((6 : Int32) &&& 31).toUInt32).toInt32) (0 : Int32) (0 : Int32)) = (0 : Int32)
                · refine own_pre (A := T161.setTop (mkF m 104 #[.val (.int p1), .val (.int p2), .val (.int p3), .val (.int p4), .val (.int p5), .val (.int n), .val (.int (1 : Int32)), .val (.int (0 : Int32)), .val (.int (1 : Int32)), .val (.int xa), .val (.int xb), .val (.int xq), .val (.ref b154), .unset, .unset] [(.int (1 : Int32))])) (fun tt kt => ?_) ?_
                  · show Steps p.tables e below (T161.setTop (mkF m 96 #[.val (.int p1), .val (.int p2), .val (.int p3), .val (.int p4), .val (.int p5), .val (.int n), .val (.int (1 : Int32)), .val (.int (0 : Int32)), .val (.int (1 : Int32)), .val (.int xa), .val (.int xb), .val (.int xq), .val (.ref b154), .unset, .unset] [(.int (own_isL xq (fun _ => (0 : Int64)) (((n + (63 : Int32)).toUInt32 >>> ((6 : Int32) &&& 31).toUInt32).toInt32) (0 : Int32) (0 : Int32)))])) _
                    refine XS.ifNo X161.here hx rfl (hb hby at_96) rfl ((if0 _ _).trans (teq hc96_197).2) ?_
                    refine XS.iconst X161.here hx rfl (hb hby at_99) ?_
                    refine XS.goto X161.here hx rfl (pc0 := 100) (pc' := 104) rfl (hb hby at_100) (by decide) (by decide) ?_
                    exact kt
                  show own_End p e below s (T161.setTop (mkF m 104 #[.val (.int p1), .val (.int p2), .val (.int p3), .val (.int p4), .val (.int p5), .val (.int n), .val (.int (1 : Int32)), .val (.int (0 : Int32)), .val (.int (1 : Int32)), .val (.int xa), .val (.int xb), .val (.int xq), .val (.ref b154), .unset, .unset] [(.int (1 : Int32))])) (Q0 Z p1 p2 p3 p4 p5 h0 n0) room_1.cells room_1.slots
                  exact j104 _ _ X161 e161 N161 (1 : Int32)  (hj.trans (by simp only [own_law_76bbbbb, if_pos hc96_197]))
                · refine own_pre (A := T161.setTop (mkF m 104 #[.val (.int p1), .val (.int p2), .val (.int p3), .val (.int p4), .val (.int p5), .val (.int n), .val (.int (1 : Int32)), .val (.int (0 : Int32)), .val (.int (1 : Int32)), .val (.int xa), .val (.int xb), .val (.int xq), .val (.ref b154), .unset, .unset] [(.int (0 : Int32))])) (fun tt kt => ?_) ?_
                  · show Steps p.tables e below (T161.setTop (mkF m 96 #[.val (.int p1), .val (.int p2), .val (.int p3), .val (.int p4), .val (.int p5), .val (.int n), .val (.int (1 : Int32)), .val (.int (0 : Int32)), .val (.int (1 : Int32)), .val (.int xa), .val (.int xb), .val (.int xq), .val (.ref b154), .unset, .unset] [(.int (own_isL xq (fun _ => (0 : Int64)) (((n + (63 : Int32)).toUInt32 >>> ((6 : Int32) &&& 31).toUInt32).toInt32) (0 : Int32) (0 : Int32)))])) _
                    refine XS.ifYes X161.here hx rfl (pc0 := 96) (pc' := 103) rfl (hb hby at_96) rfl ((if0 _ _).trans (feq hc96_197).2) (by decide) (by decide) ?_
                    refine XS.iconst X161.here hx rfl (hb hby at_103) ?_
                    exact kt
                  show own_End p e below s (T161.setTop (mkF m 104 #[.val (.int p1), .val (.int p2), .val (.int p3), .val (.int p4), .val (.int p5), .val (.int n), .val (.int (1 : Int32)), .val (.int (0 : Int32)), .val (.int (1 : Int32)), .val (.int xa), .val (.int xb), .val (.int xq), .val (.ref b154), .unset, .unset] [(.int (0 : Int32))])) (Q0 Z p1 p2 p3 p4 p5 h0 n0) room_1.cells room_1.slots
                  exact j104 _ _ X161 e161 N161 (0 : Int32)  (hj.trans (by simp only [own_law_76bbbbb, if_neg hc96_197]))
              exact j76 _ _ Xj66 ej66 Nj66 ((p5 &&& (2147483647 : Int32)) % n) (own_i p5 n hn0).1 (own_i p5 n hn0).2 (hj.trans (by simp only [own_law_66bbbbb]))
            exact j66 _ _ Xj57 ej57 Nj57 ((p4 &&& (2147483647 : Int32)) % n) (own_i p4 n hn0).1 (own_i p4 n hn0).2 (hj.trans (by simp only [own_law_57bbbbb]))
          exact j57 _ _ Xj9 ej9 Nj9 ((p3 &&& (2147483647 : Int32)) % n) (own_i p3 n hn0).1 (own_i p3 n hn0).2 (hj.trans (by simp only [own_law_9, if_neg hc12_1, if_pos hc25_116, if_neg hc38_117]))
      · refine own_pre (A := Tj9.setTop (mkF m 38 #[.val (.int p1), .val (.int p2), .val (.int p3), .val (.int p4), .val (.int p5), .val (.int n), .val (.int (1 : Int32)), .val (.int (1 : Int32)), .unset, .unset, .unset, .unset, .unset, .unset, .unset] [(.int (p2 &&& (4 : Int32)))])) (fun tt kt => ?_) ?_
        · show Steps p.tables e below (Tj9.setTop (mkF m 25 #[.val (.int p1), .val (.int p2), .val (.int p3), .val (.int p4), .val (.int p5), .val (.int n), .val (.int (1 : Int32)), .unset, .unset, .unset, .unset, .unset, .unset, .unset, .unset] [(.int (p2 &&& (2 : Int32)))])) _
          refine XS.ifNo Xj9.here hx rfl (hb hby at_25) rfl ((if0 _ _).trans (feq hc25_116).1) ?_
          refine XS.iconst Xj9.here hx rfl (hb hby at_28) ?_
          refine XS.goto Xj9.here hx rfl (pc0 := 29) (pc' := 33) rfl (hb hby at_29) (by decide) (by decide) ?_
          refine XS.istore Xj9.here hx rfl (hb hby at_33) rfl (l' := #[.val (.int p1), .val (.int p2), .val (.int p3), .val (.int p4), .val (.int p5), .val (.int n), .val (.int (1 : Int32)), .val (.int (1 : Int32)), .unset, .unset, .unset, .unset, .unset, .unset, .unset]) rfl ?_
          refine XS.iloadN Xj9.here hx rfl (hb hby at_35) rfl ?_
          refine XS.iconst Xj9.here hx rfl (hb hby at_36) ?_
          refine XS.iand Xj9.here hx rfl (hb hby at_37) rfl ?_
          exact kt
        show own_End p e below s (Tj9.setTop (mkF m 38 #[.val (.int p1), .val (.int p2), .val (.int p3), .val (.int p4), .val (.int p5), .val (.int n), .val (.int (1 : Int32)), .val (.int (1 : Int32)), .unset, .unset, .unset, .unset, .unset, .unset, .unset] [(.int (p2 &&& (4 : Int32)))])) (Q0 Z p1 p2 p3 p4 p5 h0 n0) room_1.cells room_1.slots
        by_cases hc38_198 : (p2 &&& (4 : Int32)) = (0 : Int32)
        · refine own_pre (A := Tj9.setTop (mkF m 57 #[.val (.int p1), .val (.int p2), .val (.int p3), .val (.int p4), .val (.int p5), .val (.int n), .val (.int (1 : Int32)), .val (.int (1 : Int32)), .val (.int (0 : Int32)), .val (.int ((p3 &&& (2147483647 : Int32)) % n)), .unset, .unset, .unset, .unset, .unset] [])) (fun tt kt => ?_) ?_
          · show Steps p.tables e below (Tj9.setTop (mkF m 38 #[.val (.int p1), .val (.int p2), .val (.int p3), .val (.int p4), .val (.int p5), .val (.int n), .val (.int (1 : Int32)), .val (.int (1 : Int32)), .unset, .unset, .unset, .unset, .unset, .unset, .unset] [(.int (p2 &&& (4 : Int32)))])) _
            refine XS.ifYes Xj9.here hx rfl (pc0 := 38) (pc' := 45) rfl (hb hby at_38) rfl ((if0 _ _).trans (teq hc38_198).1) (by decide) (by decide) ?_
            refine XS.iconst Xj9.here hx rfl (hb hby at_45) ?_
            refine XS.istore Xj9.here hx rfl (hb hby at_46) rfl (l' := #[.val (.int p1), .val (.int p2), .val (.int p3), .val (.int p4), .val (.int p5), .val (.int n), .val (.int (1 : Int32)), .val (.int (1 : Int32)), .val (.int (0 : Int32)), .unset, .unset, .unset, .unset, .unset, .unset]) rfl ?_
            refine XS.iloadN Xj9.here hx rfl (hb hby at_48) rfl ?_
            show Steps p.tables e below (Tj9.setTop (mkF m 49 #[.val (.int p1), .val (.int p2), .val (.int p3), .val (.int p4), .val (.int p5), .val (.int n), .val (.int (1 : Int32)), .val (.int (1 : Int32)), .val (.int (0 : Int32)), .unset, .unset, .unset, .unset, .unset, .unset] [(.int p3)])) _
            refine Xj9.ldcInt hx hown (mvT hZ (hw _ (List.mem_of_getElem? (i := 0) rfl))) (g := (mkF m 49 #[.val (.int p1), .val (.int p2), .val (.int p3), .val (.int p4), .val (.int p5), .val (.int n), .val (.int (1 : Int32)), .val (.int (1 : Int32)), .val (.int (0 : Int32)), .unset, .unset, .unset, .unset, .unset, .unset] [(.int p3)])) rfl (hb hby at_49) _ ?_
            show Steps p.tables e below (Tj9.setTop (mkF m 51 #[.val (.int p1), .val (.int p2), .val (.int p3), .val (.int p4), .val (.int p5), .val (.int n), .val (.int (1 : Int32)), .val (.int (1 : Int32)), .val (.int (0 : Int32)), .unset, .unset, .unset, .unset, .unset, .unset] [(.int (2147483647 : Int32)), (.int p3)])) _
            refine XS.iand Xj9.here hx rfl (hb hby at_51) rfl ?_
            refine XS.iload Xj9.here hx rfl (hb hby at_52) rfl ?_
            refine iremM Xj9 hx rfl (hb hby at_54) rfl (own_nz hn0) ?_
            refine XS.istore Xj9.here hx rfl (hb hby at_55) rfl (l' := #[.val (.int p1), .val (.int p2), .val (.int p3), .val (.int p4), .val (.int p5), .val (.int n), .val (.int (1 : Int32)), .val (.int (1 : Int32)), .val (.int (0 : Int32)), .val (.int ((p3 &&& (2147483647 : Int32)) % n)), .unset, .unset, .unset, .unset, .unset]) rfl ?_
            exact kt
          show own_End p e below s (Tj9.setTop (mkF m 57 #[.val (.int p1), .val (.int p2), .val (.int p3), .val (.int p4), .val (.int p5), .val (.int n), .val (.int (1 : Int32)), .val (.int (1 : Int32)), .val (.int (0 : Int32)), .val (.int ((p3 &&& (2147483647 : Int32)) % n)), .unset, .unset, .unset, .unset, .unset] [])) (Q0 Z p1 p2 p3 p4 p5 h0 n0) room_1.cells room_1.slots
          have j57 : ∀ (Tj57 : State) (Lj57 : List Loc) (Xj57 : Stand p l e room_1 s m #[(.int p1), (.int p2), (.int p3), (.int p4), (.int p5)] below meth c Tj57 Lj57 0 0) (ej57 : Tj57.heap = h0) (Nj57 : Fr n0 Lj57) (xa : Int32) (hxa0 : 0 ≤ xa.toInt) (hxa1 : xa.toInt < n.toInt), own_law p1 p2 p3 p4 p5 = own_law_57bbbbbb p1 p2 p3 p4 p5 n xa → own_End p e below s (Tj57.setTop (mkF m 57 #[.val (.int p1), .val (.int p2), .val (.int p3), .val (.int p4), .val (.int p5), .val (.int n), .val (.int (1 : Int32)), .val (.int (1 : Int32)), .val (.int (0 : Int32)), .val (.int xa), .unset, .unset, .unset, .unset, .unset] [])) (Q0 Z p1 p2 p3 p4 p5 h0 n0) room_1.cells room_1.slots := by
            intro Tj57 Lj57 Xj57 ej57 Nj57 xa hxa0 hxa1 hj
            refine own_pre (A := Tj57.setTop (mkF m 66 #[.val (.int p1), .val (.int p2), .val (.int p3), .val (.int p4), .val (.int p5), .val (.int n), .val (.int (1 : Int32)), .val (.int (1 : Int32)), .val (.int (0 : Int32)), .val (.int xa), .val (.int ((p4 &&& (2147483647 : Int32)) % n)), .unset, .unset, .unset, .unset] [])) (fun tt kt => ?_) ?_
            · show Steps p.tables e below (Tj57.setTop (mkF m 57 #[.val (.int p1), .val (.int p2), .val (.int p3), .val (.int p4), .val (.int p5), .val (.int n), .val (.int (1 : Int32)), .val (.int (1 : Int32)), .val (.int (0 : Int32)), .val (.int xa), .unset, .unset, .unset, .unset, .unset] [])) _
              refine XS.iloadN Xj57.here hx rfl (hb hby at_57) rfl ?_
              show Steps p.tables e below (Tj57.setTop (mkF m 58 #[.val (.int p1), .val (.int p2), .val (.int p3), .val (.int p4), .val (.int p5), .val (.int n), .val (.int (1 : Int32)), .val (.int (1 : Int32)), .val (.int (0 : Int32)), .val (.int xa), .unset, .unset, .unset, .unset, .unset] [(.int p4)])) _
              refine Xj57.ldcInt hx hown (mvT hZ (hw _ (List.mem_of_getElem? (i := 0) rfl))) (g := (mkF m 58 #[.val (.int p1), .val (.int p2), .val (.int p3), .val (.int p4), .val (.int p5), .val (.int n), .val (.int (1 : Int32)), .val (.int (1 : Int32)), .val (.int (0 : Int32)), .val (.int xa), .unset, .unset, .unset, .unset, .unset] [(.int p4)])) rfl (hb hby at_58) _ ?_
              show Steps p.tables e below (Tj57.setTop (mkF m 60 #[.val (.int p1), .val (.int p2), .val (.int p3), .val (.int p4), .val (.int p5), .val (.int n), .val (.int (1 : Int32)), .val (.int (1 : Int32)), .val (.int (0 : Int32)), .val (.int xa), .unset, .unset, .unset, .unset, .unset] [(.int (2147483647 : Int32)), (.int p4)])) _
              refine XS.iand Xj57.here hx rfl (hb hby at_60) rfl ?_
              refine XS.iload Xj57.here hx rfl (hb hby at_61) rfl ?_
              refine iremM Xj57 hx rfl (hb hby at_63) rfl (own_nz hn0) ?_
              refine XS.istore Xj57.here hx rfl (hb hby at_64) rfl (l' := #[.val (.int p1), .val (.int p2), .val (.int p3), .val (.int p4), .val (.int p5), .val (.int n), .val (.int (1 : Int32)), .val (.int (1 : Int32)), .val (.int (0 : Int32)), .val (.int xa), .val (.int ((p4 &&& (2147483647 : Int32)) % n)), .unset, .unset, .unset, .unset]) rfl ?_
              exact kt
            show own_End p e below s (Tj57.setTop (mkF m 66 #[.val (.int p1), .val (.int p2), .val (.int p3), .val (.int p4), .val (.int p5), .val (.int n), .val (.int (1 : Int32)), .val (.int (1 : Int32)), .val (.int (0 : Int32)), .val (.int xa), .val (.int ((p4 &&& (2147483647 : Int32)) % n)), .unset, .unset, .unset, .unset] [])) (Q0 Z p1 p2 p3 p4 p5 h0 n0) room_1.cells room_1.slots
            have j66 : ∀ (Tj66 : State) (Lj66 : List Loc) (Xj66 : Stand p l e room_1 s m #[(.int p1), (.int p2), (.int p3), (.int p4), (.int p5)] below meth c Tj66 Lj66 0 0) (ej66 : Tj66.heap = h0) (Nj66 : Fr n0 Lj66) (xb : Int32) (hxb0 : 0 ≤ xb.toInt) (hxb1 : xb.toInt < n.toInt), own_law p1 p2 p3 p4 p5 = own_law_66bbbbbb p1 p2 p3 p4 p5 n xa xb → own_End p e below s (Tj66.setTop (mkF m 66 #[.val (.int p1), .val (.int p2), .val (.int p3), .val (.int p4), .val (.int p5), .val (.int n), .val (.int (1 : Int32)), .val (.int (1 : Int32)), .val (.int (0 : Int32)), .val (.int xa), .val (.int xb), .unset, .unset, .unset, .unset] [])) (Q0 Z p1 p2 p3 p4 p5 h0 n0) room_1.cells room_1.slots := by
              intro Tj66 Lj66 Xj66 ej66 Nj66 xb hxb0 hxb1 hj
              refine own_pre (A := Tj66.setTop (mkF m 76 #[.val (.int p1), .val (.int p2), .val (.int p3), .val (.int p4), .val (.int p5), .val (.int n), .val (.int (1 : Int32)), .val (.int (1 : Int32)), .val (.int (0 : Int32)), .val (.int xa), .val (.int xb), .val (.int ((p5 &&& (2147483647 : Int32)) % n)), .unset, .unset, .unset] [])) (fun tt kt => ?_) ?_
              · show Steps p.tables e below (Tj66.setTop (mkF m 66 #[.val (.int p1), .val (.int p2), .val (.int p3), .val (.int p4), .val (.int p5), .val (.int n), .val (.int (1 : Int32)), .val (.int (1 : Int32)), .val (.int (0 : Int32)), .val (.int xa), .val (.int xb), .unset, .unset, .unset, .unset] [])) _
                refine XS.iload Xj66.here hx rfl (hb hby at_66) rfl ?_
                show Steps p.tables e below (Tj66.setTop (mkF m 68 #[.val (.int p1), .val (.int p2), .val (.int p3), .val (.int p4), .val (.int p5), .val (.int n), .val (.int (1 : Int32)), .val (.int (1 : Int32)), .val (.int (0 : Int32)), .val (.int xa), .val (.int xb), .unset, .unset, .unset, .unset] [(.int p5)])) _
                refine Xj66.ldcInt hx hown (mvT hZ (hw _ (List.mem_of_getElem? (i := 0) rfl))) (g := (mkF m 68 #[.val (.int p1), .val (.int p2), .val (.int p3), .val (.int p4), .val (.int p5), .val (.int n), .val (.int (1 : Int32)), .val (.int (1 : Int32)), .val (.int (0 : Int32)), .val (.int xa), .val (.int xb), .unset, .unset, .unset, .unset] [(.int p5)])) rfl (hb hby at_68) _ ?_
                show Steps p.tables e below (Tj66.setTop (mkF m 70 #[.val (.int p1), .val (.int p2), .val (.int p3), .val (.int p4), .val (.int p5), .val (.int n), .val (.int (1 : Int32)), .val (.int (1 : Int32)), .val (.int (0 : Int32)), .val (.int xa), .val (.int xb), .unset, .unset, .unset, .unset] [(.int (2147483647 : Int32)), (.int p5)])) _
                refine XS.iand Xj66.here hx rfl (hb hby at_70) rfl ?_
                refine XS.iload Xj66.here hx rfl (hb hby at_71) rfl ?_
                refine iremM Xj66 hx rfl (hb hby at_73) rfl (own_nz hn0) ?_
                refine XS.istore Xj66.here hx rfl (hb hby at_74) rfl (l' := #[.val (.int p1), .val (.int p2), .val (.int p3), .val (.int p4), .val (.int p5), .val (.int n), .val (.int (1 : Int32)), .val (.int (1 : Int32)), .val (.int (0 : Int32)), .val (.int xa), .val (.int xb), .val (.int ((p5 &&& (2147483647 : Int32)) % n)), .unset, .unset, .unset]) rfl ?_
                exact kt
              show own_End p e below s (Tj66.setTop (mkF m 76 #[.val (.int p1), .val (.int p2), .val (.int p3), .val (.int p4), .val (.int p5), .val (.int n), .val (.int (1 : Int32)), .val (.int (1 : Int32)), .val (.int (0 : Int32)), .val (.int xa), .val (.int xb), .val (.int ((p5 &&& (2147483647 : Int32)) % n)), .unset, .unset, .unset] [])) (Q0 Z p1 p2 p3 p4 p5 h0 n0) room_1.cells room_1.slots
              have j76 : ∀ (Tj76 : State) (Lj76 : List Loc) (Xj76 : Stand p l e room_1 s m #[(.int p1), (.int p2), (.int p3), (.int p4), (.int p5)] below meth c Tj76 Lj76 0 0) (ej76 : Tj76.heap = h0) (Nj76 : Fr n0 Lj76) (xq : Int32) (hxq0 : 0 ≤ xq.toInt) (hxq1 : xq.toInt < n.toInt), own_law p1 p2 p3 p4 p5 = own_law_76bbbbbb p1 p2 p3 p4 p5 n xa xb xq → own_End p e below s (Tj76.setTop (mkF m 76 #[.val (.int p1), .val (.int p2), .val (.int p3), .val (.int p4), .val (.int p5), .val (.int n), .val (.int (1 : Int32)), .val (.int (1 : Int32)), .val (.int (0 : Int32)), .val (.int xa), .val (.int xb), .val (.int xq), .unset, .unset, .unset] [])) (Q0 Z p1 p2 p3 p4 p5 h0 n0) room_1.cells room_1.slots := by
                intro Tj76 Lj76 Xj76 ej76 Nj76 xq hxq0 hxq1 hj
                obtain ⟨T199, h199, X199, e199, E199, A199, D199, -, st199⟩ := newO Xj76 hx hZ hown (hw _ (List.mem_of_getElem? (i := 1) rfl)) (hw _ (List.mem_of_getElem? (i := 2) rfl)) (hw _ (List.mem_of_getElem? (i := 3) rfl)) ej76 (g := (mkF m 76 #[.val (.int p1), .val (.int p2), .val (.int p3), .val (.int p4), .val (.int p5), .val (.int n), .val (.int (1 : Int32)), .val (.int (1 : Int32)), .val (.int (0 : Int32)), .val (.int xa), .val (.int xb), .val (.int xq), .unset, .unset, .unset] [])) rfl (hb hby at_76) (by decide) (by decide)
                obtain ⟨b199, g199⟩ : ∃ z, z = h0.size := ⟨_, rfl⟩
                rw [← g199] at A199 D199 st199
                have g_b199 : n0 ≤ b199 := Nat.le_trans Z0 (Nat.le_of_eq g199.symm)
                have sz_b199 : h0.size ≤ b199 := Nat.le_trans (show Keep h0 h0 [] from (Keep.refl h0 _)).1 (Nat.le_of_eq g199.symm)
                have K199 : Keep h0 h199 [] := Keep.ext (Keep.refl h0 _) E199
                have Z199 : n0 ≤ h199.size := Nat.le_trans Z0 E199.1
                have F_stamp_b199 : Fld Z h199 b199 "com/example/libfacet/libfacet/regex/StateSet" "stamp" "I" (.int (0 : Int32)) := D199 (Or.inl (hw _ (List.mem_of_getElem? (i := 11) rfl))) (ty := .int) (by decide)
                have F_stack_b199 : Fld Z h199 b199 "com/example/libfacet/libfacet/regex/StateSet" "stack" "[I" .null := D199 (Or.inl (hw _ (List.mem_of_getElem? (i := 14) rfl))) (ty := (.array .int)) (by decide)
                have F_instructions_b199 : Fld Z h199 b199 "com/example/libfacet/libfacet/regex/StateSet" "instructions" "I" (.int (0 : Int32)) := D199 (Or.inr (hw _ (List.mem_of_getElem? (i := 16) rfl))) (ty := .int) (by decide)
                have F_members_b199 : Fld Z h199 b199 "com/example/libfacet/libfacet/regex/StateSet" "members" "[I" .null := D199 (Or.inl (hw _ (List.mem_of_getElem? (i := 18) rfl))) (ty := (.array .int)) (by decide)
                have F_marks_b199 : Fld Z h199 b199 "com/example/libfacet/libfacet/regex/StateSet" "marks" "[C" .null := D199 (Or.inr (hw _ (List.mem_of_getElem? (i := 20) rfl))) (ty := (.array .char)) (by decide)
                have F_markBits_b199 : Fld Z h199 b199 "com/example/libfacet/libfacet/regex/StateSet" "markBits" "[J" .null := D199 (Or.inr (hw _ (List.mem_of_getElem? (i := 23) rfl))) (ty := (.array .long)) (by decide)
                have F_marked_b199 : Fld Z h199 b199 "com/example/libfacet/libfacet/regex/StateSet" "marked" "[I" .null := D199 (Or.inl (hw _ (List.mem_of_getElem? (i := 25) rfl))) (ty := (.array .int)) (by decide)
                have F_markedCount_b199 : Fld Z h199 b199 "com/example/libfacet/libfacet/regex/StateSet" "markedCount" "I" (.int (0 : Int32)) := D199 (Or.inl (hw _ (List.mem_of_getElem? (i := 37) rfl))) (ty := .int) (by decide)
                have F_size_b199 : Fld Z h199 b199 "com/example/libfacet/libfacet/regex/StateSet" "size" "I" (.int (0 : Int32)) := D199 (Or.inl (hw _ (List.mem_of_getElem? (i := 44) rfl))) (ty := .int) (by decide)
                obtain ⟨_, _, ⟨T200, L200, k200, n200⟩, -, X200, ⟨Lc200, hQ200, l200, y200, z200⟩, st200⟩ := X199.specialBack hx (y := (⟨"com/example/libfacet/libfacet/regex/StateSet", "<init>", "(IZ)V"⟩ : MethodName)) rfl hown (mvT hZ (hw _ (List.mem_of_getElem? (i := 4) rfl))) (mvT hZ (hw _ (List.mem_of_getElem? (i := 5) rfl))) (mvT hZ (hw _ (List.mem_of_getElem? (i := 6) rfl))) (by decide) (backOf (W := 1) (rm1L l Z a0 hw [] b199 n (0 : Int32) (0 : Int32) (0 : Int32) (0 : Int32) h199 n0 Z199 ⟨A199, F_stamp_b199, F_stack_b199, F_instructions_b199, F_members_b199, F_marks_b199, F_markBits_b199, F_marked_b199, F_markedCount_b199, F_size_b199⟩ g_b199 hn0 hn1) hZ (hw _ (List.mem_of_getElem? (i := 6) rfl)) (hw _ (List.mem_of_getElem? (i := 3) rfl)) (by decide) (by decide)) (g := (mkF m 84 #[.val (.int p1), .val (.int p2), .val (.int p3), .val (.int p4), .val (.int p5), .val (.int n), .val (.int (1 : Int32)), .val (.int (1 : Int32)), .val (.int (0 : Int32)), .val (.int xa), .val (.int xb), .val (.int xq), .unset, .unset, .unset] [(.int (1 : Int32)), (.int n), (.ref b199), (.ref b199)])) rfl (by rw [hml]; rfl) (Steps.refl _) (a := b199) (argsL := [(.int n), (.int (1 : Int32))]) (rest := [(.ref b199)]) (lenOf pd_0_0 rfl) rfl (by show 2 * 0 + _ ≤ _; exact Nat.le_of_eq rfl) (hb hby at_84) (fun _ _ => ⟨rfl, e199, (by decide : 1 + 3 ≤ _), (by decide : 10 + 36 ≤ _)⟩)
                dsimp only [Pt.U, Pt.locs, Pt.cells, Pt.slots] at X200 l200 y200 z200 st200 hQ200
                subst l200 y200 z200
                obtain ⟨rfl, N200q, c200_ab, c200_am, Kq200, O200_0, szq_c200_ab, P200_ab_0, szq_c200_am, P200_am_0, ne_c200_ab_c200_am⟩ := hQ200
                have ne_b199_c200_ab : b199 ≠ c200_ab := Nat.ne_of_lt (Nat.lt_of_lt_of_le A199.lt szq_c200_ab)
                have g_c200_ab : n0 ≤ c200_ab := Nat.le_trans Z199 szq_c200_ab
                have sz_c200_ab : h0.size ≤ c200_ab := Nat.le_trans (show Keep h0 h199 [] from K199).1 szq_c200_ab
                have ne_b199_c200_am : b199 ≠ c200_am := Nat.ne_of_lt (Nat.lt_of_lt_of_le A199.lt szq_c200_am)
                have g_c200_am : n0 ≤ c200_am := Nat.le_trans Z199 szq_c200_am
                have sz_c200_am : h0.size ≤ c200_am := Nat.le_trans (show Keep h0 h199 [] from K199).1 szq_c200_am
                have N200 := Fr.app Nj76 N200q
                have fE_b199_x200 := (A199.keep Kq200)
                have K200 : Keep h0 T200.heap [] := Keep.trans K199 Kq200 (allS (Or.inr sz_b199) all0)
                have Z200 : n0 ≤ T200.heap.size := Nat.le_trans Z199 Kq200.1
                obtain ⟨E_b199_201, F_markBits_b199_202, F_marked_b199_203, F_markedCount_b199_204, F_size_b199_205⟩ := O200_0
                obtain ⟨cq206, kq206, q206a, q206b, q206c⟩ := isOf hZ rfl E_b199_201
                obtain ⟨_, _, ⟨T206, L206, k206, n206⟩, -, X206, ⟨Lc206, hQ206, l206, y206, z206⟩, st206⟩ := X200.virtualBack hx (y := (⟨"com/example/libfacet/libfacet/regex/StateSet", "isMarked", "(I)Z"⟩ : MethodName)) (z := (⟨"com/example/libfacet/libfacet/regex/StateSet", "isMarked", "(I)Z"⟩ : MethodName)) hown (mvT hZ (hw _ (List.mem_of_getElem? (i := 26) rfl))) (mvT hZ (hw _ (List.mem_of_getElem? (i := 27) rfl))) (notFace_of_selects (args := #[]) (mvT hZ (hw _ (List.mem_of_getElem? (i := 29) rfl)))) (mvT hZ (hw _ (List.mem_of_getElem? (i := 29) rfl))) (mvT hZ (hw _ (List.mem_of_getElem? (i := 28) rfl))) (by decide) (backOf (W := 0) (rm3L l Z a0 hw [] b199 xq c200_ab c200_am (0 : Int32) (0 : Int32) (fun _ => (0 : Int64)) (((n + (63 : Int32)).toUInt32 >>> ((6 : Int32) &&& 31).toUInt32).toInt32) T200.heap n0 Z200 ⟨E_b199_201, F_markBits_b199_202, F_marked_b199_203, F_markedCount_b199_204, F_size_b199_205⟩ P200_ab_0 (own_wd hn0 hn1 hxq0 hxq1)) hZ (hw _ (List.mem_of_getElem? (i := 30) rfl)) (hw _ (List.mem_of_getElem? (i := 3) rfl)) (by decide) (by decide)) q206a q206c (g := (mkF m 93 #[.val (.int p1), .val (.int p2), .val (.int p3), .val (.int p4), .val (.int p5), .val (.int n), .val (.int (1 : Int32)), .val (.int (1 : Int32)), .val (.int (0 : Int32)), .val (.int xa), .val (.int xb), .val (.int xq), .val (.ref b199), .unset, .unset] [(.int xq), (.ref b199)])) rfl (by rw [hml]; rfl) (Steps.refl _) (argsL := [(.int xq)]) (rest := []) (lenOf pd_0_1 rfl) rfl (by show 2 * 0 + _ ≤ _; exact Nat.le_of_eq rfl) (hb hby at_93) (fun _ _ => ⟨rfl, rfl, (by decide : 4 + 0 ≤ _), (by decide : 46 + 0 ≤ _)⟩)
                dsimp only [Pt.U, Pt.locs, Pt.cells, Pt.slots] at X206 l206 y206 z206 st206 hQ206
                subst l206 y206 z206
                obtain ⟨rfl, N206q, e206⟩ := hQ206
                have N206 := Fr.app N200 N206q
                refine own_pre (A := T206.setTop (mkF m 96 #[.val (.int p1), .val (.int p2), .val (.int p3), .val (.int p4), .val (.int p5), .val (.int n), .val (.int (1 : Int32)), .val (.int (1 : Int32)), .val (.int (0 : Int32)), .val (.int xa), .val (.int xb), .val (.int xq), .val (.ref b199), .unset, .unset] [(.int (own_isL xq (fun _ => (0 : Int64)) (((n + (63 : Int32)).toUInt32 >>> ((6 : Int32) &&& 31).toUInt32).toInt32) (0 : Int32) (0 : Int32)))])) (fun tt kt => ?_) ?_
                · show Steps p.tables e below (Tj76.setTop (mkF m 76 #[.val (.int p1), .val (.int p2), .val (.int p3), .val (.int p4), .val (.int p5), .val (.int n), .val (.int (1 : Int32)), .val (.int (1 : Int32)), .val (.int (0 : Int32)), .val (.int xa), .val (.int xb), .val (.int xq), .unset, .unset, .unset] [])) _
                  refine st199 _ ?_
                  show Steps p.tables e below (T199.setTop (mkF m 79 #[.val (.int p1), .val (.int p2), .val (.int p3), .val (.int p4), .val (.int p5), .val (.int n), .val (.int (1 : Int32)), .val (.int (1 : Int32)), .val (.int (0 : Int32)), .val (.int xa), .val (.int xb), .val (.int xq), .unset, .unset, .unset] [(.ref b199)])) _
                  refine XS.dup X199.here hx rfl (hb hby at_79) rfl rfl ?_
                  refine XS.iload X199.here hx rfl (hb hby at_80) rfl ?_
                  refine XS.iload X199.here hx rfl (hb hby at_82) rfl ?_
                  show Steps p.tables e below (T199.setTop (mkF m 84 #[.val (.int p1), .val (.int p2), .val (.int p3), .val (.int p4), .val (.int p5), .val (.int n), .val (.int (1 : Int32)), .val (.int (1 : Int32)), .val (.int (0 : Int32)), .val (.int xa), .val (.int xb), .val (.int xq), .unset, .unset, .unset] [(.int (1 : Int32)), (.int n), (.ref b199), (.ref b199)])) _
                  refine st200.trans ?_
                  show Steps p.tables e below (T200.setTop (mkF m 87 #[.val (.int p1), .val (.int p2), .val (.int p3), .val (.int p4), .val (.int p5), .val (.int n), .val (.int (1 : Int32)), .val (.int (1 : Int32)), .val (.int (0 : Int32)), .val (.int xa), .val (.int xb), .val (.int xq), .unset, .unset, .unset] [(.ref b199)])) _
                  refine XS.astore X200.here hx rfl (hb hby at_87) rfl rfl (l' := #[.val (.int p1), .val (.int p2), .val (.int p3), .val (.int p4), .val (.int p5), .val (.int n), .val (.int (1 : Int32)), .val (.int (1 : Int32)), .val (.int (0 : Int32)), .val (.int xa), .val (.int xb), .val (.int xq), .val (.ref b199), .unset, .unset]) rfl ?_
                  refine XS.aload X200.here hx rfl (hb hby at_89) rfl rfl ?_
                  refine XS.iload X200.here hx rfl (hb hby at_91) rfl ?_
                  show Steps p.tables e below (T200.setTop (mkF m 93 #[.val (.int p1), .val (.int p2), .val (.int p3), .val (.int p4), .val (.int p5), .val (.int n), .val (.int (1 : Int32)), .val (.int (1 : Int32)), .val (.int (0 : Int32)), .val (.int xa), .val (.int xb), .val (.int xq), .val (.ref b199), .unset, .unset] [(.int xq), (.ref b199)])) _
                  refine st206.trans ?_
                  exact kt
                show own_End p e below s (T206.setTop (mkF m 96 #[.val (.int p1), .val (.int p2), .val (.int p3), .val (.int p4), .val (.int p5), .val (.int n), .val (.int (1 : Int32)), .val (.int (1 : Int32)), .val (.int (0 : Int32)), .val (.int xa), .val (.int xb), .val (.int xq), .val (.ref b199), .unset, .unset] [(.int (own_isL xq (fun _ => (0 : Int64)) (((n + (63 : Int32)).toUInt32 >>> ((6 : Int32) &&& 31).toUInt32).toInt32) (0 : Int32) (0 : Int32)))])) (Q0 Z p1 p2 p3 p4 p5 h0 n0) room_1.cells room_1.slots
                have j104 : ∀ (Tj104 : State) (Lj104 : List Loc) (Xj104 : Stand p l e room_1 s m #[(.int p1), (.int p2), (.int p3), (.int p4), (.int p5)] below meth c Tj104 Lj104 4 46) (ej104 : Tj104.heap = T200.heap) (Nj104 : Fr n0 Lj104) (ok1 : Int32) , own_law p1 p2 p3 p4 p5 = own_law_104bbbbbb p1 p2 p3 p4 p5 n xa xb xq ok1 → own_End p e below s (Tj104.setTop (mkF m 104 #[.val (.int p1), .val (.int p2), .val (.int p3), .val (.int p4), .val (.int p5), .val (.int n), .val (.int (1 : Int32)), .val (.int (1 : Int32)), .val (.int (0 : Int32)), .val (.int xa), .val (.int xb), .val (.int xq), .val (.ref b199), .unset, .unset] [(.int ok1)])) (Q0 Z p1 p2 p3 p4 p5 h0 n0) room_1.cells room_1.slots := by
                  intro Tj104 Lj104 Xj104 ej104 Nj104 ok1  hj
                  obtain ⟨cq207, kq207, q207a, q207b, q207c⟩ := isOf hZ ej104 E_b199_201
                  obtain ⟨_, _, ⟨T207, L207, k207, n207⟩, -, X207, ⟨Lc207, hQ207, l207, y207, z207⟩, st207⟩ := Xj104.virtualBack hx (y := (⟨"com/example/libfacet/libfacet/regex/StateSet", "mark", "(I)Z"⟩ : MethodName)) (z := (⟨"com/example/libfacet/libfacet/regex/StateSet", "mark", "(I)Z"⟩ : MethodName)) hown (mvT hZ (hw _ (List.mem_of_getElem? (i := 31) rfl))) (mvT hZ (hw _ (List.mem_of_getElem? (i := 32) rfl))) (notFace_of_selects (args := #[]) (mvT hZ (hw _ (List.mem_of_getElem? (i := 34) rfl)))) (mvT hZ (hw _ (List.mem_of_getElem? (i := 34) rfl))) (mvT hZ (hw _ (List.mem_of_getElem? (i := 33) rfl))) (by decide) (backOf (W := 0) (rm4Lu l Z a0 hw [] b199 xa c200_ab c200_am (0 : Int32) (0 : Int32) (fun _ => (0 : Int64)) (((n + (63 : Int32)).toUInt32 >>> ((6 : Int32) &&& 31).toUInt32).toInt32) (fun _ => (0 : Int32)) T200.heap n0 Z200 ⟨E_b199_201, F_markBits_b199_202, F_marked_b199_203, F_markedCount_b199_204, F_size_b199_205⟩ P200_ab_0 P200_am_0 ne_b199_c200_ab ne_b199_c200_am ne_c200_ab_c200_am g_b199 g_c200_ab g_c200_am (own_wd hn0 hn1 hxa0 hxa1) (own_zand _) (by decide) (by decide)) hZ (hw _ (List.mem_of_getElem? (i := 35) rfl)) (hw _ (List.mem_of_getElem? (i := 3) rfl)) (by decide) (by decide)) q207a q207c (g := (mkF m 110 #[.val (.int p1), .val (.int p2), .val (.int p3), .val (.int p4), .val (.int p5), .val (.int n), .val (.int (1 : Int32)), .val (.int (1 : Int32)), .val (.int (0 : Int32)), .val (.int xa), .val (.int xb), .val (.int xq), .val (.ref b199), .val (.int ok1), .unset] [(.int xa), (.ref b199)])) rfl (by rw [hml]; rfl) (Steps.refl _) (argsL := [(.int xa)]) (rest := []) (lenOf pd_0_1 rfl) rfl (by show 2 * 0 + _ ≤ _; exact Nat.le_of_eq rfl) (hb hby at_110) (fun _ _ => ⟨rfl, ej104, (by decide : 4 + 0 ≤ _), (by decide : 46 + 0 ≤ _)⟩)
                  dsimp only [Pt.U, Pt.locs, Pt.cells, Pt.slots] at X207 l207 y207 z207 st207 hQ207
                  subst l207 y207 z207
                  obtain ⟨rfl, N207q, Kq207, O207_0, V207_0, V207_1⟩ := hQ207
                  have N207 := Fr.app Nj104 N207q
                  have fE_b199_x207 := (E_b199_201.keep Kq207)
                  have K207 : Keep h0 T207.heap [] := Keep.trans K200 Kq207 (allS (Or.inr sz_b199) (allS (Or.inr sz_c200_ab) (allS (Or.inr sz_c200_am) all0)))
                  have Z207 : n0 ≤ T207.heap.size := Nat.le_trans Z200 Kq207.1
                  obtain ⟨E_b199_208, F_markBits_b199_209, F_marked_b199_210, F_markedCount_b199_211, F_size_b199_212⟩ := O207_0
                  refine own_pre (A := T207.setTop (mkF m 116 #[.val (.int p1), .val (.int p2), .val (.int p3), .val (.int p4), .val (.int p5), .val (.int n), .val (.int (1 : Int32)), .val (.int (1 : Int32)), .val (.int (0 : Int32)), .val (.int xa), .val (.int xb), .val (.int xq), .val (.ref b199), .val (.int ok1), .unset] [(.int ok1)])) (fun tt kt => ?_) ?_
                  · show Steps p.tables e below (Tj104.setTop (mkF m 104 #[.val (.int p1), .val (.int p2), .val (.int p3), .val (.int p4), .val (.int p5), .val (.int n), .val (.int (1 : Int32)), .val (.int (1 : Int32)), .val (.int (0 : Int32)), .val (.int xa), .val (.int xb), .val (.int xq), .val (.ref b199), .unset, .unset] [(.int ok1)])) _
                    refine XS.istore Xj104.here hx rfl (hb hby at_104) rfl (l' := #[.val (.int p1), .val (.int p2), .val (.int p3), .val (.int p4), .val (.int p5), .val (.int n), .val (.int (1 : Int32)), .val (.int (1 : Int32)), .val (.int (0 : Int32)), .val (.int xa), .val (.int xb), .val (.int xq), .val (.ref b199), .val (.int ok1), .unset]) rfl ?_
                    refine XS.aload Xj104.here hx rfl (hb hby at_106) rfl rfl ?_
                    refine XS.iload Xj104.here hx rfl (hb hby at_108) rfl ?_
                    show Steps p.tables e below (Tj104.setTop (mkF m 110 #[.val (.int p1), .val (.int p2), .val (.int p3), .val (.int p4), .val (.int p5), .val (.int n), .val (.int (1 : Int32)), .val (.int (1 : Int32)), .val (.int (0 : Int32)), .val (.int xa), .val (.int xb), .val (.int xq), .val (.ref b199), .val (.int ok1), .unset] [(.int xa), (.ref b199)])) _
                    refine st207.trans ?_
                    show Steps p.tables e below (T207.setTop (mkF m 113 #[.val (.int p1), .val (.int p2), .val (.int p3), .val (.int p4), .val (.int p5), .val (.int n), .val (.int (1 : Int32)), .val (.int (1 : Int32)), .val (.int (0 : Int32)), .val (.int xa), .val (.int xb), .val (.int xq), .val (.ref b199), .val (.int ok1), .unset] [(.int (1 : Int32))])) _
                    refine XS.pop X207.here hx rfl (hb hby at_113) rfl rfl ?_
                    refine XS.iload X207.here hx rfl (hb hby at_114) rfl ?_
                    exact kt
                  show own_End p e below s (T207.setTop (mkF m 116 #[.val (.int p1), .val (.int p2), .val (.int p3), .val (.int p4), .val (.int p5), .val (.int n), .val (.int (1 : Int32)), .val (.int (1 : Int32)), .val (.int (0 : Int32)), .val (.int xa), .val (.int xb), .val (.int xq), .val (.ref b199), .val (.int ok1), .unset] [(.int ok1)])) (Q0 Z p1 p2 p3 p4 p5 h0 n0) room_1.cells room_1.slots
                  have j134 : ∀ (Tj134 : State) (Lj134 : List Loc) (Xj134 : Stand p l e room_1 s m #[(.int p1), (.int p2), (.int p3), (.int p4), (.int p5)] below meth c Tj134 Lj134 4 46) (ej134 : Tj134.heap = T207.heap) (Nj134 : Fr n0 Lj134) (ok2 : Int32) , own_law p1 p2 p3 p4 p5 = own_law_134bbbbbb p1 p2 p3 p4 p5 n xa xb xq ok1 ok2 → own_End p e below s (Tj134.setTop (mkF m 134 #[.val (.int p1), .val (.int p2), .val (.int p3), .val (.int p4), .val (.int p5), .val (.int n), .val (.int (1 : Int32)), .val (.int (1 : Int32)), .val (.int (0 : Int32)), .val (.int xa), .val (.int xb), .val (.int xq), .val (.ref b199), .val (.int ok1), .unset] [(.int ok2)])) (Q0 Z p1 p2 p3 p4 p5 h0 n0) room_1.cells room_1.slots := by
                    intro Tj134 Lj134 Xj134 ej134 Nj134 ok2  hj
                    obtain ⟨cq213, kq213, q213a, q213b, q213c⟩ := isOf hZ ej134 E_b199_208
                    obtain ⟨_, _, ⟨T213, L213, k213, n213⟩, -, X213, ⟨Lc213, hQ213, l213, y213, z213⟩, st213⟩ := Xj134.virtualBack hx (y := (⟨"com/example/libfacet/libfacet/regex/StateSet", "clear", "()V"⟩ : MethodName)) (z := (⟨"com/example/libfacet/libfacet/regex/StateSet", "clear", "()V"⟩ : MethodName)) hown (mvT hZ (hw _ (List.mem_of_getElem? (i := 38) rfl))) (mvT hZ (hw _ (List.mem_of_getElem? (i := 39) rfl))) (notFace_of_selects (args := #[]) (mvT hZ (hw _ (List.mem_of_getElem? (i := 41) rfl)))) (mvT hZ (hw _ (List.mem_of_getElem? (i := 41) rfl))) (mvT hZ (hw _ (List.mem_of_getElem? (i := 40) rfl))) (by decide) (backOf (W := 0) (rm5L1 l Z a0 hw [] b199 c200_ab c200_am (0 : Int32) (own_orb (fun _ => (0 : Int64)) xa) (((n + (63 : Int32)).toUInt32 >>> ((6 : Int32) &&& 31).toUInt32).toInt32) (own_put (fun _ => (0 : Int32)) (0 : Int32) xa) T207.heap n0 Z207 ⟨E_b199_208, F_markBits_b199_209, F_marked_b199_210, F_markedCount_b199_211, F_size_b199_212⟩ V207_0 V207_1 ne_b199_c200_ab ne_b199_c200_am ne_c200_ab_c200_am g_b199 g_c200_ab (own_wd hn0 hn1 hxa0 hxa1)) hZ (hw _ (List.mem_of_getElem? (i := 42) rfl)) (hw _ (List.mem_of_getElem? (i := 3) rfl)) (by decide) (by decide)) q213a q213c (g := (mkF m 143 #[.val (.int p1), .val (.int p2), .val (.int p3), .val (.int p4), .val (.int p5), .val (.int n), .val (.int (1 : Int32)), .val (.int (1 : Int32)), .val (.int (0 : Int32)), .val (.int xa), .val (.int xb), .val (.int xq), .val (.ref b199), .val (.int ok2), .unset] [(.ref b199)])) rfl (by rw [hml]; rfl) (Steps.refl _) (argsL := []) (rest := []) (lenOf pd_0_2 rfl) rfl (by show 2 * 0 + _ ≤ _; exact Nat.le_of_eq rfl) (hb hby at_143) (fun _ _ => ⟨rfl, ej134, (by decide : 4 + 0 ≤ _), (by decide : 46 + 0 ≤ _)⟩)
                    dsimp only [Pt.U, Pt.locs, Pt.cells, Pt.slots] at X213 l213 y213 z213 st213 hQ213
                    subst l213 y213 z213
                    obtain ⟨rfl, N213q, Kq213, O213_0, V213_0⟩ := hQ213
                    have N213 := Fr.app Nj134 N213q
                    have fE_b199_x213 := (E_b199_208.keep Kq213)
                    have fA_c200_am_x213 := (V207_1.keep Kq213 (ninS (Ne.symm ne_b199_c200_am) (ninS (Ne.symm ne_c200_ab_c200_am) nin0)))
                    have K213 : Keep h0 T213.heap [] := Keep.trans K207 Kq213 (allS (Or.inr sz_b199) (allS (Or.inr sz_c200_ab) all0))
                    have Z213 : n0 ≤ T213.heap.size := Nat.le_trans Z207 Kq213.1
                    obtain ⟨E_b199_214, F_markBits_b199_215, F_marked_b199_216, F_markedCount_b199_217, F_size_b199_218⟩ := O213_0
                    refine own_pre (A := T213.setTop (mkF m 150 #[.val (.int p1), .val (.int p2), .val (.int p3), .val (.int p4), .val (.int p5), .val (.int n), .val (.int (1 : Int32)), .val (.int (1 : Int32)), .val (.int (0 : Int32)), .val (.int xa), .val (.int xb), .val (.int xq), .val (.ref b199), .val (.int ok2), .unset] [(.int xb), (.ref b199)])) (fun tt kt => ?_) ?_
                    · show Steps p.tables e below (Tj134.setTop (mkF m 134 #[.val (.int p1), .val (.int p2), .val (.int p3), .val (.int p4), .val (.int p5), .val (.int n), .val (.int (1 : Int32)), .val (.int (1 : Int32)), .val (.int (0 : Int32)), .val (.int xa), .val (.int xb), .val (.int xq), .val (.ref b199), .val (.int ok1), .unset] [(.int ok2)])) _
                      refine XS.istore Xj134.here hx rfl (hb hby at_134) rfl (l' := #[.val (.int p1), .val (.int p2), .val (.int p3), .val (.int p4), .val (.int p5), .val (.int n), .val (.int (1 : Int32)), .val (.int (1 : Int32)), .val (.int (0 : Int32)), .val (.int xa), .val (.int xb), .val (.int xq), .val (.ref b199), .val (.int ok2), .unset]) rfl ?_
                      refine XS.iload Xj134.here hx rfl (hb hby at_136) rfl ?_
                      refine XS.ifNo Xj134.here hx rfl (hb hby at_138) rfl ((if0 _ _).trans (feq ((by decide) : ¬ ((1 : Int32) = (0 : Int32)))).1) ?_
                      refine XS.aload Xj134.here hx rfl (hb hby at_141) rfl rfl ?_
                      show Steps p.tables e below (Tj134.setTop (mkF m 143 #[.val (.int p1), .val (.int p2), .val (.int p3), .val (.int p4), .val (.int p5), .val (.int n), .val (.int (1 : Int32)), .val (.int (1 : Int32)), .val (.int (0 : Int32)), .val (.int xa), .val (.int xb), .val (.int xq), .val (.ref b199), .val (.int ok2), .unset] [(.ref b199)])) _
                      refine st213.trans ?_
                      show Steps p.tables e below (T213.setTop (mkF m 146 #[.val (.int p1), .val (.int p2), .val (.int p3), .val (.int p4), .val (.int p5), .val (.int n), .val (.int (1 : Int32)), .val (.int (1 : Int32)), .val (.int (0 : Int32)), .val (.int xa), .val (.int xb), .val (.int xq), .val (.ref b199), .val (.int ok2), .unset] [])) _
                      refine XS.aload X213.here hx rfl (hb hby at_146) rfl rfl ?_
                      refine XS.iload X213.here hx rfl (hb hby at_148) rfl ?_
                      exact kt
                    show own_End p e below s (T213.setTop (mkF m 150 #[.val (.int p1), .val (.int p2), .val (.int p3), .val (.int p4), .val (.int p5), .val (.int n), .val (.int (1 : Int32)), .val (.int (1 : Int32)), .val (.int (0 : Int32)), .val (.int xa), .val (.int xb), .val (.int xq), .val (.ref b199), .val (.int ok2), .unset] [(.int xb), (.ref b199)])) (Q0 Z p1 p2 p3 p4 p5 h0 n0) room_1.cells room_1.slots
                    by_cases hU219 : (((own_zero (own_orb (fun _ => (0 : Int64)) xa) ((own_put (fun _ => (0 : Int32)) (0 : Int32) xa) 0)) ((xb.toUInt32 >>> ((6 : Int32) &&& 31).toUInt32).toInt32).toNatClampNeg) &&& ((1 : Int64) <<< (xb &&& 0x3f).toInt64)) = (0 : Int64)
                    · obtain ⟨cq220, kq220, q220a, q220b, q220c⟩ := isOf hZ rfl E_b199_214
                      obtain ⟨_, _, ⟨T220, L220, k220, n220⟩, -, X220, ⟨Lc220, hQ220, l220, y220, z220⟩, st220⟩ := X213.virtualBack hx (y := (⟨"com/example/libfacet/libfacet/regex/StateSet", "mark", "(I)Z"⟩ : MethodName)) (z := (⟨"com/example/libfacet/libfacet/regex/StateSet", "mark", "(I)Z"⟩ : MethodName)) hown (mvT hZ (hw _ (List.mem_of_getElem? (i := 31) rfl))) (mvT hZ (hw _ (List.mem_of_getElem? (i := 32) rfl))) (notFace_of_selects (args := #[]) (mvT hZ (hw _ (List.mem_of_getElem? (i := 34) rfl)))) (mvT hZ (hw _ (List.mem_of_getElem? (i := 34) rfl))) (mvT hZ (hw _ (List.mem_of_getElem? (i := 33) rfl))) (by decide) (backOf (W := 0) (rm4Lu l Z a0 hw [] b199 xb c200_ab c200_am (0 : Int32) (0 : Int32) (own_zero (own_orb (fun _ => (0 : Int64)) xa) ((own_put (fun _ => (0 : Int32)) (0 : Int32) xa) 0)) (((n + (63 : Int32)).toUInt32 >>> ((6 : Int32) &&& 31).toUInt32).toInt32) (own_put (fun _ => (0 : Int32)) (0 : Int32) xa) T213.heap n0 Z213 ⟨E_b199_214, F_markBits_b199_215, F_marked_b199_216, F_markedCount_b199_217, F_size_b199_218⟩ V213_0 fA_c200_am_x213 ne_b199_c200_ab ne_b199_c200_am ne_c200_ab_c200_am g_b199 g_c200_ab g_c200_am (own_wd hn0 hn1 hxb0 hxb1) hU219 (by decide) (by decide)) hZ (hw _ (List.mem_of_getElem? (i := 35) rfl)) (hw _ (List.mem_of_getElem? (i := 3) rfl)) (by decide) (by decide)) q220a q220c (g := (mkF m 150 #[.val (.int p1), .val (.int p2), .val (.int p3), .val (.int p4), .val (.int p5), .val (.int n), .val (.int (1 : Int32)), .val (.int (1 : Int32)), .val (.int (0 : Int32)), .val (.int xa), .val (.int xb), .val (.int xq), .val (.ref b199), .val (.int ok2), .unset] [(.int xb), (.ref b199)])) rfl (by rw [hml]; rfl) (Steps.refl _) (argsL := [(.int xb)]) (rest := []) (lenOf pd_0_1 rfl) rfl (by show 2 * 0 + _ ≤ _; exact Nat.le_of_eq rfl) (hb hby at_150) (fun _ _ => ⟨rfl, rfl, (by decide : 4 + 0 ≤ _), (by decide : 46 + 0 ≤ _)⟩)
                      dsimp only [Pt.U, Pt.locs, Pt.cells, Pt.slots] at X220 l220 y220 z220 st220 hQ220
                      subst l220 y220 z220
                      obtain ⟨rfl, N220q, Kq220, O220_0, V220_0, V220_1⟩ := hQ220
                      have N220 := Fr.app N213 N220q
                      have fE_b199_x220 := (E_b199_214.keep Kq220)
                      have K220 : Keep h0 T220.heap [] := Keep.trans K213 Kq220 (allS (Or.inr sz_b199) (allS (Or.inr sz_c200_ab) (allS (Or.inr sz_c200_am) all0)))
                      have Z220 : n0 ≤ T220.heap.size := Nat.le_trans Z213 Kq220.1
                      obtain ⟨E_b199_221, F_markBits_b199_222, F_marked_b199_223, F_markedCount_b199_224, F_size_b199_225⟩ := O220_0
                      refine own_pre (A := T220.setTop (mkF m 173 #[.val (.int p1), .val (.int p2), .val (.int p3), .val (.int p4), .val (.int p5), .val (.int n), .val (.int (1 : Int32)), .val (.int (1 : Int32)), .val (.int (0 : Int32)), .val (.int xa), .val (.int xb), .val (.int xq), .val (.ref b199), .val (.int ok2), .unset] [(.int xb), (.int xq)])) (fun tt kt => ?_) ?_
                      · show Steps p.tables e below (T213.setTop (mkF m 150 #[.val (.int p1), .val (.int p2), .val (.int p3), .val (.int p4), .val (.int p5), .val (.int n), .val (.int (1 : Int32)), .val (.int (1 : Int32)), .val (.int (0 : Int32)), .val (.int xa), .val (.int xb), .val (.int xq), .val (.ref b199), .val (.int ok2), .unset] [(.int xb), (.ref b199)])) _
                        refine st220.trans ?_
                        show Steps p.tables e below (T220.setTop (mkF m 153 #[.val (.int p1), .val (.int p2), .val (.int p3), .val (.int p4), .val (.int p5), .val (.int n), .val (.int (1 : Int32)), .val (.int (1 : Int32)), .val (.int (0 : Int32)), .val (.int xa), .val (.int xb), .val (.int xq), .val (.ref b199), .val (.int ok2), .unset] [(.int (1 : Int32))])) _
                        refine XS.pop X220.here hx rfl (hb hby at_153) rfl rfl ?_
                        refine XS.iload X220.here hx rfl (hb hby at_154) rfl ?_
                        refine XS.ifYes X220.here hx rfl (pc0 := 156) (pc' := 164) rfl (hb hby at_156) rfl ((if0 _ _).trans (teq ((by decide) : (0 : Int32) = (0 : Int32))).1) (by decide) (by decide) ?_
                        refine XS.iload X220.here hx rfl (hb hby at_164) rfl ?_
                        refine XS.ifNo X220.here hx rfl (hb hby at_166) rfl ((if0 _ _).trans (teq ((by decide) : (0 : Int32) = (0 : Int32))).2) ?_
                        refine XS.iload X220.here hx rfl (hb hby at_169) rfl ?_
                        refine XS.iload X220.here hx rfl (hb hby at_171) rfl ?_
                        exact kt
                      show own_End p e below s (T220.setTop (mkF m 173 #[.val (.int p1), .val (.int p2), .val (.int p3), .val (.int p4), .val (.int p5), .val (.int n), .val (.int (1 : Int32)), .val (.int (1 : Int32)), .val (.int (0 : Int32)), .val (.int xa), .val (.int xb), .val (.int xq), .val (.ref b199), .val (.int ok2), .unset] [(.int xb), (.int xq)])) (Q0 Z p1 p2 p3 p4 p5 h0 n0) room_1.cells room_1.slots
                      have j193 : ∀ (Tj193 : State) (Lj193 : List Loc) (Xj193 : Stand p l e room_1 s m #[(.int p1), (.int p2), (.int p3), (.int p4), (.int p5)] below meth c Tj193 Lj193 4 46) (ej193 : Tj193.heap = T220.heap) (Nj193 : Fr n0 Lj193) (ex : Int32) , own_law p1 p2 p3 p4 p5 = own_law_193bbbb p1 p2 p3 p4 p5 n xa xb xq ok1 ok2 ex → own_End p e below s (Tj193.setTop (mkF m 193 #[.val (.int p1), .val (.int p2), .val (.int p3), .val (.int p4), .val (.int p5), .val (.int n), .val (.int (1 : Int32)), .val (.int (1 : Int32)), .val (.int (0 : Int32)), .val (.int xa), .val (.int xb), .val (.int xq), .val (.ref b199), .val (.int ok2), .unset] [(.int ex)])) (Q0 Z p1 p2 p3 p4 p5 h0 n0) room_1.cells room_1.slots := by
                        intro Tj193 Lj193 Xj193 ej193 Nj193 ex  hj
                        refine own_pre (A := Tj193.setTop (mkF m 197 #[.val (.int p1), .val (.int p2), .val (.int p3), .val (.int p4), .val (.int p5), .val (.int n), .val (.int (1 : Int32)), .val (.int (1 : Int32)), .val (.int (0 : Int32)), .val (.int xa), .val (.int xb), .val (.int xq), .val (.ref b199), .val (.int ok2), .val (.int ex)] [(.int ok2)])) (fun tt kt => ?_) ?_
                        · show Steps p.tables e below (Tj193.setTop (mkF m 193 #[.val (.int p1), .val (.int p2), .val (.int p3), .val (.int p4), .val (.int p5), .val (.int n), .val (.int (1 : Int32)), .val (.int (1 : Int32)), .val (.int (0 : Int32)), .val (.int xa), .val (.int xb), .val (.int xq), .val (.ref b199), .val (.int ok2), .unset] [(.int ex)])) _
                          refine XS.istore Xj193.here hx rfl (hb hby at_193) rfl (l' := #[.val (.int p1), .val (.int p2), .val (.int p3), .val (.int p4), .val (.int p5), .val (.int n), .val (.int (1 : Int32)), .val (.int (1 : Int32)), .val (.int (0 : Int32)), .val (.int xa), .val (.int xb), .val (.int xq), .val (.ref b199), .val (.int ok2), .val (.int ex)]) rfl ?_
                          refine XS.iload Xj193.here hx rfl (hb hby at_195) rfl ?_
                          exact kt
                        show own_End p e below s (Tj193.setTop (mkF m 197 #[.val (.int p1), .val (.int p2), .val (.int p3), .val (.int p4), .val (.int p5), .val (.int n), .val (.int (1 : Int32)), .val (.int (1 : Int32)), .val (.int (0 : Int32)), .val (.int xa), .val (.int xb), .val (.int xq), .val (.ref b199), .val (.int ok2), .val (.int ex)] [(.int ok2)])) (Q0 Z p1 p2 p3 p4 p5 h0 n0) room_1.cells room_1.slots
                        by_cases hc197_226 : ok2 = (0 : Int32)
                        · refine own_pre (A := Tj193.setTop (mkF m 217 #[.val (.int p1), .val (.int p2), .val (.int p3), .val (.int p4), .val (.int p5), .val (.int n), .val (.int (1 : Int32)), .val (.int (1 : Int32)), .val (.int (0 : Int32)), .val (.int xa), .val (.int xb), .val (.int xq), .val (.ref b199), .val (.int ok2), .val (.int ex)] [(.int (0 : Int32))])) (fun tt kt => ?_) ?_
                          · show Steps p.tables e below (Tj193.setTop (mkF m 197 #[.val (.int p1), .val (.int p2), .val (.int p3), .val (.int p4), .val (.int p5), .val (.int n), .val (.int (1 : Int32)), .val (.int (1 : Int32)), .val (.int (0 : Int32)), .val (.int xa), .val (.int xb), .val (.int xq), .val (.ref b199), .val (.int ok2), .val (.int ex)] [(.int ok2)])) _
                            refine XS.ifYes Xj193.here hx rfl (pc0 := 197) (pc' := 216) rfl (hb hby at_197) rfl ((if0 _ _).trans (teq hc197_226).1) (by decide) (by decide) ?_
                            refine XS.iconst Xj193.here hx rfl (hb hby at_216) ?_
                            exact kt
                          show own_End p e below s (Tj193.setTop (mkF m 217 #[.val (.int p1), .val (.int p2), .val (.int p3), .val (.int p4), .val (.int p5), .val (.int n), .val (.int (1 : Int32)), .val (.int (1 : Int32)), .val (.int (0 : Int32)), .val (.int xa), .val (.int xb), .val (.int xq), .val (.ref b199), .val (.int ok2), .val (.int ex)] [(.int (0 : Int32))])) (Q0 Z p1 p2 p3 p4 p5 h0 n0) room_1.cells room_1.slots
                          have hv : (own_law p1 p2 p3 p4 p5) = (0 : Int32) := hj.trans (by simp only [own_law_193bbbb, if_pos hc197_226])
                          obtain ⟨fs, hr, hrun, hended, hW, hsame⟩ := Xj193.leave (v := some (.int (0 : Int32))) (fun h => by rw [Bd.returns] at h; cases h)
                          refine ⟨_, _, ?_, hrun, hended, _, _, rfl, ?_, ⟨_, rfl⟩, hW, hsame.mono (by decide) (by decide)⟩
                          · exact retN Xj193 hx (t := .boolean) Bd.returns (by simp) (hb hby at_217) hr
                          · show Q0 Z p1 p2 p3 p4 p5 h0 n0 _ Tj193.heap _
                            rw [ej193]
                            exact ⟨(congrArg (fun z => some (Value.int z)) hv.symm), Nj193⟩
                        · obtain ⟨cq227, kq227, q227a, q227b, q227c⟩ := isOf hZ ej193 E_b199_221
                          obtain ⟨_, _, ⟨T227, L227, k227, n227⟩, -, X227, ⟨Lc227, hQ227, l227, y227, z227⟩, st227⟩ := Xj193.virtualBack hx (y := (⟨"com/example/libfacet/libfacet/regex/StateSet", "isMarked", "(I)Z"⟩ : MethodName)) (z := (⟨"com/example/libfacet/libfacet/regex/StateSet", "isMarked", "(I)Z"⟩ : MethodName)) hown (mvT hZ (hw _ (List.mem_of_getElem? (i := 26) rfl))) (mvT hZ (hw _ (List.mem_of_getElem? (i := 27) rfl))) (notFace_of_selects (args := #[]) (mvT hZ (hw _ (List.mem_of_getElem? (i := 29) rfl)))) (mvT hZ (hw _ (List.mem_of_getElem? (i := 29) rfl))) (mvT hZ (hw _ (List.mem_of_getElem? (i := 28) rfl))) (by decide) (backOf (W := 0) (rm3L l Z a0 hw [] b199 xq c200_ab c200_am (1 : Int32) (0 : Int32) (own_orb (own_zero (own_orb (fun _ => (0 : Int64)) xa) ((own_put (fun _ => (0 : Int32)) (0 : Int32) xa) 0)) xb) (((n + (63 : Int32)).toUInt32 >>> ((6 : Int32) &&& 31).toUInt32).toInt32) T220.heap n0 Z220 ⟨E_b199_221, F_markBits_b199_222, F_marked_b199_223, F_markedCount_b199_224, F_size_b199_225⟩ V220_0 (own_wd hn0 hn1 hxq0 hxq1)) hZ (hw _ (List.mem_of_getElem? (i := 30) rfl)) (hw _ (List.mem_of_getElem? (i := 3) rfl)) (by decide) (by decide)) q227a q227c (g := (mkF m 204 #[.val (.int p1), .val (.int p2), .val (.int p3), .val (.int p4), .val (.int p5), .val (.int n), .val (.int (1 : Int32)), .val (.int (1 : Int32)), .val (.int (0 : Int32)), .val (.int xa), .val (.int xb), .val (.int xq), .val (.ref b199), .val (.int ok2), .val (.int ex)] [(.int xq), (.ref b199)])) rfl (by rw [hml]; rfl) (Steps.refl _) (argsL := [(.int xq)]) (rest := []) (lenOf pd_0_1 rfl) rfl (by show 2 * 0 + _ ≤ _; exact Nat.le_of_eq rfl) (hb hby at_204) (fun _ _ => ⟨rfl, ej193, (by decide : 4 + 0 ≤ _), (by decide : 46 + 0 ≤ _)⟩)
                          dsimp only [Pt.U, Pt.locs, Pt.cells, Pt.slots] at X227 l227 y227 z227 st227 hQ227
                          subst l227 y227 z227
                          obtain ⟨rfl, N227q, e227⟩ := hQ227
                          have N227 := Fr.app Nj193 N227q
                          refine own_pre (A := T227.setTop (mkF m 209 #[.val (.int p1), .val (.int p2), .val (.int p3), .val (.int p4), .val (.int p5), .val (.int n), .val (.int (1 : Int32)), .val (.int (1 : Int32)), .val (.int (0 : Int32)), .val (.int xa), .val (.int xb), .val (.int xq), .val (.ref b199), .val (.int ok2), .val (.int ex)] [(.int ex), (.int (own_isL xq (own_orb (own_zero (own_orb (fun _ => (0 : Int64)) xa) ((own_put (fun _ => (0 : Int32)) (0 : Int32) xa) 0)) xb) (((n + (63 : Int32)).toUInt32 >>> ((6 : Int32) &&& 31).toUInt32).toInt32) (1 : Int32) (0 : Int32)))])) (fun tt kt => ?_) ?_
                          · show Steps p.tables e below (Tj193.setTop (mkF m 197 #[.val (.int p1), .val (.int p2), .val (.int p3), .val (.int p4), .val (.int p5), .val (.int n), .val (.int (1 : Int32)), .val (.int (1 : Int32)), .val (.int (0 : Int32)), .val (.int xa), .val (.int xb), .val (.int xq), .val (.ref b199), .val (.int ok2), .val (.int ex)] [(.int ok2)])) _
                            refine XS.ifNo Xj193.here hx rfl (hb hby at_197) rfl ((if0 _ _).trans (feq hc197_226).1) ?_
                            refine XS.aload Xj193.here hx rfl (hb hby at_200) rfl rfl ?_
                            refine XS.iload Xj193.here hx rfl (hb hby at_202) rfl ?_
                            show Steps p.tables e below (Tj193.setTop (mkF m 204 #[.val (.int p1), .val (.int p2), .val (.int p3), .val (.int p4), .val (.int p5), .val (.int n), .val (.int (1 : Int32)), .val (.int (1 : Int32)), .val (.int (0 : Int32)), .val (.int xa), .val (.int xb), .val (.int xq), .val (.ref b199), .val (.int ok2), .val (.int ex)] [(.int xq), (.ref b199)])) _
                            refine st227.trans ?_
                            show Steps p.tables e below (T227.setTop (mkF m 207 #[.val (.int p1), .val (.int p2), .val (.int p3), .val (.int p4), .val (.int p5), .val (.int n), .val (.int (1 : Int32)), .val (.int (1 : Int32)), .val (.int (0 : Int32)), .val (.int xa), .val (.int xb), .val (.int xq), .val (.ref b199), .val (.int ok2), .val (.int ex)] [(.int (own_isL xq (own_orb (own_zero (own_orb (fun _ => (0 : Int64)) xa) ((own_put (fun _ => (0 : Int32)) (0 : Int32) xa) 0)) xb) (((n + (63 : Int32)).toUInt32 >>> ((6 : Int32) &&& 31).toUInt32).toInt32) (1 : Int32) (0 : Int32)))])) _
                            refine XS.iload X227.here hx rfl (hb hby at_207) rfl ?_
                            exact kt
                          show own_End p e below s (T227.setTop (mkF m 209 #[.val (.int p1), .val (.int p2), .val (.int p3), .val (.int p4), .val (.int p5), .val (.int n), .val (.int (1 : Int32)), .val (.int (1 : Int32)), .val (.int (0 : Int32)), .val (.int xa), .val (.int xb), .val (.int xq), .val (.ref b199), .val (.int ok2), .val (.int ex)] [(.int ex), (.int (own_isL xq (own_orb (own_zero (own_orb (fun _ => (0 : Int64)) xa) ((own_put (fun _ => (0 : Int32)) (0 : Int32) xa) 0)) xb) (((n + (63 : Int32)).toUInt32 >>> ((6 : Int32) &&& 31).toUInt32).toInt32) (1 : Int32) (0 : Int32)))])) (Q0 Z p1 p2 p3 p4 p5 h0 n0) room_1.cells room_1.slots
                          by_cases hc209_228 : (own_isL xq (own_orb (own_zero (own_orb (fun _ => (0 : Int64)) xa) ((own_put (fun _ => (0 : Int32)) (0 : Int32) xa) 0)) xb) (((n + (63 : Int32)).toUInt32 >>> ((6 : Int32) &&& 31).toUInt32).toInt32) (1 : Int32) (0 : Int32)) = ex
                          · refine own_pre (A := T227.setTop (mkF m 217 #[.val (.int p1), .val (.int p2), .val (.int p3), .val (.int p4), .val (.int p5), .val (.int n), .val (.int (1 : Int32)), .val (.int (1 : Int32)), .val (.int (0 : Int32)), .val (.int xa), .val (.int xb), .val (.int xq), .val (.ref b199), .val (.int ok2), .val (.int ex)] [(.int (1 : Int32))])) (fun tt kt => ?_) ?_
                            · show Steps p.tables e below (T227.setTop (mkF m 209 #[.val (.int p1), .val (.int p2), .val (.int p3), .val (.int p4), .val (.int p5), .val (.int n), .val (.int (1 : Int32)), .val (.int (1 : Int32)), .val (.int (0 : Int32)), .val (.int xa), .val (.int xb), .val (.int xq), .val (.ref b199), .val (.int ok2), .val (.int ex)] [(.int ex), (.int (own_isL xq (own_orb (own_zero (own_orb (fun _ => (0 : Int64)) xa) ((own_put (fun _ => (0 : Int32)) (0 : Int32) xa) 0)) xb) (((n + (63 : Int32)).toUInt32 >>> ((6 : Int32) &&& 31).toUInt32).toInt32) (1 : Int32) (0 : Int32)))])) _
                              refine XS.icmpNo X227.here hx rfl (hb hby at_209) rfl (teq hc209_228).2 ?_
                              refine XS.iconst X227.here hx rfl (hb hby at_212) ?_
                              refine XS.goto X227.here hx rfl (pc0 := 213) (pc' := 217) rfl (hb hby at_213) (by decide) (by decide) ?_
                              exact kt
                            show own_End p e below s (T227.setTop (mkF m 217 #[.val (.int p1), .val (.int p2), .val (.int p3), .val (.int p4), .val (.int p5), .val (.int n), .val (.int (1 : Int32)), .val (.int (1 : Int32)), .val (.int (0 : Int32)), .val (.int xa), .val (.int xb), .val (.int xq), .val (.ref b199), .val (.int ok2), .val (.int ex)] [(.int (1 : Int32))])) (Q0 Z p1 p2 p3 p4 p5 h0 n0) room_1.cells room_1.slots
                            have hv : (own_law p1 p2 p3 p4 p5) = (1 : Int32) := hj.trans (by simp only [own_law_193bbbb, if_neg hc197_226, if_pos hc209_228])
                            obtain ⟨fs, hr, hrun, hended, hW, hsame⟩ := X227.leave (v := some (.int (1 : Int32))) (fun h => by rw [Bd.returns] at h; cases h)
                            refine ⟨_, _, ?_, hrun, hended, _, _, rfl, ?_, ⟨_, rfl⟩, hW, hsame.mono (by decide) (by decide)⟩
                            · exact retN X227 hx (t := .boolean) Bd.returns (by simp) (hb hby at_217) hr
                            · show Q0 Z p1 p2 p3 p4 p5 h0 n0 _ T227.heap _
                              rw [e227]
                              exact ⟨(congrArg (fun z => some (Value.int z)) hv.symm), N227⟩
                          · refine own_pre (A := T227.setTop (mkF m 217 #[.val (.int p1), .val (.int p2), .val (.int p3), .val (.int p4), .val (.int p5), .val (.int n), .val (.int (1 : Int32)), .val (.int (1 : Int32)), .val (.int (0 : Int32)), .val (.int xa), .val (.int xb), .val (.int xq), .val (.ref b199), .val (.int ok2), .val (.int ex)] [(.int (0 : Int32))])) (fun tt kt => ?_) ?_
                            · show Steps p.tables e below (T227.setTop (mkF m 209 #[.val (.int p1), .val (.int p2), .val (.int p3), .val (.int p4), .val (.int p5), .val (.int n), .val (.int (1 : Int32)), .val (.int (1 : Int32)), .val (.int (0 : Int32)), .val (.int xa), .val (.int xb), .val (.int xq), .val (.ref b199), .val (.int ok2), .val (.int ex)] [(.int ex), (.int (own_isL xq (own_orb (own_zero (own_orb (fun _ => (0 : Int64)) xa) ((own_put (fun _ => (0 : Int32)) (0 : Int32) xa) 0)) xb) (((n + (63 : Int32)).toUInt32 >>> ((6 : Int32) &&& 31).toUInt32).toInt32) (1 : Int32) (0 : Int32)))])) _
                              refine XS.icmpYes X227.here hx rfl (pc0 := 209) (pc' := 216) rfl (hb hby at_209) rfl (feq hc209_228).2 (by decide) (by decide) ?_
                              refine XS.iconst X227.here hx rfl (hb hby at_216) ?_
                              exact kt
                            show own_End p e below s (T227.setTop (mkF m 217 #[.val (.int p1), .val (.int p2), .val (.int p3), .val (.int p4), .val (.int p5), .val (.int n), .val (.int (1 : Int32)), .val (.int (1 : Int32)), .val (.int (0 : Int32)), .val (.int xa), .val (.int xb), .val (.int xq), .val (.ref b199), .val (.int ok2), .val (.int ex)] [(.int (0 : Int32))])) (Q0 Z p1 p2 p3 p4 p5 h0 n0) room_1.cells room_1.slots
                            have hv : (own_law p1 p2 p3 p4 p5) = (0 : Int32) := hj.trans (by simp only [own_law_193bbbb, if_neg hc197_226, if_neg hc209_228])
                            obtain ⟨fs, hr, hrun, hended, hW, hsame⟩ := X227.leave (v := some (.int (0 : Int32))) (fun h => by rw [Bd.returns] at h; cases h)
                            refine ⟨_, _, ?_, hrun, hended, _, _, rfl, ?_, ⟨_, rfl⟩, hW, hsame.mono (by decide) (by decide)⟩
                            · exact retN X227 hx (t := .boolean) Bd.returns (by simp) (hb hby at_217) hr
                            · show Q0 Z p1 p2 p3 p4 p5 h0 n0 _ T227.heap _
                              rw [e227]
                              exact ⟨(congrArg (fun z => some (Value.int z)) hv.symm), N227⟩
                      by_cases hc173_229 : xq = xb
                      · refine own_pre (A := T220.setTop (mkF m 193 #[.val (.int p1), .val (.int p2), .val (.int p3), .val (.int p4), .val (.int p5), .val (.int n), .val (.int (1 : Int32)), .val (.int (1 : Int32)), .val (.int (0 : Int32)), .val (.int xa), .val (.int xb), .val (.int xq), .val (.ref b199), .val (.int ok2), .unset] [(.int (1 : Int32))])) (fun tt kt => ?_) ?_
                        · show Steps p.tables e below (T220.setTop (mkF m 173 #[.val (.int p1), .val (.int p2), .val (.int p3), .val (.int p4), .val (.int p5), .val (.int n), .val (.int (1 : Int32)), .val (.int (1 : Int32)), .val (.int (0 : Int32)), .val (.int xa), .val (.int xb), .val (.int xq), .val (.ref b199), .val (.int ok2), .unset] [(.int xb), (.int xq)])) _
                          refine XS.icmpYes X220.here hx rfl (pc0 := 173) (pc' := 188) rfl (hb hby at_173) rfl (teq hc173_229).1 (by decide) (by decide) ?_
                          refine XS.iconst X220.here hx rfl (hb hby at_188) ?_
                          refine XS.goto X220.here hx rfl (pc0 := 189) (pc' := 193) rfl (hb hby at_189) (by decide) (by decide) ?_
                          exact kt
                        show own_End p e below s (T220.setTop (mkF m 193 #[.val (.int p1), .val (.int p2), .val (.int p3), .val (.int p4), .val (.int p5), .val (.int n), .val (.int (1 : Int32)), .val (.int (1 : Int32)), .val (.int (0 : Int32)), .val (.int xa), .val (.int xb), .val (.int xq), .val (.ref b199), .val (.int ok2), .unset] [(.int (1 : Int32))])) (Q0 Z p1 p2 p3 p4 p5 h0 n0) room_1.cells room_1.slots
                        exact j193 _ _ X220 rfl N220 (1 : Int32)  (hj.trans (by simp only [own_law_134bbbbbb, if_pos hU219, if_pos hc173_229]))
                      · refine own_pre (A := T220.setTop (mkF m 193 #[.val (.int p1), .val (.int p2), .val (.int p3), .val (.int p4), .val (.int p5), .val (.int n), .val (.int (1 : Int32)), .val (.int (1 : Int32)), .val (.int (0 : Int32)), .val (.int xa), .val (.int xb), .val (.int xq), .val (.ref b199), .val (.int ok2), .unset] [(.int (0 : Int32))])) (fun tt kt => ?_) ?_
                        · show Steps p.tables e below (T220.setTop (mkF m 173 #[.val (.int p1), .val (.int p2), .val (.int p3), .val (.int p4), .val (.int p5), .val (.int n), .val (.int (1 : Int32)), .val (.int (1 : Int32)), .val (.int (0 : Int32)), .val (.int xa), .val (.int xb), .val (.int xq), .val (.ref b199), .val (.int ok2), .unset] [(.int xb), (.int xq)])) _
                          refine XS.icmpNo X220.here hx rfl (hb hby at_173) rfl (feq hc173_229).1 ?_
                          refine XS.iload X220.here hx rfl (hb hby at_176) rfl ?_
                          refine XS.ifYes X220.here hx rfl (pc0 := 178) (pc' := 192) rfl (hb hby at_178) rfl ((if0 _ _).trans (feq ((by decide) : ¬ ((1 : Int32) = (0 : Int32)))).2) (by decide) (by decide) ?_
                          refine XS.iconst X220.here hx rfl (hb hby at_192) ?_
                          exact kt
                        show own_End p e below s (T220.setTop (mkF m 193 #[.val (.int p1), .val (.int p2), .val (.int p3), .val (.int p4), .val (.int p5), .val (.int n), .val (.int (1 : Int32)), .val (.int (1 : Int32)), .val (.int (0 : Int32)), .val (.int xa), .val (.int xb), .val (.int xq), .val (.ref b199), .val (.int ok2), .unset] [(.int (0 : Int32))])) (Q0 Z p1 p2 p3 p4 p5 h0 n0) room_1.cells room_1.slots
                        exact j193 _ _ X220 rfl N220 (0 : Int32)  (hj.trans (by simp only [own_law_134bbbbbb, if_pos hU219, if_neg hc173_229]))
                    · obtain ⟨cq230, kq230, q230a, q230b, q230c⟩ := isOf hZ rfl E_b199_214
                      obtain ⟨_, _, ⟨T230, L230, k230, n230⟩, -, X230, ⟨Lc230, hQ230, l230, y230, z230⟩, st230⟩ := X213.virtualBack hx (y := (⟨"com/example/libfacet/libfacet/regex/StateSet", "mark", "(I)Z"⟩ : MethodName)) (z := (⟨"com/example/libfacet/libfacet/regex/StateSet", "mark", "(I)Z"⟩ : MethodName)) hown (mvT hZ (hw _ (List.mem_of_getElem? (i := 31) rfl))) (mvT hZ (hw _ (List.mem_of_getElem? (i := 32) rfl))) (notFace_of_selects (args := #[]) (mvT hZ (hw _ (List.mem_of_getElem? (i := 34) rfl)))) (mvT hZ (hw _ (List.mem_of_getElem? (i := 34) rfl))) (mvT hZ (hw _ (List.mem_of_getElem? (i := 33) rfl))) (by decide) (backOf (W := 0) (rm4Lm l Z a0 hw [] b199 xb c200_ab c200_am (0 : Int32) (0 : Int32) (own_zero (own_orb (fun _ => (0 : Int64)) xa) ((own_put (fun _ => (0 : Int32)) (0 : Int32) xa) 0)) (((n + (63 : Int32)).toUInt32 >>> ((6 : Int32) &&& 31).toUInt32).toInt32) (own_put (fun _ => (0 : Int32)) (0 : Int32) xa) T213.heap n0 Z213 ⟨E_b199_214, F_markBits_b199_215, F_marked_b199_216, F_markedCount_b199_217, F_size_b199_218⟩ V213_0 fA_c200_am_x213 ne_b199_c200_ab ne_b199_c200_am ne_c200_ab_c200_am g_c200_ab (own_wd hn0 hn1 hxb0 hxb1) hU219 (by decide) (by decide)) hZ (hw _ (List.mem_of_getElem? (i := 35) rfl)) (hw _ (List.mem_of_getElem? (i := 3) rfl)) (by decide) (by decide)) q230a q230c (g := (mkF m 150 #[.val (.int p1), .val (.int p2), .val (.int p3), .val (.int p4), .val (.int p5), .val (.int n), .val (.int (1 : Int32)), .val (.int (1 : Int32)), .val (.int (0 : Int32)), .val (.int xa), .val (.int xb), .val (.int xq), .val (.ref b199), .val (.int ok2), .unset] [(.int xb), (.ref b199)])) rfl (by rw [hml]; rfl) (Steps.refl _) (argsL := [(.int xb)]) (rest := []) (lenOf pd_0_1 rfl) rfl (by show 2 * 0 + _ ≤ _; exact Nat.le_of_eq rfl) (hb hby at_150) (fun _ _ => ⟨rfl, rfl, (by decide : 4 + 0 ≤ _), (by decide : 46 + 0 ≤ _)⟩)
                      dsimp only [Pt.U, Pt.locs, Pt.cells, Pt.slots] at X230 l230 y230 z230 st230 hQ230
                      subst l230 y230 z230
                      obtain ⟨rfl, N230q, Kq230, V230_0⟩ := hQ230
                      have N230 := Fr.app N213 N230q
                      have fE_b199_x230 := (E_b199_214.keep Kq230)
                      have fA_c200_am_x230 := (fA_c200_am_x213.keep Kq230 (ninS (Ne.symm ne_c200_ab_c200_am) nin0))
                      have fF_b199_markBits_x230 := (F_markBits_b199_215.keep Kq230 (ninS ne_b199_c200_ab nin0))
                      have fF_b199_marked_x230 := (F_marked_b199_216.keep Kq230 (ninS ne_b199_c200_ab nin0))
                      have fF_b199_markedCount_x230 := (F_markedCount_b199_217.keep Kq230 (ninS ne_b199_c200_ab nin0))
                      have fF_b199_size_x230 := (F_size_b199_218.keep Kq230 (ninS ne_b199_c200_ab nin0))
                      have K230 : Keep h0 T230.heap [] := Keep.trans K213 Kq230 (allS (Or.inr sz_c200_ab) all0)
                      have Z230 : n0 ≤ T230.heap.size := Nat.le_trans Z213 Kq230.1
                      refine own_pre (A := T230.setTop (mkF m 173 #[.val (.int p1), .val (.int p2), .val (.int p3), .val (.int p4), .val (.int p5), .val (.int n), .val (.int (1 : Int32)), .val (.int (1 : Int32)), .val (.int (0 : Int32)), .val (.int xa), .val (.int xb), .val (.int xq), .val (.ref b199), .val (.int ok2), .unset] [(.int xb), (.int xq)])) (fun tt kt => ?_) ?_
                      · show Steps p.tables e below (T213.setTop (mkF m 150 #[.val (.int p1), .val (.int p2), .val (.int p3), .val (.int p4), .val (.int p5), .val (.int n), .val (.int (1 : Int32)), .val (.int (1 : Int32)), .val (.int (0 : Int32)), .val (.int xa), .val (.int xb), .val (.int xq), .val (.ref b199), .val (.int ok2), .unset] [(.int xb), (.ref b199)])) _
                        refine st230.trans ?_
                        show Steps p.tables e below (T230.setTop (mkF m 153 #[.val (.int p1), .val (.int p2), .val (.int p3), .val (.int p4), .val (.int p5), .val (.int n), .val (.int (1 : Int32)), .val (.int (1 : Int32)), .val (.int (0 : Int32)), .val (.int xa), .val (.int xb), .val (.int xq), .val (.ref b199), .val (.int ok2), .unset] [(.int (0 : Int32))])) _
                        refine XS.pop X230.here hx rfl (hb hby at_153) rfl rfl ?_
                        refine XS.iload X230.here hx rfl (hb hby at_154) rfl ?_
                        refine XS.ifYes X230.here hx rfl (pc0 := 156) (pc' := 164) rfl (hb hby at_156) rfl ((if0 _ _).trans (teq ((by decide) : (0 : Int32) = (0 : Int32))).1) (by decide) (by decide) ?_
                        refine XS.iload X230.here hx rfl (hb hby at_164) rfl ?_
                        refine XS.ifNo X230.here hx rfl (hb hby at_166) rfl ((if0 _ _).trans (teq ((by decide) : (0 : Int32) = (0 : Int32))).2) ?_
                        refine XS.iload X230.here hx rfl (hb hby at_169) rfl ?_
                        refine XS.iload X230.here hx rfl (hb hby at_171) rfl ?_
                        exact kt
                      show own_End p e below s (T230.setTop (mkF m 173 #[.val (.int p1), .val (.int p2), .val (.int p3), .val (.int p4), .val (.int p5), .val (.int n), .val (.int (1 : Int32)), .val (.int (1 : Int32)), .val (.int (0 : Int32)), .val (.int xa), .val (.int xb), .val (.int xq), .val (.ref b199), .val (.int ok2), .unset] [(.int xb), (.int xq)])) (Q0 Z p1 p2 p3 p4 p5 h0 n0) room_1.cells room_1.slots
                      have j193 : ∀ (Tj193 : State) (Lj193 : List Loc) (Xj193 : Stand p l e room_1 s m #[(.int p1), (.int p2), (.int p3), (.int p4), (.int p5)] below meth c Tj193 Lj193 4 46) (ej193 : Tj193.heap = T230.heap) (Nj193 : Fr n0 Lj193) (ex : Int32) , own_law p1 p2 p3 p4 p5 = own_law_193bbbbb p1 p2 p3 p4 p5 n xa xb xq ok1 ok2 ex → own_End p e below s (Tj193.setTop (mkF m 193 #[.val (.int p1), .val (.int p2), .val (.int p3), .val (.int p4), .val (.int p5), .val (.int n), .val (.int (1 : Int32)), .val (.int (1 : Int32)), .val (.int (0 : Int32)), .val (.int xa), .val (.int xb), .val (.int xq), .val (.ref b199), .val (.int ok2), .unset] [(.int ex)])) (Q0 Z p1 p2 p3 p4 p5 h0 n0) room_1.cells room_1.slots := by
                        intro Tj193 Lj193 Xj193 ej193 Nj193 ex  hj
                        refine own_pre (A := Tj193.setTop (mkF m 197 #[.val (.int p1), .val (.int p2), .val (.int p3), .val (.int p4), .val (.int p5), .val (.int n), .val (.int (1 : Int32)), .val (.int (1 : Int32)), .val (.int (0 : Int32)), .val (.int xa), .val (.int xb), .val (.int xq), .val (.ref b199), .val (.int ok2), .val (.int ex)] [(.int ok2)])) (fun tt kt => ?_) ?_
                        · show Steps p.tables e below (Tj193.setTop (mkF m 193 #[.val (.int p1), .val (.int p2), .val (.int p3), .val (.int p4), .val (.int p5), .val (.int n), .val (.int (1 : Int32)), .val (.int (1 : Int32)), .val (.int (0 : Int32)), .val (.int xa), .val (.int xb), .val (.int xq), .val (.ref b199), .val (.int ok2), .unset] [(.int ex)])) _
                          refine XS.istore Xj193.here hx rfl (hb hby at_193) rfl (l' := #[.val (.int p1), .val (.int p2), .val (.int p3), .val (.int p4), .val (.int p5), .val (.int n), .val (.int (1 : Int32)), .val (.int (1 : Int32)), .val (.int (0 : Int32)), .val (.int xa), .val (.int xb), .val (.int xq), .val (.ref b199), .val (.int ok2), .val (.int ex)]) rfl ?_
                          refine XS.iload Xj193.here hx rfl (hb hby at_195) rfl ?_
                          exact kt
                        show own_End p e below s (Tj193.setTop (mkF m 197 #[.val (.int p1), .val (.int p2), .val (.int p3), .val (.int p4), .val (.int p5), .val (.int n), .val (.int (1 : Int32)), .val (.int (1 : Int32)), .val (.int (0 : Int32)), .val (.int xa), .val (.int xb), .val (.int xq), .val (.ref b199), .val (.int ok2), .val (.int ex)] [(.int ok2)])) (Q0 Z p1 p2 p3 p4 p5 h0 n0) room_1.cells room_1.slots
                        by_cases hc197_231 : ok2 = (0 : Int32)
                        · refine own_pre (A := Tj193.setTop (mkF m 217 #[.val (.int p1), .val (.int p2), .val (.int p3), .val (.int p4), .val (.int p5), .val (.int n), .val (.int (1 : Int32)), .val (.int (1 : Int32)), .val (.int (0 : Int32)), .val (.int xa), .val (.int xb), .val (.int xq), .val (.ref b199), .val (.int ok2), .val (.int ex)] [(.int (0 : Int32))])) (fun tt kt => ?_) ?_
                          · show Steps p.tables e below (Tj193.setTop (mkF m 197 #[.val (.int p1), .val (.int p2), .val (.int p3), .val (.int p4), .val (.int p5), .val (.int n), .val (.int (1 : Int32)), .val (.int (1 : Int32)), .val (.int (0 : Int32)), .val (.int xa), .val (.int xb), .val (.int xq), .val (.ref b199), .val (.int ok2), .val (.int ex)] [(.int ok2)])) _
                            refine XS.ifYes Xj193.here hx rfl (pc0 := 197) (pc' := 216) rfl (hb hby at_197) rfl ((if0 _ _).trans (teq hc197_231).1) (by decide) (by decide) ?_
                            refine XS.iconst Xj193.here hx rfl (hb hby at_216) ?_
                            exact kt
                          show own_End p e below s (Tj193.setTop (mkF m 217 #[.val (.int p1), .val (.int p2), .val (.int p3), .val (.int p4), .val (.int p5), .val (.int n), .val (.int (1 : Int32)), .val (.int (1 : Int32)), .val (.int (0 : Int32)), .val (.int xa), .val (.int xb), .val (.int xq), .val (.ref b199), .val (.int ok2), .val (.int ex)] [(.int (0 : Int32))])) (Q0 Z p1 p2 p3 p4 p5 h0 n0) room_1.cells room_1.slots
                          have hv : (own_law p1 p2 p3 p4 p5) = (0 : Int32) := hj.trans (by simp only [own_law_193bbbbb, if_pos hc197_231])
                          obtain ⟨fs, hr, hrun, hended, hW, hsame⟩ := Xj193.leave (v := some (.int (0 : Int32))) (fun h => by rw [Bd.returns] at h; cases h)
                          refine ⟨_, _, ?_, hrun, hended, _, _, rfl, ?_, ⟨_, rfl⟩, hW, hsame.mono (by decide) (by decide)⟩
                          · exact retN Xj193 hx (t := .boolean) Bd.returns (by simp) (hb hby at_217) hr
                          · show Q0 Z p1 p2 p3 p4 p5 h0 n0 _ Tj193.heap _
                            rw [ej193]
                            exact ⟨(congrArg (fun z => some (Value.int z)) hv.symm), Nj193⟩
                        · obtain ⟨cq232, kq232, q232a, q232b, q232c⟩ := isOf hZ ej193 fE_b199_x230
                          obtain ⟨_, _, ⟨T232, L232, k232, n232⟩, -, X232, ⟨Lc232, hQ232, l232, y232, z232⟩, st232⟩ := Xj193.virtualBack hx (y := (⟨"com/example/libfacet/libfacet/regex/StateSet", "isMarked", "(I)Z"⟩ : MethodName)) (z := (⟨"com/example/libfacet/libfacet/regex/StateSet", "isMarked", "(I)Z"⟩ : MethodName)) hown (mvT hZ (hw _ (List.mem_of_getElem? (i := 26) rfl))) (mvT hZ (hw _ (List.mem_of_getElem? (i := 27) rfl))) (notFace_of_selects (args := #[]) (mvT hZ (hw _ (List.mem_of_getElem? (i := 29) rfl)))) (mvT hZ (hw _ (List.mem_of_getElem? (i := 29) rfl))) (mvT hZ (hw _ (List.mem_of_getElem? (i := 28) rfl))) (by decide) (backOf (W := 0) (rm3L l Z a0 hw [] b199 xq c200_ab c200_am (0 : Int32) (0 : Int32) (own_orb (own_zero (own_orb (fun _ => (0 : Int64)) xa) ((own_put (fun _ => (0 : Int32)) (0 : Int32) xa) 0)) xb) (((n + (63 : Int32)).toUInt32 >>> ((6 : Int32) &&& 31).toUInt32).toInt32) T230.heap n0 Z230 ⟨fE_b199_x230, fF_b199_markBits_x230, fF_b199_marked_x230, fF_b199_markedCount_x230, fF_b199_size_x230⟩ V230_0 (own_wd hn0 hn1 hxq0 hxq1)) hZ (hw _ (List.mem_of_getElem? (i := 30) rfl)) (hw _ (List.mem_of_getElem? (i := 3) rfl)) (by decide) (by decide)) q232a q232c (g := (mkF m 204 #[.val (.int p1), .val (.int p2), .val (.int p3), .val (.int p4), .val (.int p5), .val (.int n), .val (.int (1 : Int32)), .val (.int (1 : Int32)), .val (.int (0 : Int32)), .val (.int xa), .val (.int xb), .val (.int xq), .val (.ref b199), .val (.int ok2), .val (.int ex)] [(.int xq), (.ref b199)])) rfl (by rw [hml]; rfl) (Steps.refl _) (argsL := [(.int xq)]) (rest := []) (lenOf pd_0_1 rfl) rfl (by show 2 * 0 + _ ≤ _; exact Nat.le_of_eq rfl) (hb hby at_204) (fun _ _ => ⟨rfl, ej193, (by decide : 4 + 0 ≤ _), (by decide : 46 + 0 ≤ _)⟩)
                          dsimp only [Pt.U, Pt.locs, Pt.cells, Pt.slots] at X232 l232 y232 z232 st232 hQ232
                          subst l232 y232 z232
                          obtain ⟨rfl, N232q, e232⟩ := hQ232
                          have N232 := Fr.app Nj193 N232q
                          refine own_pre (A := T232.setTop (mkF m 209 #[.val (.int p1), .val (.int p2), .val (.int p3), .val (.int p4), .val (.int p5), .val (.int n), .val (.int (1 : Int32)), .val (.int (1 : Int32)), .val (.int (0 : Int32)), .val (.int xa), .val (.int xb), .val (.int xq), .val (.ref b199), .val (.int ok2), .val (.int ex)] [(.int ex), (.int (own_isL xq (own_orb (own_zero (own_orb (fun _ => (0 : Int64)) xa) ((own_put (fun _ => (0 : Int32)) (0 : Int32) xa) 0)) xb) (((n + (63 : Int32)).toUInt32 >>> ((6 : Int32) &&& 31).toUInt32).toInt32) (0 : Int32) (0 : Int32)))])) (fun tt kt => ?_) ?_
                          · show Steps p.tables e below (Tj193.setTop (mkF m 197 #[.val (.int p1), .val (.int p2), .val (.int p3), .val (.int p4), .val (.int p5), .val (.int n), .val (.int (1 : Int32)), .val (.int (1 : Int32)), .val (.int (0 : Int32)), .val (.int xa), .val (.int xb), .val (.int xq), .val (.ref b199), .val (.int ok2), .val (.int ex)] [(.int ok2)])) _
                            refine XS.ifNo Xj193.here hx rfl (hb hby at_197) rfl ((if0 _ _).trans (feq hc197_231).1) ?_
                            refine XS.aload Xj193.here hx rfl (hb hby at_200) rfl rfl ?_
                            refine XS.iload Xj193.here hx rfl (hb hby at_202) rfl ?_
                            show Steps p.tables e below (Tj193.setTop (mkF m 204 #[.val (.int p1), .val (.int p2), .val (.int p3), .val (.int p4), .val (.int p5), .val (.int n), .val (.int (1 : Int32)), .val (.int (1 : Int32)), .val (.int (0 : Int32)), .val (.int xa), .val (.int xb), .val (.int xq), .val (.ref b199), .val (.int ok2), .val (.int ex)] [(.int xq), (.ref b199)])) _
                            refine st232.trans ?_
                            show Steps p.tables e below (T232.setTop (mkF m 207 #[.val (.int p1), .val (.int p2), .val (.int p3), .val (.int p4), .val (.int p5), .val (.int n), .val (.int (1 : Int32)), .val (.int (1 : Int32)), .val (.int (0 : Int32)), .val (.int xa), .val (.int xb), .val (.int xq), .val (.ref b199), .val (.int ok2), .val (.int ex)] [(.int (own_isL xq (own_orb (own_zero (own_orb (fun _ => (0 : Int64)) xa) ((own_put (fun _ => (0 : Int32)) (0 : Int32) xa) 0)) xb) (((n + (63 : Int32)).toUInt32 >>> ((6 : Int32) &&& 31).toUInt32).toInt32) (0 : Int32) (0 : Int32)))])) _
                            refine XS.iload X232.here hx rfl (hb hby at_207) rfl ?_
                            exact kt
                          show own_End p e below s (T232.setTop (mkF m 209 #[.val (.int p1), .val (.int p2), .val (.int p3), .val (.int p4), .val (.int p5), .val (.int n), .val (.int (1 : Int32)), .val (.int (1 : Int32)), .val (.int (0 : Int32)), .val (.int xa), .val (.int xb), .val (.int xq), .val (.ref b199), .val (.int ok2), .val (.int ex)] [(.int ex), (.int (own_isL xq (own_orb (own_zero (own_orb (fun _ => (0 : Int64)) xa) ((own_put (fun _ => (0 : Int32)) (0 : Int32) xa) 0)) xb) (((n + (63 : Int32)).toUInt32 >>> ((6 : Int32) &&& 31).toUInt32).toInt32) (0 : Int32) (0 : Int32)))])) (Q0 Z p1 p2 p3 p4 p5 h0 n0) room_1.cells room_1.slots
                          by_cases hc209_233 : (own_isL xq (own_orb (own_zero (own_orb (fun _ => (0 : Int64)) xa) ((own_put (fun _ => (0 : Int32)) (0 : Int32) xa) 0)) xb) (((n + (63 : Int32)).toUInt32 >>> ((6 : Int32) &&& 31).toUInt32).toInt32) (0 : Int32) (0 : Int32)) = ex
                          · refine own_pre (A := T232.setTop (mkF m 217 #[.val (.int p1), .val (.int p2), .val (.int p3), .val (.int p4), .val (.int p5), .val (.int n), .val (.int (1 : Int32)), .val (.int (1 : Int32)), .val (.int (0 : Int32)), .val (.int xa), .val (.int xb), .val (.int xq), .val (.ref b199), .val (.int ok2), .val (.int ex)] [(.int (1 : Int32))])) (fun tt kt => ?_) ?_
                            · show Steps p.tables e below (T232.setTop (mkF m 209 #[.val (.int p1), .val (.int p2), .val (.int p3), .val (.int p4), .val (.int p5), .val (.int n), .val (.int (1 : Int32)), .val (.int (1 : Int32)), .val (.int (0 : Int32)), .val (.int xa), .val (.int xb), .val (.int xq), .val (.ref b199), .val (.int ok2), .val (.int ex)] [(.int ex), (.int (own_isL xq (own_orb (own_zero (own_orb (fun _ => (0 : Int64)) xa) ((own_put (fun _ => (0 : Int32)) (0 : Int32) xa) 0)) xb) (((n + (63 : Int32)).toUInt32 >>> ((6 : Int32) &&& 31).toUInt32).toInt32) (0 : Int32) (0 : Int32)))])) _
                              refine XS.icmpNo X232.here hx rfl (hb hby at_209) rfl (teq hc209_233).2 ?_
                              refine XS.iconst X232.here hx rfl (hb hby at_212) ?_
                              refine XS.goto X232.here hx rfl (pc0 := 213) (pc' := 217) rfl (hb hby at_213) (by decide) (by decide) ?_
                              exact kt
                            show own_End p e below s (T232.setTop (mkF m 217 #[.val (.int p1), .val (.int p2), .val (.int p3), .val (.int p4), .val (.int p5), .val (.int n), .val (.int (1 : Int32)), .val (.int (1 : Int32)), .val (.int (0 : Int32)), .val (.int xa), .val (.int xb), .val (.int xq), .val (.ref b199), .val (.int ok2), .val (.int ex)] [(.int (1 : Int32))])) (Q0 Z p1 p2 p3 p4 p5 h0 n0) room_1.cells room_1.slots
                            have hv : (own_law p1 p2 p3 p4 p5) = (1 : Int32) := hj.trans (by simp only [own_law_193bbbbb, if_neg hc197_231, if_pos hc209_233])
                            obtain ⟨fs, hr, hrun, hended, hW, hsame⟩ := X232.leave (v := some (.int (1 : Int32))) (fun h => by rw [Bd.returns] at h; cases h)
                            refine ⟨_, _, ?_, hrun, hended, _, _, rfl, ?_, ⟨_, rfl⟩, hW, hsame.mono (by decide) (by decide)⟩
                            · exact retN X232 hx (t := .boolean) Bd.returns (by simp) (hb hby at_217) hr
                            · show Q0 Z p1 p2 p3 p4 p5 h0 n0 _ T232.heap _
                              rw [e232]
                              exact ⟨(congrArg (fun z => some (Value.int z)) hv.symm), N232⟩
                          · refine own_pre (A := T232.setTop (mkF m 217 #[.val (.int p1), .val (.int p2), .val (.int p3), .val (.int p4), .val (.int p5), .val (.int n), .val (.int (1 : Int32)), .val (.int (1 : Int32)), .val (.int (0 : Int32)), .val (.int xa), .val (.int xb), .val (.int xq), .val (.ref b199), .val (.int ok2), .val (.int ex)] [(.int (0 : Int32))])) (fun tt kt => ?_) ?_
                            · show Steps p.tables e below (T232.setTop (mkF m 209 #[.val (.int p1), .val (.int p2), .val (.int p3), .val (.int p4), .val (.int p5), .val (.int n), .val (.int (1 : Int32)), .val (.int (1 : Int32)), .val (.int (0 : Int32)), .val (.int xa), .val (.int xb), .val (.int xq), .val (.ref b199), .val (.int ok2), .val (.int ex)] [(.int ex), (.int (own_isL xq (own_orb (own_zero (own_orb (fun _ => (0 : Int64)) xa) ((own_put (fun _ => (0 : Int32)) (0 : Int32) xa) 0)) xb) (((n + (63 : Int32)).toUInt32 >>> ((6 : Int32) &&& 31).toUInt32).toInt32) (0 : Int32) (0 : Int32)))])) _
                              refine XS.icmpYes X232.here hx rfl (pc0 := 209) (pc' := 216) rfl (hb hby at_209) rfl (feq hc209_233).2 (by decide) (by decide) ?_
                              refine XS.iconst X232.here hx rfl (hb hby at_216) ?_
                              exact kt
                            show own_End p e below s (T232.setTop (mkF m 217 #[.val (.int p1), .val (.int p2), .val (.int p3), .val (.int p4), .val (.int p5), .val (.int n), .val (.int (1 : Int32)), .val (.int (1 : Int32)), .val (.int (0 : Int32)), .val (.int xa), .val (.int xb), .val (.int xq), .val (.ref b199), .val (.int ok2), .val (.int ex)] [(.int (0 : Int32))])) (Q0 Z p1 p2 p3 p4 p5 h0 n0) room_1.cells room_1.slots
                            have hv : (own_law p1 p2 p3 p4 p5) = (0 : Int32) := hj.trans (by simp only [own_law_193bbbbb, if_neg hc197_231, if_neg hc209_233])
                            obtain ⟨fs, hr, hrun, hended, hW, hsame⟩ := X232.leave (v := some (.int (0 : Int32))) (fun h => by rw [Bd.returns] at h; cases h)
                            refine ⟨_, _, ?_, hrun, hended, _, _, rfl, ?_, ⟨_, rfl⟩, hW, hsame.mono (by decide) (by decide)⟩
                            · exact retN X232 hx (t := .boolean) Bd.returns (by simp) (hb hby at_217) hr
                            · show Q0 Z p1 p2 p3 p4 p5 h0 n0 _ T232.heap _
                              rw [e232]
                              exact ⟨(congrArg (fun z => some (Value.int z)) hv.symm), N232⟩
                      by_cases hc173_234 : xq = xb
                      · refine own_pre (A := T230.setTop (mkF m 193 #[.val (.int p1), .val (.int p2), .val (.int p3), .val (.int p4), .val (.int p5), .val (.int n), .val (.int (1 : Int32)), .val (.int (1 : Int32)), .val (.int (0 : Int32)), .val (.int xa), .val (.int xb), .val (.int xq), .val (.ref b199), .val (.int ok2), .unset] [(.int (1 : Int32))])) (fun tt kt => ?_) ?_
                        · show Steps p.tables e below (T230.setTop (mkF m 173 #[.val (.int p1), .val (.int p2), .val (.int p3), .val (.int p4), .val (.int p5), .val (.int n), .val (.int (1 : Int32)), .val (.int (1 : Int32)), .val (.int (0 : Int32)), .val (.int xa), .val (.int xb), .val (.int xq), .val (.ref b199), .val (.int ok2), .unset] [(.int xb), (.int xq)])) _
                          refine XS.icmpYes X230.here hx rfl (pc0 := 173) (pc' := 188) rfl (hb hby at_173) rfl (teq hc173_234).1 (by decide) (by decide) ?_
                          refine XS.iconst X230.here hx rfl (hb hby at_188) ?_
                          refine XS.goto X230.here hx rfl (pc0 := 189) (pc' := 193) rfl (hb hby at_189) (by decide) (by decide) ?_
                          exact kt
                        show own_End p e below s (T230.setTop (mkF m 193 #[.val (.int p1), .val (.int p2), .val (.int p3), .val (.int p4), .val (.int p5), .val (.int n), .val (.int (1 : Int32)), .val (.int (1 : Int32)), .val (.int (0 : Int32)), .val (.int xa), .val (.int xb), .val (.int xq), .val (.ref b199), .val (.int ok2), .unset] [(.int (1 : Int32))])) (Q0 Z p1 p2 p3 p4 p5 h0 n0) room_1.cells room_1.slots
                        exact j193 _ _ X230 rfl N230 (1 : Int32)  (hj.trans (by simp only [own_law_134bbbbbb, if_neg hU219, if_pos hc173_234]))
                      · refine own_pre (A := T230.setTop (mkF m 193 #[.val (.int p1), .val (.int p2), .val (.int p3), .val (.int p4), .val (.int p5), .val (.int n), .val (.int (1 : Int32)), .val (.int (1 : Int32)), .val (.int (0 : Int32)), .val (.int xa), .val (.int xb), .val (.int xq), .val (.ref b199), .val (.int ok2), .unset] [(.int (0 : Int32))])) (fun tt kt => ?_) ?_
                        · show Steps p.tables e below (T230.setTop (mkF m 173 #[.val (.int p1), .val (.int p2), .val (.int p3), .val (.int p4), .val (.int p5), .val (.int n), .val (.int (1 : Int32)), .val (.int (1 : Int32)), .val (.int (0 : Int32)), .val (.int xa), .val (.int xb), .val (.int xq), .val (.ref b199), .val (.int ok2), .unset] [(.int xb), (.int xq)])) _
                          refine XS.icmpNo X230.here hx rfl (hb hby at_173) rfl (feq hc173_234).1 ?_
                          refine XS.iload X230.here hx rfl (hb hby at_176) rfl ?_
                          refine XS.ifYes X230.here hx rfl (pc0 := 178) (pc' := 192) rfl (hb hby at_178) rfl ((if0 _ _).trans (feq ((by decide) : ¬ ((1 : Int32) = (0 : Int32)))).2) (by decide) (by decide) ?_
                          refine XS.iconst X230.here hx rfl (hb hby at_192) ?_
                          exact kt
                        show own_End p e below s (T230.setTop (mkF m 193 #[.val (.int p1), .val (.int p2), .val (.int p3), .val (.int p4), .val (.int p5), .val (.int n), .val (.int (1 : Int32)), .val (.int (1 : Int32)), .val (.int (0 : Int32)), .val (.int xa), .val (.int xb), .val (.int xq), .val (.ref b199), .val (.int ok2), .unset] [(.int (0 : Int32))])) (Q0 Z p1 p2 p3 p4 p5 h0 n0) room_1.cells room_1.slots
                        exact j193 _ _ X230 rfl N230 (0 : Int32)  (hj.trans (by simp only [own_law_134bbbbbb, if_neg hU219, if_neg hc173_234]))
                  by_cases hc116_235 : ok1 = (0 : Int32)
                  · refine own_pre (A := T207.setTop (mkF m 134 #[.val (.int p1), .val (.int p2), .val (.int p3), .val (.int p4), .val (.int p5), .val (.int n), .val (.int (1 : Int32)), .val (.int (1 : Int32)), .val (.int (0 : Int32)), .val (.int xa), .val (.int xb), .val (.int xq), .val (.ref b199), .val (.int ok1), .unset] [(.int (0 : Int32))])) (fun tt kt => ?_) ?_
                    · show Steps p.tables e below (T207.setTop (mkF m 116 #[.val (.int p1), .val (.int p2), .val (.int p3), .val (.int p4), .val (.int p5), .val (.int n), .val (.int (1 : Int32)), .val (.int (1 : Int32)), .val (.int (0 : Int32)), .val (.int xa), .val (.int xb), .val (.int xq), .val (.ref b199), .val (.int ok1), .unset] [(.int ok1)])) _
                      refine XS.ifYes X207.here hx rfl (pc0 := 116) (pc' := 133) rfl (hb hby at_116) rfl ((if0 _ _).trans (teq hc116_235).1) (by decide) (by decide) ?_
                      refine XS.iconst X207.here hx rfl (hb hby at_133) ?_
                      exact kt
                    show own_End p e below s (T207.setTop (mkF m 134 #[.val (.int p1), .val (.int p2), .val (.int p3), .val (.int p4), .val (.int p5), .val (.int n), .val (.int (1 : Int32)), .val (.int (1 : Int32)), .val (.int (0 : Int32)), .val (.int xa), .val (.int xb), .val (.int xq), .val (.ref b199), .val (.int ok1), .unset] [(.int (0 : Int32))])) (Q0 Z p1 p2 p3 p4 p5 h0 n0) room_1.cells room_1.slots
                    exact j134 _ _ X207 rfl N207 (0 : Int32)  (hj.trans (by simp only [own_law_104bbbbbb, if_pos hc116_235]))
                  · obtain ⟨cq236, kq236, q236a, q236b, q236c⟩ := isOf hZ rfl E_b199_208
                    obtain ⟨_, _, ⟨T236, L236, k236, n236⟩, -, X236, ⟨Lc236, hQ236, l236, y236, z236⟩, st236⟩ := X207.virtualBack hx (y := (⟨"com/example/libfacet/libfacet/regex/StateSet", "isMarked", "(I)Z"⟩ : MethodName)) (z := (⟨"com/example/libfacet/libfacet/regex/StateSet", "isMarked", "(I)Z"⟩ : MethodName)) hown (mvT hZ (hw _ (List.mem_of_getElem? (i := 26) rfl))) (mvT hZ (hw _ (List.mem_of_getElem? (i := 27) rfl))) (notFace_of_selects (args := #[]) (mvT hZ (hw _ (List.mem_of_getElem? (i := 29) rfl)))) (mvT hZ (hw _ (List.mem_of_getElem? (i := 29) rfl))) (mvT hZ (hw _ (List.mem_of_getElem? (i := 28) rfl))) (by decide) (backOf (W := 0) (rm3L l Z a0 hw [] b199 xa c200_ab c200_am (1 : Int32) (0 : Int32) (own_orb (fun _ => (0 : Int64)) xa) (((n + (63 : Int32)).toUInt32 >>> ((6 : Int32) &&& 31).toUInt32).toInt32) T207.heap n0 Z207 ⟨E_b199_208, F_markBits_b199_209, F_marked_b199_210, F_markedCount_b199_211, F_size_b199_212⟩ V207_0 (own_wd hn0 hn1 hxa0 hxa1)) hZ (hw _ (List.mem_of_getElem? (i := 30) rfl)) (hw _ (List.mem_of_getElem? (i := 3) rfl)) (by decide) (by decide)) q236a q236c (g := (mkF m 123 #[.val (.int p1), .val (.int p2), .val (.int p3), .val (.int p4), .val (.int p5), .val (.int n), .val (.int (1 : Int32)), .val (.int (1 : Int32)), .val (.int (0 : Int32)), .val (.int xa), .val (.int xb), .val (.int xq), .val (.ref b199), .val (.int ok1), .unset] [(.int xa), (.ref b199)])) rfl (by rw [hml]; rfl) (Steps.refl _) (argsL := [(.int xa)]) (rest := []) (lenOf pd_0_1 rfl) rfl (by show 2 * 0 + _ ≤ _; exact Nat.le_of_eq rfl) (hb hby at_123) (fun _ _ => ⟨rfl, rfl, (by decide : 4 + 0 ≤ _), (by decide : 46 + 0 ≤ _)⟩)
                    dsimp only [Pt.U, Pt.locs, Pt.cells, Pt.slots] at X236 l236 y236 z236 st236 hQ236
                    subst l236 y236 z236
                    obtain ⟨rfl, N236q, e236⟩ := hQ236
                    have N236 := Fr.app N207 N236q
                    refine own_pre (A := T236.setTop (mkF m 126 #[.val (.int p1), .val (.int p2), .val (.int p3), .val (.int p4), .val (.int p5), .val (.int n), .val (.int (1 : Int32)), .val (.int (1 : Int32)), .val (.int (0 : Int32)), .val (.int xa), .val (.int xb), .val (.int xq), .val (.ref b199), .val (.int ok1), .unset] [(.int (own_isL xa (own_orb (fun _ => (0 : Int64)) xa) (((n + (63 : Int32)).toUInt32 >>> ((6 : Int32) &&& 31).toUInt32).toInt32) (1 : Int32) (0 : Int32)))])) (fun tt kt => ?_) ?_
                    · show Steps p.tables e below (T207.setTop (mkF m 116 #[.val (.int p1), .val (.int p2), .val (.int p3), .val (.int p4), .val (.int p5), .val (.int n), .val (.int (1 : Int32)), .val (.int (1 : Int32)), .val (.int (0 : Int32)), .val (.int xa), .val (.int xb), .val (.int xq), .val (.ref b199), .val (.int ok1), .unset] [(.int ok1)])) _
                      refine XS.ifNo X207.here hx rfl (hb hby at_116) rfl ((if0 _ _).trans (feq hc116_235).1) ?_
                      refine XS.aload X207.here hx rfl (hb hby at_119) rfl rfl ?_
                      refine XS.iload X207.here hx rfl (hb hby at_121) rfl ?_
                      show Steps p.tables e below (T207.setTop (mkF m 123 #[.val (.int p1), .val (.int p2), .val (.int p3), .val (.int p4), .val (.int p5), .val (.int n), .val (.int (1 : Int32)), .val (.int (1 : Int32)), .val (.int (0 : Int32)), .val (.int xa), .val (.int xb), .val (.int xq), .val (.ref b199), .val (.int ok1), .unset] [(.int xa), (.ref b199)])) _
                      refine st236.trans ?_
                      exact kt
                    show own_End p e below s (T236.setTop (mkF m 126 #[.val (.int p1), .val (.int p2), .val (.int p3), .val (.int p4), .val (.int p5), .val (.int n), .val (.int (1 : Int32)), .val (.int (1 : Int32)), .val (.int (0 : Int32)), .val (.int xa), .val (.int xb), .val (.int xq), .val (.ref b199), .val (.int ok1), .unset] [(.int (own_isL xa (own_orb (fun _ => (0 : Int64)) xa) (((n + (63 : Int32)).toUInt32 >>> ((6 : Int32) &&& 31).toUInt32).toInt32) (1 : Int32) (0 : Int32)))])) (Q0 Z p1 p2 p3 p4 p5 h0 n0) room_1.cells room_1.slots
                    by_cases hc126_237 : (own_isL xa (own_orb (fun _ => (0 : Int64)) xa) (((n + (63 : Int32)).toUInt32 >>> ((6 : Int32) &&& 31).toUInt32).toInt32) (1 : Int32) (0 : Int32)) = (0 : Int32)
                    · refine own_pre (A := T236.setTop (mkF m 134 #[.val (.int p1), .val (.int p2), .val (.int p3), .val (.int p4), .val (.int p5), .val (.int n), .val (.int (1 : Int32)), .val (.int (1 : Int32)), .val (.int (0 : Int32)), .val (.int xa), .val (.int xb), .val (.int xq), .val (.ref b199), .val (.int ok1), .unset] [(.int (0 : Int32))])) (fun tt kt => ?_) ?_
                      · show Steps p.tables e below (T236.setTop (mkF m 126 #[.val (.int p1), .val (.int p2), .val (.int p3), .val (.int p4), .val (.int p5), .val (.int n), .val (.int (1 : Int32)), .val (.int (1 : Int32)), .val (.int (0 : Int32)), .val (.int xa), .val (.int xb), .val (.int xq), .val (.ref b199), .val (.int ok1), .unset] [(.int (own_isL xa (own_orb (fun _ => (0 : Int64)) xa) (((n + (63 : Int32)).toUInt32 >>> ((6 : Int32) &&& 31).toUInt32).toInt32) (1 : Int32) (0 : Int32)))])) _
                        refine XS.ifYes X236.here hx rfl (pc0 := 126) (pc' := 133) rfl (hb hby at_126) rfl ((if0 _ _).trans (teq hc126_237).1) (by decide) (by decide) ?_
                        refine XS.iconst X236.here hx rfl (hb hby at_133) ?_
                        exact kt
                      show own_End p e below s (T236.setTop (mkF m 134 #[.val (.int p1), .val (.int p2), .val (.int p3), .val (.int p4), .val (.int p5), .val (.int n), .val (.int (1 : Int32)), .val (.int (1 : Int32)), .val (.int (0 : Int32)), .val (.int xa), .val (.int xb), .val (.int xq), .val (.ref b199), .val (.int ok1), .unset] [(.int (0 : Int32))])) (Q0 Z p1 p2 p3 p4 p5 h0 n0) room_1.cells room_1.slots
                      exact j134 _ _ X236 e236 N236 (0 : Int32)  (hj.trans (by simp only [own_law_104bbbbbb, if_neg hc116_235, if_pos hc126_237]))
                    · refine own_pre (A := T236.setTop (mkF m 134 #[.val (.int p1), .val (.int p2), .val (.int p3), .val (.int p4), .val (.int p5), .val (.int n), .val (.int (1 : Int32)), .val (.int (1 : Int32)), .val (.int (0 : Int32)), .val (.int xa), .val (.int xb), .val (.int xq), .val (.ref b199), .val (.int ok1), .unset] [(.int (1 : Int32))])) (fun tt kt => ?_) ?_
                      · show Steps p.tables e below (T236.setTop (mkF m 126 #[.val (.int p1), .val (.int p2), .val (.int p3), .val (.int p4), .val (.int p5), .val (.int n), .val (.int (1 : Int32)), .val (.int (1 : Int32)), .val (.int (0 : Int32)), .val (.int xa), .val (.int xb), .val (.int xq), .val (.ref b199), .val (.int ok1), .unset] [(.int (own_isL xa (own_orb (fun _ => (0 : Int64)) xa) (((n + (63 : Int32)).toUInt32 >>> ((6 : Int32) &&& 31).toUInt32).toInt32) (1 : Int32) (0 : Int32)))])) _
                        refine XS.ifNo X236.here hx rfl (hb hby at_126) rfl ((if0 _ _).trans (feq hc126_237).1) ?_
                        refine XS.iconst X236.here hx rfl (hb hby at_129) ?_
                        refine XS.goto X236.here hx rfl (pc0 := 130) (pc' := 134) rfl (hb hby at_130) (by decide) (by decide) ?_
                        exact kt
                      show own_End p e below s (T236.setTop (mkF m 134 #[.val (.int p1), .val (.int p2), .val (.int p3), .val (.int p4), .val (.int p5), .val (.int n), .val (.int (1 : Int32)), .val (.int (1 : Int32)), .val (.int (0 : Int32)), .val (.int xa), .val (.int xb), .val (.int xq), .val (.ref b199), .val (.int ok1), .unset] [(.int (1 : Int32))])) (Q0 Z p1 p2 p3 p4 p5 h0 n0) room_1.cells room_1.slots
                      exact j134 _ _ X236 e236 N236 (1 : Int32)  (hj.trans (by simp only [own_law_104bbbbbb, if_neg hc116_235, if_neg hc126_237]))
                by_cases hc96_238 : (own_isL xq (fun _ => (0 : Int64)) (((n + (63 : Int32)).toUInt32 >>> ((6 : Int32) &&& 31).toUInt32).toInt32) (0 : Int32) (0 : Int32)) = (0 : Int32)
                · refine own_pre (A := T206.setTop (mkF m 104 #[.val (.int p1), .val (.int p2), .val (.int p3), .val (.int p4), .val (.int p5), .val (.int n), .val (.int (1 : Int32)), .val (.int (1 : Int32)), .val (.int (0 : Int32)), .val (.int xa), .val (.int xb), .val (.int xq), .val (.ref b199), .unset, .unset] [(.int (1 : Int32))])) (fun tt kt => ?_) ?_
                  · show Steps p.tables e below (T206.setTop (mkF m 96 #[.val (.int p1), .val (.int p2), .val (.int p3), .val (.int p4), .val (.int p5), .val (.int n), .val (.int (1 : Int32)), .val (.int (1 : Int32)), .val (.int (0 : Int32)), .val (.int xa), .val (.int xb), .val (.int xq), .val (.ref b199), .unset, .unset] [(.int (own_isL xq (fun _ => (0 : Int64)) (((n + (63 : Int32)).toUInt32 >>> ((6 : Int32) &&& 31).toUInt32).toInt32) (0 : Int32) (0 : Int32)))])) _
                    refine XS.ifNo X206.here hx rfl (hb hby at_96) rfl ((if0 _ _).trans (teq hc96_238).2) ?_
                    refine XS.iconst X206.here hx rfl (hb hby at_99) ?_
                    refine XS.goto X206.here hx rfl (pc0 := 100) (pc' := 104) rfl (hb hby at_100) (by decide) (by decide) ?_
                    exact kt
                  show own_End p e below s (T206.setTop (mkF m 104 #[.val (.int p1), .val (.int p2), .val (.int p3), .val (.int p4), .val (.int p5), .val (.int n), .val (.int (1 : Int32)), .val (.int (1 : Int32)), .val (.int (0 : Int32)), .val (.int xa), .val (.int xb), .val (.int xq), .val (.ref b199), .unset, .unset] [(.int (1 : Int32))])) (Q0 Z p1 p2 p3 p4 p5 h0 n0) room_1.cells room_1.slots
                  exact j104 _ _ X206 e206 N206 (1 : Int32)  (hj.trans (by simp only [own_law_76bbbbbb, if_pos hc96_238]))
                · refine own_pre (A := T206.setTop (mkF m 104 #[.val (.int p1), .val (.int p2), .val (.int p3), .val (.int p4), .val (.int p5), .val (.int n), .val (.int (1 : Int32)), .val (.int (1 : Int32)), .val (.int (0 : Int32)), .val (.int xa), .val (.int xb), .val (.int xq), .val (.ref b199), .unset, .unset] [(.int (0 : Int32))])) (fun tt kt => ?_) ?_
                  · show Steps p.tables e below (T206.setTop (mkF m 96 #[.val (.int p1), .val (.int p2), .val (.int p3), .val (.int p4), .val (.int p5), .val (.int n), .val (.int (1 : Int32)), .val (.int (1 : Int32)), .val (.int (0 : Int32)), .val (.int xa), .val (.int xb), .val (.int xq), .val (.ref b199), .unset, .unset] [(.int (own_isL xq (fun _ => (0 : Int64)) (((n + (63 : Int32)).toUInt32 >>> ((6 : Int32) &&& 31).toUInt32).toInt32) (0 : Int32) (0 : Int32)))])) _
                    refine XS.ifYes X206.here hx rfl (pc0 := 96) (pc' := 103) rfl (hb hby at_96) rfl ((if0 _ _).trans (feq hc96_238).2) (by decide) (by decide) ?_
                    refine XS.iconst X206.here hx rfl (hb hby at_103) ?_
                    exact kt
                  show own_End p e below s (T206.setTop (mkF m 104 #[.val (.int p1), .val (.int p2), .val (.int p3), .val (.int p4), .val (.int p5), .val (.int n), .val (.int (1 : Int32)), .val (.int (1 : Int32)), .val (.int (0 : Int32)), .val (.int xa), .val (.int xb), .val (.int xq), .val (.ref b199), .unset, .unset] [(.int (0 : Int32))])) (Q0 Z p1 p2 p3 p4 p5 h0 n0) room_1.cells room_1.slots
                  exact j104 _ _ X206 e206 N206 (0 : Int32)  (hj.trans (by simp only [own_law_76bbbbbb, if_neg hc96_238]))
              exact j76 _ _ Xj66 ej66 Nj66 ((p5 &&& (2147483647 : Int32)) % n) (own_i p5 n hn0).1 (own_i p5 n hn0).2 (hj.trans (by simp only [own_law_66bbbbbb]))
            exact j66 _ _ Xj57 ej57 Nj57 ((p4 &&& (2147483647 : Int32)) % n) (own_i p4 n hn0).1 (own_i p4 n hn0).2 (hj.trans (by simp only [own_law_57bbbbbb]))
          exact j57 _ _ Xj9 ej9 Nj9 ((p3 &&& (2147483647 : Int32)) % n) (own_i p3 n hn0).1 (own_i p3 n hn0).2 (hj.trans (by simp only [own_law_9, if_neg hc12_1, if_neg hc25_116, if_pos hc38_198]))
        · refine own_pre (A := Tj9.setTop (mkF m 57 #[.val (.int p1), .val (.int p2), .val (.int p3), .val (.int p4), .val (.int p5), .val (.int n), .val (.int (1 : Int32)), .val (.int (1 : Int32)), .val (.int (1 : Int32)), .val (.int ((p3 &&& (2147483647 : Int32)) % n)), .unset, .unset, .unset, .unset, .unset] [])) (fun tt kt => ?_) ?_
          · show Steps p.tables e below (Tj9.setTop (mkF m 38 #[.val (.int p1), .val (.int p2), .val (.int p3), .val (.int p4), .val (.int p5), .val (.int n), .val (.int (1 : Int32)), .val (.int (1 : Int32)), .unset, .unset, .unset, .unset, .unset, .unset, .unset] [(.int (p2 &&& (4 : Int32)))])) _
            refine XS.ifNo Xj9.here hx rfl (hb hby at_38) rfl ((if0 _ _).trans (feq hc38_198).1) ?_
            refine XS.iconst Xj9.here hx rfl (hb hby at_41) ?_
            refine XS.goto Xj9.here hx rfl (pc0 := 42) (pc' := 46) rfl (hb hby at_42) (by decide) (by decide) ?_
            refine XS.istore Xj9.here hx rfl (hb hby at_46) rfl (l' := #[.val (.int p1), .val (.int p2), .val (.int p3), .val (.int p4), .val (.int p5), .val (.int n), .val (.int (1 : Int32)), .val (.int (1 : Int32)), .val (.int (1 : Int32)), .unset, .unset, .unset, .unset, .unset, .unset]) rfl ?_
            refine XS.iloadN Xj9.here hx rfl (hb hby at_48) rfl ?_
            show Steps p.tables e below (Tj9.setTop (mkF m 49 #[.val (.int p1), .val (.int p2), .val (.int p3), .val (.int p4), .val (.int p5), .val (.int n), .val (.int (1 : Int32)), .val (.int (1 : Int32)), .val (.int (1 : Int32)), .unset, .unset, .unset, .unset, .unset, .unset] [(.int p3)])) _
            refine Xj9.ldcInt hx hown (mvT hZ (hw _ (List.mem_of_getElem? (i := 0) rfl))) (g := (mkF m 49 #[.val (.int p1), .val (.int p2), .val (.int p3), .val (.int p4), .val (.int p5), .val (.int n), .val (.int (1 : Int32)), .val (.int (1 : Int32)), .val (.int (1 : Int32)), .unset, .unset, .unset, .unset, .unset, .unset] [(.int p3)])) rfl (hb hby at_49) _ ?_
            show Steps p.tables e below (Tj9.setTop (mkF m 51 #[.val (.int p1), .val (.int p2), .val (.int p3), .val (.int p4), .val (.int p5), .val (.int n), .val (.int (1 : Int32)), .val (.int (1 : Int32)), .val (.int (1 : Int32)), .unset, .unset, .unset, .unset, .unset, .unset] [(.int (2147483647 : Int32)), (.int p3)])) _
            refine XS.iand Xj9.here hx rfl (hb hby at_51) rfl ?_
            refine XS.iload Xj9.here hx rfl (hb hby at_52) rfl ?_
            refine iremM Xj9 hx rfl (hb hby at_54) rfl (own_nz hn0) ?_
            refine XS.istore Xj9.here hx rfl (hb hby at_55) rfl (l' := #[.val (.int p1), .val (.int p2), .val (.int p3), .val (.int p4), .val (.int p5), .val (.int n), .val (.int (1 : Int32)), .val (.int (1 : Int32)), .val (.int (1 : Int32)), .val (.int ((p3 &&& (2147483647 : Int32)) % n)), .unset, .unset, .unset, .unset, .unset]) rfl ?_
            exact kt
          show own_End p e below s (Tj9.setTop (mkF m 57 #[.val (.int p1), .val (.int p2), .val (.int p3), .val (.int p4), .val (.int p5), .val (.int n), .val (.int (1 : Int32)), .val (.int (1 : Int32)), .val (.int (1 : Int32)), .val (.int ((p3 &&& (2147483647 : Int32)) % n)), .unset, .unset, .unset, .unset, .unset] [])) (Q0 Z p1 p2 p3 p4 p5 h0 n0) room_1.cells room_1.slots
          have j57 : ∀ (Tj57 : State) (Lj57 : List Loc) (Xj57 : Stand p l e room_1 s m #[(.int p1), (.int p2), (.int p3), (.int p4), (.int p5)] below meth c Tj57 Lj57 0 0) (ej57 : Tj57.heap = h0) (Nj57 : Fr n0 Lj57) (xa : Int32) (hxa0 : 0 ≤ xa.toInt) (hxa1 : xa.toInt < n.toInt), own_law p1 p2 p3 p4 p5 = own_law_57bbbbbbb p1 p2 p3 p4 p5 n xa → own_End p e below s (Tj57.setTop (mkF m 57 #[.val (.int p1), .val (.int p2), .val (.int p3), .val (.int p4), .val (.int p5), .val (.int n), .val (.int (1 : Int32)), .val (.int (1 : Int32)), .val (.int (1 : Int32)), .val (.int xa), .unset, .unset, .unset, .unset, .unset] [])) (Q0 Z p1 p2 p3 p4 p5 h0 n0) room_1.cells room_1.slots := by
            intro Tj57 Lj57 Xj57 ej57 Nj57 xa hxa0 hxa1 hj
            refine own_pre (A := Tj57.setTop (mkF m 66 #[.val (.int p1), .val (.int p2), .val (.int p3), .val (.int p4), .val (.int p5), .val (.int n), .val (.int (1 : Int32)), .val (.int (1 : Int32)), .val (.int (1 : Int32)), .val (.int xa), .val (.int ((p4 &&& (2147483647 : Int32)) % n)), .unset, .unset, .unset, .unset] [])) (fun tt kt => ?_) ?_
            · show Steps p.tables e below (Tj57.setTop (mkF m 57 #[.val (.int p1), .val (.int p2), .val (.int p3), .val (.int p4), .val (.int p5), .val (.int n), .val (.int (1 : Int32)), .val (.int (1 : Int32)), .val (.int (1 : Int32)), .val (.int xa), .unset, .unset, .unset, .unset, .unset] [])) _
              refine XS.iloadN Xj57.here hx rfl (hb hby at_57) rfl ?_
              show Steps p.tables e below (Tj57.setTop (mkF m 58 #[.val (.int p1), .val (.int p2), .val (.int p3), .val (.int p4), .val (.int p5), .val (.int n), .val (.int (1 : Int32)), .val (.int (1 : Int32)), .val (.int (1 : Int32)), .val (.int xa), .unset, .unset, .unset, .unset, .unset] [(.int p4)])) _
              refine Xj57.ldcInt hx hown (mvT hZ (hw _ (List.mem_of_getElem? (i := 0) rfl))) (g := (mkF m 58 #[.val (.int p1), .val (.int p2), .val (.int p3), .val (.int p4), .val (.int p5), .val (.int n), .val (.int (1 : Int32)), .val (.int (1 : Int32)), .val (.int (1 : Int32)), .val (.int xa), .unset, .unset, .unset, .unset, .unset] [(.int p4)])) rfl (hb hby at_58) _ ?_
              show Steps p.tables e below (Tj57.setTop (mkF m 60 #[.val (.int p1), .val (.int p2), .val (.int p3), .val (.int p4), .val (.int p5), .val (.int n), .val (.int (1 : Int32)), .val (.int (1 : Int32)), .val (.int (1 : Int32)), .val (.int xa), .unset, .unset, .unset, .unset, .unset] [(.int (2147483647 : Int32)), (.int p4)])) _
              refine XS.iand Xj57.here hx rfl (hb hby at_60) rfl ?_
              refine XS.iload Xj57.here hx rfl (hb hby at_61) rfl ?_
              refine iremM Xj57 hx rfl (hb hby at_63) rfl (own_nz hn0) ?_
              refine XS.istore Xj57.here hx rfl (hb hby at_64) rfl (l' := #[.val (.int p1), .val (.int p2), .val (.int p3), .val (.int p4), .val (.int p5), .val (.int n), .val (.int (1 : Int32)), .val (.int (1 : Int32)), .val (.int (1 : Int32)), .val (.int xa), .val (.int ((p4 &&& (2147483647 : Int32)) % n)), .unset, .unset, .unset, .unset]) rfl ?_
              exact kt
            show own_End p e below s (Tj57.setTop (mkF m 66 #[.val (.int p1), .val (.int p2), .val (.int p3), .val (.int p4), .val (.int p5), .val (.int n), .val (.int (1 : Int32)), .val (.int (1 : Int32)), .val (.int (1 : Int32)), .val (.int xa), .val (.int ((p4 &&& (2147483647 : Int32)) % n)), .unset, .unset, .unset, .unset] [])) (Q0 Z p1 p2 p3 p4 p5 h0 n0) room_1.cells room_1.slots
            have j66 : ∀ (Tj66 : State) (Lj66 : List Loc) (Xj66 : Stand p l e room_1 s m #[(.int p1), (.int p2), (.int p3), (.int p4), (.int p5)] below meth c Tj66 Lj66 0 0) (ej66 : Tj66.heap = h0) (Nj66 : Fr n0 Lj66) (xb : Int32) (hxb0 : 0 ≤ xb.toInt) (hxb1 : xb.toInt < n.toInt), own_law p1 p2 p3 p4 p5 = own_law_66bbbbbbb p1 p2 p3 p4 p5 n xa xb → own_End p e below s (Tj66.setTop (mkF m 66 #[.val (.int p1), .val (.int p2), .val (.int p3), .val (.int p4), .val (.int p5), .val (.int n), .val (.int (1 : Int32)), .val (.int (1 : Int32)), .val (.int (1 : Int32)), .val (.int xa), .val (.int xb), .unset, .unset, .unset, .unset] [])) (Q0 Z p1 p2 p3 p4 p5 h0 n0) room_1.cells room_1.slots := by
              intro Tj66 Lj66 Xj66 ej66 Nj66 xb hxb0 hxb1 hj
              refine own_pre (A := Tj66.setTop (mkF m 76 #[.val (.int p1), .val (.int p2), .val (.int p3), .val (.int p4), .val (.int p5), .val (.int n), .val (.int (1 : Int32)), .val (.int (1 : Int32)), .val (.int (1 : Int32)), .val (.int xa), .val (.int xb), .val (.int ((p5 &&& (2147483647 : Int32)) % n)), .unset, .unset, .unset] [])) (fun tt kt => ?_) ?_
              · show Steps p.tables e below (Tj66.setTop (mkF m 66 #[.val (.int p1), .val (.int p2), .val (.int p3), .val (.int p4), .val (.int p5), .val (.int n), .val (.int (1 : Int32)), .val (.int (1 : Int32)), .val (.int (1 : Int32)), .val (.int xa), .val (.int xb), .unset, .unset, .unset, .unset] [])) _
                refine XS.iload Xj66.here hx rfl (hb hby at_66) rfl ?_
                show Steps p.tables e below (Tj66.setTop (mkF m 68 #[.val (.int p1), .val (.int p2), .val (.int p3), .val (.int p4), .val (.int p5), .val (.int n), .val (.int (1 : Int32)), .val (.int (1 : Int32)), .val (.int (1 : Int32)), .val (.int xa), .val (.int xb), .unset, .unset, .unset, .unset] [(.int p5)])) _
                refine Xj66.ldcInt hx hown (mvT hZ (hw _ (List.mem_of_getElem? (i := 0) rfl))) (g := (mkF m 68 #[.val (.int p1), .val (.int p2), .val (.int p3), .val (.int p4), .val (.int p5), .val (.int n), .val (.int (1 : Int32)), .val (.int (1 : Int32)), .val (.int (1 : Int32)), .val (.int xa), .val (.int xb), .unset, .unset, .unset, .unset] [(.int p5)])) rfl (hb hby at_68) _ ?_
                show Steps p.tables e below (Tj66.setTop (mkF m 70 #[.val (.int p1), .val (.int p2), .val (.int p3), .val (.int p4), .val (.int p5), .val (.int n), .val (.int (1 : Int32)), .val (.int (1 : Int32)), .val (.int (1 : Int32)), .val (.int xa), .val (.int xb), .unset, .unset, .unset, .unset] [(.int (2147483647 : Int32)), (.int p5)])) _
                refine XS.iand Xj66.here hx rfl (hb hby at_70) rfl ?_
                refine XS.iload Xj66.here hx rfl (hb hby at_71) rfl ?_
                refine iremM Xj66 hx rfl (hb hby at_73) rfl (own_nz hn0) ?_
                refine XS.istore Xj66.here hx rfl (hb hby at_74) rfl (l' := #[.val (.int p1), .val (.int p2), .val (.int p3), .val (.int p4), .val (.int p5), .val (.int n), .val (.int (1 : Int32)), .val (.int (1 : Int32)), .val (.int (1 : Int32)), .val (.int xa), .val (.int xb), .val (.int ((p5 &&& (2147483647 : Int32)) % n)), .unset, .unset, .unset]) rfl ?_
                exact kt
              show own_End p e below s (Tj66.setTop (mkF m 76 #[.val (.int p1), .val (.int p2), .val (.int p3), .val (.int p4), .val (.int p5), .val (.int n), .val (.int (1 : Int32)), .val (.int (1 : Int32)), .val (.int (1 : Int32)), .val (.int xa), .val (.int xb), .val (.int ((p5 &&& (2147483647 : Int32)) % n)), .unset, .unset, .unset] [])) (Q0 Z p1 p2 p3 p4 p5 h0 n0) room_1.cells room_1.slots
              have j76 : ∀ (Tj76 : State) (Lj76 : List Loc) (Xj76 : Stand p l e room_1 s m #[(.int p1), (.int p2), (.int p3), (.int p4), (.int p5)] below meth c Tj76 Lj76 0 0) (ej76 : Tj76.heap = h0) (Nj76 : Fr n0 Lj76) (xq : Int32) (hxq0 : 0 ≤ xq.toInt) (hxq1 : xq.toInt < n.toInt), own_law p1 p2 p3 p4 p5 = own_law_76bbbbbbb p1 p2 p3 p4 p5 n xa xb xq → own_End p e below s (Tj76.setTop (mkF m 76 #[.val (.int p1), .val (.int p2), .val (.int p3), .val (.int p4), .val (.int p5), .val (.int n), .val (.int (1 : Int32)), .val (.int (1 : Int32)), .val (.int (1 : Int32)), .val (.int xa), .val (.int xb), .val (.int xq), .unset, .unset, .unset] [])) (Q0 Z p1 p2 p3 p4 p5 h0 n0) room_1.cells room_1.slots := by
                intro Tj76 Lj76 Xj76 ej76 Nj76 xq hxq0 hxq1 hj
                obtain ⟨T239, h239, X239, e239, E239, A239, D239, -, st239⟩ := newO Xj76 hx hZ hown (hw _ (List.mem_of_getElem? (i := 1) rfl)) (hw _ (List.mem_of_getElem? (i := 2) rfl)) (hw _ (List.mem_of_getElem? (i := 3) rfl)) ej76 (g := (mkF m 76 #[.val (.int p1), .val (.int p2), .val (.int p3), .val (.int p4), .val (.int p5), .val (.int n), .val (.int (1 : Int32)), .val (.int (1 : Int32)), .val (.int (1 : Int32)), .val (.int xa), .val (.int xb), .val (.int xq), .unset, .unset, .unset] [])) rfl (hb hby at_76) (by decide) (by decide)
                obtain ⟨b239, g239⟩ : ∃ z, z = h0.size := ⟨_, rfl⟩
                rw [← g239] at A239 D239 st239
                have g_b239 : n0 ≤ b239 := Nat.le_trans Z0 (Nat.le_of_eq g239.symm)
                have sz_b239 : h0.size ≤ b239 := Nat.le_trans (show Keep h0 h0 [] from (Keep.refl h0 _)).1 (Nat.le_of_eq g239.symm)
                have K239 : Keep h0 h239 [] := Keep.ext (Keep.refl h0 _) E239
                have Z239 : n0 ≤ h239.size := Nat.le_trans Z0 E239.1
                have F_stamp_b239 : Fld Z h239 b239 "com/example/libfacet/libfacet/regex/StateSet" "stamp" "I" (.int (0 : Int32)) := D239 (Or.inl (hw _ (List.mem_of_getElem? (i := 11) rfl))) (ty := .int) (by decide)
                have F_stack_b239 : Fld Z h239 b239 "com/example/libfacet/libfacet/regex/StateSet" "stack" "[I" .null := D239 (Or.inl (hw _ (List.mem_of_getElem? (i := 14) rfl))) (ty := (.array .int)) (by decide)
                have F_instructions_b239 : Fld Z h239 b239 "com/example/libfacet/libfacet/regex/StateSet" "instructions" "I" (.int (0 : Int32)) := D239 (Or.inr (hw _ (List.mem_of_getElem? (i := 16) rfl))) (ty := .int) (by decide)
                have F_members_b239 : Fld Z h239 b239 "com/example/libfacet/libfacet/regex/StateSet" "members" "[I" .null := D239 (Or.inl (hw _ (List.mem_of_getElem? (i := 18) rfl))) (ty := (.array .int)) (by decide)
                have F_marks_b239 : Fld Z h239 b239 "com/example/libfacet/libfacet/regex/StateSet" "marks" "[C" .null := D239 (Or.inr (hw _ (List.mem_of_getElem? (i := 20) rfl))) (ty := (.array .char)) (by decide)
                have F_markBits_b239 : Fld Z h239 b239 "com/example/libfacet/libfacet/regex/StateSet" "markBits" "[J" .null := D239 (Or.inr (hw _ (List.mem_of_getElem? (i := 23) rfl))) (ty := (.array .long)) (by decide)
                have F_marked_b239 : Fld Z h239 b239 "com/example/libfacet/libfacet/regex/StateSet" "marked" "[I" .null := D239 (Or.inl (hw _ (List.mem_of_getElem? (i := 25) rfl))) (ty := (.array .int)) (by decide)
                have F_markedCount_b239 : Fld Z h239 b239 "com/example/libfacet/libfacet/regex/StateSet" "markedCount" "I" (.int (0 : Int32)) := D239 (Or.inl (hw _ (List.mem_of_getElem? (i := 37) rfl))) (ty := .int) (by decide)
                have F_size_b239 : Fld Z h239 b239 "com/example/libfacet/libfacet/regex/StateSet" "size" "I" (.int (0 : Int32)) := D239 (Or.inl (hw _ (List.mem_of_getElem? (i := 44) rfl))) (ty := .int) (by decide)
                obtain ⟨_, _, ⟨T240, L240, k240, n240⟩, -, X240, ⟨Lc240, hQ240, l240, y240, z240⟩, st240⟩ := X239.specialBack hx (y := (⟨"com/example/libfacet/libfacet/regex/StateSet", "<init>", "(IZ)V"⟩ : MethodName)) rfl hown (mvT hZ (hw _ (List.mem_of_getElem? (i := 4) rfl))) (mvT hZ (hw _ (List.mem_of_getElem? (i := 5) rfl))) (mvT hZ (hw _ (List.mem_of_getElem? (i := 6) rfl))) (by decide) (backOf (W := 1) (rm1L l Z a0 hw [] b239 n (0 : Int32) (0 : Int32) (0 : Int32) (0 : Int32) h239 n0 Z239 ⟨A239, F_stamp_b239, F_stack_b239, F_instructions_b239, F_members_b239, F_marks_b239, F_markBits_b239, F_marked_b239, F_markedCount_b239, F_size_b239⟩ g_b239 hn0 hn1) hZ (hw _ (List.mem_of_getElem? (i := 6) rfl)) (hw _ (List.mem_of_getElem? (i := 3) rfl)) (by decide) (by decide)) (g := (mkF m 84 #[.val (.int p1), .val (.int p2), .val (.int p3), .val (.int p4), .val (.int p5), .val (.int n), .val (.int (1 : Int32)), .val (.int (1 : Int32)), .val (.int (1 : Int32)), .val (.int xa), .val (.int xb), .val (.int xq), .unset, .unset, .unset] [(.int (1 : Int32)), (.int n), (.ref b239), (.ref b239)])) rfl (by rw [hml]; rfl) (Steps.refl _) (a := b239) (argsL := [(.int n), (.int (1 : Int32))]) (rest := [(.ref b239)]) (lenOf pd_0_0 rfl) rfl (by show 2 * 0 + _ ≤ _; exact Nat.le_of_eq rfl) (hb hby at_84) (fun _ _ => ⟨rfl, e239, (by decide : 1 + 3 ≤ _), (by decide : 10 + 36 ≤ _)⟩)
                dsimp only [Pt.U, Pt.locs, Pt.cells, Pt.slots] at X240 l240 y240 z240 st240 hQ240
                subst l240 y240 z240
                obtain ⟨rfl, N240q, c240_ab, c240_am, Kq240, O240_0, szq_c240_ab, P240_ab_0, szq_c240_am, P240_am_0, ne_c240_ab_c240_am⟩ := hQ240
                have ne_b239_c240_ab : b239 ≠ c240_ab := Nat.ne_of_lt (Nat.lt_of_lt_of_le A239.lt szq_c240_ab)
                have g_c240_ab : n0 ≤ c240_ab := Nat.le_trans Z239 szq_c240_ab
                have sz_c240_ab : h0.size ≤ c240_ab := Nat.le_trans (show Keep h0 h239 [] from K239).1 szq_c240_ab
                have ne_b239_c240_am : b239 ≠ c240_am := Nat.ne_of_lt (Nat.lt_of_lt_of_le A239.lt szq_c240_am)
                have g_c240_am : n0 ≤ c240_am := Nat.le_trans Z239 szq_c240_am
                have sz_c240_am : h0.size ≤ c240_am := Nat.le_trans (show Keep h0 h239 [] from K239).1 szq_c240_am
                have N240 := Fr.app Nj76 N240q
                have fE_b239_x240 := (A239.keep Kq240)
                have K240 : Keep h0 T240.heap [] := Keep.trans K239 Kq240 (allS (Or.inr sz_b239) all0)
                have Z240 : n0 ≤ T240.heap.size := Nat.le_trans Z239 Kq240.1
                obtain ⟨E_b239_241, F_markBits_b239_242, F_marked_b239_243, F_markedCount_b239_244, F_size_b239_245⟩ := O240_0
                obtain ⟨cq246, kq246, q246a, q246b, q246c⟩ := isOf hZ rfl E_b239_241
                obtain ⟨_, _, ⟨T246, L246, k246, n246⟩, -, X246, ⟨Lc246, hQ246, l246, y246, z246⟩, st246⟩ := X240.virtualBack hx (y := (⟨"com/example/libfacet/libfacet/regex/StateSet", "isMarked", "(I)Z"⟩ : MethodName)) (z := (⟨"com/example/libfacet/libfacet/regex/StateSet", "isMarked", "(I)Z"⟩ : MethodName)) hown (mvT hZ (hw _ (List.mem_of_getElem? (i := 26) rfl))) (mvT hZ (hw _ (List.mem_of_getElem? (i := 27) rfl))) (notFace_of_selects (args := #[]) (mvT hZ (hw _ (List.mem_of_getElem? (i := 29) rfl)))) (mvT hZ (hw _ (List.mem_of_getElem? (i := 29) rfl))) (mvT hZ (hw _ (List.mem_of_getElem? (i := 28) rfl))) (by decide) (backOf (W := 0) (rm3L l Z a0 hw [] b239 xq c240_ab c240_am (0 : Int32) (0 : Int32) (fun _ => (0 : Int64)) (((n + (63 : Int32)).toUInt32 >>> ((6 : Int32) &&& 31).toUInt32).toInt32) T240.heap n0 Z240 ⟨E_b239_241, F_markBits_b239_242, F_marked_b239_243, F_markedCount_b239_244, F_size_b239_245⟩ P240_ab_0 (own_wd hn0 hn1 hxq0 hxq1)) hZ (hw _ (List.mem_of_getElem? (i := 30) rfl)) (hw _ (List.mem_of_getElem? (i := 3) rfl)) (by decide) (by decide)) q246a q246c (g := (mkF m 93 #[.val (.int p1), .val (.int p2), .val (.int p3), .val (.int p4), .val (.int p5), .val (.int n), .val (.int (1 : Int32)), .val (.int (1 : Int32)), .val (.int (1 : Int32)), .val (.int xa), .val (.int xb), .val (.int xq), .val (.ref b239), .unset, .unset] [(.int xq), (.ref b239)])) rfl (by rw [hml]; rfl) (Steps.refl _) (argsL := [(.int xq)]) (rest := []) (lenOf pd_0_1 rfl) rfl (by show 2 * 0 + _ ≤ _; exact Nat.le_of_eq rfl) (hb hby at_93) (fun _ _ => ⟨rfl, rfl, (by decide : 4 + 0 ≤ _), (by decide : 46 + 0 ≤ _)⟩)
                dsimp only [Pt.U, Pt.locs, Pt.cells, Pt.slots] at X246 l246 y246 z246 st246 hQ246
                subst l246 y246 z246
                obtain ⟨rfl, N246q, e246⟩ := hQ246
                have N246 := Fr.app N240 N246q
                refine own_pre (A := T246.setTop (mkF m 96 #[.val (.int p1), .val (.int p2), .val (.int p3), .val (.int p4), .val (.int p5), .val (.int n), .val (.int (1 : Int32)), .val (.int (1 : Int32)), .val (.int (1 : Int32)), .val (.int xa), .val (.int xb), .val (.int xq), .val (.ref b239), .unset, .unset] [(.int (own_isL xq (fun _ => (0 : Int64)) (((n + (63 : Int32)).toUInt32 >>> ((6 : Int32) &&& 31).toUInt32).toInt32) (0 : Int32) (0 : Int32)))])) (fun tt kt => ?_) ?_
                · show Steps p.tables e below (Tj76.setTop (mkF m 76 #[.val (.int p1), .val (.int p2), .val (.int p3), .val (.int p4), .val (.int p5), .val (.int n), .val (.int (1 : Int32)), .val (.int (1 : Int32)), .val (.int (1 : Int32)), .val (.int xa), .val (.int xb), .val (.int xq), .unset, .unset, .unset] [])) _
                  refine st239 _ ?_
                  show Steps p.tables e below (T239.setTop (mkF m 79 #[.val (.int p1), .val (.int p2), .val (.int p3), .val (.int p4), .val (.int p5), .val (.int n), .val (.int (1 : Int32)), .val (.int (1 : Int32)), .val (.int (1 : Int32)), .val (.int xa), .val (.int xb), .val (.int xq), .unset, .unset, .unset] [(.ref b239)])) _
                  refine XS.dup X239.here hx rfl (hb hby at_79) rfl rfl ?_
                  refine XS.iload X239.here hx rfl (hb hby at_80) rfl ?_
                  refine XS.iload X239.here hx rfl (hb hby at_82) rfl ?_
                  show Steps p.tables e below (T239.setTop (mkF m 84 #[.val (.int p1), .val (.int p2), .val (.int p3), .val (.int p4), .val (.int p5), .val (.int n), .val (.int (1 : Int32)), .val (.int (1 : Int32)), .val (.int (1 : Int32)), .val (.int xa), .val (.int xb), .val (.int xq), .unset, .unset, .unset] [(.int (1 : Int32)), (.int n), (.ref b239), (.ref b239)])) _
                  refine st240.trans ?_
                  show Steps p.tables e below (T240.setTop (mkF m 87 #[.val (.int p1), .val (.int p2), .val (.int p3), .val (.int p4), .val (.int p5), .val (.int n), .val (.int (1 : Int32)), .val (.int (1 : Int32)), .val (.int (1 : Int32)), .val (.int xa), .val (.int xb), .val (.int xq), .unset, .unset, .unset] [(.ref b239)])) _
                  refine XS.astore X240.here hx rfl (hb hby at_87) rfl rfl (l' := #[.val (.int p1), .val (.int p2), .val (.int p3), .val (.int p4), .val (.int p5), .val (.int n), .val (.int (1 : Int32)), .val (.int (1 : Int32)), .val (.int (1 : Int32)), .val (.int xa), .val (.int xb), .val (.int xq), .val (.ref b239), .unset, .unset]) rfl ?_
                  refine XS.aload X240.here hx rfl (hb hby at_89) rfl rfl ?_
                  refine XS.iload X240.here hx rfl (hb hby at_91) rfl ?_
                  show Steps p.tables e below (T240.setTop (mkF m 93 #[.val (.int p1), .val (.int p2), .val (.int p3), .val (.int p4), .val (.int p5), .val (.int n), .val (.int (1 : Int32)), .val (.int (1 : Int32)), .val (.int (1 : Int32)), .val (.int xa), .val (.int xb), .val (.int xq), .val (.ref b239), .unset, .unset] [(.int xq), (.ref b239)])) _
                  refine st246.trans ?_
                  exact kt
                show own_End p e below s (T246.setTop (mkF m 96 #[.val (.int p1), .val (.int p2), .val (.int p3), .val (.int p4), .val (.int p5), .val (.int n), .val (.int (1 : Int32)), .val (.int (1 : Int32)), .val (.int (1 : Int32)), .val (.int xa), .val (.int xb), .val (.int xq), .val (.ref b239), .unset, .unset] [(.int (own_isL xq (fun _ => (0 : Int64)) (((n + (63 : Int32)).toUInt32 >>> ((6 : Int32) &&& 31).toUInt32).toInt32) (0 : Int32) (0 : Int32)))])) (Q0 Z p1 p2 p3 p4 p5 h0 n0) room_1.cells room_1.slots
                have j104 : ∀ (Tj104 : State) (Lj104 : List Loc) (Xj104 : Stand p l e room_1 s m #[(.int p1), (.int p2), (.int p3), (.int p4), (.int p5)] below meth c Tj104 Lj104 4 46) (ej104 : Tj104.heap = T240.heap) (Nj104 : Fr n0 Lj104) (ok1 : Int32) , own_law p1 p2 p3 p4 p5 = own_law_104bbbbbbb p1 p2 p3 p4 p5 n xa xb xq ok1 → own_End p e below s (Tj104.setTop (mkF m 104 #[.val (.int p1), .val (.int p2), .val (.int p3), .val (.int p4), .val (.int p5), .val (.int n), .val (.int (1 : Int32)), .val (.int (1 : Int32)), .val (.int (1 : Int32)), .val (.int xa), .val (.int xb), .val (.int xq), .val (.ref b239), .unset, .unset] [(.int ok1)])) (Q0 Z p1 p2 p3 p4 p5 h0 n0) room_1.cells room_1.slots := by
                  intro Tj104 Lj104 Xj104 ej104 Nj104 ok1  hj
                  obtain ⟨cq247, kq247, q247a, q247b, q247c⟩ := isOf hZ ej104 E_b239_241
                  obtain ⟨_, _, ⟨T247, L247, k247, n247⟩, -, X247, ⟨Lc247, hQ247, l247, y247, z247⟩, st247⟩ := Xj104.virtualBack hx (y := (⟨"com/example/libfacet/libfacet/regex/StateSet", "mark", "(I)Z"⟩ : MethodName)) (z := (⟨"com/example/libfacet/libfacet/regex/StateSet", "mark", "(I)Z"⟩ : MethodName)) hown (mvT hZ (hw _ (List.mem_of_getElem? (i := 31) rfl))) (mvT hZ (hw _ (List.mem_of_getElem? (i := 32) rfl))) (notFace_of_selects (args := #[]) (mvT hZ (hw _ (List.mem_of_getElem? (i := 34) rfl)))) (mvT hZ (hw _ (List.mem_of_getElem? (i := 34) rfl))) (mvT hZ (hw _ (List.mem_of_getElem? (i := 33) rfl))) (by decide) (backOf (W := 0) (rm4Lu l Z a0 hw [] b239 xa c240_ab c240_am (0 : Int32) (0 : Int32) (fun _ => (0 : Int64)) (((n + (63 : Int32)).toUInt32 >>> ((6 : Int32) &&& 31).toUInt32).toInt32) (fun _ => (0 : Int32)) T240.heap n0 Z240 ⟨E_b239_241, F_markBits_b239_242, F_marked_b239_243, F_markedCount_b239_244, F_size_b239_245⟩ P240_ab_0 P240_am_0 ne_b239_c240_ab ne_b239_c240_am ne_c240_ab_c240_am g_b239 g_c240_ab g_c240_am (own_wd hn0 hn1 hxa0 hxa1) (own_zand _) (by decide) (by decide)) hZ (hw _ (List.mem_of_getElem? (i := 35) rfl)) (hw _ (List.mem_of_getElem? (i := 3) rfl)) (by decide) (by decide)) q247a q247c (g := (mkF m 110 #[.val (.int p1), .val (.int p2), .val (.int p3), .val (.int p4), .val (.int p5), .val (.int n), .val (.int (1 : Int32)), .val (.int (1 : Int32)), .val (.int (1 : Int32)), .val (.int xa), .val (.int xb), .val (.int xq), .val (.ref b239), .val (.int ok1), .unset] [(.int xa), (.ref b239)])) rfl (by rw [hml]; rfl) (Steps.refl _) (argsL := [(.int xa)]) (rest := []) (lenOf pd_0_1 rfl) rfl (by show 2 * 0 + _ ≤ _; exact Nat.le_of_eq rfl) (hb hby at_110) (fun _ _ => ⟨rfl, ej104, (by decide : 4 + 0 ≤ _), (by decide : 46 + 0 ≤ _)⟩)
                  dsimp only [Pt.U, Pt.locs, Pt.cells, Pt.slots] at X247 l247 y247 z247 st247 hQ247
                  subst l247 y247 z247
                  obtain ⟨rfl, N247q, Kq247, O247_0, V247_0, V247_1⟩ := hQ247
                  have N247 := Fr.app Nj104 N247q
                  have fE_b239_x247 := (E_b239_241.keep Kq247)
                  have K247 : Keep h0 T247.heap [] := Keep.trans K240 Kq247 (allS (Or.inr sz_b239) (allS (Or.inr sz_c240_ab) (allS (Or.inr sz_c240_am) all0)))
                  have Z247 : n0 ≤ T247.heap.size := Nat.le_trans Z240 Kq247.1
                  obtain ⟨E_b239_248, F_markBits_b239_249, F_marked_b239_250, F_markedCount_b239_251, F_size_b239_252⟩ := O247_0
                  refine own_pre (A := T247.setTop (mkF m 116 #[.val (.int p1), .val (.int p2), .val (.int p3), .val (.int p4), .val (.int p5), .val (.int n), .val (.int (1 : Int32)), .val (.int (1 : Int32)), .val (.int (1 : Int32)), .val (.int xa), .val (.int xb), .val (.int xq), .val (.ref b239), .val (.int ok1), .unset] [(.int ok1)])) (fun tt kt => ?_) ?_
                  · show Steps p.tables e below (Tj104.setTop (mkF m 104 #[.val (.int p1), .val (.int p2), .val (.int p3), .val (.int p4), .val (.int p5), .val (.int n), .val (.int (1 : Int32)), .val (.int (1 : Int32)), .val (.int (1 : Int32)), .val (.int xa), .val (.int xb), .val (.int xq), .val (.ref b239), .unset, .unset] [(.int ok1)])) _
                    refine XS.istore Xj104.here hx rfl (hb hby at_104) rfl (l' := #[.val (.int p1), .val (.int p2), .val (.int p3), .val (.int p4), .val (.int p5), .val (.int n), .val (.int (1 : Int32)), .val (.int (1 : Int32)), .val (.int (1 : Int32)), .val (.int xa), .val (.int xb), .val (.int xq), .val (.ref b239), .val (.int ok1), .unset]) rfl ?_
                    refine XS.aload Xj104.here hx rfl (hb hby at_106) rfl rfl ?_
                    refine XS.iload Xj104.here hx rfl (hb hby at_108) rfl ?_
                    show Steps p.tables e below (Tj104.setTop (mkF m 110 #[.val (.int p1), .val (.int p2), .val (.int p3), .val (.int p4), .val (.int p5), .val (.int n), .val (.int (1 : Int32)), .val (.int (1 : Int32)), .val (.int (1 : Int32)), .val (.int xa), .val (.int xb), .val (.int xq), .val (.ref b239), .val (.int ok1), .unset] [(.int xa), (.ref b239)])) _
                    refine st247.trans ?_
                    show Steps p.tables e below (T247.setTop (mkF m 113 #[.val (.int p1), .val (.int p2), .val (.int p3), .val (.int p4), .val (.int p5), .val (.int n), .val (.int (1 : Int32)), .val (.int (1 : Int32)), .val (.int (1 : Int32)), .val (.int xa), .val (.int xb), .val (.int xq), .val (.ref b239), .val (.int ok1), .unset] [(.int (1 : Int32))])) _
                    refine XS.pop X247.here hx rfl (hb hby at_113) rfl rfl ?_
                    refine XS.iload X247.here hx rfl (hb hby at_114) rfl ?_
                    exact kt
                  show own_End p e below s (T247.setTop (mkF m 116 #[.val (.int p1), .val (.int p2), .val (.int p3), .val (.int p4), .val (.int p5), .val (.int n), .val (.int (1 : Int32)), .val (.int (1 : Int32)), .val (.int (1 : Int32)), .val (.int xa), .val (.int xb), .val (.int xq), .val (.ref b239), .val (.int ok1), .unset] [(.int ok1)])) (Q0 Z p1 p2 p3 p4 p5 h0 n0) room_1.cells room_1.slots
                  have j134 : ∀ (Tj134 : State) (Lj134 : List Loc) (Xj134 : Stand p l e room_1 s m #[(.int p1), (.int p2), (.int p3), (.int p4), (.int p5)] below meth c Tj134 Lj134 4 46) (ej134 : Tj134.heap = T247.heap) (Nj134 : Fr n0 Lj134) (ok2 : Int32) , own_law p1 p2 p3 p4 p5 = own_law_134bbbbbbb p1 p2 p3 p4 p5 n xa xb xq ok1 ok2 → own_End p e below s (Tj134.setTop (mkF m 134 #[.val (.int p1), .val (.int p2), .val (.int p3), .val (.int p4), .val (.int p5), .val (.int n), .val (.int (1 : Int32)), .val (.int (1 : Int32)), .val (.int (1 : Int32)), .val (.int xa), .val (.int xb), .val (.int xq), .val (.ref b239), .val (.int ok1), .unset] [(.int ok2)])) (Q0 Z p1 p2 p3 p4 p5 h0 n0) room_1.cells room_1.slots := by
                    intro Tj134 Lj134 Xj134 ej134 Nj134 ok2  hj
                    obtain ⟨cq253, kq253, q253a, q253b, q253c⟩ := isOf hZ ej134 E_b239_248
                    obtain ⟨_, _, ⟨T253, L253, k253, n253⟩, -, X253, ⟨Lc253, hQ253, l253, y253, z253⟩, st253⟩ := Xj134.virtualBack hx (y := (⟨"com/example/libfacet/libfacet/regex/StateSet", "clear", "()V"⟩ : MethodName)) (z := (⟨"com/example/libfacet/libfacet/regex/StateSet", "clear", "()V"⟩ : MethodName)) hown (mvT hZ (hw _ (List.mem_of_getElem? (i := 38) rfl))) (mvT hZ (hw _ (List.mem_of_getElem? (i := 39) rfl))) (notFace_of_selects (args := #[]) (mvT hZ (hw _ (List.mem_of_getElem? (i := 41) rfl)))) (mvT hZ (hw _ (List.mem_of_getElem? (i := 41) rfl))) (mvT hZ (hw _ (List.mem_of_getElem? (i := 40) rfl))) (by decide) (backOf (W := 0) (rm5L1 l Z a0 hw [] b239 c240_ab c240_am (0 : Int32) (own_orb (fun _ => (0 : Int64)) xa) (((n + (63 : Int32)).toUInt32 >>> ((6 : Int32) &&& 31).toUInt32).toInt32) (own_put (fun _ => (0 : Int32)) (0 : Int32) xa) T247.heap n0 Z247 ⟨E_b239_248, F_markBits_b239_249, F_marked_b239_250, F_markedCount_b239_251, F_size_b239_252⟩ V247_0 V247_1 ne_b239_c240_ab ne_b239_c240_am ne_c240_ab_c240_am g_b239 g_c240_ab (own_wd hn0 hn1 hxa0 hxa1)) hZ (hw _ (List.mem_of_getElem? (i := 42) rfl)) (hw _ (List.mem_of_getElem? (i := 3) rfl)) (by decide) (by decide)) q253a q253c (g := (mkF m 143 #[.val (.int p1), .val (.int p2), .val (.int p3), .val (.int p4), .val (.int p5), .val (.int n), .val (.int (1 : Int32)), .val (.int (1 : Int32)), .val (.int (1 : Int32)), .val (.int xa), .val (.int xb), .val (.int xq), .val (.ref b239), .val (.int ok2), .unset] [(.ref b239)])) rfl (by rw [hml]; rfl) (Steps.refl _) (argsL := []) (rest := []) (lenOf pd_0_2 rfl) rfl (by show 2 * 0 + _ ≤ _; exact Nat.le_of_eq rfl) (hb hby at_143) (fun _ _ => ⟨rfl, ej134, (by decide : 4 + 0 ≤ _), (by decide : 46 + 0 ≤ _)⟩)
                    dsimp only [Pt.U, Pt.locs, Pt.cells, Pt.slots] at X253 l253 y253 z253 st253 hQ253
                    subst l253 y253 z253
                    obtain ⟨rfl, N253q, Kq253, O253_0, V253_0⟩ := hQ253
                    have N253 := Fr.app Nj134 N253q
                    have fE_b239_x253 := (E_b239_248.keep Kq253)
                    have fA_c240_am_x253 := (V247_1.keep Kq253 (ninS (Ne.symm ne_b239_c240_am) (ninS (Ne.symm ne_c240_ab_c240_am) nin0)))
                    have K253 : Keep h0 T253.heap [] := Keep.trans K247 Kq253 (allS (Or.inr sz_b239) (allS (Or.inr sz_c240_ab) all0))
                    have Z253 : n0 ≤ T253.heap.size := Nat.le_trans Z247 Kq253.1
                    obtain ⟨E_b239_254, F_markBits_b239_255, F_marked_b239_256, F_markedCount_b239_257, F_size_b239_258⟩ := O253_0
                    refine own_pre (A := T253.setTop (mkF m 150 #[.val (.int p1), .val (.int p2), .val (.int p3), .val (.int p4), .val (.int p5), .val (.int n), .val (.int (1 : Int32)), .val (.int (1 : Int32)), .val (.int (1 : Int32)), .val (.int xa), .val (.int xb), .val (.int xq), .val (.ref b239), .val (.int ok2), .unset] [(.int xb), (.ref b239)])) (fun tt kt => ?_) ?_
                    · show Steps p.tables e below (Tj134.setTop (mkF m 134 #[.val (.int p1), .val (.int p2), .val (.int p3), .val (.int p4), .val (.int p5), .val (.int n), .val (.int (1 : Int32)), .val (.int (1 : Int32)), .val (.int (1 : Int32)), .val (.int xa), .val (.int xb), .val (.int xq), .val (.ref b239), .val (.int ok1), .unset] [(.int ok2)])) _
                      refine XS.istore Xj134.here hx rfl (hb hby at_134) rfl (l' := #[.val (.int p1), .val (.int p2), .val (.int p3), .val (.int p4), .val (.int p5), .val (.int n), .val (.int (1 : Int32)), .val (.int (1 : Int32)), .val (.int (1 : Int32)), .val (.int xa), .val (.int xb), .val (.int xq), .val (.ref b239), .val (.int ok2), .unset]) rfl ?_
                      refine XS.iload Xj134.here hx rfl (hb hby at_136) rfl ?_
                      refine XS.ifNo Xj134.here hx rfl (hb hby at_138) rfl ((if0 _ _).trans (feq ((by decide) : ¬ ((1 : Int32) = (0 : Int32)))).1) ?_
                      refine XS.aload Xj134.here hx rfl (hb hby at_141) rfl rfl ?_
                      show Steps p.tables e below (Tj134.setTop (mkF m 143 #[.val (.int p1), .val (.int p2), .val (.int p3), .val (.int p4), .val (.int p5), .val (.int n), .val (.int (1 : Int32)), .val (.int (1 : Int32)), .val (.int (1 : Int32)), .val (.int xa), .val (.int xb), .val (.int xq), .val (.ref b239), .val (.int ok2), .unset] [(.ref b239)])) _
                      refine st253.trans ?_
                      show Steps p.tables e below (T253.setTop (mkF m 146 #[.val (.int p1), .val (.int p2), .val (.int p3), .val (.int p4), .val (.int p5), .val (.int n), .val (.int (1 : Int32)), .val (.int (1 : Int32)), .val (.int (1 : Int32)), .val (.int xa), .val (.int xb), .val (.int xq), .val (.ref b239), .val (.int ok2), .unset] [])) _
                      refine XS.aload X253.here hx rfl (hb hby at_146) rfl rfl ?_
                      refine XS.iload X253.here hx rfl (hb hby at_148) rfl ?_
                      exact kt
                    show own_End p e below s (T253.setTop (mkF m 150 #[.val (.int p1), .val (.int p2), .val (.int p3), .val (.int p4), .val (.int p5), .val (.int n), .val (.int (1 : Int32)), .val (.int (1 : Int32)), .val (.int (1 : Int32)), .val (.int xa), .val (.int xb), .val (.int xq), .val (.ref b239), .val (.int ok2), .unset] [(.int xb), (.ref b239)])) (Q0 Z p1 p2 p3 p4 p5 h0 n0) room_1.cells room_1.slots
                    by_cases hU259 : (((own_zero (own_orb (fun _ => (0 : Int64)) xa) ((own_put (fun _ => (0 : Int32)) (0 : Int32) xa) 0)) ((xb.toUInt32 >>> ((6 : Int32) &&& 31).toUInt32).toInt32).toNatClampNeg) &&& ((1 : Int64) <<< (xb &&& 0x3f).toInt64)) = (0 : Int64)
                    · obtain ⟨cq260, kq260, q260a, q260b, q260c⟩ := isOf hZ rfl E_b239_254
                      obtain ⟨_, _, ⟨T260, L260, k260, n260⟩, -, X260, ⟨Lc260, hQ260, l260, y260, z260⟩, st260⟩ := X253.virtualBack hx (y := (⟨"com/example/libfacet/libfacet/regex/StateSet", "mark", "(I)Z"⟩ : MethodName)) (z := (⟨"com/example/libfacet/libfacet/regex/StateSet", "mark", "(I)Z"⟩ : MethodName)) hown (mvT hZ (hw _ (List.mem_of_getElem? (i := 31) rfl))) (mvT hZ (hw _ (List.mem_of_getElem? (i := 32) rfl))) (notFace_of_selects (args := #[]) (mvT hZ (hw _ (List.mem_of_getElem? (i := 34) rfl)))) (mvT hZ (hw _ (List.mem_of_getElem? (i := 34) rfl))) (mvT hZ (hw _ (List.mem_of_getElem? (i := 33) rfl))) (by decide) (backOf (W := 0) (rm4Lu l Z a0 hw [] b239 xb c240_ab c240_am (0 : Int32) (0 : Int32) (own_zero (own_orb (fun _ => (0 : Int64)) xa) ((own_put (fun _ => (0 : Int32)) (0 : Int32) xa) 0)) (((n + (63 : Int32)).toUInt32 >>> ((6 : Int32) &&& 31).toUInt32).toInt32) (own_put (fun _ => (0 : Int32)) (0 : Int32) xa) T253.heap n0 Z253 ⟨E_b239_254, F_markBits_b239_255, F_marked_b239_256, F_markedCount_b239_257, F_size_b239_258⟩ V253_0 fA_c240_am_x253 ne_b239_c240_ab ne_b239_c240_am ne_c240_ab_c240_am g_b239 g_c240_ab g_c240_am (own_wd hn0 hn1 hxb0 hxb1) hU259 (by decide) (by decide)) hZ (hw _ (List.mem_of_getElem? (i := 35) rfl)) (hw _ (List.mem_of_getElem? (i := 3) rfl)) (by decide) (by decide)) q260a q260c (g := (mkF m 150 #[.val (.int p1), .val (.int p2), .val (.int p3), .val (.int p4), .val (.int p5), .val (.int n), .val (.int (1 : Int32)), .val (.int (1 : Int32)), .val (.int (1 : Int32)), .val (.int xa), .val (.int xb), .val (.int xq), .val (.ref b239), .val (.int ok2), .unset] [(.int xb), (.ref b239)])) rfl (by rw [hml]; rfl) (Steps.refl _) (argsL := [(.int xb)]) (rest := []) (lenOf pd_0_1 rfl) rfl (by show 2 * 0 + _ ≤ _; exact Nat.le_of_eq rfl) (hb hby at_150) (fun _ _ => ⟨rfl, rfl, (by decide : 4 + 0 ≤ _), (by decide : 46 + 0 ≤ _)⟩)
                      dsimp only [Pt.U, Pt.locs, Pt.cells, Pt.slots] at X260 l260 y260 z260 st260 hQ260
                      subst l260 y260 z260
                      obtain ⟨rfl, N260q, Kq260, O260_0, V260_0, V260_1⟩ := hQ260
                      have N260 := Fr.app N253 N260q
                      have fE_b239_x260 := (E_b239_254.keep Kq260)
                      have K260 : Keep h0 T260.heap [] := Keep.trans K253 Kq260 (allS (Or.inr sz_b239) (allS (Or.inr sz_c240_ab) (allS (Or.inr sz_c240_am) all0)))
                      have Z260 : n0 ≤ T260.heap.size := Nat.le_trans Z253 Kq260.1
                      obtain ⟨E_b239_261, F_markBits_b239_262, F_marked_b239_263, F_markedCount_b239_264, F_size_b239_265⟩ := O260_0
                      obtain ⟨cq266, kq266, q266a, q266b, q266c⟩ := isOf hZ rfl E_b239_261
                      obtain ⟨_, _, ⟨T266, L266, k266, n266⟩, -, X266, ⟨Lc266, hQ266, l266, y266, z266⟩, st266⟩ := X260.virtualBack hx (y := (⟨"com/example/libfacet/libfacet/regex/StateSet", "clear", "()V"⟩ : MethodName)) (z := (⟨"com/example/libfacet/libfacet/regex/StateSet", "clear", "()V"⟩ : MethodName)) hown (mvT hZ (hw _ (List.mem_of_getElem? (i := 38) rfl))) (mvT hZ (hw _ (List.mem_of_getElem? (i := 39) rfl))) (notFace_of_selects (args := #[]) (mvT hZ (hw _ (List.mem_of_getElem? (i := 41) rfl)))) (mvT hZ (hw _ (List.mem_of_getElem? (i := 41) rfl))) (mvT hZ (hw _ (List.mem_of_getElem? (i := 40) rfl))) (by decide) (backOf (W := 0) (rm5L1 l Z a0 hw [] b239 c240_ab c240_am (0 : Int32) (own_orb (own_zero (own_orb (fun _ => (0 : Int64)) xa) ((own_put (fun _ => (0 : Int32)) (0 : Int32) xa) 0)) xb) (((n + (63 : Int32)).toUInt32 >>> ((6 : Int32) &&& 31).toUInt32).toInt32) (own_put (own_put (fun _ => (0 : Int32)) (0 : Int32) xa) (0 : Int32) xb) T260.heap n0 Z260 ⟨E_b239_261, F_markBits_b239_262, F_marked_b239_263, F_markedCount_b239_264, F_size_b239_265⟩ V260_0 V260_1 ne_b239_c240_ab ne_b239_c240_am ne_c240_ab_c240_am g_b239 g_c240_ab (own_wd hn0 hn1 hxb0 hxb1)) hZ (hw _ (List.mem_of_getElem? (i := 42) rfl)) (hw _ (List.mem_of_getElem? (i := 3) rfl)) (by decide) (by decide)) q266a q266c (g := (mkF m 161 #[.val (.int p1), .val (.int p2), .val (.int p3), .val (.int p4), .val (.int p5), .val (.int n), .val (.int (1 : Int32)), .val (.int (1 : Int32)), .val (.int (1 : Int32)), .val (.int xa), .val (.int xb), .val (.int xq), .val (.ref b239), .val (.int ok2), .unset] [(.ref b239)])) rfl (by rw [hml]; rfl) (Steps.refl _) (argsL := []) (rest := []) (lenOf pd_0_2 rfl) rfl (by show 2 * 0 + _ ≤ _; exact Nat.le_of_eq rfl) (hb hby at_161) (fun _ _ => ⟨rfl, rfl, (by decide : 4 + 0 ≤ _), (by decide : 46 + 0 ≤ _)⟩)
                      dsimp only [Pt.U, Pt.locs, Pt.cells, Pt.slots] at X266 l266 y266 z266 st266 hQ266
                      subst l266 y266 z266
                      obtain ⟨rfl, N266q, Kq266, O266_0, V266_0⟩ := hQ266
                      have N266 := Fr.app N260 N266q
                      have fE_b239_x266 := (E_b239_261.keep Kq266)
                      have fA_c240_am_x266 := (V260_1.keep Kq266 (ninS (Ne.symm ne_b239_c240_am) (ninS (Ne.symm ne_c240_ab_c240_am) nin0)))
                      have K266 : Keep h0 T266.heap [] := Keep.trans K260 Kq266 (allS (Or.inr sz_b239) (allS (Or.inr sz_c240_ab) all0))
                      have Z266 : n0 ≤ T266.heap.size := Nat.le_trans Z260 Kq266.1
                      obtain ⟨E_b239_267, F_markBits_b239_268, F_marked_b239_269, F_markedCount_b239_270, F_size_b239_271⟩ := O266_0
                      refine own_pre (A := T266.setTop (mkF m 197 #[.val (.int p1), .val (.int p2), .val (.int p3), .val (.int p4), .val (.int p5), .val (.int n), .val (.int (1 : Int32)), .val (.int (1 : Int32)), .val (.int (1 : Int32)), .val (.int xa), .val (.int xb), .val (.int xq), .val (.ref b239), .val (.int ok2), .val (.int (0 : Int32))] [(.int ok2)])) (fun tt kt => ?_) ?_
                      · show Steps p.tables e below (T253.setTop (mkF m 150 #[.val (.int p1), .val (.int p2), .val (.int p3), .val (.int p4), .val (.int p5), .val (.int n), .val (.int (1 : Int32)), .val (.int (1 : Int32)), .val (.int (1 : Int32)), .val (.int xa), .val (.int xb), .val (.int xq), .val (.ref b239), .val (.int ok2), .unset] [(.int xb), (.ref b239)])) _
                        refine st260.trans ?_
                        show Steps p.tables e below (T260.setTop (mkF m 153 #[.val (.int p1), .val (.int p2), .val (.int p3), .val (.int p4), .val (.int p5), .val (.int n), .val (.int (1 : Int32)), .val (.int (1 : Int32)), .val (.int (1 : Int32)), .val (.int xa), .val (.int xb), .val (.int xq), .val (.ref b239), .val (.int ok2), .unset] [(.int (1 : Int32))])) _
                        refine XS.pop X260.here hx rfl (hb hby at_153) rfl rfl ?_
                        refine XS.iload X260.here hx rfl (hb hby at_154) rfl ?_
                        refine XS.ifNo X260.here hx rfl (hb hby at_156) rfl ((if0 _ _).trans (feq ((by decide) : ¬ ((1 : Int32) = (0 : Int32)))).1) ?_
                        refine XS.aload X260.here hx rfl (hb hby at_159) rfl rfl ?_
                        show Steps p.tables e below (T260.setTop (mkF m 161 #[.val (.int p1), .val (.int p2), .val (.int p3), .val (.int p4), .val (.int p5), .val (.int n), .val (.int (1 : Int32)), .val (.int (1 : Int32)), .val (.int (1 : Int32)), .val (.int xa), .val (.int xb), .val (.int xq), .val (.ref b239), .val (.int ok2), .unset] [(.ref b239)])) _
                        refine st266.trans ?_
                        show Steps p.tables e below (T266.setTop (mkF m 164 #[.val (.int p1), .val (.int p2), .val (.int p3), .val (.int p4), .val (.int p5), .val (.int n), .val (.int (1 : Int32)), .val (.int (1 : Int32)), .val (.int (1 : Int32)), .val (.int xa), .val (.int xb), .val (.int xq), .val (.ref b239), .val (.int ok2), .unset] [])) _
                        refine XS.iload X266.here hx rfl (hb hby at_164) rfl ?_
                        refine XS.ifYes X266.here hx rfl (pc0 := 166) (pc' := 192) rfl (hb hby at_166) rfl ((if0 _ _).trans (feq ((by decide) : ¬ ((1 : Int32) = (0 : Int32)))).2) (by decide) (by decide) ?_
                        refine XS.iconst X266.here hx rfl (hb hby at_192) ?_
                        refine XS.istore X266.here hx rfl (hb hby at_193) rfl (l' := #[.val (.int p1), .val (.int p2), .val (.int p3), .val (.int p4), .val (.int p5), .val (.int n), .val (.int (1 : Int32)), .val (.int (1 : Int32)), .val (.int (1 : Int32)), .val (.int xa), .val (.int xb), .val (.int xq), .val (.ref b239), .val (.int ok2), .val (.int (0 : Int32))]) rfl ?_
                        refine XS.iload X266.here hx rfl (hb hby at_195) rfl ?_
                        exact kt
                      show own_End p e below s (T266.setTop (mkF m 197 #[.val (.int p1), .val (.int p2), .val (.int p3), .val (.int p4), .val (.int p5), .val (.int n), .val (.int (1 : Int32)), .val (.int (1 : Int32)), .val (.int (1 : Int32)), .val (.int xa), .val (.int xb), .val (.int xq), .val (.ref b239), .val (.int ok2), .val (.int (0 : Int32))] [(.int ok2)])) (Q0 Z p1 p2 p3 p4 p5 h0 n0) room_1.cells room_1.slots
                      by_cases hc197_272 : ok2 = (0 : Int32)
                      · refine own_pre (A := T266.setTop (mkF m 217 #[.val (.int p1), .val (.int p2), .val (.int p3), .val (.int p4), .val (.int p5), .val (.int n), .val (.int (1 : Int32)), .val (.int (1 : Int32)), .val (.int (1 : Int32)), .val (.int xa), .val (.int xb), .val (.int xq), .val (.ref b239), .val (.int ok2), .val (.int (0 : Int32))] [(.int (0 : Int32))])) (fun tt kt => ?_) ?_
                        · show Steps p.tables e below (T266.setTop (mkF m 197 #[.val (.int p1), .val (.int p2), .val (.int p3), .val (.int p4), .val (.int p5), .val (.int n), .val (.int (1 : Int32)), .val (.int (1 : Int32)), .val (.int (1 : Int32)), .val (.int xa), .val (.int xb), .val (.int xq), .val (.ref b239), .val (.int ok2), .val (.int (0 : Int32))] [(.int ok2)])) _
                          refine XS.ifYes X266.here hx rfl (pc0 := 197) (pc' := 216) rfl (hb hby at_197) rfl ((if0 _ _).trans (teq hc197_272).1) (by decide) (by decide) ?_
                          refine XS.iconst X266.here hx rfl (hb hby at_216) ?_
                          exact kt
                        show own_End p e below s (T266.setTop (mkF m 217 #[.val (.int p1), .val (.int p2), .val (.int p3), .val (.int p4), .val (.int p5), .val (.int n), .val (.int (1 : Int32)), .val (.int (1 : Int32)), .val (.int (1 : Int32)), .val (.int xa), .val (.int xb), .val (.int xq), .val (.ref b239), .val (.int ok2), .val (.int (0 : Int32))] [(.int (0 : Int32))])) (Q0 Z p1 p2 p3 p4 p5 h0 n0) room_1.cells room_1.slots
                        have hv : (own_law p1 p2 p3 p4 p5) = (0 : Int32) := hj.trans (by simp only [own_law_134bbbbbbb, if_pos hU259, if_pos hc197_272])
                        obtain ⟨fs, hr, hrun, hended, hW, hsame⟩ := X266.leave (v := some (.int (0 : Int32))) (fun h => by rw [Bd.returns] at h; cases h)
                        refine ⟨_, _, ?_, hrun, hended, _, _, rfl, ?_, ⟨_, rfl⟩, hW, hsame.mono (by decide) (by decide)⟩
                        · exact retN X266 hx (t := .boolean) Bd.returns (by simp) (hb hby at_217) hr
                        · show Q0 Z p1 p2 p3 p4 p5 h0 n0 _ T266.heap _
                          exact ⟨(congrArg (fun z => some (Value.int z)) hv.symm), N266⟩
                      · obtain ⟨cq273, kq273, q273a, q273b, q273c⟩ := isOf hZ rfl E_b239_267
                        obtain ⟨_, _, ⟨T273, L273, k273, n273⟩, -, X273, ⟨Lc273, hQ273, l273, y273, z273⟩, st273⟩ := X266.virtualBack hx (y := (⟨"com/example/libfacet/libfacet/regex/StateSet", "isMarked", "(I)Z"⟩ : MethodName)) (z := (⟨"com/example/libfacet/libfacet/regex/StateSet", "isMarked", "(I)Z"⟩ : MethodName)) hown (mvT hZ (hw _ (List.mem_of_getElem? (i := 26) rfl))) (mvT hZ (hw _ (List.mem_of_getElem? (i := 27) rfl))) (notFace_of_selects (args := #[]) (mvT hZ (hw _ (List.mem_of_getElem? (i := 29) rfl)))) (mvT hZ (hw _ (List.mem_of_getElem? (i := 29) rfl))) (mvT hZ (hw _ (List.mem_of_getElem? (i := 28) rfl))) (by decide) (backOf (W := 0) (rm3L l Z a0 hw [] b239 xq c240_ab c240_am (0 : Int32) (0 : Int32) (own_zero (own_orb (own_zero (own_orb (fun _ => (0 : Int64)) xa) ((own_put (fun _ => (0 : Int32)) (0 : Int32) xa) 0)) xb) ((own_put (own_put (fun _ => (0 : Int32)) (0 : Int32) xa) (0 : Int32) xb) 0)) (((n + (63 : Int32)).toUInt32 >>> ((6 : Int32) &&& 31).toUInt32).toInt32) T266.heap n0 Z266 ⟨E_b239_267, F_markBits_b239_268, F_marked_b239_269, F_markedCount_b239_270, F_size_b239_271⟩ V266_0 (own_wd hn0 hn1 hxq0 hxq1)) hZ (hw _ (List.mem_of_getElem? (i := 30) rfl)) (hw _ (List.mem_of_getElem? (i := 3) rfl)) (by decide) (by decide)) q273a q273c (g := (mkF m 204 #[.val (.int p1), .val (.int p2), .val (.int p3), .val (.int p4), .val (.int p5), .val (.int n), .val (.int (1 : Int32)), .val (.int (1 : Int32)), .val (.int (1 : Int32)), .val (.int xa), .val (.int xb), .val (.int xq), .val (.ref b239), .val (.int ok2), .val (.int (0 : Int32))] [(.int xq), (.ref b239)])) rfl (by rw [hml]; rfl) (Steps.refl _) (argsL := [(.int xq)]) (rest := []) (lenOf pd_0_1 rfl) rfl (by show 2 * 0 + _ ≤ _; exact Nat.le_of_eq rfl) (hb hby at_204) (fun _ _ => ⟨rfl, rfl, (by decide : 4 + 0 ≤ _), (by decide : 46 + 0 ≤ _)⟩)
                        dsimp only [Pt.U, Pt.locs, Pt.cells, Pt.slots] at X273 l273 y273 z273 st273 hQ273
                        subst l273 y273 z273
                        obtain ⟨rfl, N273q, e273⟩ := hQ273
                        have N273 := Fr.app N266 N273q
                        refine own_pre (A := T273.setTop (mkF m 209 #[.val (.int p1), .val (.int p2), .val (.int p3), .val (.int p4), .val (.int p5), .val (.int n), .val (.int (1 : Int32)), .val (.int (1 : Int32)), .val (.int (1 : Int32)), .val (.int xa), .val (.int xb), .val (.int xq), .val (.ref b239), .val (.int ok2), .val (.int (0 : Int32))] [(.int (0 : Int32)), (.int (own_isL xq (own_zero (own_orb (own_zero (own_orb (fun _ => (0 : Int64)) xa) ((own_put (fun _ => (0 : Int32)) (0 : Int32) xa) 0)) xb) ((own_put (own_put (fun _ => (0 : Int32)) (0 : Int32) xa) (0 : Int32) xb) 0)) (((n + (63 : Int32)).toUInt32 >>> ((6 : Int32) &&& 31).toUInt32).toInt32) (0 : Int32) (0 : Int32)))])) (fun tt kt => ?_) ?_
                        · show Steps p.tables e below (T266.setTop (mkF m 197 #[.val (.int p1), .val (.int p2), .val (.int p3), .val (.int p4), .val (.int p5), .val (.int n), .val (.int (1 : Int32)), .val (.int (1 : Int32)), .val (.int (1 : Int32)), .val (.int xa), .val (.int xb), .val (.int xq), .val (.ref b239), .val (.int ok2), .val (.int (0 : Int32))] [(.int ok2)])) _
                          refine XS.ifNo X266.here hx rfl (hb hby at_197) rfl ((if0 _ _).trans (feq hc197_272).1) ?_
                          refine XS.aload X266.here hx rfl (hb hby at_200) rfl rfl ?_
                          refine XS.iload X266.here hx rfl (hb hby at_202) rfl ?_
                          show Steps p.tables e below (T266.setTop (mkF m 204 #[.val (.int p1), .val (.int p2), .val (.int p3), .val (.int p4), .val (.int p5), .val (.int n), .val (.int (1 : Int32)), .val (.int (1 : Int32)), .val (.int (1 : Int32)), .val (.int xa), .val (.int xb), .val (.int xq), .val (.ref b239), .val (.int ok2), .val (.int (0 : Int32))] [(.int xq), (.ref b239)])) _
                          refine st273.trans ?_
                          show Steps p.tables e below (T273.setTop (mkF m 207 #[.val (.int p1), .val (.int p2), .val (.int p3), .val (.int p4), .val (.int p5), .val (.int n), .val (.int (1 : Int32)), .val (.int (1 : Int32)), .val (.int (1 : Int32)), .val (.int xa), .val (.int xb), .val (.int xq), .val (.ref b239), .val (.int ok2), .val (.int (0 : Int32))] [(.int (own_isL xq (own_zero (own_orb (own_zero (own_orb (fun _ => (0 : Int64)) xa) ((own_put (fun _ => (0 : Int32)) (0 : Int32) xa) 0)) xb) ((own_put (own_put (fun _ => (0 : Int32)) (0 : Int32) xa) (0 : Int32) xb) 0)) (((n + (63 : Int32)).toUInt32 >>> ((6 : Int32) &&& 31).toUInt32).toInt32) (0 : Int32) (0 : Int32)))])) _
                          refine XS.iload X273.here hx rfl (hb hby at_207) rfl ?_
                          exact kt
                        show own_End p e below s (T273.setTop (mkF m 209 #[.val (.int p1), .val (.int p2), .val (.int p3), .val (.int p4), .val (.int p5), .val (.int n), .val (.int (1 : Int32)), .val (.int (1 : Int32)), .val (.int (1 : Int32)), .val (.int xa), .val (.int xb), .val (.int xq), .val (.ref b239), .val (.int ok2), .val (.int (0 : Int32))] [(.int (0 : Int32)), (.int (own_isL xq (own_zero (own_orb (own_zero (own_orb (fun _ => (0 : Int64)) xa) ((own_put (fun _ => (0 : Int32)) (0 : Int32) xa) 0)) xb) ((own_put (own_put (fun _ => (0 : Int32)) (0 : Int32) xa) (0 : Int32) xb) 0)) (((n + (63 : Int32)).toUInt32 >>> ((6 : Int32) &&& 31).toUInt32).toInt32) (0 : Int32) (0 : Int32)))])) (Q0 Z p1 p2 p3 p4 p5 h0 n0) room_1.cells room_1.slots
                        by_cases hc209_274 : (own_isL xq (own_zero (own_orb (own_zero (own_orb (fun _ => (0 : Int64)) xa) ((own_put (fun _ => (0 : Int32)) (0 : Int32) xa) 0)) xb) ((own_put (own_put (fun _ => (0 : Int32)) (0 : Int32) xa) (0 : Int32) xb) 0)) (((n + (63 : Int32)).toUInt32 >>> ((6 : Int32) &&& 31).toUInt32).toInt32) (0 : Int32) (0 : Int32)) = (0 : Int32)
                        · refine own_pre (A := T273.setTop (mkF m 217 #[.val (.int p1), .val (.int p2), .val (.int p3), .val (.int p4), .val (.int p5), .val (.int n), .val (.int (1 : Int32)), .val (.int (1 : Int32)), .val (.int (1 : Int32)), .val (.int xa), .val (.int xb), .val (.int xq), .val (.ref b239), .val (.int ok2), .val (.int (0 : Int32))] [(.int (1 : Int32))])) (fun tt kt => ?_) ?_
                          · show Steps p.tables e below (T273.setTop (mkF m 209 #[.val (.int p1), .val (.int p2), .val (.int p3), .val (.int p4), .val (.int p5), .val (.int n), .val (.int (1 : Int32)), .val (.int (1 : Int32)), .val (.int (1 : Int32)), .val (.int xa), .val (.int xb), .val (.int xq), .val (.ref b239), .val (.int ok2), .val (.int (0 : Int32))] [(.int (0 : Int32)), (.int (own_isL xq (own_zero (own_orb (own_zero (own_orb (fun _ => (0 : Int64)) xa) ((own_put (fun _ => (0 : Int32)) (0 : Int32) xa) 0)) xb) ((own_put (own_put (fun _ => (0 : Int32)) (0 : Int32) xa) (0 : Int32) xb) 0)) (((n + (63 : Int32)).toUInt32 >>> ((6 : Int32) &&& 31).toUInt32).toInt32) (0 : Int32) (0 : Int32)))])) _
                            refine XS.icmpNo X273.here hx rfl (hb hby at_209) rfl (teq hc209_274).2 ?_
                            refine XS.iconst X273.here hx rfl (hb hby at_212) ?_
                            refine XS.goto X273.here hx rfl (pc0 := 213) (pc' := 217) rfl (hb hby at_213) (by decide) (by decide) ?_
                            exact kt
                          show own_End p e below s (T273.setTop (mkF m 217 #[.val (.int p1), .val (.int p2), .val (.int p3), .val (.int p4), .val (.int p5), .val (.int n), .val (.int (1 : Int32)), .val (.int (1 : Int32)), .val (.int (1 : Int32)), .val (.int xa), .val (.int xb), .val (.int xq), .val (.ref b239), .val (.int ok2), .val (.int (0 : Int32))] [(.int (1 : Int32))])) (Q0 Z p1 p2 p3 p4 p5 h0 n0) room_1.cells room_1.slots
                          have hv : (own_law p1 p2 p3 p4 p5) = (1 : Int32) := hj.trans (by simp only [own_law_134bbbbbbb, if_pos hU259, if_neg hc197_272, if_pos hc209_274])
                          obtain ⟨fs, hr, hrun, hended, hW, hsame⟩ := X273.leave (v := some (.int (1 : Int32))) (fun h => by rw [Bd.returns] at h; cases h)
                          refine ⟨_, _, ?_, hrun, hended, _, _, rfl, ?_, ⟨_, rfl⟩, hW, hsame.mono (by decide) (by decide)⟩
                          · exact retN X273 hx (t := .boolean) Bd.returns (by simp) (hb hby at_217) hr
                          · show Q0 Z p1 p2 p3 p4 p5 h0 n0 _ T273.heap _
                            rw [e273]
                            exact ⟨(congrArg (fun z => some (Value.int z)) hv.symm), N273⟩
                        · refine own_pre (A := T273.setTop (mkF m 217 #[.val (.int p1), .val (.int p2), .val (.int p3), .val (.int p4), .val (.int p5), .val (.int n), .val (.int (1 : Int32)), .val (.int (1 : Int32)), .val (.int (1 : Int32)), .val (.int xa), .val (.int xb), .val (.int xq), .val (.ref b239), .val (.int ok2), .val (.int (0 : Int32))] [(.int (0 : Int32))])) (fun tt kt => ?_) ?_
                          · show Steps p.tables e below (T273.setTop (mkF m 209 #[.val (.int p1), .val (.int p2), .val (.int p3), .val (.int p4), .val (.int p5), .val (.int n), .val (.int (1 : Int32)), .val (.int (1 : Int32)), .val (.int (1 : Int32)), .val (.int xa), .val (.int xb), .val (.int xq), .val (.ref b239), .val (.int ok2), .val (.int (0 : Int32))] [(.int (0 : Int32)), (.int (own_isL xq (own_zero (own_orb (own_zero (own_orb (fun _ => (0 : Int64)) xa) ((own_put (fun _ => (0 : Int32)) (0 : Int32) xa) 0)) xb) ((own_put (own_put (fun _ => (0 : Int32)) (0 : Int32) xa) (0 : Int32) xb) 0)) (((n + (63 : Int32)).toUInt32 >>> ((6 : Int32) &&& 31).toUInt32).toInt32) (0 : Int32) (0 : Int32)))])) _
                            refine XS.icmpYes X273.here hx rfl (pc0 := 209) (pc' := 216) rfl (hb hby at_209) rfl (feq hc209_274).2 (by decide) (by decide) ?_
                            refine XS.iconst X273.here hx rfl (hb hby at_216) ?_
                            exact kt
                          show own_End p e below s (T273.setTop (mkF m 217 #[.val (.int p1), .val (.int p2), .val (.int p3), .val (.int p4), .val (.int p5), .val (.int n), .val (.int (1 : Int32)), .val (.int (1 : Int32)), .val (.int (1 : Int32)), .val (.int xa), .val (.int xb), .val (.int xq), .val (.ref b239), .val (.int ok2), .val (.int (0 : Int32))] [(.int (0 : Int32))])) (Q0 Z p1 p2 p3 p4 p5 h0 n0) room_1.cells room_1.slots
                          have hv : (own_law p1 p2 p3 p4 p5) = (0 : Int32) := hj.trans (by simp only [own_law_134bbbbbbb, if_pos hU259, if_neg hc197_272, if_neg hc209_274])
                          obtain ⟨fs, hr, hrun, hended, hW, hsame⟩ := X273.leave (v := some (.int (0 : Int32))) (fun h => by rw [Bd.returns] at h; cases h)
                          refine ⟨_, _, ?_, hrun, hended, _, _, rfl, ?_, ⟨_, rfl⟩, hW, hsame.mono (by decide) (by decide)⟩
                          · exact retN X273 hx (t := .boolean) Bd.returns (by simp) (hb hby at_217) hr
                          · show Q0 Z p1 p2 p3 p4 p5 h0 n0 _ T273.heap _
                            rw [e273]
                            exact ⟨(congrArg (fun z => some (Value.int z)) hv.symm), N273⟩
                    · obtain ⟨cq275, kq275, q275a, q275b, q275c⟩ := isOf hZ rfl E_b239_254
                      obtain ⟨_, _, ⟨T275, L275, k275, n275⟩, -, X275, ⟨Lc275, hQ275, l275, y275, z275⟩, st275⟩ := X253.virtualBack hx (y := (⟨"com/example/libfacet/libfacet/regex/StateSet", "mark", "(I)Z"⟩ : MethodName)) (z := (⟨"com/example/libfacet/libfacet/regex/StateSet", "mark", "(I)Z"⟩ : MethodName)) hown (mvT hZ (hw _ (List.mem_of_getElem? (i := 31) rfl))) (mvT hZ (hw _ (List.mem_of_getElem? (i := 32) rfl))) (notFace_of_selects (args := #[]) (mvT hZ (hw _ (List.mem_of_getElem? (i := 34) rfl)))) (mvT hZ (hw _ (List.mem_of_getElem? (i := 34) rfl))) (mvT hZ (hw _ (List.mem_of_getElem? (i := 33) rfl))) (by decide) (backOf (W := 0) (rm4Lm l Z a0 hw [] b239 xb c240_ab c240_am (0 : Int32) (0 : Int32) (own_zero (own_orb (fun _ => (0 : Int64)) xa) ((own_put (fun _ => (0 : Int32)) (0 : Int32) xa) 0)) (((n + (63 : Int32)).toUInt32 >>> ((6 : Int32) &&& 31).toUInt32).toInt32) (own_put (fun _ => (0 : Int32)) (0 : Int32) xa) T253.heap n0 Z253 ⟨E_b239_254, F_markBits_b239_255, F_marked_b239_256, F_markedCount_b239_257, F_size_b239_258⟩ V253_0 fA_c240_am_x253 ne_b239_c240_ab ne_b239_c240_am ne_c240_ab_c240_am g_c240_ab (own_wd hn0 hn1 hxb0 hxb1) hU259 (by decide) (by decide)) hZ (hw _ (List.mem_of_getElem? (i := 35) rfl)) (hw _ (List.mem_of_getElem? (i := 3) rfl)) (by decide) (by decide)) q275a q275c (g := (mkF m 150 #[.val (.int p1), .val (.int p2), .val (.int p3), .val (.int p4), .val (.int p5), .val (.int n), .val (.int (1 : Int32)), .val (.int (1 : Int32)), .val (.int (1 : Int32)), .val (.int xa), .val (.int xb), .val (.int xq), .val (.ref b239), .val (.int ok2), .unset] [(.int xb), (.ref b239)])) rfl (by rw [hml]; rfl) (Steps.refl _) (argsL := [(.int xb)]) (rest := []) (lenOf pd_0_1 rfl) rfl (by show 2 * 0 + _ ≤ _; exact Nat.le_of_eq rfl) (hb hby at_150) (fun _ _ => ⟨rfl, rfl, (by decide : 4 + 0 ≤ _), (by decide : 46 + 0 ≤ _)⟩)
                      dsimp only [Pt.U, Pt.locs, Pt.cells, Pt.slots] at X275 l275 y275 z275 st275 hQ275
                      subst l275 y275 z275
                      obtain ⟨rfl, N275q, Kq275, V275_0⟩ := hQ275
                      have N275 := Fr.app N253 N275q
                      have fE_b239_x275 := (E_b239_254.keep Kq275)
                      have fA_c240_am_x275 := (fA_c240_am_x253.keep Kq275 (ninS (Ne.symm ne_c240_ab_c240_am) nin0))
                      have fF_b239_markBits_x275 := (F_markBits_b239_255.keep Kq275 (ninS ne_b239_c240_ab nin0))
                      have fF_b239_marked_x275 := (F_marked_b239_256.keep Kq275 (ninS ne_b239_c240_ab nin0))
                      have fF_b239_markedCount_x275 := (F_markedCount_b239_257.keep Kq275 (ninS ne_b239_c240_ab nin0))
                      have fF_b239_size_x275 := (F_size_b239_258.keep Kq275 (ninS ne_b239_c240_ab nin0))
                      have K275 : Keep h0 T275.heap [] := Keep.trans K253 Kq275 (allS (Or.inr sz_c240_ab) all0)
                      have Z275 : n0 ≤ T275.heap.size := Nat.le_trans Z253 Kq275.1
                      obtain ⟨cq276, kq276, q276a, q276b, q276c⟩ := isOf hZ rfl fE_b239_x275
                      obtain ⟨_, _, ⟨T276, L276, k276, n276⟩, -, X276, ⟨Lc276, hQ276, l276, y276, z276⟩, st276⟩ := X275.virtualBack hx (y := (⟨"com/example/libfacet/libfacet/regex/StateSet", "clear", "()V"⟩ : MethodName)) (z := (⟨"com/example/libfacet/libfacet/regex/StateSet", "clear", "()V"⟩ : MethodName)) hown (mvT hZ (hw _ (List.mem_of_getElem? (i := 38) rfl))) (mvT hZ (hw _ (List.mem_of_getElem? (i := 39) rfl))) (notFace_of_selects (args := #[]) (mvT hZ (hw _ (List.mem_of_getElem? (i := 41) rfl)))) (mvT hZ (hw _ (List.mem_of_getElem? (i := 41) rfl))) (mvT hZ (hw _ (List.mem_of_getElem? (i := 40) rfl))) (by decide) (backOf (W := 0) (rm5L0 l Z a0 hw [] b239 c240_ab c240_am (0 : Int32) (own_orb (own_zero (own_orb (fun _ => (0 : Int64)) xa) ((own_put (fun _ => (0 : Int32)) (0 : Int32) xa) 0)) xb) (((n + (63 : Int32)).toUInt32 >>> ((6 : Int32) &&& 31).toUInt32).toInt32) (own_put (fun _ => (0 : Int32)) (0 : Int32) xa) T275.heap n0 Z275 ⟨fE_b239_x275, fF_b239_markBits_x275, fF_b239_marked_x275, fF_b239_markedCount_x275, fF_b239_size_x275⟩ V275_0 fA_c240_am_x275 ne_b239_c240_ab ne_b239_c240_am ne_c240_ab_c240_am g_b239) hZ (hw _ (List.mem_of_getElem? (i := 42) rfl)) (hw _ (List.mem_of_getElem? (i := 3) rfl)) (by decide) (by decide)) q276a q276c (g := (mkF m 161 #[.val (.int p1), .val (.int p2), .val (.int p3), .val (.int p4), .val (.int p5), .val (.int n), .val (.int (1 : Int32)), .val (.int (1 : Int32)), .val (.int (1 : Int32)), .val (.int xa), .val (.int xb), .val (.int xq), .val (.ref b239), .val (.int ok2), .unset] [(.ref b239)])) rfl (by rw [hml]; rfl) (Steps.refl _) (argsL := []) (rest := []) (lenOf pd_0_2 rfl) rfl (by show 2 * 0 + _ ≤ _; exact Nat.le_of_eq rfl) (hb hby at_161) (fun _ _ => ⟨rfl, rfl, (by decide : 4 + 0 ≤ _), (by decide : 46 + 0 ≤ _)⟩)
                      dsimp only [Pt.U, Pt.locs, Pt.cells, Pt.slots] at X276 l276 y276 z276 st276 hQ276
                      subst l276 y276 z276
                      obtain ⟨rfl, N276q, Kq276, O276_0⟩ := hQ276
                      have N276 := Fr.app N275 N276q
                      have fE_b239_x276 := (fE_b239_x275.keep Kq276)
                      have fA_c240_am_x276 := (fA_c240_am_x275.keep Kq276 (ninS (Ne.symm ne_b239_c240_am) nin0))
                      have fA_c240_ab_x276 := (V275_0.keep Kq276 (ninS (Ne.symm ne_b239_c240_ab) nin0))
                      have K276 : Keep h0 T276.heap [] := Keep.trans K275 Kq276 (allS (Or.inr sz_b239) all0)
                      have Z276 : n0 ≤ T276.heap.size := Nat.le_trans Z275 Kq276.1
                      obtain ⟨E_b239_277, F_markBits_b239_278, F_marked_b239_279, F_markedCount_b239_280, F_size_b239_281⟩ := O276_0
                      refine own_pre (A := T276.setTop (mkF m 197 #[.val (.int p1), .val (.int p2), .val (.int p3), .val (.int p4), .val (.int p5), .val (.int n), .val (.int (1 : Int32)), .val (.int (1 : Int32)), .val (.int (1 : Int32)), .val (.int xa), .val (.int xb), .val (.int xq), .val (.ref b239), .val (.int ok2), .val (.int (0 : Int32))] [(.int ok2)])) (fun tt kt => ?_) ?_
                      · show Steps p.tables e below (T253.setTop (mkF m 150 #[.val (.int p1), .val (.int p2), .val (.int p3), .val (.int p4), .val (.int p5), .val (.int n), .val (.int (1 : Int32)), .val (.int (1 : Int32)), .val (.int (1 : Int32)), .val (.int xa), .val (.int xb), .val (.int xq), .val (.ref b239), .val (.int ok2), .unset] [(.int xb), (.ref b239)])) _
                        refine st275.trans ?_
                        show Steps p.tables e below (T275.setTop (mkF m 153 #[.val (.int p1), .val (.int p2), .val (.int p3), .val (.int p4), .val (.int p5), .val (.int n), .val (.int (1 : Int32)), .val (.int (1 : Int32)), .val (.int (1 : Int32)), .val (.int xa), .val (.int xb), .val (.int xq), .val (.ref b239), .val (.int ok2), .unset] [(.int (0 : Int32))])) _
                        refine XS.pop X275.here hx rfl (hb hby at_153) rfl rfl ?_
                        refine XS.iload X275.here hx rfl (hb hby at_154) rfl ?_
                        refine XS.ifNo X275.here hx rfl (hb hby at_156) rfl ((if0 _ _).trans (feq ((by decide) : ¬ ((1 : Int32) = (0 : Int32)))).1) ?_
                        refine XS.aload X275.here hx rfl (hb hby at_159) rfl rfl ?_
                        show Steps p.tables e below (T275.setTop (mkF m 161 #[.val (.int p1), .val (.int p2), .val (.int p3), .val (.int p4), .val (.int p5), .val (.int n), .val (.int (1 : Int32)), .val (.int (1 : Int32)), .val (.int (1 : Int32)), .val (.int xa), .val (.int xb), .val (.int xq), .val (.ref b239), .val (.int ok2), .unset] [(.ref b239)])) _
                        refine st276.trans ?_
                        show Steps p.tables e below (T276.setTop (mkF m 164 #[.val (.int p1), .val (.int p2), .val (.int p3), .val (.int p4), .val (.int p5), .val (.int n), .val (.int (1 : Int32)), .val (.int (1 : Int32)), .val (.int (1 : Int32)), .val (.int xa), .val (.int xb), .val (.int xq), .val (.ref b239), .val (.int ok2), .unset] [])) _
                        refine XS.iload X276.here hx rfl (hb hby at_164) rfl ?_
                        refine XS.ifYes X276.here hx rfl (pc0 := 166) (pc' := 192) rfl (hb hby at_166) rfl ((if0 _ _).trans (feq ((by decide) : ¬ ((1 : Int32) = (0 : Int32)))).2) (by decide) (by decide) ?_
                        refine XS.iconst X276.here hx rfl (hb hby at_192) ?_
                        refine XS.istore X276.here hx rfl (hb hby at_193) rfl (l' := #[.val (.int p1), .val (.int p2), .val (.int p3), .val (.int p4), .val (.int p5), .val (.int n), .val (.int (1 : Int32)), .val (.int (1 : Int32)), .val (.int (1 : Int32)), .val (.int xa), .val (.int xb), .val (.int xq), .val (.ref b239), .val (.int ok2), .val (.int (0 : Int32))]) rfl ?_
                        refine XS.iload X276.here hx rfl (hb hby at_195) rfl ?_
                        exact kt
                      show own_End p e below s (T276.setTop (mkF m 197 #[.val (.int p1), .val (.int p2), .val (.int p3), .val (.int p4), .val (.int p5), .val (.int n), .val (.int (1 : Int32)), .val (.int (1 : Int32)), .val (.int (1 : Int32)), .val (.int xa), .val (.int xb), .val (.int xq), .val (.ref b239), .val (.int ok2), .val (.int (0 : Int32))] [(.int ok2)])) (Q0 Z p1 p2 p3 p4 p5 h0 n0) room_1.cells room_1.slots
                      by_cases hc197_282 : ok2 = (0 : Int32)
                      · refine own_pre (A := T276.setTop (mkF m 217 #[.val (.int p1), .val (.int p2), .val (.int p3), .val (.int p4), .val (.int p5), .val (.int n), .val (.int (1 : Int32)), .val (.int (1 : Int32)), .val (.int (1 : Int32)), .val (.int xa), .val (.int xb), .val (.int xq), .val (.ref b239), .val (.int ok2), .val (.int (0 : Int32))] [(.int (0 : Int32))])) (fun tt kt => ?_) ?_
                        · show Steps p.tables e below (T276.setTop (mkF m 197 #[.val (.int p1), .val (.int p2), .val (.int p3), .val (.int p4), .val (.int p5), .val (.int n), .val (.int (1 : Int32)), .val (.int (1 : Int32)), .val (.int (1 : Int32)), .val (.int xa), .val (.int xb), .val (.int xq), .val (.ref b239), .val (.int ok2), .val (.int (0 : Int32))] [(.int ok2)])) _
                          refine XS.ifYes X276.here hx rfl (pc0 := 197) (pc' := 216) rfl (hb hby at_197) rfl ((if0 _ _).trans (teq hc197_282).1) (by decide) (by decide) ?_
                          refine XS.iconst X276.here hx rfl (hb hby at_216) ?_
                          exact kt
                        show own_End p e below s (T276.setTop (mkF m 217 #[.val (.int p1), .val (.int p2), .val (.int p3), .val (.int p4), .val (.int p5), .val (.int n), .val (.int (1 : Int32)), .val (.int (1 : Int32)), .val (.int (1 : Int32)), .val (.int xa), .val (.int xb), .val (.int xq), .val (.ref b239), .val (.int ok2), .val (.int (0 : Int32))] [(.int (0 : Int32))])) (Q0 Z p1 p2 p3 p4 p5 h0 n0) room_1.cells room_1.slots
                        have hv : (own_law p1 p2 p3 p4 p5) = (0 : Int32) := hj.trans (by simp only [own_law_134bbbbbbb, if_neg hU259, if_pos hc197_282])
                        obtain ⟨fs, hr, hrun, hended, hW, hsame⟩ := X276.leave (v := some (.int (0 : Int32))) (fun h => by rw [Bd.returns] at h; cases h)
                        refine ⟨_, _, ?_, hrun, hended, _, _, rfl, ?_, ⟨_, rfl⟩, hW, hsame.mono (by decide) (by decide)⟩
                        · exact retN X276 hx (t := .boolean) Bd.returns (by simp) (hb hby at_217) hr
                        · show Q0 Z p1 p2 p3 p4 p5 h0 n0 _ T276.heap _
                          exact ⟨(congrArg (fun z => some (Value.int z)) hv.symm), N276⟩
                      · obtain ⟨cq283, kq283, q283a, q283b, q283c⟩ := isOf hZ rfl E_b239_277
                        obtain ⟨_, _, ⟨T283, L283, k283, n283⟩, -, X283, ⟨Lc283, hQ283, l283, y283, z283⟩, st283⟩ := X276.virtualBack hx (y := (⟨"com/example/libfacet/libfacet/regex/StateSet", "isMarked", "(I)Z"⟩ : MethodName)) (z := (⟨"com/example/libfacet/libfacet/regex/StateSet", "isMarked", "(I)Z"⟩ : MethodName)) hown (mvT hZ (hw _ (List.mem_of_getElem? (i := 26) rfl))) (mvT hZ (hw _ (List.mem_of_getElem? (i := 27) rfl))) (notFace_of_selects (args := #[]) (mvT hZ (hw _ (List.mem_of_getElem? (i := 29) rfl)))) (mvT hZ (hw _ (List.mem_of_getElem? (i := 29) rfl))) (mvT hZ (hw _ (List.mem_of_getElem? (i := 28) rfl))) (by decide) (backOf (W := 0) (rm3L l Z a0 hw [] b239 xq c240_ab c240_am (0 : Int32) (0 : Int32) (own_orb (own_zero (own_orb (fun _ => (0 : Int64)) xa) ((own_put (fun _ => (0 : Int32)) (0 : Int32) xa) 0)) xb) (((n + (63 : Int32)).toUInt32 >>> ((6 : Int32) &&& 31).toUInt32).toInt32) T276.heap n0 Z276 ⟨E_b239_277, F_markBits_b239_278, F_marked_b239_279, F_markedCount_b239_280, F_size_b239_281⟩ fA_c240_ab_x276 (own_wd hn0 hn1 hxq0 hxq1)) hZ (hw _ (List.mem_of_getElem? (i := 30) rfl)) (hw _ (List.mem_of_getElem? (i := 3) rfl)) (by decide) (by decide)) q283a q283c (g := (mkF m 204 #[.val (.int p1), .val (.int p2), .val (.int p3), .val (.int p4), .val (.int p5), .val (.int n), .val (.int (1 : Int32)), .val (.int (1 : Int32)), .val (.int (1 : Int32)), .val (.int xa), .val (.int xb), .val (.int xq), .val (.ref b239), .val (.int ok2), .val (.int (0 : Int32))] [(.int xq), (.ref b239)])) rfl (by rw [hml]; rfl) (Steps.refl _) (argsL := [(.int xq)]) (rest := []) (lenOf pd_0_1 rfl) rfl (by show 2 * 0 + _ ≤ _; exact Nat.le_of_eq rfl) (hb hby at_204) (fun _ _ => ⟨rfl, rfl, (by decide : 4 + 0 ≤ _), (by decide : 46 + 0 ≤ _)⟩)
                        dsimp only [Pt.U, Pt.locs, Pt.cells, Pt.slots] at X283 l283 y283 z283 st283 hQ283
                        subst l283 y283 z283
                        obtain ⟨rfl, N283q, e283⟩ := hQ283
                        have N283 := Fr.app N276 N283q
                        refine own_pre (A := T283.setTop (mkF m 209 #[.val (.int p1), .val (.int p2), .val (.int p3), .val (.int p4), .val (.int p5), .val (.int n), .val (.int (1 : Int32)), .val (.int (1 : Int32)), .val (.int (1 : Int32)), .val (.int xa), .val (.int xb), .val (.int xq), .val (.ref b239), .val (.int ok2), .val (.int (0 : Int32))] [(.int (0 : Int32)), (.int (own_isL xq (own_orb (own_zero (own_orb (fun _ => (0 : Int64)) xa) ((own_put (fun _ => (0 : Int32)) (0 : Int32) xa) 0)) xb) (((n + (63 : Int32)).toUInt32 >>> ((6 : Int32) &&& 31).toUInt32).toInt32) (0 : Int32) (0 : Int32)))])) (fun tt kt => ?_) ?_
                        · show Steps p.tables e below (T276.setTop (mkF m 197 #[.val (.int p1), .val (.int p2), .val (.int p3), .val (.int p4), .val (.int p5), .val (.int n), .val (.int (1 : Int32)), .val (.int (1 : Int32)), .val (.int (1 : Int32)), .val (.int xa), .val (.int xb), .val (.int xq), .val (.ref b239), .val (.int ok2), .val (.int (0 : Int32))] [(.int ok2)])) _
                          refine XS.ifNo X276.here hx rfl (hb hby at_197) rfl ((if0 _ _).trans (feq hc197_282).1) ?_
                          refine XS.aload X276.here hx rfl (hb hby at_200) rfl rfl ?_
                          refine XS.iload X276.here hx rfl (hb hby at_202) rfl ?_
                          show Steps p.tables e below (T276.setTop (mkF m 204 #[.val (.int p1), .val (.int p2), .val (.int p3), .val (.int p4), .val (.int p5), .val (.int n), .val (.int (1 : Int32)), .val (.int (1 : Int32)), .val (.int (1 : Int32)), .val (.int xa), .val (.int xb), .val (.int xq), .val (.ref b239), .val (.int ok2), .val (.int (0 : Int32))] [(.int xq), (.ref b239)])) _
                          refine st283.trans ?_
                          show Steps p.tables e below (T283.setTop (mkF m 207 #[.val (.int p1), .val (.int p2), .val (.int p3), .val (.int p4), .val (.int p5), .val (.int n), .val (.int (1 : Int32)), .val (.int (1 : Int32)), .val (.int (1 : Int32)), .val (.int xa), .val (.int xb), .val (.int xq), .val (.ref b239), .val (.int ok2), .val (.int (0 : Int32))] [(.int (own_isL xq (own_orb (own_zero (own_orb (fun _ => (0 : Int64)) xa) ((own_put (fun _ => (0 : Int32)) (0 : Int32) xa) 0)) xb) (((n + (63 : Int32)).toUInt32 >>> ((6 : Int32) &&& 31).toUInt32).toInt32) (0 : Int32) (0 : Int32)))])) _
                          refine XS.iload X283.here hx rfl (hb hby at_207) rfl ?_
                          exact kt
                        show own_End p e below s (T283.setTop (mkF m 209 #[.val (.int p1), .val (.int p2), .val (.int p3), .val (.int p4), .val (.int p5), .val (.int n), .val (.int (1 : Int32)), .val (.int (1 : Int32)), .val (.int (1 : Int32)), .val (.int xa), .val (.int xb), .val (.int xq), .val (.ref b239), .val (.int ok2), .val (.int (0 : Int32))] [(.int (0 : Int32)), (.int (own_isL xq (own_orb (own_zero (own_orb (fun _ => (0 : Int64)) xa) ((own_put (fun _ => (0 : Int32)) (0 : Int32) xa) 0)) xb) (((n + (63 : Int32)).toUInt32 >>> ((6 : Int32) &&& 31).toUInt32).toInt32) (0 : Int32) (0 : Int32)))])) (Q0 Z p1 p2 p3 p4 p5 h0 n0) room_1.cells room_1.slots
                        by_cases hc209_284 : (own_isL xq (own_orb (own_zero (own_orb (fun _ => (0 : Int64)) xa) ((own_put (fun _ => (0 : Int32)) (0 : Int32) xa) 0)) xb) (((n + (63 : Int32)).toUInt32 >>> ((6 : Int32) &&& 31).toUInt32).toInt32) (0 : Int32) (0 : Int32)) = (0 : Int32)
                        · refine own_pre (A := T283.setTop (mkF m 217 #[.val (.int p1), .val (.int p2), .val (.int p3), .val (.int p4), .val (.int p5), .val (.int n), .val (.int (1 : Int32)), .val (.int (1 : Int32)), .val (.int (1 : Int32)), .val (.int xa), .val (.int xb), .val (.int xq), .val (.ref b239), .val (.int ok2), .val (.int (0 : Int32))] [(.int (1 : Int32))])) (fun tt kt => ?_) ?_
                          · show Steps p.tables e below (T283.setTop (mkF m 209 #[.val (.int p1), .val (.int p2), .val (.int p3), .val (.int p4), .val (.int p5), .val (.int n), .val (.int (1 : Int32)), .val (.int (1 : Int32)), .val (.int (1 : Int32)), .val (.int xa), .val (.int xb), .val (.int xq), .val (.ref b239), .val (.int ok2), .val (.int (0 : Int32))] [(.int (0 : Int32)), (.int (own_isL xq (own_orb (own_zero (own_orb (fun _ => (0 : Int64)) xa) ((own_put (fun _ => (0 : Int32)) (0 : Int32) xa) 0)) xb) (((n + (63 : Int32)).toUInt32 >>> ((6 : Int32) &&& 31).toUInt32).toInt32) (0 : Int32) (0 : Int32)))])) _
                            refine XS.icmpNo X283.here hx rfl (hb hby at_209) rfl (teq hc209_284).2 ?_
                            refine XS.iconst X283.here hx rfl (hb hby at_212) ?_
                            refine XS.goto X283.here hx rfl (pc0 := 213) (pc' := 217) rfl (hb hby at_213) (by decide) (by decide) ?_
                            exact kt
                          show own_End p e below s (T283.setTop (mkF m 217 #[.val (.int p1), .val (.int p2), .val (.int p3), .val (.int p4), .val (.int p5), .val (.int n), .val (.int (1 : Int32)), .val (.int (1 : Int32)), .val (.int (1 : Int32)), .val (.int xa), .val (.int xb), .val (.int xq), .val (.ref b239), .val (.int ok2), .val (.int (0 : Int32))] [(.int (1 : Int32))])) (Q0 Z p1 p2 p3 p4 p5 h0 n0) room_1.cells room_1.slots
                          have hv : (own_law p1 p2 p3 p4 p5) = (1 : Int32) := hj.trans (by simp only [own_law_134bbbbbbb, if_neg hU259, if_neg hc197_282, if_pos hc209_284])
                          obtain ⟨fs, hr, hrun, hended, hW, hsame⟩ := X283.leave (v := some (.int (1 : Int32))) (fun h => by rw [Bd.returns] at h; cases h)
                          refine ⟨_, _, ?_, hrun, hended, _, _, rfl, ?_, ⟨_, rfl⟩, hW, hsame.mono (by decide) (by decide)⟩
                          · exact retN X283 hx (t := .boolean) Bd.returns (by simp) (hb hby at_217) hr
                          · show Q0 Z p1 p2 p3 p4 p5 h0 n0 _ T283.heap _
                            rw [e283]
                            exact ⟨(congrArg (fun z => some (Value.int z)) hv.symm), N283⟩
                        · refine own_pre (A := T283.setTop (mkF m 217 #[.val (.int p1), .val (.int p2), .val (.int p3), .val (.int p4), .val (.int p5), .val (.int n), .val (.int (1 : Int32)), .val (.int (1 : Int32)), .val (.int (1 : Int32)), .val (.int xa), .val (.int xb), .val (.int xq), .val (.ref b239), .val (.int ok2), .val (.int (0 : Int32))] [(.int (0 : Int32))])) (fun tt kt => ?_) ?_
                          · show Steps p.tables e below (T283.setTop (mkF m 209 #[.val (.int p1), .val (.int p2), .val (.int p3), .val (.int p4), .val (.int p5), .val (.int n), .val (.int (1 : Int32)), .val (.int (1 : Int32)), .val (.int (1 : Int32)), .val (.int xa), .val (.int xb), .val (.int xq), .val (.ref b239), .val (.int ok2), .val (.int (0 : Int32))] [(.int (0 : Int32)), (.int (own_isL xq (own_orb (own_zero (own_orb (fun _ => (0 : Int64)) xa) ((own_put (fun _ => (0 : Int32)) (0 : Int32) xa) 0)) xb) (((n + (63 : Int32)).toUInt32 >>> ((6 : Int32) &&& 31).toUInt32).toInt32) (0 : Int32) (0 : Int32)))])) _
                            refine XS.icmpYes X283.here hx rfl (pc0 := 209) (pc' := 216) rfl (hb hby at_209) rfl (feq hc209_284).2 (by decide) (by decide) ?_
                            refine XS.iconst X283.here hx rfl (hb hby at_216) ?_
                            exact kt
                          show own_End p e below s (T283.setTop (mkF m 217 #[.val (.int p1), .val (.int p2), .val (.int p3), .val (.int p4), .val (.int p5), .val (.int n), .val (.int (1 : Int32)), .val (.int (1 : Int32)), .val (.int (1 : Int32)), .val (.int xa), .val (.int xb), .val (.int xq), .val (.ref b239), .val (.int ok2), .val (.int (0 : Int32))] [(.int (0 : Int32))])) (Q0 Z p1 p2 p3 p4 p5 h0 n0) room_1.cells room_1.slots
                          have hv : (own_law p1 p2 p3 p4 p5) = (0 : Int32) := hj.trans (by simp only [own_law_134bbbbbbb, if_neg hU259, if_neg hc197_282, if_neg hc209_284])
                          obtain ⟨fs, hr, hrun, hended, hW, hsame⟩ := X283.leave (v := some (.int (0 : Int32))) (fun h => by rw [Bd.returns] at h; cases h)
                          refine ⟨_, _, ?_, hrun, hended, _, _, rfl, ?_, ⟨_, rfl⟩, hW, hsame.mono (by decide) (by decide)⟩
                          · exact retN X283 hx (t := .boolean) Bd.returns (by simp) (hb hby at_217) hr
                          · show Q0 Z p1 p2 p3 p4 p5 h0 n0 _ T283.heap _
                            rw [e283]
                            exact ⟨(congrArg (fun z => some (Value.int z)) hv.symm), N283⟩
                  by_cases hc116_285 : ok1 = (0 : Int32)
                  · refine own_pre (A := T247.setTop (mkF m 134 #[.val (.int p1), .val (.int p2), .val (.int p3), .val (.int p4), .val (.int p5), .val (.int n), .val (.int (1 : Int32)), .val (.int (1 : Int32)), .val (.int (1 : Int32)), .val (.int xa), .val (.int xb), .val (.int xq), .val (.ref b239), .val (.int ok1), .unset] [(.int (0 : Int32))])) (fun tt kt => ?_) ?_
                    · show Steps p.tables e below (T247.setTop (mkF m 116 #[.val (.int p1), .val (.int p2), .val (.int p3), .val (.int p4), .val (.int p5), .val (.int n), .val (.int (1 : Int32)), .val (.int (1 : Int32)), .val (.int (1 : Int32)), .val (.int xa), .val (.int xb), .val (.int xq), .val (.ref b239), .val (.int ok1), .unset] [(.int ok1)])) _
                      refine XS.ifYes X247.here hx rfl (pc0 := 116) (pc' := 133) rfl (hb hby at_116) rfl ((if0 _ _).trans (teq hc116_285).1) (by decide) (by decide) ?_
                      refine XS.iconst X247.here hx rfl (hb hby at_133) ?_
                      exact kt
                    show own_End p e below s (T247.setTop (mkF m 134 #[.val (.int p1), .val (.int p2), .val (.int p3), .val (.int p4), .val (.int p5), .val (.int n), .val (.int (1 : Int32)), .val (.int (1 : Int32)), .val (.int (1 : Int32)), .val (.int xa), .val (.int xb), .val (.int xq), .val (.ref b239), .val (.int ok1), .unset] [(.int (0 : Int32))])) (Q0 Z p1 p2 p3 p4 p5 h0 n0) room_1.cells room_1.slots
                    exact j134 _ _ X247 rfl N247 (0 : Int32)  (hj.trans (by simp only [own_law_104bbbbbbb, if_pos hc116_285]))
                  · obtain ⟨cq286, kq286, q286a, q286b, q286c⟩ := isOf hZ rfl E_b239_248
                    obtain ⟨_, _, ⟨T286, L286, k286, n286⟩, -, X286, ⟨Lc286, hQ286, l286, y286, z286⟩, st286⟩ := X247.virtualBack hx (y := (⟨"com/example/libfacet/libfacet/regex/StateSet", "isMarked", "(I)Z"⟩ : MethodName)) (z := (⟨"com/example/libfacet/libfacet/regex/StateSet", "isMarked", "(I)Z"⟩ : MethodName)) hown (mvT hZ (hw _ (List.mem_of_getElem? (i := 26) rfl))) (mvT hZ (hw _ (List.mem_of_getElem? (i := 27) rfl))) (notFace_of_selects (args := #[]) (mvT hZ (hw _ (List.mem_of_getElem? (i := 29) rfl)))) (mvT hZ (hw _ (List.mem_of_getElem? (i := 29) rfl))) (mvT hZ (hw _ (List.mem_of_getElem? (i := 28) rfl))) (by decide) (backOf (W := 0) (rm3L l Z a0 hw [] b239 xa c240_ab c240_am (1 : Int32) (0 : Int32) (own_orb (fun _ => (0 : Int64)) xa) (((n + (63 : Int32)).toUInt32 >>> ((6 : Int32) &&& 31).toUInt32).toInt32) T247.heap n0 Z247 ⟨E_b239_248, F_markBits_b239_249, F_marked_b239_250, F_markedCount_b239_251, F_size_b239_252⟩ V247_0 (own_wd hn0 hn1 hxa0 hxa1)) hZ (hw _ (List.mem_of_getElem? (i := 30) rfl)) (hw _ (List.mem_of_getElem? (i := 3) rfl)) (by decide) (by decide)) q286a q286c (g := (mkF m 123 #[.val (.int p1), .val (.int p2), .val (.int p3), .val (.int p4), .val (.int p5), .val (.int n), .val (.int (1 : Int32)), .val (.int (1 : Int32)), .val (.int (1 : Int32)), .val (.int xa), .val (.int xb), .val (.int xq), .val (.ref b239), .val (.int ok1), .unset] [(.int xa), (.ref b239)])) rfl (by rw [hml]; rfl) (Steps.refl _) (argsL := [(.int xa)]) (rest := []) (lenOf pd_0_1 rfl) rfl (by show 2 * 0 + _ ≤ _; exact Nat.le_of_eq rfl) (hb hby at_123) (fun _ _ => ⟨rfl, rfl, (by decide : 4 + 0 ≤ _), (by decide : 46 + 0 ≤ _)⟩)
                    dsimp only [Pt.U, Pt.locs, Pt.cells, Pt.slots] at X286 l286 y286 z286 st286 hQ286
                    subst l286 y286 z286
                    obtain ⟨rfl, N286q, e286⟩ := hQ286
                    have N286 := Fr.app N247 N286q
                    refine own_pre (A := T286.setTop (mkF m 126 #[.val (.int p1), .val (.int p2), .val (.int p3), .val (.int p4), .val (.int p5), .val (.int n), .val (.int (1 : Int32)), .val (.int (1 : Int32)), .val (.int (1 : Int32)), .val (.int xa), .val (.int xb), .val (.int xq), .val (.ref b239), .val (.int ok1), .unset] [(.int (own_isL xa (own_orb (fun _ => (0 : Int64)) xa) (((n + (63 : Int32)).toUInt32 >>> ((6 : Int32) &&& 31).toUInt32).toInt32) (1 : Int32) (0 : Int32)))])) (fun tt kt => ?_) ?_
                    · show Steps p.tables e below (T247.setTop (mkF m 116 #[.val (.int p1), .val (.int p2), .val (.int p3), .val (.int p4), .val (.int p5), .val (.int n), .val (.int (1 : Int32)), .val (.int (1 : Int32)), .val (.int (1 : Int32)), .val (.int xa), .val (.int xb), .val (.int xq), .val (.ref b239), .val (.int ok1), .unset] [(.int ok1)])) _
                      refine XS.ifNo X247.here hx rfl (hb hby at_116) rfl ((if0 _ _).trans (feq hc116_285).1) ?_
                      refine XS.aload X247.here hx rfl (hb hby at_119) rfl rfl ?_
                      refine XS.iload X247.here hx rfl (hb hby at_121) rfl ?_
                      show Steps p.tables e below (T247.setTop (mkF m 123 #[.val (.int p1), .val (.int p2), .val (.int p3), .val (.int p4), .val (.int p5), .val (.int n), .val (.int (1 : Int32)), .val (.int (1 : Int32)), .val (.int (1 : Int32)), .val (.int xa), .val (.int xb), .val (.int xq), .val (.ref b239), .val (.int ok1), .unset] [(.int xa), (.ref b239)])) _
                      refine st286.trans ?_
                      exact kt
                    show own_End p e below s (T286.setTop (mkF m 126 #[.val (.int p1), .val (.int p2), .val (.int p3), .val (.int p4), .val (.int p5), .val (.int n), .val (.int (1 : Int32)), .val (.int (1 : Int32)), .val (.int (1 : Int32)), .val (.int xa), .val (.int xb), .val (.int xq), .val (.ref b239), .val (.int ok1), .unset] [(.int (own_isL xa (own_orb (fun _ => (0 : Int64)) xa) (((n + (63 : Int32)).toUInt32 >>> ((6 : Int32) &&& 31).toUInt32).toInt32) (1 : Int32) (0 : Int32)))])) (Q0 Z p1 p2 p3 p4 p5 h0 n0) room_1.cells room_1.slots
                    by_cases hc126_287 : (own_isL xa (own_orb (fun _ => (0 : Int64)) xa) (((n + (63 : Int32)).toUInt32 >>> ((6 : Int32) &&& 31).toUInt32).toInt32) (1 : Int32) (0 : Int32)) = (0 : Int32)
                    · refine own_pre (A := T286.setTop (mkF m 134 #[.val (.int p1), .val (.int p2), .val (.int p3), .val (.int p4), .val (.int p5), .val (.int n), .val (.int (1 : Int32)), .val (.int (1 : Int32)), .val (.int (1 : Int32)), .val (.int xa), .val (.int xb), .val (.int xq), .val (.ref b239), .val (.int ok1), .unset] [(.int (0 : Int32))])) (fun tt kt => ?_) ?_
                      · show Steps p.tables e below (T286.setTop (mkF m 126 #[.val (.int p1), .val (.int p2), .val (.int p3), .val (.int p4), .val (.int p5), .val (.int n), .val (.int (1 : Int32)), .val (.int (1 : Int32)), .val (.int (1 : Int32)), .val (.int xa), .val (.int xb), .val (.int xq), .val (.ref b239), .val (.int ok1), .unset] [(.int (own_isL xa (own_orb (fun _ => (0 : Int64)) xa) (((n + (63 : Int32)).toUInt32 >>> ((6 : Int32) &&& 31).toUInt32).toInt32) (1 : Int32) (0 : Int32)))])) _
                        refine XS.ifYes X286.here hx rfl (pc0 := 126) (pc' := 133) rfl (hb hby at_126) rfl ((if0 _ _).trans (teq hc126_287).1) (by decide) (by decide) ?_
                        refine XS.iconst X286.here hx rfl (hb hby at_133) ?_
                        exact kt
                      show own_End p e below s (T286.setTop (mkF m 134 #[.val (.int p1), .val (.int p2), .val (.int p3), .val (.int p4), .val (.int p5), .val (.int n), .val (.int (1 : Int32)), .val (.int (1 : Int32)), .val (.int (1 : Int32)), .val (.int xa), .val (.int xb), .val (.int xq), .val (.ref b239), .val (.int ok1), .unset] [(.int (0 : Int32))])) (Q0 Z p1 p2 p3 p4 p5 h0 n0) room_1.cells room_1.slots
                      exact j134 _ _ X286 e286 N286 (0 : Int32)  (hj.trans (by simp only [own_law_104bbbbbbb, if_neg hc116_285, if_pos hc126_287]))
                    · refine own_pre (A := T286.setTop (mkF m 134 #[.val (.int p1), .val (.int p2), .val (.int p3), .val (.int p4), .val (.int p5), .val (.int n), .val (.int (1 : Int32)), .val (.int (1 : Int32)), .val (.int (1 : Int32)), .val (.int xa), .val (.int xb), .val (.int xq), .val (.ref b239), .val (.int ok1), .unset] [(.int (1 : Int32))])) (fun tt kt => ?_) ?_
                      · show Steps p.tables e below (T286.setTop (mkF m 126 #[.val (.int p1), .val (.int p2), .val (.int p3), .val (.int p4), .val (.int p5), .val (.int n), .val (.int (1 : Int32)), .val (.int (1 : Int32)), .val (.int (1 : Int32)), .val (.int xa), .val (.int xb), .val (.int xq), .val (.ref b239), .val (.int ok1), .unset] [(.int (own_isL xa (own_orb (fun _ => (0 : Int64)) xa) (((n + (63 : Int32)).toUInt32 >>> ((6 : Int32) &&& 31).toUInt32).toInt32) (1 : Int32) (0 : Int32)))])) _
                        refine XS.ifNo X286.here hx rfl (hb hby at_126) rfl ((if0 _ _).trans (feq hc126_287).1) ?_
                        refine XS.iconst X286.here hx rfl (hb hby at_129) ?_
                        refine XS.goto X286.here hx rfl (pc0 := 130) (pc' := 134) rfl (hb hby at_130) (by decide) (by decide) ?_
                        exact kt
                      show own_End p e below s (T286.setTop (mkF m 134 #[.val (.int p1), .val (.int p2), .val (.int p3), .val (.int p4), .val (.int p5), .val (.int n), .val (.int (1 : Int32)), .val (.int (1 : Int32)), .val (.int (1 : Int32)), .val (.int xa), .val (.int xb), .val (.int xq), .val (.ref b239), .val (.int ok1), .unset] [(.int (1 : Int32))])) (Q0 Z p1 p2 p3 p4 p5 h0 n0) room_1.cells room_1.slots
                      exact j134 _ _ X286 e286 N286 (1 : Int32)  (hj.trans (by simp only [own_law_104bbbbbbb, if_neg hc116_285, if_neg hc126_287]))
                by_cases hc96_288 : (own_isL xq (fun _ => (0 : Int64)) (((n + (63 : Int32)).toUInt32 >>> ((6 : Int32) &&& 31).toUInt32).toInt32) (0 : Int32) (0 : Int32)) = (0 : Int32)
                · refine own_pre (A := T246.setTop (mkF m 104 #[.val (.int p1), .val (.int p2), .val (.int p3), .val (.int p4), .val (.int p5), .val (.int n), .val (.int (1 : Int32)), .val (.int (1 : Int32)), .val (.int (1 : Int32)), .val (.int xa), .val (.int xb), .val (.int xq), .val (.ref b239), .unset, .unset] [(.int (1 : Int32))])) (fun tt kt => ?_) ?_
                  · show Steps p.tables e below (T246.setTop (mkF m 96 #[.val (.int p1), .val (.int p2), .val (.int p3), .val (.int p4), .val (.int p5), .val (.int n), .val (.int (1 : Int32)), .val (.int (1 : Int32)), .val (.int (1 : Int32)), .val (.int xa), .val (.int xb), .val (.int xq), .val (.ref b239), .unset, .unset] [(.int (own_isL xq (fun _ => (0 : Int64)) (((n + (63 : Int32)).toUInt32 >>> ((6 : Int32) &&& 31).toUInt32).toInt32) (0 : Int32) (0 : Int32)))])) _
                    refine XS.ifNo X246.here hx rfl (hb hby at_96) rfl ((if0 _ _).trans (teq hc96_288).2) ?_
                    refine XS.iconst X246.here hx rfl (hb hby at_99) ?_
                    refine XS.goto X246.here hx rfl (pc0 := 100) (pc' := 104) rfl (hb hby at_100) (by decide) (by decide) ?_
                    exact kt
                  show own_End p e below s (T246.setTop (mkF m 104 #[.val (.int p1), .val (.int p2), .val (.int p3), .val (.int p4), .val (.int p5), .val (.int n), .val (.int (1 : Int32)), .val (.int (1 : Int32)), .val (.int (1 : Int32)), .val (.int xa), .val (.int xb), .val (.int xq), .val (.ref b239), .unset, .unset] [(.int (1 : Int32))])) (Q0 Z p1 p2 p3 p4 p5 h0 n0) room_1.cells room_1.slots
                  exact j104 _ _ X246 e246 N246 (1 : Int32)  (hj.trans (by simp only [own_law_76bbbbbbb, if_pos hc96_288]))
                · refine own_pre (A := T246.setTop (mkF m 104 #[.val (.int p1), .val (.int p2), .val (.int p3), .val (.int p4), .val (.int p5), .val (.int n), .val (.int (1 : Int32)), .val (.int (1 : Int32)), .val (.int (1 : Int32)), .val (.int xa), .val (.int xb), .val (.int xq), .val (.ref b239), .unset, .unset] [(.int (0 : Int32))])) (fun tt kt => ?_) ?_
                  · show Steps p.tables e below (T246.setTop (mkF m 96 #[.val (.int p1), .val (.int p2), .val (.int p3), .val (.int p4), .val (.int p5), .val (.int n), .val (.int (1 : Int32)), .val (.int (1 : Int32)), .val (.int (1 : Int32)), .val (.int xa), .val (.int xb), .val (.int xq), .val (.ref b239), .unset, .unset] [(.int (own_isL xq (fun _ => (0 : Int64)) (((n + (63 : Int32)).toUInt32 >>> ((6 : Int32) &&& 31).toUInt32).toInt32) (0 : Int32) (0 : Int32)))])) _
                    refine XS.ifYes X246.here hx rfl (pc0 := 96) (pc' := 103) rfl (hb hby at_96) rfl ((if0 _ _).trans (feq hc96_288).2) (by decide) (by decide) ?_
                    refine XS.iconst X246.here hx rfl (hb hby at_103) ?_
                    exact kt
                  show own_End p e below s (T246.setTop (mkF m 104 #[.val (.int p1), .val (.int p2), .val (.int p3), .val (.int p4), .val (.int p5), .val (.int n), .val (.int (1 : Int32)), .val (.int (1 : Int32)), .val (.int (1 : Int32)), .val (.int xa), .val (.int xb), .val (.int xq), .val (.ref b239), .unset, .unset] [(.int (0 : Int32))])) (Q0 Z p1 p2 p3 p4 p5 h0 n0) room_1.cells room_1.slots
                  exact j104 _ _ X246 e246 N246 (0 : Int32)  (hj.trans (by simp only [own_law_76bbbbbbb, if_neg hc96_288]))
              exact j76 _ _ Xj66 ej66 Nj66 ((p5 &&& (2147483647 : Int32)) % n) (own_i p5 n hn0).1 (own_i p5 n hn0).2 (hj.trans (by simp only [own_law_66bbbbbbb]))
            exact j66 _ _ Xj57 ej57 Nj57 ((p4 &&& (2147483647 : Int32)) % n) (own_i p4 n hn0).1 (own_i p4 n hn0).2 (hj.trans (by simp only [own_law_57bbbbbbb]))
          exact j57 _ _ Xj9 ej9 Nj9 ((p3 &&& (2147483647 : Int32)) % n) (own_i p3 n hn0).1 (own_i p3 n hn0).2 (hj.trans (by simp only [own_law_9, if_neg hc12_1, if_neg hc25_116, if_neg hc38_198]))
  exact j9 _ _ X0 e0 N0 ((1 : Int32) + (p1 &&& (255 : Int32))) (own_n p1).1 (own_n p1).2 (hj.trans (by simp only [own_law]))
theorem own_nat {i : Int32} (h : 0 ≤ i.toInt) : (i.toNatClampNeg : Int) = i.toInt := by
  show ((i.toInt.toNat : Nat) : Int) = i.toInt
  omega
theorem own_of {i : Int32} {k : Nat} (h : i.toInt = k) : i = Int32.ofInt (k : Int) := by rw [← h, Int32.ofInt_toInt]
def own_T (g : Nat → Int64) (x : Int32) : Prop := ¬ ((g ((x.toUInt32 >>> ((6 : Int32) &&& 31).toUInt32).toInt32).toNatClampNeg) &&& ((1 : Int64) <<< (x &&& 0x3f).toInt64)) = (0 : Int64)
theorem own_w {x : Int32} (h0 : 0 ≤ x.toInt) : (((x.toUInt32 >>> ((6 : Int32) &&& 31).toUInt32).toInt32).toNatClampNeg : Int) = x.toInt / 64 := by
  have r := rng32 x
  have s := own_six x
  rw [own_nat (by omega), s]; omega
theorem own_mk : ∀ i j : Fin 64, (decide (((1 : Int64) <<< (Int32.ofInt (i.1 : Int)).toInt64) &&& ((1 : Int64) <<< (Int32.ofInt (j.1 : Int)).toInt64) = 0)) = decide (i.1 ≠ j.1) := by decide +kernel
theorem own_k (x : Int32) : ∃ k : Fin 64, (x &&& 0x3f) = Int32.ofInt (k.1 : Int) ∧ (k.1 : Int) = x.toInt % 64 := by
  have e : (x &&& (63 : Int32)).toInt = x.toInt % (2 ^ 6 : Nat) := c_mask x 63 6 (by decide) (by decide)
  refine ⟨⟨(x.toInt % 64).toNat, by omega⟩, ?_, by show (((x.toInt % 64).toNat : Nat) : Int) = _; omega⟩
  exact own_of (by rw [show (x &&& 0x3f : Int32).toInt = x.toInt % (2 ^ 6 : Nat) from e]; show _ = (((x.toInt % 64).toNat : Nat) : Int); omega)
theorem own_mm (x y : Int32) : (((1 : Int64) <<< (y &&& 0x3f).toInt64) &&& ((1 : Int64) <<< (x &&& 0x3f).toInt64) = 0) ↔ x.toInt % 64 ≠ y.toInt % 64 := by
  obtain ⟨i, ei, ki⟩ := own_k x
  obtain ⟨j, ej, kj⟩ := own_k y
  rw [ei, ej]
  have q := decide_eq_decide.mp (own_mk j i)
  rw [q]; omega
theorem own_dist (P Q R : Int64) : ((P ||| Q) &&& R = 0) ↔ (P &&& R = 0 ∧ Q &&& R = 0) := by
  have e : (P ||| Q) &&& R = (P &&& R) ||| (Q &&& R) := by
    apply Int64.toBitVec_inj.mp
    show (P.toBitVec ||| Q.toBitVec) &&& R.toBitVec = (P.toBitVec &&& R.toBitVec) ||| (Q.toBitVec &&& R.toBitVec)
    ext i hi
    simp only [BitVec.getElem_and, BitVec.getElem_or]
    cases P.toBitVec[i] <;> cases Q.toBitVec[i] <;> cases R.toBitVec[i] <;> rfl
  rw [e]
  generalize P &&& R = u
  generalize Q &&& R = w
  constructor
  · intro h
    have h' : u.toBitVec ||| w.toBitVec = 0#64 := congrArg Int64.toBitVec h
    obtain ⟨a, b⟩ := BitVec.or_eq_zero_iff.mp h'
    exact ⟨Int64.toBitVec_inj.mp a, Int64.toBitVec_inj.mp b⟩
  · rintro ⟨rfl, rfl⟩; decide
theorem own_T0 (x : Int32) : ¬ own_T (fun _ => (0 : Int64)) x := fun h => h (own_zand _)
theorem own_Tor (g : Nat → Int64) {x y : Int32} (hx : 0 ≤ x.toInt) (hy : 0 ≤ y.toInt) : own_T (own_orb g y) x ↔ (x = y ∨ own_T g x) := by
  have wx := own_w hx
  have wy := own_w hy
  unfold own_T own_orb
  by_cases q : ((x.toUInt32 >>> ((6 : Int32) &&& 31).toUInt32).toInt32).toNatClampNeg = ((y.toUInt32 >>> ((6 : Int32) &&& 31).toUInt32).toInt32).toNatClampNeg
  · rw [if_pos q, own_dist, own_mm, ← q]
    by_cases u : x = y
    · subst u; simp
    · have u' : x.toInt ≠ y.toInt := fun v => u (Int32.toInt_inj.mp v)
      have v : x.toInt % 64 ≠ y.toInt % 64 := by omega
      simp [u, v]
  · rw [if_neg q]
    have u : ¬ x = y := fun v => q (by rw [v])
    simp [u]
theorem own_Tz (g : Nat → Int64) (x y : Int32) : own_T (own_zero g y) x ↔ (¬ ((x.toUInt32 >>> ((6 : Int32) &&& 31).toUInt32).toInt32).toNatClampNeg = ((y.toUInt32 >>> ((6 : Int32) &&& 31).toUInt32).toInt32).toNatClampNeg ∧ own_T g x) := by
  unfold own_T own_zero
  by_cases q : ((x.toUInt32 >>> ((6 : Int32) &&& 31).toUInt32).toInt32).toNatClampNeg = ((y.toUInt32 >>> ((6 : Int32) &&& 31).toUInt32).toInt32).toNatClampNeg
  · rw [if_pos q]; exact ⟨fun h => absurd (own_zand _) h, fun h => absurd q h.1⟩
  · rw [if_neg q]; exact ⟨fun h => ⟨q, h⟩, fun h => h.2⟩
open Classical in
theorem own_isL_eq (x : Int32) (g : Nat → Int64) (n c z : Int32) : own_isL x g n c z = if own_T g x then 1 else 0 := by
  unfold own_isL own_T
  by_cases q : ((g ((x.toUInt32 >>> ((6 : Int32) &&& 31).toUInt32).toInt32).toNatClampNeg) &&& ((1 : Int64) <<< (x &&& 0x3f).toInt64)) = (0 : Int64)
  · rw [if_pos q, if_neg (fun h => h q)]
  · rw [if_neg q, if_pos q]
theorem own_p (g : Nat → Int32) {x y : Int32} (v : Int32) (hx : 0 ≤ x.toInt) (hy : 0 ≤ y.toInt) : own_put g y v x.toNatClampNeg = if x = y then v else g x.toNatClampNeg := by
  have a := own_nat hx
  have b := own_nat hy
  show (if x.toNatClampNeg = y.toNatClampNeg then v else g x.toNatClampNeg) = _
  by_cases q : x = y
  · rw [if_pos q, if_pos (by rw [q])]
  · have q' : x.toInt ≠ y.toInt := fun u => q (Int32.toInt_inj.mp u)
    rw [if_neg q, if_neg (by omega)]
theorem own_N (p1 p2 p3 p4 p5 n xa xb xq : Int32) (ha : 0 ≤ xa.toInt) (hb : 0 ≤ xb.toInt) (hq : 0 ≤ xq.toInt) : own_law_76 p1 p2 p3 p4 p5 n xa xb xq = 1 := by
  have c1 : own_ch 1 = 1 := by decide
  have c2 : own_ch 2 = 2 := by decide
  have z01 : ¬ ((0 : Int32) = 1) := by decide
  have z10 : ¬ ((1 : Int32) = 0) := by decide
  have z12 : ¬ ((1 : Int32) = 2) := by decide
  have z02 : ¬ ((0 : Int32) = 2) := by decide
  have z13 : ¬ ((1 : Int32) = 3) := by decide
  have z23 : ¬ ((2 : Int32) = 3) := by decide
  have z03 : ¬ ((0 : Int32) = 3) := by decide
  simp only [own_law_76, own_law_104, own_law_134, own_law_193, own_isN, own_p _ _ hq hb, own_p _ _ hq ha, own_p _ _ ha ha, c1, c2, if_neg z01, if_true, if_neg z10]
  by_cases u : xq = xb <;> by_cases v : xq = xa <;> by_cases w : xa = xb <;> simp_all
theorem own_Nb (p1 p2 p3 p4 p5 n xa xb xq : Int32) (ha : 0 ≤ xa.toInt) (hb : 0 ≤ xb.toInt) (hq : 0 ≤ xq.toInt) : own_law_76b p1 p2 p3 p4 p5 n xa xb xq = 1 := by
  have c1 : own_ch 1 = 1 := by decide
  have c2 : own_ch 2 = 2 := by decide
  have z01 : ¬ ((0 : Int32) = 1) := by decide
  have z10 : ¬ ((1 : Int32) = 0) := by decide
  have z12 : ¬ ((1 : Int32) = 2) := by decide
  have z02 : ¬ ((0 : Int32) = 2) := by decide
  have z13 : ¬ ((1 : Int32) = 3) := by decide
  have z23 : ¬ ((2 : Int32) = 3) := by decide
  have z03 : ¬ ((0 : Int32) = 3) := by decide
  simp only [own_law_76b, own_law_104b, own_law_134b, own_isN, own_p _ _ hq hb, own_p _ _ hq ha, own_p _ _ ha ha, c1, c2, if_neg z01, if_true, if_neg z10]
  by_cases u : xq = xb <;> by_cases v : xq = xa <;> by_cases w : xa = xb <;> simp_all
theorem own_Nbb (p1 p2 p3 p4 p5 n xa xb xq : Int32) (ha : 0 ≤ xa.toInt) (hb : 0 ≤ xb.toInt) (hq : 0 ≤ xq.toInt) : own_law_76bb p1 p2 p3 p4 p5 n xa xb xq = 1 := by
  have c1 : own_ch 1 = 1 := by decide
  have c2 : own_ch 2 = 2 := by decide
  have z01 : ¬ ((0 : Int32) = 1) := by decide
  have z10 : ¬ ((1 : Int32) = 0) := by decide
  have z12 : ¬ ((1 : Int32) = 2) := by decide
  have z02 : ¬ ((0 : Int32) = 2) := by decide
  have z13 : ¬ ((1 : Int32) = 3) := by decide
  have z23 : ¬ ((2 : Int32) = 3) := by decide
  have z03 : ¬ ((0 : Int32) = 3) := by decide
  simp only [own_law_76bb, own_law_104bb, own_law_134bb, own_law_193b, own_isN, own_p _ _ hq hb, own_p _ _ hq ha, own_p _ _ ha ha, c1, c2, if_neg z01, if_true, if_neg z10]
  by_cases u : xq = xb <;> by_cases v : xq = xa <;> by_cases w : xa = xb <;> simp_all
theorem own_Nbbb (p1 p2 p3 p4 p5 n xa xb xq : Int32) (ha : 0 ≤ xa.toInt) (hb : 0 ≤ xb.toInt) (hq : 0 ≤ xq.toInt) : own_law_76bbb p1 p2 p3 p4 p5 n xa xb xq = 1 := by
  have c1 : own_ch 1 = 1 := by decide
  have c2 : own_ch 2 = 2 := by decide
  have z01 : ¬ ((0 : Int32) = 1) := by decide
  have z10 : ¬ ((1 : Int32) = 0) := by decide
  have z12 : ¬ ((1 : Int32) = 2) := by decide
  have z02 : ¬ ((0 : Int32) = 2) := by decide
  have z13 : ¬ ((1 : Int32) = 3) := by decide
  have z23 : ¬ ((2 : Int32) = 3) := by decide
  have z03 : ¬ ((0 : Int32) = 3) := by decide
  simp only [own_law_76bbb, own_law_104bbb, own_law_134bbb, own_isN, own_p _ _ hq hb, own_p _ _ hq ha, own_p _ _ ha ha, c1, c2, if_neg z01, if_true, if_neg z10]
  by_cases u : xq = xb <;> by_cases v : xq = xa <;> by_cases w : xa = xb <;> simp_all
open Classical in
theorem own_Lbbbb (p1 p2 p3 p4 p5 n xa xb xq : Int32) (ha : 0 ≤ xa.toInt) (hb : 0 ≤ xb.toInt) (hq : 0 ≤ xq.toInt) : own_law_76bbbb p1 p2 p3 p4 p5 n xa xb xq = 1 := by
  have z01 : ¬ ((0 : Int32) = 1) := by decide
  have z10 : ¬ ((1 : Int32) = 0) := by decide
  have m0 : own_put (fun _ => (0 : Int32)) 0 xa 0 = xa := rfl
  have m1 : own_put (own_put (fun _ => (0 : Int32)) 0 xa) 1 xb 0 = xa := rfl
  have m2 : own_put (own_put (fun _ => (0 : Int32)) 0 xa) 1 xb 1 = xb := rfl
  have m3 : own_put (own_put (fun _ => (0 : Int32)) 0 xa) 0 xb 0 = xb := rfl
  have ex : ∀ g x, (((g ((x.toUInt32 >>> ((6 : Int32) &&& 31).toUInt32).toInt32).toNatClampNeg) &&& ((1 : Int64) <<< (x &&& 0x3f).toInt64)) = (0 : Int64)) = ¬ own_T g x := fun g x => propext ⟨fun h k => k h, fun h => Classical.not_not.mp h⟩
  simp only [own_law_76bbbb, own_law_104bbbb, own_law_134bbbb, own_law_193bb, own_law_193bbb, own_isL_eq, m0, m1, m2, m3, ex, own_Tz, own_Tor _ hq hb, own_Tor _ hq ha, own_Tor _ ha ha, own_Tor _ hb ha, own_T0, or_false, true_or, if_true, if_false, if_neg z10]
  by_cases u : xq = xb <;> by_cases v : xq = xa <;> by_cases w : xb = xa <;> simp_all
open Classical in
theorem own_Lbbbbb (p1 p2 p3 p4 p5 n xa xb xq : Int32) (ha : 0 ≤ xa.toInt) (hb : 0 ≤ xb.toInt) (hq : 0 ≤ xq.toInt) : own_law_76bbbbb p1 p2 p3 p4 p5 n xa xb xq = 1 := by
  have z01 : ¬ ((0 : Int32) = 1) := by decide
  have z10 : ¬ ((1 : Int32) = 0) := by decide
  have m0 : own_put (fun _ => (0 : Int32)) 0 xa 0 = xa := rfl
  have m1 : own_put (own_put (fun _ => (0 : Int32)) 0 xa) 1 xb 0 = xa := rfl
  have m2 : own_put (own_put (fun _ => (0 : Int32)) 0 xa) 1 xb 1 = xb := rfl
  have m3 : own_put (own_put (fun _ => (0 : Int32)) 0 xa) 0 xb 0 = xb := rfl
  have ex : ∀ g x, (((g ((x.toUInt32 >>> ((6 : Int32) &&& 31).toUInt32).toInt32).toNatClampNeg) &&& ((1 : Int64) <<< (x &&& 0x3f).toInt64)) = (0 : Int64)) = ¬ own_T g x := fun g x => propext ⟨fun h k => k h, fun h => Classical.not_not.mp h⟩
  simp only [own_law_76bbbbb, own_law_104bbbbb, own_law_134bbbbb,  own_isL_eq, m0, m1, m2, m3, ex, own_Tz, own_Tor _ hq hb, own_Tor _ hq ha, own_Tor _ ha ha, own_Tor _ hb ha, own_T0, or_false, true_or, if_true, if_false, if_neg z10]
  by_cases u : xq = xb <;> by_cases v : xq = xa <;> by_cases w : xb = xa <;> simp_all
open Classical in
theorem own_Lbbbbbb (p1 p2 p3 p4 p5 n xa xb xq : Int32) (ha : 0 ≤ xa.toInt) (hb : 0 ≤ xb.toInt) (hq : 0 ≤ xq.toInt) : own_law_76bbbbbb p1 p2 p3 p4 p5 n xa xb xq = 1 := by
  have z01 : ¬ ((0 : Int32) = 1) := by decide
  have z10 : ¬ ((1 : Int32) = 0) := by decide
  have m0 : own_put (fun _ => (0 : Int32)) 0 xa 0 = xa := rfl
  have m1 : own_put (own_put (fun _ => (0 : Int32)) 0 xa) 1 xb 0 = xa := rfl
  have m2 : own_put (own_put (fun _ => (0 : Int32)) 0 xa) 1 xb 1 = xb := rfl
  have m3 : own_put (own_put (fun _ => (0 : Int32)) 0 xa) 0 xb 0 = xb := rfl
  have ex : ∀ g x, (((g ((x.toUInt32 >>> ((6 : Int32) &&& 31).toUInt32).toInt32).toNatClampNeg) &&& ((1 : Int64) <<< (x &&& 0x3f).toInt64)) = (0 : Int64)) = ¬ own_T g x := fun g x => propext ⟨fun h k => k h, fun h => Classical.not_not.mp h⟩
  simp only [own_law_76bbbbbb, own_law_104bbbbbb, own_law_134bbbbbb, own_law_193bbbb, own_law_193bbbbb, own_isL_eq, m0, m1, m2, m3, ex, own_Tz, own_Tor _ hq hb, own_Tor _ hq ha, own_Tor _ ha ha, own_Tor _ hb ha, own_T0, or_false, true_or, if_true, if_false, if_neg z10]
  by_cases u : xq = xb <;> by_cases v : xq = xa <;> by_cases w : xb = xa <;> simp_all
open Classical in
theorem own_Lbbbbbbb (p1 p2 p3 p4 p5 n xa xb xq : Int32) (ha : 0 ≤ xa.toInt) (hb : 0 ≤ xb.toInt) (hq : 0 ≤ xq.toInt) : own_law_76bbbbbbb p1 p2 p3 p4 p5 n xa xb xq = 1 := by
  have z01 : ¬ ((0 : Int32) = 1) := by decide
  have z10 : ¬ ((1 : Int32) = 0) := by decide
  have m0 : own_put (fun _ => (0 : Int32)) 0 xa 0 = xa := rfl
  have m1 : own_put (own_put (fun _ => (0 : Int32)) 0 xa) 1 xb 0 = xa := rfl
  have m2 : own_put (own_put (fun _ => (0 : Int32)) 0 xa) 1 xb 1 = xb := rfl
  have m3 : own_put (own_put (fun _ => (0 : Int32)) 0 xa) 0 xb 0 = xb := rfl
  have ex : ∀ g x, (((g ((x.toUInt32 >>> ((6 : Int32) &&& 31).toUInt32).toInt32).toNatClampNeg) &&& ((1 : Int64) <<< (x &&& 0x3f).toInt64)) = (0 : Int64)) = ¬ own_T g x := fun g x => propext ⟨fun h k => k h, fun h => Classical.not_not.mp h⟩
  simp only [own_law_76bbbbbbb, own_law_104bbbbbbb, own_law_134bbbbbbb,  own_isL_eq, m0, m1, m2, m3, ex, own_Tz, own_Tor _ hq hb, own_Tor _ hq ha, own_Tor _ ha ha, own_Tor _ hb ha, own_T0, or_false, true_or, if_true, if_false, if_neg z10]
  by_cases u : xq = xb <;> by_cases v : xq = xa <;> by_cases w : xb = xa <;> simp_all
theorem own_true (s f a b q : Int32) : own_law s f a b q = 1 := by
  obtain ⟨h0, h1⟩ := own_n s
  unfold own_law
  generalize ((1 : Int32) + (s &&& (255 : Int32))) = n at *
  have ha := (own_i a n h0).1
  have hb := (own_i b n h0).1
  have hq := (own_i q n h0).1
  simp only [own_law_9, own_law_57, own_law_57b, own_law_57bb, own_law_57bbb, own_law_57bbbb, own_law_57bbbbb, own_law_57bbbbbb, own_law_57bbbbbbb, own_law_66, own_law_66b, own_law_66bb, own_law_66bbb, own_law_66bbbb, own_law_66bbbbb, own_law_66bbbbbb, own_law_66bbbbbbb, own_N _ _ _ _ _ _ _ _ _ ha hb hq, own_Nb _ _ _ _ _ _ _ _ _ ha hb hq, own_Nbb _ _ _ _ _ _ _ _ _ ha hb hq, own_Nbbb _ _ _ _ _ _ _ _ _ ha hb hq, own_Lbbbb _ _ _ _ _ _ _ _ _ ha hb hq, own_Lbbbbb _ _ _ _ _ _ _ _ _ ha hb hq, own_Lbbbbbb _ _ _ _ _ _ _ _ _ ha hb hq, own_Lbbbbbbb _ _ _ _ _ _ _ _ _ ha hb hq, ite_self]


set_option maxRecDepth 65536 in
set_option maxHeartbeats 40000000 in
theorem comes_1 {Post : Tables → Env → Array Value → State → Outcome → State → Prop} (hpost : ∀ tb e args s v u, (limb_1_1.after args s (.returned v) u = true ∧ limb_1_2.after args s (.returned v) u = true ∧ True) → FrameEnd s (.returned v) u (Jvm.fieldLocs frame_1_writes args s ++ Jvm.arrayLocs frame_1_arrays args s ++ Jvm.staticLocs frame_1_statics s) 16 704 → Post tb e args s (.returned v) u) :
    ArmFor flags0 classFile x code maxLocals ret World_1 tables_1 room_1 Calls_1 rest_1 Pre_1 Post := by
  intro l hfl _ _ p e ha hc hk s m args below hf hA hF happ hP
  obtain ⟨hcalls, hrest, hpre⟩ := hP
  obtain ⟨-, -, -, hnamed, -, -, -, hat⟩ := (Spec.applies_iff hf).mp happ
  obtain ⟨hg, hn⟩ := and_e (Cond.before_iff.mp (show (Jvm.Cond.and given_1 narrow_1).before args s = true from hpre))
  obtain ⟨g1, g2⟩ := and_e hg
  obtain ⟨g3, g4⟩ := and_e g2
  obtain ⟨g5, g6⟩ := and_e g4
  obtain ⟨g7, g8⟩ := and_e g6
  obtain ⟨g9, g10⟩ := and_e g8
  obtain ⟨w0, w1, w2, w3, w4, rfl⟩ : ∃ w0 w1 w2 w3 w4 : Value, args = #[w0, w1, w2, w3, w4] := by
    have hs : args.size = 5 := by simpa [Cond.value, given_1] using g1
    obtain ⟨L⟩ := args
    match L, hs with
    | [w0, w1, w2, w3, w4], _ => exact ⟨w0, w1, w2, w3, w4, rfl⟩
  have hw := fun d (hd : d ∈ tables_1) => atoms_spec (ws := Jvm.Cond.code x code maxLocals ret :: tables_1) hat d (List.mem_cons_of_mem _ hd)
  have hfit : Fit s := fun {y c} hc i hi => by
    obtain ⟨ha, rfl⟩ := Array.getElem?_eq_some_iff.mp hc
    have q := List.all_eq_true.mp ((Array.all_eq_true_iff_forall_mem.mp hF) _ (Array.getElem_mem ha)) i (List.mem_range.mpr hi)
    simpa [Array.getElem?_eq_getElem hi] using q
  obtain ⟨i0, ei0⟩ := is_v g3
  obtain rfl : w0 = (.int i0) := Option.some.inj ei0
  obtain ⟨i1, ei1⟩ := is_v g5
  obtain rfl : w1 = (.int i1) := Option.some.inj ei1
  obtain ⟨i2, ei2⟩ := is_v g7
  obtain rfl : w2 = (.int i2) := Option.some.inj ei2
  obtain ⟨i3, ei3⟩ := is_v g9
  obtain rfl : w3 = (.int i3) := Option.some.inj ei3
  obtain ⟨i4, ei4⟩ := is_v g10
  obtain rfl : w4 = (.int i4) := Option.some.inj ei4
  obtain ⟨n, o, h1, h2, h3, _, L, rfl, ⟨rfl, N⟩, hq⟩ := rm0 l s _ hw tables_1 i0 i1 i2 i3 i4 s.heap s.heap.size (Nat.le_refl _)  p e ha hc hk s m _ below hf ((Spec.applies_iff_loose hf).mp happ).1 ⟨rfl, State.Warmed39.refl s, rfl⟩ trivial
  refine ⟨n, _, h1, h2, h3, hpost _ _ _ _ _ _ ⟨Cond.after_iff.mpr rfl, Cond.after_iff.mpr (eq_i res_at (Term.int_eval (1)) (congrArg Value.int (own_true i0 i1 i2 i3 i4))), trivial⟩ ⟨hq.1, hq.2.1, (hq.2.2.sift fun y hy => Or.inr (N y hy)).mono (by decide) (by decide)⟩⟩
theorem main_1_1 : Claimed_1_1 := comes_1 fun _ _ _ _ _ _ h hF => ⟨h.1, hF⟩
theorem main_1_2 : Claimed_1_2 := comes_1 fun _ _ _ _ _ _ h hF => ⟨h.2.1, hF⟩
end Jvm.Pilot.@@N@@
namespace Jvm.Pilot.@@N@@
open Jvm Jvm.ClassFile Sem Op Lib Jvm.Free Jvm.Stand Jvm.Pilot.@@N@@.Jvm.D
/-! MADE BY PROGRAM (witnessworld.py) out of the Statement's table words and the real class files: 13 classes; the members and pool entries that the words name. The judged class is class 1, her method 1. -/
namespace start1
open Jvm.ClassFile
def u (s : String) : CpInfo := .utf8 (stringToUtf16 s)
/-- a pool by its gaps: so many unusable entries, then the entry; so many at the end -/
def gap : Nat → List CpInfo → List CpInfo
  | 0, r => r
  | n + 1, r => .unusable :: gap n r
def poolList (es : List (Nat × CpInfo)) (last : Nat) : List CpInfo := es.foldr (fun e r => gap e.1 (e.2 :: r)) (gap last [])
def pool (es : List (Nat × CpInfo)) (last : Nat) : Array CpInfo := ⟨poolList es last⟩
def fileOf (pool : Array CpInfo) (this : Nat) (attrs : Array Attribute := #[]) (ms : Array MethodInfo := #[]) (fl : Nat := 33) (sup : Nat := 0) (ifs : Array Nat := #[]) (fds : Array FieldInfo := #[]) : ClassFile where
  minorVersion := 0
  majorVersion := 65
  constantPool := pool
  accessFlags := fl
  thisClass := this
  superClass := sup
  interfaces := ifs
  fields := fds
  methods := ms
  attributes := attrs
def plain (name : String) (sup : Option ClassId) : Class where
  name := name
  kind := .ordinary
  loader := none
  accessFlags := 33
  super := sup
  interfaces := #[]
  cf := none
  fields := #[]
  methods := #[]
  instanceTypes := #[]
  staticTypes := #[]
  resolved := #[]
  callSites := []
  init := .initialized
  statics := none
  mirror := none

def pool0 : Array CpInfo := pool [(5, u "<init>"), (0, u "()V"), (1, .class_ 10), (1, u "java/lang/Object")] 113

def k0c0 : Code := { maxStack := 0, maxLocals := 1, code := object_method_1_code, exceptionTable := #[], attributes := #[] }
def k0m0 : Method := { name := "<init>", desc := "()V", sig := { parameters := [], returnType := none }, accessFlags := 1, code := some k0c0 }
/-- java/lang/Object -/
def k0 : Class := { plain "java/lang/Object" none with
  accessFlags := 33
  interfaces := #[]
  cf := some (fileOf pool0 8 #[] #[{ accessFlags := 1, nameIndex := 5, descriptorIndex := 6, attributes := #[] }] 33 0 #[] #[])
  fields := #[]
  methods := #[k0m0]
  instanceTypes := #[]
  staticTypes := #[]
  resolved := Array.replicate 124 none
  statics := none }

def pool1 : Array CpInfo := pool [(2, .class_ 4), (1, u "java/lang/Object"), (0, u "<init>"), (0, u "()V"), (0, .integer 2147483647), (0, .class_ 9), (0, u "com/example/libfacet/libfacet/regex/StateSet"), (0, .methodref 8 11), (0, .nameAndType 5 12), (0, u "(IZ)V"), (0, .methodref 8 14), (0, .nameAndType 15 16), (0, u "isMarked"), (0, u "(I)Z"), (0, .methodref 8 18), (0, .nameAndType 19 16), (0, u "mark"), (0, .methodref 8 21), (0, .nameAndType 22 6), (0, u "clear"), (0, .class_ 24), (0, u "com/example/libfacet/libfacet/regex/StateSetIsMarkedPinLaw"), (2, u "law"), (0, u "(IIIII)Z")] 3

def k1m0 : Method := { name := "<init>", desc := "()V", sig := { parameters := [], returnType := none }, accessFlags := 1, code := none }
def k1c1 : Code := { maxStack := 4, maxLocals := 15, code := code, exceptionTable := #[], attributes := #[] }
def k1m1 : Method := { name := "law", desc := "(IIIII)Z", sig := { parameters := [.int, .int, .int, .int, .int], returnType := some .boolean }, accessFlags := 9, code := some k1c1 }
/-- com/example/libfacet/libfacet/regex/StateSetIsMarkedPinLaw -/
def k1 : Class := { plain "com/example/libfacet/libfacet/regex/StateSetIsMarkedPinLaw" (some 0) with
  accessFlags := 49
  interfaces := #[]
  cf := some (fileOf pool1 23 #[] #[{ accessFlags := 1, nameIndex := 5, descriptorIndex := 6, attributes := #[] }, { accessFlags := 9, nameIndex := 27, descriptorIndex := 28, attributes := #[] }] 49 2 #[] #[])
  fields := #[]
  methods := #[k1m0, k1m1]
  instanceTypes := #[]
  staticTypes := #[]
  resolved := Array.replicate 32 none
  statics := none }

def pool2 : Array CpInfo := pool [(2, .class_ 4), (1, u "com/example/libfacet/libfacet/regex/StateSet"), (0, u "<init>"), (0, u "(IZ)V"), (0, .methodref 8 9), (0, .class_ 10), (0, .nameAndType 5 11), (0, u "java/lang/Object"), (0, u "()V"), (0, .fieldref 2 13), (0, .nameAndType 14 15), (0, u "stamp"), (0, u "I"), (0, .fieldref 2 17), (0, .nameAndType 18 19), (0, u "stack"), (0, u "[I"), (0, .fieldref 2 21), (0, .nameAndType 22 15), (0, u "instructions"), (0, .fieldref 2 24), (0, .nameAndType 25 19), (0, u "members"), (0, .fieldref 2 27), (0, .nameAndType 28 29), (0, u "marks"), (0, u "[C"), (0, .fieldref 2 31), (0, .nameAndType 32 33), (0, u "markBits"), (0, u "[J"), (0, .fieldref 2 35), (0, .nameAndType 36 19), (0, u "marked"), (0, .fieldref 2 38), (0, .nameAndType 39 15), (0, u "size"), (0, .fieldref 2 41), (0, .nameAndType 42 15), (0, u "markedCount"), (2, .integer 65535), (46, u "depth"), (9, u "clear"), (0, u "mark"), (0, u "(I)Z"), (1, u "isMarked")] 15

def k2c0 : Code := { maxStack := 3, maxLocals := 3, code := prog_95_method_2_code, exceptionTable := #[], attributes := #[] }
def k2m0 : Method := { name := "<init>", desc := "(IZ)V", sig := { parameters := [.int, .boolean], returnType := none }, accessFlags := 0, code := some k2c0 }
def k2c1 : Code := { maxStack := 4, maxLocals := 2, code := prog_95_method_4_code, exceptionTable := #[], attributes := #[] }
def k2m1 : Method := { name := "clear", desc := "()V", sig := { parameters := [], returnType := none }, accessFlags := 0, code := some k2c1 }
def k2c2 : Code := { maxStack := 7, maxLocals := 3, code := prog_95_method_5_code, exceptionTable := #[], attributes := #[] }
def k2m2 : Method := { name := "mark", desc := "(I)Z", sig := { parameters := [.int], returnType := some .boolean }, accessFlags := 0, code := some k2c2 }
def k2c3 : Code := { maxStack := 5, maxLocals := 2, code := prog_95_method_8_code, exceptionTable := #[], attributes := #[] }
def k2m3 : Method := { name := "isMarked", desc := "(I)Z", sig := { parameters := [.int], returnType := some .boolean }, accessFlags := 0, code := some k2c3 }
/-- com/example/libfacet/libfacet/regex/StateSet -/
def k2 : Class := { plain "com/example/libfacet/libfacet/regex/StateSet" (some 0) with
  accessFlags := 48
  interfaces := #[]
  cf := some (fileOf pool2 2 #[] #[{ accessFlags := 0, nameIndex := 5, descriptorIndex := 6, attributes := #[] }, { accessFlags := 0, nameIndex := 102, descriptorIndex := 11, attributes := #[] }, { accessFlags := 0, nameIndex := 103, descriptorIndex := 104, attributes := #[] }, { accessFlags := 0, nameIndex := 106, descriptorIndex := 104, attributes := #[] }] 48 8 #[] #[{ accessFlags := 2, nameIndex := 25, descriptorIndex := 19, attributes := #[] }, { accessFlags := 2, nameIndex := 39, descriptorIndex := 15, attributes := #[] }, { accessFlags := 18, nameIndex := 22, descriptorIndex := 15, attributes := #[] }, { accessFlags := 18, nameIndex := 28, descriptorIndex := 29, attributes := #[] }, { accessFlags := 18, nameIndex := 32, descriptorIndex := 33, attributes := #[] }, { accessFlags := 2, nameIndex := 14, descriptorIndex := 15, attributes := #[] }, { accessFlags := 2, nameIndex := 18, descriptorIndex := 19, attributes := #[] }, { accessFlags := 2, nameIndex := 92, descriptorIndex := 15, attributes := #[] }, { accessFlags := 2, nameIndex := 36, descriptorIndex := 19, attributes := #[] }, { accessFlags := 2, nameIndex := 42, descriptorIndex := 15, attributes := #[] }])
  fields := #[{ name := "members", type := (.array .int), accessFlags := 2, slot := 0, constantValue := 0 }, { name := "size", type := .int, accessFlags := 2, slot := 1, constantValue := 0 }, { name := "instructions", type := .int, accessFlags := 18, slot := 2, constantValue := 0 }, { name := "marks", type := (.array .char), accessFlags := 18, slot := 3, constantValue := 0 }, { name := "markBits", type := (.array .long), accessFlags := 18, slot := 4, constantValue := 0 }, { name := "stamp", type := .int, accessFlags := 2, slot := 5, constantValue := 0 }, { name := "stack", type := (.array .int), accessFlags := 2, slot := 6, constantValue := 0 }, { name := "depth", type := .int, accessFlags := 2, slot := 7, constantValue := 0 }, { name := "marked", type := (.array .int), accessFlags := 2, slot := 8, constantValue := 0 }, { name := "markedCount", type := .int, accessFlags := 2, slot := 9, constantValue := 0 }]
  methods := #[k2m0, k2m1, k2m2, k2m3]
  instanceTypes := #[(.array .int), .int, .int, (.array .char), (.array .long), .int, (.array .int), .int, (.array .int), .int]
  staticTypes := #[]
  resolved := Array.replicate 122 none
  statics := none }

def pool3 : Array CpInfo := pool [(1, u "java/lang/Cloneable"), (0, .class_ 1), (0, u "java/lang/Object"), (0, .class_ 3)] 3

/-- java/lang/Cloneable -/
def k3 : Class := { plain "java/lang/Cloneable" (some 0) with
  accessFlags := 1537
  interfaces := #[]
  cf := some (fileOf pool3 2 #[] #[] 1537 4 #[] #[])
  fields := #[]
  methods := #[]
  instanceTypes := #[]
  staticTypes := #[]
  resolved := Array.replicate 8 none
  statics := none }

def pool4 : Array CpInfo := pool [(1, u "java/io/Serializable"), (0, .class_ 1), (0, u "java/lang/Object"), (0, .class_ 3)] 3

/-- java/io/Serializable -/
def k4 : Class := { plain "java/io/Serializable" (some 0) with
  accessFlags := 1537
  interfaces := #[]
  cf := some (fileOf pool4 2 #[] #[] 1537 4 #[] #[])
  fields := #[]
  methods := #[]
  instanceTypes := #[]
  staticTypes := #[]
  resolved := Array.replicate 8 none
  statics := none }

/-- the primitive byte -/
def k5 : Class := { plain "byte" none with kind := .primitive 'B', accessFlags := 0x411 }
/-- [B -/
def k6 : Class := { plain "[B" (some 0) with kind := .array 5 .byte, interfaces := #[3, 4], accessFlags := 1041 }

/-- the primitive char -/
def k7 : Class := { plain "char" none with kind := .primitive 'C', accessFlags := 0x411 }
/-- [C -/
def k8 : Class := { plain "[C" (some 0) with kind := .array 7 .char, interfaces := #[3, 4], accessFlags := 1041 }

/-- the primitive int -/
def k9 : Class := { plain "int" none with kind := .primitive 'I', accessFlags := 0x411 }
/-- [I -/
def k10 : Class := { plain "[I" (some 0) with kind := .array 9 .int, interfaces := #[3, 4], accessFlags := 1041 }

/-- the primitive long -/
def k11 : Class := { plain "long" none with kind := .primitive 'J', accessFlags := 0x411 }
/-- [J -/
def k12 : Class := { plain "[J" (some 0) with kind := .array 11 .long, interfaces := #[3, 4], accessFlags := 1041 }

def heap : Heap := #[]
def classes : Array Class := #[k0, k1, k2, k3, k4, k5, k6, k7, k8, k9, k10, k11, k12]
def interned : List (Array UInt16 × Addr) := []
def slotsUsed : Nat := 0
def theMethod : MethodId := ⟨1, 1⟩
def args0 : Array Value := #[.int 5, .int 9, .int 3, .int 9, .int 3]
def aboutOver (below : List Frame) : State where
  vm := { classes := classes, interned := interned.toArray }
  heap := heap
  slotsUsed := slotsUsed
  threads := #[{ frames := .invoking theMethod args0 :: below }]
def below0 : List Frame := [.native { method := ⟨0, 0⟩, args := #[] }]
def about1 : State := aboutOver below0
def p0 : Program := .bare "" "" ""
def e0 : Env := launch0.env 0 0 0
theorem w_frames : about1.frames = Frame.invoking theMethod args0 :: below0 := rfl
set_option maxRecDepth 65536 in
theorem w_args : argsFit about1.vm theMethod args0 = true := by decide +kernel
set_option maxRecDepth 65536 in
theorem w_heap : heapFits about1 = true := by decide +kernel
set_option maxRecDepth 65536 in
theorem w_runnable : about1.curStatus? = some .runnable := by decide +kernel
set_option maxRecDepth 65536 in
theorem w_alone : about1.alone = true := by decide +kernel
set_option maxRecDepth 65536 in
theorem w_named : about1.methodNamed? x = some theMethod := by decide +kernel
set_option maxRecDepth 65536 in
theorem w_hears : about1.hears theMethod below0 = true := by decide +kernel
set_option maxRecDepth 65536 in
theorem w_ripe : about1.ripe theMethod args0 below0 = true := by decide +kernel
theorem w_running : about1.status = .running := rfl
set_option maxRecDepth 65536 in
theorem w_room : about1.hasRoom e0.platform room_1 = true :=
  launch0.hasRoom_least _ room_1 (by decide +kernel) (by decide +kernel) (by decide +kernel) (by decide +kernel) (by decide +kernel) (by decide +kernel)
theorem allAtoms_all (ts : List Jvm.Cond) (a : Array Jvm.Value) (st : Jvm.State) : (allAtoms ts).before a st = ts.all (fun c => c.before a st) := by
  induction ts with
  | nil => rfl
  | cons c t ih =>
    show (Jvm.Cond.and c (allAtoms t)).before a st = _
    rw [Jvm.Cond.before_and, ih, List.all_cons]
def words1 : List Jvm.Cond := Jvm.Cond.code x code maxLocals ret :: tables_1
/-- a 'code' word, met by the world's own term for the bytes: nothing is compared byte by byte -/
theorem code_word {y : MethodName} {bytes : ByteArray} {mx : Nat} {rt : Option FieldType} {a : Array Value} {s : State} {m : MethodId} {meth : Method} {c : Code} (h1 : s.methodNamed? y = some m) (h2 : s.vm.method? m = some meth) (h3 : meth.code = some c) (h4 : c.code = bytes)
    (h5 : (c.maxLocals == mx && c.exceptionTable.isEmpty && decide (c.maxStack ≤ mostOperands) && decide (meth.sig.returnType = rt) && !meth.locks && decide (parseMethodDescriptor y.desc = some meth.sig)) = true) : (Jvm.Cond.code y bytes mx rt).before a s = true := by
  simp only [Bool.and_eq_true, beq_iff_eq, Bool.not_eq_true', decide_eq_true_eq] at h5
  obtain ⟨⟨⟨⟨⟨g1, g2⟩, g3⟩, g4⟩, g5⟩, g6⟩ := h5
  simp [Cond.before, Cond.holds, Cond.value, h1, h2, h3, h4, g1, g2, g3, g4, g5, g6]
def isCode : Jvm.Cond → Bool
  | .code _ _ _ _ => true
  | _ => false
theorem all_split {L : List Jvm.Cond} {P : Jvm.Cond → Bool} (h1 : L.all (fun c => isCode c || P c) = true) (h2 : ∀ c ∈ L.filter isCode, P c = true) : L.all P = true := by
  refine List.all_eq_true.mpr fun c hc => ?_
  have h := List.all_eq_true.mp h1 c hc
  rcases Bool.eq_false_or_eq_true (isCode c) with hi | hi
  · exact h2 c (List.mem_filter.mpr ⟨hc, hi⟩)
  · simpa [hi] using h
set_option maxRecDepth 65536 in
theorem w_c0 : (Jvm.Cond.code x code maxLocals ret).before args0 about1 = true := code_word (m := ⟨1, 1⟩) (meth := k1m1) (c := k1c1) (by decide +kernel) rfl rfl rfl (by decide +kernel)
set_option maxRecDepth 65536 in
theorem w_c1 : (Jvm.Cond.code ({ cls := "com/example/libfacet/libfacet/regex/StateSet", name := "<init>", desc := "(IZ)V" } : Jvm.MethodName) prog_95_method_2_code (3 : Nat) (Option.none : Option Jvm.ClassFile.FieldType)).before args0 about1 = true := code_word (m := ⟨2, 0⟩) (meth := k2m0) (c := k2c0) (by decide +kernel) rfl rfl rfl (by decide +kernel)
set_option maxRecDepth 65536 in
theorem w_c2 : (Jvm.Cond.code ({ cls := "java/lang/Object", name := "<init>", desc := "()V" } : Jvm.MethodName) object_method_1_code (1 : Nat) (Option.none : Option Jvm.ClassFile.FieldType)).before args0 about1 = true := code_word (m := ⟨0, 0⟩) (meth := k0m0) (c := k0c0) (by decide +kernel) rfl rfl rfl (by decide +kernel)
set_option maxRecDepth 65536 in
theorem w_c3 : (Jvm.Cond.code ({ cls := "com/example/libfacet/libfacet/regex/StateSet", name := "isMarked", desc := "(I)Z" } : Jvm.MethodName) prog_95_method_8_code (2 : Nat) (Option.some Jvm.ClassFile.FieldType.boolean)).before args0 about1 = true := code_word (m := ⟨2, 3⟩) (meth := k2m3) (c := k2c3) (by decide +kernel) rfl rfl rfl (by decide +kernel)
set_option maxRecDepth 65536 in
theorem w_c4 : (Jvm.Cond.code ({ cls := "com/example/libfacet/libfacet/regex/StateSet", name := "mark", desc := "(I)Z" } : Jvm.MethodName) prog_95_method_5_code (3 : Nat) (Option.some Jvm.ClassFile.FieldType.boolean)).before args0 about1 = true := code_word (m := ⟨2, 2⟩) (meth := k2m2) (c := k2c2) (by decide +kernel) rfl rfl rfl (by decide +kernel)
set_option maxRecDepth 65536 in
theorem w_c5 : (Jvm.Cond.code ({ cls := "com/example/libfacet/libfacet/regex/StateSet", name := "clear", desc := "()V" } : Jvm.MethodName) prog_95_method_4_code (2 : Nat) (Option.none : Option Jvm.ClassFile.FieldType)).before args0 about1 = true := code_word (m := ⟨2, 1⟩) (meth := k2m1) (c := k2c1) (by decide +kernel) rfl rfl rfl (by decide +kernel)
def codes1 : List Jvm.Cond := [Jvm.Cond.code x code maxLocals ret, Jvm.Cond.code ({ cls := "com/example/libfacet/libfacet/regex/StateSet", name := "<init>", desc := "(IZ)V" } : Jvm.MethodName) prog_95_method_2_code (3 : Nat) (Option.none : Option Jvm.ClassFile.FieldType), Jvm.Cond.code ({ cls := "java/lang/Object", name := "<init>", desc := "()V" } : Jvm.MethodName) object_method_1_code (1 : Nat) (Option.none : Option Jvm.ClassFile.FieldType), Jvm.Cond.code ({ cls := "com/example/libfacet/libfacet/regex/StateSet", name := "isMarked", desc := "(I)Z" } : Jvm.MethodName) prog_95_method_8_code (2 : Nat) (Option.some Jvm.ClassFile.FieldType.boolean), Jvm.Cond.code ({ cls := "com/example/libfacet/libfacet/regex/StateSet", name := "mark", desc := "(I)Z" } : Jvm.MethodName) prog_95_method_5_code (3 : Nat) (Option.some Jvm.ClassFile.FieldType.boolean), Jvm.Cond.code ({ cls := "com/example/libfacet/libfacet/regex/StateSet", name := "clear", desc := "()V" } : Jvm.MethodName) prog_95_method_4_code (2 : Nat) (Option.none : Option Jvm.ClassFile.FieldType)]
set_option maxRecDepth 65536 in
theorem codes_eq : words1.filter isCode = codes1 := rfl
theorem w_codes : ∀ c ∈ words1.filter isCode, c.before args0 about1 = true := by
  rw [codes_eq]
  intro c hc
  simp only [codes1, List.mem_cons, List.not_mem_nil, or_false] at hc
  rcases hc with rfl | rfl | rfl | rfl | rfl | rfl
  · exact w_c0
  · exact w_c1
  · exact w_c2
  · exact w_c3
  · exact w_c4
  · exact w_c5
set_option maxRecDepth 65536 in
theorem w_t1 : (words1.take 24).all (fun c => isCode c || c.before args0 about1) = true := by decide +kernel
set_option maxRecDepth 65536 in
theorem w_t2 : (words1.drop 24).all (fun c => isCode c || c.before args0 about1) = true := by decide +kernel
theorem w_tables : (allAtoms (Jvm.Cond.code x code maxLocals ret :: tables_1)).before args0 about1 = true := by
  rw [allAtoms_all]
  show words1.all (fun c => c.before args0 about1) = true
  refine all_split ?_ w_codes
  rw [← List.take_append_drop 24 words1, List.all_append, w_t1, w_t2]
  rfl
set_option maxRecDepth 65536 in
theorem w_case : (Jvm.Cond.and given_1 narrow_1).before args0 about1 = true := by decide +kernel
theorem w_applies : (headSpec (Jvm.Cond.code x code maxLocals ret :: tables_1) room_1).applies x e0.platform about1 = true :=
  (Spec.applies_iff w_frames).mpr ⟨w_running, w_runnable, w_alone, w_named, w_hears, w_ripe, w_room, w_tables⟩
theorem atStart : AtStart classFile x code maxLocals ret World_1 tables_1 room_1 Calls_1 rest_1 Pre_1 launch0 p0 e0 about1 theMethod args0 below0 :=
  ⟨lists_1, trivial, launch0.admits_env _ _ _, launch0.least_env, fairChoices_fair.cas, fairChoices_fair.clock, w_frames, w_args, w_heap, w_applies, trivial, trivial, w_case⟩
end start1
theorem witness_1 : WitnessClaimed_1 := ⟨start1.p0, start1.e0, start1.about1, start1.theMethod, start1.args0, start1.below0, start1.atStart⟩
end Jvm.Pilot.@@N@@
