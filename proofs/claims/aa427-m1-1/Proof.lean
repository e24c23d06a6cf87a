import JvmDerived
import JvmDerived.Pilot.@@N@@Statement
import JvmDerived.Pilot.@@N@@Code
set_option linter.unusedVariables false
set_option linter.unusedSimpArgs false
namespace Jvm.RoadKit
open Sem ClassFile Op Lib Jvm.Stand Jvm.Free Jvm.LawKit
section New
variable {p : Program} {l : Launch} {e : Env} {R : Room} {s : State} {m : MethodId} {args : Array Value} {below : List Frame} {meth : Method} {c : Code} {T : State} {locs : List Loc} {cells slots : Nat}
theorem retI (X : Stand p l e R s m args below meth c T locs cells slots) (hx : p.tables.exec = Jvm.exec) {pc : Nat} {Ls : Array Slot} {z : Int32} {rest : List Value} (hret : meth.sig.returnType = some .int) (hd : decode c.code pc = .ok (.ireturn, 1)) {fs : List Frame}
    (hl : ∀ (f : JFrame) (acts : List Action), f.method = m → f.locked = none → f.entered = [] → (doReturn e (T.setTop f) acts (some (.int z))).1 = T.setFrames fs) : Steps p.tables e below (T.setTop (mkF m pc Ls (.int z :: rest))) (T.setFrames fs) := by
  have hm' : T.vm.method? m = some meth := X.method'
  have hn : narrow .int (.int z) = .int z := rfl
  show Steps p.tables e below (T.setTop { method := m, pc := pc, locals := Ls, stack := _ :: rest, locked := none }) _
  jvm_step X.here [X.here.top, hx, hd, hm', hret, hn]
  first | (intro acts; rw [hl _ acts rfl rfl rfl]) | rw [hl _ _ rfl rfl rfl]
  exact Steps.refl _
end New
/-- the run from the state A ends as asked: what is left of the goal while one walks -/
def own_End (p : Program) (e : Env) (below : List Frame) (s A : State) (W : Option Value → Heap → List Loc → Prop) (k n : Nat) : Prop :=
  ∃ s₂ o, Steps p.tables e below A s₂ ∧ s₂.status = .running ∧ Ended s₂ below o ∧ ∃ v L, o = .returned v ∧ W v s₂.heap L ∧ FrameEnd s o s₂ L k n
theorem own_pre {p : Program} {e : Env} {below : List Frame} {s A B : State} {W : Option Value → Heap → List Loc → Prop} {k n : Nat} (f : ∀ t, Steps p.tables e below A t → Steps p.tables e below B t) (h : own_End p e below s A W k n) : own_End p e below s B W k n := by
  obtain ⟨s₂, o, h1, h2⟩ := h; exact ⟨s₂, o, f _ h1, h2⟩
end Jvm.RoadKit
namespace Jvm.RoadKit
open Sem ClassFile Op Lib Jvm.Stand Jvm.Free Jvm.LawKit
/-- an array of n places, the i-th of which holds f i -/
def own_Arr (Z : State) (h : Heap) (a : Addr) (ty : FieldType) (n : Int32) (f : Nat → Value) : Prop := ∃ c : Cell, Arr Z h a c ty ∧ c.slots.size = n.toNatClampNeg ∧ ¬ n < 0 ∧ ∀ i, i < n.toNatClampNeg → c.slots[i]? = some (f i)
section Arrays
variable {Z : State} {h h' : Heap} {a b : Addr} {ty : FieldType} {n j : Int32} {f f' : Nat → Value} {sl : Nat} {v : Value} {ws : List Addr}
theorem own_Arr.lt (F : own_Arr Z h a ty n f) : a < h.size := by obtain ⟨c, A, -⟩ := F; exact A.lt
theorem own_Arr.ext (F : own_Arr Z h a ty n f) (E : Ext h h') : own_Arr Z h' a ty n f := by obtain ⟨c, A, r⟩ := F; exact ⟨c, A.ext E, r⟩
theorem own_Arr.other (F : own_Arr Z h b ty n f) (W : Wr h h' a sl v) (q : b ≠ a) : own_Arr Z h' b ty n f := by obtain ⟨c, A, r⟩ := F; exact ⟨c, A.other W q, r⟩
theorem own_Arr.keep (F : own_Arr Z h a ty n f) (K : Keep h h' ws) (q : a ∉ ws) : own_Arr Z h' a ty n f := by obtain ⟨c, A, r⟩ := F; exact ⟨c, ⟨K.2.1 a c A.1 q, A.2⟩, r⟩
theorem own_Arr.new {k : ClassId} (A : Arr Z h a (newA k ty n) ty) (q : ¬ n < 0) (hf : ∀ i, f i = defaultValue ty) : own_Arr Z h a ty n f :=
  ⟨_, A, sz_new _ _ _, q, fun i hi => by rw [hf]; simp [newA, hi]⟩
theorem own_Arr.set {α : Type} (w : α → Value) {g g' : Nat → α} {x : α} {q : Nat} (F : own_Arr Z h a ty n (fun i => w (g i))) (W : Wr h h' a j.toNatClampNeg (w x)) (hj : j.toNatClampNeg = q) (hg : ∀ i, g' i = if i = q then x else g i) : own_Arr Z h' a ty n (fun i => w (g' i)) := by
  obtain ⟨c, A, r1, r2, r3⟩ := F
  subst hj
  refine ⟨_, A.same W, by rw [sz_set]; exact r1, r2, fun i hi => ?_⟩
  show _ = some (w (g' i))
  rw [hg]
  by_cases e : i = j.toNatClampNeg
  · subst e
    rw [if_pos rfl]; simp [Cell.setSlot, r1, hi]
  · rw [if_neg e]
    rw [← r3 i hi]; exact Array.getElem?_setIfInBounds_ne (Ne.symm e)
theorem own_Arr.congr {α : Type} (w : α → Value) {g g' : Nat → α} (F : own_Arr Z h a ty n (fun i => w (g i))) (hg : ∀ i, i < n.toNatClampNeg → g' i = g i) : own_Arr Z h a ty n (fun i => w (g' i)) := by
  obtain ⟨c, A, r1, r2, r3⟩ := F
  exact ⟨c, A, r1, r2, fun i hi => by show _ = some (w (g' i)); rw [hg i hi]; exact r3 i hi⟩
theorem own_at {c : Cell} (S : c.slots.size = n.toNatClampNeg) (G : ∀ i, i < n.toNatClampNeg → c.slots[i]? = some (f i)) (hj : ¬ (j < 0 ∨ c.slots.size ≤ j.toNatClampNeg)) : c.slots[j.toNatClampNeg]? = some (f j.toNatClampNeg) := G _ (by rw [← S]; exact Nat.lt_of_not_le fun y => hj (Or.inr y))
theorem own_nn {n : Int32} (h : ¬ n < 0) : 0 ≤ n.toInt ∧ n.toInt = n.toNatClampNeg := by
  have e := nat_of h
  exact ⟨by omega, e⟩
theorem own_Arr.nn (F : own_Arr Z h a ty n f) : 0 ≤ n.toInt ∧ n.toInt = n.toNatClampNeg := by obtain ⟨c, A, r1, r2, r3⟩ := F; exact own_nn r2
theorem own_ge0 {i : Int32} (h : 0 ≤ i.toInt) : ¬ i < 0 := fun q => by
  have := Int32.lt_iff_toInt_lt.mp q
  have z : (0 : Int32).toInt = 0 := by decide
  omega
theorem own_inb {i n : Int32} (h0 : 0 ≤ i.toInt) (h : i < n) : ¬ i < 0 ∧ i < n := ⟨own_ge0 h0, h⟩
theorem own_inb2 {i n : Int32} (h0 : 0 ≤ i.toInt) (h : i.toInt < n.toInt) : ¬ i < 0 ∧ i < n := ⟨own_ge0 h0, Int32.lt_iff_toInt_lt.mpr h⟩
theorem own_next {i n : Int32} (h0 : 0 ≤ i.toInt) (h : i < n) : (i + 1).toInt = i.toInt + 1 ∧ i.toInt < n.toInt := by
  have q := Int32.lt_iff_toInt_lt.mp h
  have a := c_iadd i 1
  have z : (1 : Int32).toInt = 1 := by decide
  have r1 := rng32 (i + 1)
  have r2 := rng32 n
  omega
end Arrays
end Jvm.RoadKit
namespace Jvm.RoadKit
open Sem ClassFile Op Lib Jvm.Stand Jvm.Free Jvm.LawKit
section Ref
variable {p : Program} {l : Launch} {e : Env} {R : Room} {s : State} {m : MethodId} {args : Array Value} {below : List Frame} {meth : Method} {c : Code} {T : State} {locs : List Loc} {cells slots : Nat}
/-- invokestatic of an entry that is resolved already -/
theorem own_staticRef (X : Stand p l e R s m args below meth c T locs cells slots) (hexec : p.tables.exec = Jvm.exec)
    {own : String} {index : Nat} {x : MethodName} (hown : s.vm.findClass own = some m.cls) (hlink : (Cond.methodRef own index x).before args s = true)
    {m' : MethodId} {meth' : Method} {k' : Class} (hn : s.methodNamed? x = some m') (hm' : s.vm.method? m' = some meth') (hstatic : meth'.isStatic = true)
    (hk' : s.vm.classes[m'.cls]? = some k') (hinit : k'.init = .initialized)
    (hx : x.cls ≠ "java/lang/invoke/MethodHandle" ∧ x.cls ≠ "java/lang/invoke/VarHandle")
    {g : JFrame} (hg : g.method = m) {argsL rest : List Value} (hlen : argsL.length = meth'.sig.parameters.length) (hstack : g.stack = argsL.reverse ++ rest)
    (hdg : decode c.code g.pc = .ok (.invokestatic index, 3)) :
    ∀ target, (∀ acts, Steps p.tables e below (doInvoke e (T.setTop { g with stack := rest }) acts m' argsL.toArray).1 target) → Steps p.tables e below (T.setTop g) target := by
  intro target hrest
  have hw := Cond.methodRef_warmed (args := args) X.warmed hn hx hlink
  have alike := X.warmed.alike
  have hcur : (s.setVm T.vm).vm.findClass own = some m.cls := by
    show T.vm.findClass own = _
    rw [alike.findClass]; exact hown
  obtain ⟨m1, c', hf, hready, hfind, -⟩ := Cond.methodRef_named e hcur hw
  have hn2 : (s.setVm T.vm).methodFound? x.cls x.name x.desc = some m' := by
    rw [State.methodFound?_setVm_of_named alike hn hx]
    exact State.methodFound?_of_named hn hx
  cases hf.symm.trans hn2
  have hpr : Op.plainRef (s.setVm T.vm) e m.cls index := Op.plainRef_of_methodRef hcur hw hx
  have hpr' : Op.plainRef T e m.cls index := hpr
  have hready' : T.vm.methodReady m.cls index m' := hready
  obtain ⟨k₂, hk₂, he₂⟩ := alike.2.2 _ _ hk'
  obtain ⟨kx, hkx, hnx⟩ := className_of_methodNamed hn
  cases hk'.symm.trans hkx
  have hnopoly : signaturePolymorphic k₂ meth' = false := by
    have e1 : k₂.name = x.cls := by rw [he₂]; exact hnx
    simp [signaturePolymorphic, e1, hx.1, hx.2]
  subst hg
  jvm_step X.here [hexec, hdg, invokestatic.wp_ready (e := e) (s := T) (k := k₂) (meth := meth') (m := m') (args := argsL) (rest := rest) (f := g) X.here.top hpr' hready' hk₂ (by rw [alike.method?]; exact hm') hnopoly hstatic (by rw [he₂]; exact hinit) hlen hstack]
  exact fun acts => hrest _
/-- the same by a callee's contract -/
theorem own_callRef (X : Stand p l e R s m args below meth c T locs cells slots) (hexec : p.tables.exec = Jvm.exec) {own : String} {index : Nat} {y : MethodName} {bytes : ByteArray} {maxL : Nat} {ret : Option FieldType}
    (hown : s.vm.findClass own = some m.cls) (hlink : (Cond.methodRef own index y).before args s = true) (hstat : (Cond.static y).before args s = true) (hinit : (Cond.initialized y.cls).before args s = true)
    (hcode : (Cond.code y bytes maxL ret).before args s = true) (hy : y.cls ≠ "java/lang/invoke/MethodHandle" ∧ y.cls ≠ "java/lang/invoke/VarHandle")
    {W : Nat} {Pre : Pt → Array Value → Prop} {Post : Pt → Array Value → Option Value → Pt → Prop} (hK : Back l R p e below s args y 3 W Pre Post)
    {g : JFrame} (hg : g.method = m) (hsize : g.locals.size = c.maxLocals) {argsL rest : List Value} (hlen : ∀ sig, parseMethodDescriptor y.desc = some sig → argsL.length = sig.parameters.length)
    (hstack : g.stack = argsL.reverse ++ rest) (hW : 2 * g.monitorRoom + (rest.map fun v => v.category).sum ≤ W) (hdg : decode c.code g.pc = .ok (.invokestatic index, 3))
    (hpre : Pre ⟨T, locs, cells, slots⟩ argsL.toArray) :
    ∃ (v : Option Value) (B : Pt), Stand p l e R s m args below meth c B.U B.locs B.cells B.slots ∧ Post ⟨T, locs, cells, slots⟩ argsL.toArray v B ∧
      ∀ target, Steps p.tables e below (B.U.setTop { g with pc := g.pc + 3, stack := v.toList ++ rest }) target → Steps p.tables e below (T.setTop g) target := by
  obtain ⟨mk, hnamed⟩ := Cond.code_named hcode
  obtain ⟨methM, cM, hmethM, -, -, -, -, -, -, hsigM⟩ := Cond.code_spec hnamed hcode
  have hstatic : methM.isStatic = true := Cond.static_spec hnamed hmethM hstat
  obtain ⟨kP, hkP, -⟩ := className_of_methodNamed hnamed
  have hinitP : kP.init = .initialized := Cond.initialized_spec (findClass_of_methodNamed hnamed) hkP hinit
  have hstep₁ := own_staticRef X hexec hown hlink hnamed hmethM hstatic hkP hinitP hy (g := g) hg (argsL := argsL) (rest := rest) (hlen _ hsigM) hstack hdg
  obtain ⟨v, B, X', hpost, hsteps⟩ := hK m meth c ⟨T, locs, cells, slots⟩ { g with stack := rest } (.invokestatic index) mk argsL.toArray X hg hsize hdg hW (X.named hnamed) hpre
  exact ⟨v, B, X', hpost, fun target h => hstep₁ _ fun acts => by rw [doInvoke_state]; exact hsteps.trans h⟩
/-- the word carried to where the walk stands -/
theorem own_mvRef {Z : State} {a0 : Array Value} {own : String} {index : Nat} {y : MethodName} {bytes : ByteArray} {maxL : Nat} {ret : Option FieldType} (hZ : Z.Warmed39 s.vm) (w : (Cond.methodRef own index y).before a0 Z = true) (wc : (Cond.code y bytes maxL ret).before a0 Z = true) (hy : y.cls ≠ "java/lang/invoke/MethodHandle" ∧ y.cls ≠ "java/lang/invoke/VarHandle") : (Cond.methodRef own index y).before args s = true := by
  obtain ⟨mk, hnamed⟩ := Cond.code_named wc
  have h1 := Cond.methodRef_warmed39 (args := a0) hZ hnamed hy w
  exact h1
theorem own_mvNest {Z : State} {a0 : Array Value} {own host : String} {index : Nat} {y : MethodName} (hZ : Z.Warmed39 s.vm) (w : (Cond.methodLinkNest own index y host).before a0 Z = true) : (Cond.methodLinkNest own index y host).before args s = true := (Cond.methodLinkNest_wide hZ w :)
end Ref
end Jvm.RoadKit
namespace Jvm.Pilot.@@N@@
open Jvm Jvm.ClassFile Sem Op Lib Jvm.Free Jvm.Stand Jvm.LawKit Jvm.RoadKit Bundle Jvm.Pilot.@@N@@.Jvm.D
def own_B0 (Z : State) (h : Heap) (a : Addr) (v4 : Int32) : Prop := Exa Z h a "com/example/atoll/atoll/detect/Beacon$Builder" ∧ Fld Z h a "com/example/atoll/atoll/detect/Beacon$Builder" "ids" "[I" .null ∧ Fld Z h a "com/example/atoll/atoll/detect/Beacon$Builder" "incarnations" "[I" .null ∧ Fld Z h a "com/example/atoll/atoll/detect/Beacon$Builder" "rounds" "[I" .null ∧ Fld Z h a "com/example/atoll/atoll/detect/Beacon$Builder" "heard" "[I" .null ∧ Fld Z h a "com/example/atoll/atoll/detect/Beacon$Builder" "count" "I" (.int v4)
def own_B (Z : State) (h : Heap) (a : Addr) (v0 : Addr) (v1 : Addr) (v2 : Addr) (v3 : Addr) (v4 : Int32) : Prop := Exa Z h a "com/example/atoll/atoll/detect/Beacon$Builder" ∧ Fld Z h a "com/example/atoll/atoll/detect/Beacon$Builder" "ids" "[I" (.ref v0) ∧ Fld Z h a "com/example/atoll/atoll/detect/Beacon$Builder" "incarnations" "[I" (.ref v1) ∧ Fld Z h a "com/example/atoll/atoll/detect/Beacon$Builder" "rounds" "[I" (.ref v2) ∧ Fld Z h a "com/example/atoll/atoll/detect/Beacon$Builder" "heard" "[I" (.ref v3) ∧ Fld Z h a "com/example/atoll/atoll/detect/Beacon$Builder" "count" "I" (.int v4)
def own_C0 (Z : State) (h : Heap) (a : Addr) (v0 : Int32) : Prop := Exa Z h a "com/example/atoll/atoll/detect/Beacon" ∧ Fld Z h a "com/example/atoll/atoll/detect/Beacon" "sender" "I" (.int v0) ∧ Fld Z h a "com/example/atoll/atoll/detect/Beacon" "ids" "[I" .null ∧ Fld Z h a "com/example/atoll/atoll/detect/Beacon" "incarnations" "[I" .null ∧ Fld Z h a "com/example/atoll/atoll/detect/Beacon" "rounds" "[I" .null ∧ Fld Z h a "com/example/atoll/atoll/detect/Beacon" "heard" "[I" .null
def own_C (Z : State) (h : Heap) (a : Addr) (v0 : Int32) (v1 : Addr) (v2 : Addr) (v3 : Addr) (v4 : Addr) : Prop := Exa Z h a "com/example/atoll/atoll/detect/Beacon" ∧ Fld Z h a "com/example/atoll/atoll/detect/Beacon" "sender" "I" (.int v0) ∧ Fld Z h a "com/example/atoll/atoll/detect/Beacon" "ids" "[I" (.ref v1) ∧ Fld Z h a "com/example/atoll/atoll/detect/Beacon" "incarnations" "[I" (.ref v2) ∧ Fld Z h a "com/example/atoll/atoll/detect/Beacon" "rounds" "[I" (.ref v3) ∧ Fld Z h a "com/example/atoll/atoll/detect/Beacon" "heard" "[I" (.ref v4)
def own_put (g : Nat → Int32) (j x : Int32) : Nat → Int32 := fun i => if i = j.toNatClampNeg then x else g i
theorem own_id1 (x : Int32) : ¬ ((1 : Int32) + (x &&& (1073741823 : Int32))) < (1 : Int32) ∧ ((1 : Int32) + (x &&& (1073741823 : Int32))).toInt ≤ 1073741824 := by
  have e : (x &&& (1073741823 : Int32)).toInt = x.toInt % (2 ^ 30 : Nat) := c_mask x 1073741823 30 (by decide) (by decide)
  have z : (1 : Int32).toInt = 1 := by decide
  have a := c_iadd 1 (x &&& (1073741823 : Int32))
  have r := rng32 (1 + (x &&& (1073741823 : Int32)))
  exact ⟨fun q => by have := Int32.lt_iff_toInt_lt.mp q; omega, by omega⟩
theorem own_id2 (x : Int32) {i : Int32} (h1 : ¬ i < (1 : Int32)) (h2 : i.toInt ≤ 1073741824) : i < ((i + (1 : Int32)) + (x &&& (1073741822 : Int32))) ∧ ¬ ((i + (1 : Int32)) + (x &&& (1073741822 : Int32))) < (1 : Int32) := by
  have z0 : (1073741822 : Int32).toInt = 1073741822 := by decide
  have e := c_and x 1073741822 (by omega)
  have z : (1 : Int32).toInt = 1 := by decide
  have h1' : ¬ i.toInt < (1 : Int32).toInt := fun q => h1 (Int32.lt_iff_toInt_lt.mpr q)
  have a := c_iadd i 1
  have r := rng32 (i + 1)
  have a2 := c_iadd (i + 1) (x &&& (1073741822 : Int32))
  have r2 := rng32 ((i + 1) + (x &&& (1073741822 : Int32)))
  exact ⟨Int32.lt_iff_toInt_lt.mpr (by omega), fun q => by have := Int32.lt_iff_toInt_lt.mp q; omega⟩
theorem own_r (x : Int64) : ¬ ((x &&& (65535 : Int64)).toInt32) < (0 : Int32) ∧ ¬ (65535 : Int32) < ((x &&& (65535 : Int64)).toInt32) := by
  have e : (x &&& (65535 : Int64)).toInt = x.toInt % (2 ^ 16 : Nat) := c_maskL x 65535 16 (by decide) (by decide)
  have c := c_l2i (x &&& (65535 : Int64))
  have r := rng32 ((x &&& (65535 : Int64)).toInt32)
  have z : (65535 : Int32).toInt = 65535 := by decide
  have z0 : (0 : Int32).toInt = 0 := by decide
  exact ⟨fun q => by have := Int32.lt_iff_toInt_lt.mp q; omega, fun q => by have := Int32.lt_iff_toInt_lt.mp q; omega⟩
theorem own_h (x : Int64) : ¬ ((1 : Int32) + (((x &&& (65535 : Int64)) - ((x &&& (65535 : Int64)) / (65535 : Int64)) * (65535 : Int64)).toInt32)) < (1 : Int32) ∧ ¬ (65535 : Int32) < ((1 : Int32) + (((x &&& (65535 : Int64)) - ((x &&& (65535 : Int64)) / (65535 : Int64)) * (65535 : Int64)).toInt32)) := by
  have e : (x &&& (65535 : Int64)).toInt = x.toInt % (2 ^ 16 : Nat) := c_maskL x 65535 16 (by decide) (by decide)
  have z : (65535 : Int32).toInt = 65535 := by decide
  have zL : (65535 : Int64).toInt = 65535 := by decide
  have z1 : (1 : Int32).toInt = 1 := by decide
  have m := (c_lrem (x &&& (65535 : Int64)) 65535 65535 zL).1 (by omega)
  generalize ((x &&& (65535 : Int64)) - ((x &&& (65535 : Int64)) / (65535 : Int64)) * (65535 : Int64)) = y at *
  have c := c_l2i y
  have r := rng32 y.toInt32
  have a := c_iadd 1 y.toInt32
  have r2 := rng32 (1 + y.toInt32)
  exact ⟨fun q => by have := Int32.lt_iff_toInt_lt.mp q; omega, fun q => by have := Int32.lt_iff_toInt_lt.mp q; omega⟩
theorem own_sd (x : Int32) : ¬ ((1 : Int32) + (x &&& (2147483646 : Int32))) < (1 : Int32) := fun q => by
  have z0 : (2147483646 : Int32).toInt = 2147483646 := by decide
  have e := c_and x 2147483646 (by omega)
  have z : (1 : Int32).toInt = 1 := by decide
  have a := c_iadd 1 (x &&& (2147483646 : Int32))
  have r := rng32 (1 + (x &&& (2147483646 : Int32)))
  have := Int32.lt_iff_toInt_lt.mp q
  omega
theorem d1_0 : decode prog_10_method_1_code 0 = .ok (.aload_n 0, 1) := by decide +kernel
theorem d1_1 : decode prog_10_method_1_code 1 = .ok (.invokespecial 1, 3) := by decide +kernel
theorem d1_4 : decode prog_10_method_1_code 4 = .ok (.aload_n 0, 1) := by decide +kernel
theorem d1_5 : decode prog_10_method_1_code 5 = .ok (.iload_n 1, 1) := by decide +kernel
theorem d1_6 : decode prog_10_method_1_code 6 = .ok (.newarray .int, 2) := by decide +kernel
theorem d1_8 : decode prog_10_method_1_code 8 = .ok (.putfield 7, 3) := by decide +kernel
theorem d1_11 : decode prog_10_method_1_code 11 = .ok (.aload_n 0, 1) := by decide +kernel
theorem d1_12 : decode prog_10_method_1_code 12 = .ok (.iload_n 1, 1) := by decide +kernel
theorem d1_13 : decode prog_10_method_1_code 13 = .ok (.newarray .int, 2) := by decide +kernel
theorem d1_15 : decode prog_10_method_1_code 15 = .ok (.putfield 13, 3) := by decide +kernel
theorem d1_18 : decode prog_10_method_1_code 18 = .ok (.aload_n 0, 1) := by decide +kernel
theorem d1_19 : decode prog_10_method_1_code 19 = .ok (.iload_n 1, 1) := by decide +kernel
theorem d1_20 : decode prog_10_method_1_code 20 = .ok (.newarray .int, 2) := by decide +kernel
theorem d1_22 : decode prog_10_method_1_code 22 = .ok (.putfield 16, 3) := by decide +kernel
theorem d1_25 : decode prog_10_method_1_code 25 = .ok (.aload_n 0, 1) := by decide +kernel
theorem d1_26 : decode prog_10_method_1_code 26 = .ok (.iload_n 1, 1) := by decide +kernel
theorem d1_27 : decode prog_10_method_1_code 27 = .ok (.newarray .int, 2) := by decide +kernel
theorem d1_29 : decode prog_10_method_1_code 29 = .ok (.putfield 19, 3) := by decide +kernel
theorem d1_32 : decode prog_10_method_1_code 32 = .ok (.return_, 1) := by decide +kernel
theorem pn_1 : plainName "com/example/atoll/atoll/detect/Beacon$Builder" = true := by first | (simp [plainName, overriddenIn]; done) | decide +kernel
theorem ef_1 (m : MethodId) (x0 : Addr) (x1 : Int32) : entryFrame m #[(.ref x0), (.int x1)] 2 = mkF m 0 #[.val (.ref x0), .val (.int x1)] [] := by first | (simp [entryFrame, mkF, argsToLocals, Value.category]; done) | rfl
def Q1 (Z : State) (a1 : Addr) (vc : Int32) (h0 : Heap) (n0 : Nat) (v : Option Value) (h : Heap) (L : List Loc) : Prop := v = none ∧ Fr n0 L ∧ (∃ xi : Addr, ∃ xn : Addr, ∃ xr : Addr, ∃ xh : Addr, Keep h0 h [a1] ∧ own_B Z h a1 xi xn xr xh vc ∧ h0.size ≤ xi ∧ own_Arr Z h xi .int (2 : Int32) (fun i => Value.int ((fun _ => (0 : Int32)) i)) ∧ h0.size ≤ xn ∧ own_Arr Z h xn .int (2 : Int32) (fun i => Value.int ((fun _ => (0 : Int32)) i)) ∧ h0.size ≤ xr ∧ own_Arr Z h xr .int (2 : Int32) (fun i => Value.int ((fun _ => (0 : Int32)) i)) ∧ h0.size ≤ xh ∧ own_Arr Z h xh .int (2 : Int32) (fun i => Value.int ((fun _ => (0 : Int32)) i)) ∧ xi ≠ xn ∧ xi ≠ xr ∧ xi ≠ xh ∧ xn ≠ xr ∧ xn ≠ xh ∧ xr ≠ xh)
set_option maxRecDepth 65536 in
set_option maxHeartbeats 40000000 in
theorem rm1 (l : Launch) (Z : State) (a0 : Array Value) (hw : ∀ d ∈ tables_1, d.before a0 Z = true) (ws : List Jvm.Cond) (a1 : Addr) (vc : Int32) (h0 : Heap) (n0 : Nat) (Z0 : n0 ≤ h0.size) (O_a1 : own_B0 Z h0 a1 vc) (g_a1 : n0 ≤ a1) :
    MetFree l (⟨"com/example/atoll/atoll/detect/Beacon$Builder", "<init>", "(I)V"⟩ : MethodName) (head1 (Jvm.Cond.code (⟨"com/example/atoll/atoll/detect/Beacon$Builder", "<init>", "(I)V"⟩ : MethodName) prog_10_method_1_code 2 none :: ws) ({ frames := 1, cells := 4, slots := 8, locals := 12 } : Room)) (fun a U => a = #[(.ref a1), (.int (2 : Int32))] ∧ Z.Warmed39 U.vm ∧ U.heap = h0) (fun _ _ _ _ _ => True) (fun _ U o U' => ∃ v L, o = .returned v ∧ Q1 Z a1 vc h0 n0 v U'.heap L ∧ FrameEnd U o U' L ({ frames := 1, cells := 4, slots := 8, locals := 12 } : Room).cells ({ frames := 1, cells := 4, slots := 8, locals := 12 } : Room).slots) := by
  refine MetFree.of_bodySF (plainFor_of_name pn_1) hisR ?_
  intro p e s m args below meth c s₁ Bd hml0 hP hK
  obtain ⟨rfl, hZ, hh⟩ := hP
  have hx := Bd.exec
  have hby := Bd.bytes
  have hml : c.maxLocals = 2 := hml0
  have hown : s.vm.findClass "com/example/atoll/atoll/detect/Beacon$Builder" = some m.cls := findClass_of_methodNamed Bd.named
  have hnm := (name_of_methodNamed Bd.named Bd.method).1
  have X0 : Stand p l e ({ frames := 1, cells := 4, slots := 8, locals := 12 } : Room) s m #[(.ref a1), (.int (2 : Int32))] below meth c s₁ [] 0 0 := Stand.of_body Bd
  have e0 : s₁.heap = h0 := by rw [← hh, Bd.state]; rfl
  have N0 := Fr.nil n0
  show own_End p e below s (s₁.setTop (entryFrame m #[(.ref a1), (.int (2 : Int32))] 2)) (Q1 Z a1 vc h0 n0) ({ frames := 1, cells := 4, slots := 8, locals := 12 } : Room).cells ({ frames := 1, cells := 4, slots := 8, locals := 12 } : Room).slots
  obtain ⟨E_a1_1, F_ids_a1_2, F_incarnations_a1_3, F_rounds_a1_4, F_heard_a1_5, F_count_a1_6⟩ := O_a1
  refine own_pre (A := s₁.setTop (mkF m 0 #[.val (.ref a1), .val (.int (2 : Int32))] [])) (fun tt kt => castTop (ef_1 m a1 (2 : Int32)) kt) ?_
  show own_End p e below s (s₁.setTop (mkF m 0 #[.val (.ref a1), .val (.int (2 : Int32))] [])) (Q1 Z a1 vc h0 n0) ({ frames := 1, cells := 4, slots := 8, locals := 12 } : Room).cells ({ frames := 1, cells := 4, slots := 8, locals := 12 } : Room).slots
  obtain ⟨T7, X7, e7, st7⟩ := initO X0 hx hZ hown (hw _ (List.mem_of_getElem? (i := 10) rfl)) (hw _ (List.mem_of_getElem? (i := 11) rfl)) (hw _ (List.mem_of_getElem? (i := 12) rfl)) e0 (g := (mkF m 1 #[.val (.ref a1), .val (.int (2 : Int32))] [(.ref a1)])) rfl (by rw [hml]; rfl) rfl (hb hby d1_1) (by decide) (W := 0) (by show 2 * 0 + _ ≤ _; exact Nat.le_of_eq rfl) (by decide)
  obtain ⟨T8, h8, k8, X8, e8, E8, A8, st8⟩ := newP X7 hx hZ (hw _ (List.mem_of_getElem? (i := 13) rfl)) e7 (g := (mkF m 6 #[.val (.ref a1), .val (.int (2 : Int32))] [(.int (2 : Int32)), (.ref a1)])) rfl (hb hby d1_6) rfl (by decide) (cap := 2) (by decide) (by decide) (by decide) (by decide)
  obtain ⟨b8, g8⟩ : ∃ z, z = h0.size := ⟨_, rfl⟩
  rw [← g8] at A8 st8
  have ne_a1_b8 : a1 ≠ b8 := Nat.ne_of_lt (Nat.lt_of_lt_of_le E_a1_1.lt (Nat.le_of_eq g8.symm))
  have g_b8 : n0 ≤ b8 := Nat.le_trans Z0 (Nat.le_of_eq g8.symm)
  have sz_b8 : h0.size ≤ b8 := Nat.le_trans (show Keep h0 h0 [a1] from (Keep.refl h0 _)).1 (Nat.le_of_eq g8.symm)
  have fE_a1_x8 := (E_a1_1.ext E8)
  have fF_a1_ids_x8 := (F_ids_a1_2.ext E8)
  have fF_a1_incarnations_x8 := (F_incarnations_a1_3.ext E8)
  have fF_a1_rounds_x8 := (F_rounds_a1_4.ext E8)
  have fF_a1_heard_x8 := (F_heard_a1_5.ext E8)
  have fF_a1_count_x8 := (F_count_a1_6.ext E8)
  have K8 : Keep h0 h8 [a1] := Keep.ext (Keep.refl h0 _) E8
  have Z8 : n0 ≤ h8.size := Nat.le_trans Z0 E8.1
  have V8 : own_Arr Z h8 b8 .int (2 : Int32) (fun i => Value.int ((fun _ => (0 : Int32)) i)) := own_Arr.new A8 (by decide) (fun _ => rfl)
  obtain ⟨T9, h9, X9, e9, W9, st9⟩ := putF X8 hx hZ hown (host := "") (Or.inl (hw _ (List.mem_of_getElem? (i := 14) rfl))) Via.refl e8 fF_a1_ids_x8 fE_a1_x8 (Or.inr ⟨(hw _ (List.mem_of_getElem? (i := 15) rfl)), rfl, hnm⟩) (hw _ (List.mem_of_getElem? (i := 5) rfl)) (ty := (.array .int)) (by decide) rfl rfl (g := (mkF m 8 #[.val (.ref a1), .val (.int (2 : Int32))] [(.ref b8), (.ref a1)])) rfl rfl (hb hby d1_8)
  have Fw9 := Fld.same W9 fF_a1_ids_x8
  have fE_a1_x9 := (fE_a1_x8.wr W9)
  have fF_a1_incarnations_x9 := (Fld.other W9 fF_a1_incarnations_x8 (Or.inr (slot_ne (Or.inr (hw _ (List.mem_of_getElem? (i := 17) rfl))) (Or.inr (hw _ (List.mem_of_getElem? (i := 15) rfl))) (by decide) (t := (.array .int)) (t' := (.array .int)) (by decide) (by decide))))
  have fF_a1_rounds_x9 := (Fld.other W9 fF_a1_rounds_x8 (Or.inr (slot_ne (Or.inr (hw _ (List.mem_of_getElem? (i := 19) rfl))) (Or.inr (hw _ (List.mem_of_getElem? (i := 15) rfl))) (by decide) (t := (.array .int)) (t' := (.array .int)) (by decide) (by decide))))
  have fF_a1_heard_x9 := (Fld.other W9 fF_a1_heard_x8 (Or.inr (slot_ne (Or.inr (hw _ (List.mem_of_getElem? (i := 21) rfl))) (Or.inr (hw _ (List.mem_of_getElem? (i := 15) rfl))) (by decide) (t := (.array .int)) (t' := (.array .int)) (by decide) (by decide))))
  have fF_a1_count_x9 := (Fld.other W9 fF_a1_count_x8 (Or.inr (slot_ne (Or.inl (hw _ (List.mem_of_getElem? (i := 28) rfl))) (Or.inr (hw _ (List.mem_of_getElem? (i := 15) rfl))) (by decide) (t := .int) (t' := (.array .int)) (by decide) (by decide))))
  have fA_b8_x9 := (V8.other W9 (Ne.symm ne_a1_b8))
  have N9 := Fr.snoc X9 N0 g_a1
  have K9 : Keep h0 h9 [a1] := Keep.wr K8 W9 (Or.inl (List.mem_of_getElem? (i := 0) rfl))
  have Z9 : n0 ≤ h9.size := Nat.le_trans Z8 (Nat.le_of_eq W9.size.symm)
  obtain ⟨T10, h10, k10, X10, e10, E10, A10, st10⟩ := newP X9 hx hZ (hw _ (List.mem_of_getElem? (i := 13) rfl)) e9 (g := (mkF m 13 #[.val (.ref a1), .val (.int (2 : Int32))] [(.int (2 : Int32)), (.ref a1)])) rfl (hb hby d1_13) rfl (by decide) (cap := 2) (by decide) (by decide) (by decide) (by decide)
  obtain ⟨b10, g10⟩ : ∃ z, z = h9.size := ⟨_, rfl⟩
  rw [← g10] at A10 st10
  have ne_b8_b10 : b8 ≠ b10 := Nat.ne_of_lt (Nat.lt_of_lt_of_le fA_b8_x9.lt (Nat.le_of_eq g10.symm))
  have ne_a1_b10 : a1 ≠ b10 := Nat.ne_of_lt (Nat.lt_of_lt_of_le fE_a1_x9.lt (Nat.le_of_eq g10.symm))
  have g_b10 : n0 ≤ b10 := Nat.le_trans Z9 (Nat.le_of_eq g10.symm)
  have sz_b10 : h0.size ≤ b10 := Nat.le_trans (show Keep h0 h9 [a1] from K9).1 (Nat.le_of_eq g10.symm)
  have fE_a1_x10 := (fE_a1_x9.ext E10)
  have fF_a1_ids_x10 := (Fw9.ext E10)
  have fF_a1_incarnations_x10 := (fF_a1_incarnations_x9.ext E10)
  have fF_a1_rounds_x10 := (fF_a1_rounds_x9.ext E10)
  have fF_a1_heard_x10 := (fF_a1_heard_x9.ext E10)
  have fF_a1_count_x10 := (fF_a1_count_x9.ext E10)
  have fA_b8_x10 := (fA_b8_x9.ext E10)
  have K10 : Keep h0 h10 [a1] := Keep.ext K9 E10
  have Z10 : n0 ≤ h10.size := Nat.le_trans Z9 E10.1
  have V10 : own_Arr Z h10 b10 .int (2 : Int32) (fun i => Value.int ((fun _ => (0 : Int32)) i)) := own_Arr.new A10 (by decide) (fun _ => rfl)
  obtain ⟨T11, h11, X11, e11, W11, st11⟩ := putF X10 hx hZ hown (host := "") (Or.inl (hw _ (List.mem_of_getElem? (i := 16) rfl))) Via.refl e10 fF_a1_incarnations_x10 fE_a1_x10 (Or.inr ⟨(hw _ (List.mem_of_getElem? (i := 17) rfl)), rfl, hnm⟩) (hw _ (List.mem_of_getElem? (i := 5) rfl)) (ty := (.array .int)) (by decide) rfl rfl (g := (mkF m 15 #[.val (.ref a1), .val (.int (2 : Int32))] [(.ref b10), (.ref a1)])) rfl rfl (hb hby d1_15)
  have Fw11 := Fld.same W11 fF_a1_incarnations_x10
  have fE_a1_x11 := (fE_a1_x10.wr W11)
  have fF_a1_ids_x11 := (Fld.other W11 fF_a1_ids_x10 (Or.inr (slot_ne (Or.inr (hw _ (List.mem_of_getElem? (i := 15) rfl))) (Or.inr (hw _ (List.mem_of_getElem? (i := 17) rfl))) (by decide) (t := (.array .int)) (t' := (.array .int)) (by decide) (by decide))))
  have fF_a1_rounds_x11 := (Fld.other W11 fF_a1_rounds_x10 (Or.inr (slot_ne (Or.inr (hw _ (List.mem_of_getElem? (i := 19) rfl))) (Or.inr (hw _ (List.mem_of_getElem? (i := 17) rfl))) (by decide) (t := (.array .int)) (t' := (.array .int)) (by decide) (by decide))))
  have fF_a1_heard_x11 := (Fld.other W11 fF_a1_heard_x10 (Or.inr (slot_ne (Or.inr (hw _ (List.mem_of_getElem? (i := 21) rfl))) (Or.inr (hw _ (List.mem_of_getElem? (i := 17) rfl))) (by decide) (t := (.array .int)) (t' := (.array .int)) (by decide) (by decide))))
  have fF_a1_count_x11 := (Fld.other W11 fF_a1_count_x10 (Or.inr (slot_ne (Or.inl (hw _ (List.mem_of_getElem? (i := 28) rfl))) (Or.inr (hw _ (List.mem_of_getElem? (i := 17) rfl))) (by decide) (t := .int) (t' := (.array .int)) (by decide) (by decide))))
  have fA_b8_x11 := (fA_b8_x10.other W11 (Ne.symm ne_a1_b8))
  have fA_b10_x11 := (V10.other W11 (Ne.symm ne_a1_b10))
  have N11 := Fr.snoc X11 N9 g_a1
  have K11 : Keep h0 h11 [a1] := Keep.wr K10 W11 (Or.inl (List.mem_of_getElem? (i := 0) rfl))
  have Z11 : n0 ≤ h11.size := Nat.le_trans Z10 (Nat.le_of_eq W11.size.symm)
  obtain ⟨T12, h12, k12, X12, e12, E12, A12, st12⟩ := newP X11 hx hZ (hw _ (List.mem_of_getElem? (i := 13) rfl)) e11 (g := (mkF m 20 #[.val (.ref a1), .val (.int (2 : Int32))] [(.int (2 : Int32)), (.ref a1)])) rfl (hb hby d1_20) rfl (by decide) (cap := 2) (by decide) (by decide) (by decide) (by decide)
  obtain ⟨b12, g12⟩ : ∃ z, z = h11.size := ⟨_, rfl⟩
  rw [← g12] at A12 st12
  have ne_b8_b12 : b8 ≠ b12 := Nat.ne_of_lt (Nat.lt_of_lt_of_le fA_b8_x11.lt (Nat.le_of_eq g12.symm))
  have ne_b10_b12 : b10 ≠ b12 := Nat.ne_of_lt (Nat.lt_of_lt_of_le fA_b10_x11.lt (Nat.le_of_eq g12.symm))
  have ne_a1_b12 : a1 ≠ b12 := Nat.ne_of_lt (Nat.lt_of_lt_of_le fE_a1_x11.lt (Nat.le_of_eq g12.symm))
  have g_b12 : n0 ≤ b12 := Nat.le_trans Z11 (Nat.le_of_eq g12.symm)
  have sz_b12 : h0.size ≤ b12 := Nat.le_trans (show Keep h0 h11 [a1] from K11).1 (Nat.le_of_eq g12.symm)
  have fE_a1_x12 := (fE_a1_x11.ext E12)
  have fF_a1_ids_x12 := (fF_a1_ids_x11.ext E12)
  have fF_a1_incarnations_x12 := (Fw11.ext E12)
  have fF_a1_rounds_x12 := (fF_a1_rounds_x11.ext E12)
  have fF_a1_heard_x12 := (fF_a1_heard_x11.ext E12)
  have fF_a1_count_x12 := (fF_a1_count_x11.ext E12)
  have fA_b8_x12 := (fA_b8_x11.ext E12)
  have fA_b10_x12 := (fA_b10_x11.ext E12)
  have K12 : Keep h0 h12 [a1] := Keep.ext K11 E12
  have Z12 : n0 ≤ h12.size := Nat.le_trans Z11 E12.1
  have V12 : own_Arr Z h12 b12 .int (2 : Int32) (fun i => Value.int ((fun _ => (0 : Int32)) i)) := own_Arr.new A12 (by decide) (fun _ => rfl)
  obtain ⟨T13, h13, X13, e13, W13, st13⟩ := putF X12 hx hZ hown (host := "") (Or.inl (hw _ (List.mem_of_getElem? (i := 18) rfl))) Via.refl e12 fF_a1_rounds_x12 fE_a1_x12 (Or.inr ⟨(hw _ (List.mem_of_getElem? (i := 19) rfl)), rfl, hnm⟩) (hw _ (List.mem_of_getElem? (i := 5) rfl)) (ty := (.array .int)) (by decide) rfl rfl (g := (mkF m 22 #[.val (.ref a1), .val (.int (2 : Int32))] [(.ref b12), (.ref a1)])) rfl rfl (hb hby d1_22)
  have Fw13 := Fld.same W13 fF_a1_rounds_x12
  have fE_a1_x13 := (fE_a1_x12.wr W13)
  have fF_a1_ids_x13 := (Fld.other W13 fF_a1_ids_x12 (Or.inr (slot_ne (Or.inr (hw _ (List.mem_of_getElem? (i := 15) rfl))) (Or.inr (hw _ (List.mem_of_getElem? (i := 19) rfl))) (by decide) (t := (.array .int)) (t' := (.array .int)) (by decide) (by decide))))
  have fF_a1_incarnations_x13 := (Fld.other W13 fF_a1_incarnations_x12 (Or.inr (slot_ne (Or.inr (hw _ (List.mem_of_getElem? (i := 17) rfl))) (Or.inr (hw _ (List.mem_of_getElem? (i := 19) rfl))) (by decide) (t := (.array .int)) (t' := (.array .int)) (by decide) (by decide))))
  have fF_a1_heard_x13 := (Fld.other W13 fF_a1_heard_x12 (Or.inr (slot_ne (Or.inr (hw _ (List.mem_of_getElem? (i := 21) rfl))) (Or.inr (hw _ (List.mem_of_getElem? (i := 19) rfl))) (by decide) (t := (.array .int)) (t' := (.array .int)) (by decide) (by decide))))
  have fF_a1_count_x13 := (Fld.other W13 fF_a1_count_x12 (Or.inr (slot_ne (Or.inl (hw _ (List.mem_of_getElem? (i := 28) rfl))) (Or.inr (hw _ (List.mem_of_getElem? (i := 19) rfl))) (by decide) (t := .int) (t' := (.array .int)) (by decide) (by decide))))
  have fA_b8_x13 := (fA_b8_x12.other W13 (Ne.symm ne_a1_b8))
  have fA_b10_x13 := (fA_b10_x12.other W13 (Ne.symm ne_a1_b10))
  have fA_b12_x13 := (V12.other W13 (Ne.symm ne_a1_b12))
  have N13 := Fr.snoc X13 N11 g_a1
  have K13 : Keep h0 h13 [a1] := Keep.wr K12 W13 (Or.inl (List.mem_of_getElem? (i := 0) rfl))
  have Z13 : n0 ≤ h13.size := Nat.le_trans Z12 (Nat.le_of_eq W13.size.symm)
  obtain ⟨T14, h14, k14, X14, e14, E14, A14, st14⟩ := newP X13 hx hZ (hw _ (List.mem_of_getElem? (i := 13) rfl)) e13 (g := (mkF m 27 #[.val (.ref a1), .val (.int (2 : Int32))] [(.int (2 : Int32)), (.ref a1)])) rfl (hb hby d1_27) rfl (by decide) (cap := 2) (by decide) (by decide) (by decide) (by decide)
  obtain ⟨b14, g14⟩ : ∃ z, z = h13.size := ⟨_, rfl⟩
  rw [← g14] at A14 st14
  have ne_b8_b14 : b8 ≠ b14 := Nat.ne_of_lt (Nat.lt_of_lt_of_le fA_b8_x13.lt (Nat.le_of_eq g14.symm))
  have ne_b10_b14 : b10 ≠ b14 := Nat.ne_of_lt (Nat.lt_of_lt_of_le fA_b10_x13.lt (Nat.le_of_eq g14.symm))
  have ne_b12_b14 : b12 ≠ b14 := Nat.ne_of_lt (Nat.lt_of_lt_of_le fA_b12_x13.lt (Nat.le_of_eq g14.symm))
  have ne_a1_b14 : a1 ≠ b14 := Nat.ne_of_lt (Nat.lt_of_lt_of_le fE_a1_x13.lt (Nat.le_of_eq g14.symm))
  have g_b14 : n0 ≤ b14 := Nat.le_trans Z13 (Nat.le_of_eq g14.symm)
  have sz_b14 : h0.size ≤ b14 := Nat.le_trans (show Keep h0 h13 [a1] from K13).1 (Nat.le_of_eq g14.symm)
  have fE_a1_x14 := (fE_a1_x13.ext E14)
  have fF_a1_ids_x14 := (fF_a1_ids_x13.ext E14)
  have fF_a1_incarnations_x14 := (fF_a1_incarnations_x13.ext E14)
  have fF_a1_rounds_x14 := (Fw13.ext E14)
  have fF_a1_heard_x14 := (fF_a1_heard_x13.ext E14)
  have fF_a1_count_x14 := (fF_a1_count_x13.ext E14)
  have fA_b8_x14 := (fA_b8_x13.ext E14)
  have fA_b10_x14 := (fA_b10_x13.ext E14)
  have fA_b12_x14 := (fA_b12_x13.ext E14)
  have K14 : Keep h0 h14 [a1] := Keep.ext K13 E14
  have Z14 : n0 ≤ h14.size := Nat.le_trans Z13 E14.1
  have V14 : own_Arr Z h14 b14 .int (2 : Int32) (fun i => Value.int ((fun _ => (0 : Int32)) i)) := own_Arr.new A14 (by decide) (fun _ => rfl)
  obtain ⟨T15, h15, X15, e15, W15, st15⟩ := putF X14 hx hZ hown (host := "") (Or.inl (hw _ (List.mem_of_getElem? (i := 20) rfl))) Via.refl e14 fF_a1_heard_x14 fE_a1_x14 (Or.inr ⟨(hw _ (List.mem_of_getElem? (i := 21) rfl)), rfl, hnm⟩) (hw _ (List.mem_of_getElem? (i := 5) rfl)) (ty := (.array .int)) (by decide) rfl rfl (g := (mkF m 29 #[.val (.ref a1), .val (.int (2 : Int32))] [(.ref b14), (.ref a1)])) rfl rfl (hb hby d1_29)
  have Fw15 := Fld.same W15 fF_a1_heard_x14
  have fE_a1_x15 := (fE_a1_x14.wr W15)
  have fF_a1_ids_x15 := (Fld.other W15 fF_a1_ids_x14 (Or.inr (slot_ne (Or.inr (hw _ (List.mem_of_getElem? (i := 15) rfl))) (Or.inr (hw _ (List.mem_of_getElem? (i := 21) rfl))) (by decide) (t := (.array .int)) (t' := (.array .int)) (by decide) (by decide))))
  have fF_a1_incarnations_x15 := (Fld.other W15 fF_a1_incarnations_x14 (Or.inr (slot_ne (Or.inr (hw _ (List.mem_of_getElem? (i := 17) rfl))) (Or.inr (hw _ (List.mem_of_getElem? (i := 21) rfl))) (by decide) (t := (.array .int)) (t' := (.array .int)) (by decide) (by decide))))
  have fF_a1_rounds_x15 := (Fld.other W15 fF_a1_rounds_x14 (Or.inr (slot_ne (Or.inr (hw _ (List.mem_of_getElem? (i := 19) rfl))) (Or.inr (hw _ (List.mem_of_getElem? (i := 21) rfl))) (by decide) (t := (.array .int)) (t' := (.array .int)) (by decide) (by decide))))
  have fF_a1_count_x15 := (Fld.other W15 fF_a1_count_x14 (Or.inr (slot_ne (Or.inl (hw _ (List.mem_of_getElem? (i := 28) rfl))) (Or.inr (hw _ (List.mem_of_getElem? (i := 21) rfl))) (by decide) (t := .int) (t' := (.array .int)) (by decide) (by decide))))
  have fA_b8_x15 := (fA_b8_x14.other W15 (Ne.symm ne_a1_b8))
  have fA_b10_x15 := (fA_b10_x14.other W15 (Ne.symm ne_a1_b10))
  have fA_b12_x15 := (fA_b12_x14.other W15 (Ne.symm ne_a1_b12))
  have fA_b14_x15 := (V14.other W15 (Ne.symm ne_a1_b14))
  have N15 := Fr.snoc X15 N13 g_a1
  have K15 : Keep h0 h15 [a1] := Keep.wr K14 W15 (Or.inl (List.mem_of_getElem? (i := 0) rfl))
  have Z15 : n0 ≤ h15.size := Nat.le_trans Z14 (Nat.le_of_eq W15.size.symm)
  refine own_pre (A := T15.setTop (mkF m 32 #[.val (.ref a1), .val (.int (2 : Int32))] [])) (fun tt kt => ?_) ?_
  · show Steps p.tables e below (s₁.setTop (mkF m 0 #[.val (.ref a1), .val (.int (2 : Int32))] [])) _
    refine XS.aloadN X0.here hx rfl (hb hby d1_0) rfl rfl ?_
    show Steps p.tables e below (s₁.setTop (mkF m 1 #[.val (.ref a1), .val (.int (2 : Int32))] [(.ref a1)])) _
    refine st7 _ ?_
    show Steps p.tables e below (T7.setTop (mkF m 4 #[.val (.ref a1), .val (.int (2 : Int32))] [])) _
    refine XS.aloadN X7.here hx rfl (hb hby d1_4) rfl rfl ?_
    refine XS.iloadN X7.here hx rfl (hb hby d1_5) rfl ?_
    show Steps p.tables e below (T7.setTop (mkF m 6 #[.val (.ref a1), .val (.int (2 : Int32))] [(.int (2 : Int32)), (.ref a1)])) _
    refine st8 _ ?_
    show Steps p.tables e below (T8.setTop (mkF m 8 #[.val (.ref a1), .val (.int (2 : Int32))] [(.ref b8), (.ref a1)])) _
    refine st9 _ ?_
    show Steps p.tables e below (T9.setTop (mkF m 11 #[.val (.ref a1), .val (.int (2 : Int32))] [])) _
    refine XS.aloadN X9.here hx rfl (hb hby d1_11) rfl rfl ?_
    refine XS.iloadN X9.here hx rfl (hb hby d1_12) rfl ?_
    show Steps p.tables e below (T9.setTop (mkF m 13 #[.val (.ref a1), .val (.int (2 : Int32))] [(.int (2 : Int32)), (.ref a1)])) _
    refine st10 _ ?_
    show Steps p.tables e below (T10.setTop (mkF m 15 #[.val (.ref a1), .val (.int (2 : Int32))] [(.ref b10), (.ref a1)])) _
    refine st11 _ ?_
    show Steps p.tables e below (T11.setTop (mkF m 18 #[.val (.ref a1), .val (.int (2 : Int32))] [])) _
    refine XS.aloadN X11.here hx rfl (hb hby d1_18) rfl rfl ?_
    refine XS.iloadN X11.here hx rfl (hb hby d1_19) rfl ?_
    show Steps p.tables e below (T11.setTop (mkF m 20 #[.val (.ref a1), .val (.int (2 : Int32))] [(.int (2 : Int32)), (.ref a1)])) _
    refine st12 _ ?_
    show Steps p.tables e below (T12.setTop (mkF m 22 #[.val (.ref a1), .val (.int (2 : Int32))] [(.ref b12), (.ref a1)])) _
    refine st13 _ ?_
    show Steps p.tables e below (T13.setTop (mkF m 25 #[.val (.ref a1), .val (.int (2 : Int32))] [])) _
    refine XS.aloadN X13.here hx rfl (hb hby d1_25) rfl rfl ?_
    refine XS.iloadN X13.here hx rfl (hb hby d1_26) rfl ?_
    show Steps p.tables e below (T13.setTop (mkF m 27 #[.val (.ref a1), .val (.int (2 : Int32))] [(.int (2 : Int32)), (.ref a1)])) _
    refine st14 _ ?_
    show Steps p.tables e below (T14.setTop (mkF m 29 #[.val (.ref a1), .val (.int (2 : Int32))] [(.ref b14), (.ref a1)])) _
    refine st15 _ ?_
    exact kt
  show own_End p e below s (T15.setTop (mkF m 32 #[.val (.ref a1), .val (.int (2 : Int32))] [])) (Q1 Z a1 vc h0 n0) ({ frames := 1, cells := 4, slots := 8, locals := 12 } : Room).cells ({ frames := 1, cells := 4, slots := 8, locals := 12 } : Room).slots
  obtain ⟨fs, hr, hrun, hended, hW, hsame⟩ := X15.leave (v := none) (fun _ => rfl)
  refine ⟨_, _, ?_, hrun, hended, _, _, rfl, ?_, ⟨_, rfl⟩, hW, hsame.mono (by decide) (by decide)⟩
  · exact X15.returnOut hx Bd.returns (hb hby d1_32) hr
  · show Q1 Z a1 vc h0 n0 _ T15.heap _
    rw [e15]
    exact ⟨rfl, N15, b8, b10, b12, b14, K15, ⟨fE_a1_x15, fF_a1_ids_x15, fF_a1_incarnations_x15, fF_a1_rounds_x15, Fw15, fF_a1_count_x15⟩, sz_b8, fA_b8_x15, sz_b10, fA_b10_x15, sz_b12, fA_b12_x15, sz_b14, fA_b14_x15, ne_b8_b10, ne_b8_b12, ne_b8_b14, ne_b10_b12, ne_b10_b14, ne_b12_b14⟩
theorem d3_0 : decode prog_10_method_2_code 0 = .ok (.aload_n 0, 1) := by decide +kernel
theorem d3_1 : decode prog_10_method_2_code 1 = .ok (.getfield 7, 3) := by decide +kernel
theorem d3_4 : decode prog_10_method_2_code 4 = .ok (.aload_n 0, 1) := by decide +kernel
theorem d3_5 : decode prog_10_method_2_code 5 = .ok (.getfield 22, 3) := by decide +kernel
theorem d3_8 : decode prog_10_method_2_code 8 = .ok (.iload_n 1, 1) := by decide +kernel
theorem d3_9 : decode prog_10_method_2_code 9 = .ok (.iastore, 1) := by decide +kernel
theorem d3_10 : decode prog_10_method_2_code 10 = .ok (.aload_n 0, 1) := by decide +kernel
theorem d3_11 : decode prog_10_method_2_code 11 = .ok (.getfield 13, 3) := by decide +kernel
theorem d3_14 : decode prog_10_method_2_code 14 = .ok (.aload_n 0, 1) := by decide +kernel
theorem d3_15 : decode prog_10_method_2_code 15 = .ok (.getfield 22, 3) := by decide +kernel
theorem d3_18 : decode prog_10_method_2_code 18 = .ok (.iload_n 2, 1) := by decide +kernel
theorem d3_19 : decode prog_10_method_2_code 19 = .ok (.iastore, 1) := by decide +kernel
theorem d3_20 : decode prog_10_method_2_code 20 = .ok (.aload_n 0, 1) := by decide +kernel
theorem d3_21 : decode prog_10_method_2_code 21 = .ok (.getfield 16, 3) := by decide +kernel
theorem d3_24 : decode prog_10_method_2_code 24 = .ok (.aload_n 0, 1) := by decide +kernel
theorem d3_25 : decode prog_10_method_2_code 25 = .ok (.getfield 22, 3) := by decide +kernel
theorem d3_28 : decode prog_10_method_2_code 28 = .ok (.iload_n 3, 1) := by decide +kernel
theorem d3_29 : decode prog_10_method_2_code 29 = .ok (.iastore, 1) := by decide +kernel
theorem d3_30 : decode prog_10_method_2_code 30 = .ok (.aload_n 0, 1) := by decide +kernel
theorem d3_31 : decode prog_10_method_2_code 31 = .ok (.getfield 19, 3) := by decide +kernel
theorem d3_34 : decode prog_10_method_2_code 34 = .ok (.aload_n 0, 1) := by decide +kernel
theorem d3_35 : decode prog_10_method_2_code 35 = .ok (.getfield 22, 3) := by decide +kernel
theorem d3_38 : decode prog_10_method_2_code 38 = .ok (.iload 4, 2) := by decide +kernel
theorem d3_40 : decode prog_10_method_2_code 40 = .ok (.iastore, 1) := by decide +kernel
theorem d3_41 : decode prog_10_method_2_code 41 = .ok (.aload_n 0, 1) := by decide +kernel
theorem d3_42 : decode prog_10_method_2_code 42 = .ok (.dup, 1) := by decide +kernel
theorem d3_43 : decode prog_10_method_2_code 43 = .ok (.getfield 22, 3) := by decide +kernel
theorem d3_46 : decode prog_10_method_2_code 46 = .ok (.iconst 1, 1) := by decide +kernel
theorem d3_47 : decode prog_10_method_2_code 47 = .ok (.iadd, 1) := by decide +kernel
theorem d3_48 : decode prog_10_method_2_code 48 = .ok (.putfield 22, 3) := by decide +kernel
theorem d3_51 : decode prog_10_method_2_code 51 = .ok (.return_, 1) := by decide +kernel
theorem pn_3 : plainName "com/example/atoll/atoll/detect/Beacon$Builder" = true := by first | (simp [plainName, overriddenIn]; done) | decide +kernel
theorem ef_3 (m : MethodId) (x0 : Addr) (x1 : Int32) (x2 : Int32) (x3 : Int32) (x4 : Int32) : entryFrame m #[(.ref x0), (.int x1), (.int x2), (.int x3), (.int x4)] 5 = mkF m 0 #[.val (.ref x0), .val (.int x1), .val (.int x2), .val (.int x3), .val (.int x4)] [] := by first | (simp [entryFrame, mkF, argsToLocals, Value.category]; done) | rfl
def Q3 (Z : State) (a1 : Addr) (p2 : Int32) (p3 : Int32) (p4 : Int32) (p5 : Int32) (vi : Addr) (vn : Addr) (vr : Addr) (vh : Addr) (vc : Int32) (gi : Nat → Int32) (gn : Nat → Int32) (gr : Nat → Int32) (gh : Nat → Int32) (h0 : Heap) (n0 : Nat) (v : Option Value) (h : Heap) (L : List Loc) : Prop := v = none ∧ Fr n0 L ∧ Keep h0 h [a1, vi, vn, vr, vh] ∧ own_B Z h a1 vi vn vr vh (vc + (1 : Int32)) ∧ own_Arr Z h vi .int (2 : Int32) (fun i => Value.int ((own_put gi vc p2) i)) ∧ own_Arr Z h vn .int (2 : Int32) (fun i => Value.int ((own_put gn vc p3) i)) ∧ own_Arr Z h vr .int (2 : Int32) (fun i => Value.int ((own_put gr vc p4) i)) ∧ own_Arr Z h vh .int (2 : Int32) (fun i => Value.int ((own_put gh vc p5) i))
set_option maxRecDepth 65536 in
set_option maxHeartbeats 40000000 in
theorem rm3 (l : Launch) (Z : State) (a0 : Array Value) (hw : ∀ d ∈ tables_1, d.before a0 Z = true) (ws : List Jvm.Cond) (a1 : Addr) (p2 : Int32) (p3 : Int32) (p4 : Int32) (p5 : Int32) (vi : Addr) (vn : Addr) (vr : Addr) (vh : Addr) (vc : Int32) (gi : Nat → Int32) (gn : Nat → Int32) (gr : Nat → Int32) (gh : Nat → Int32) (h0 : Heap) (n0 : Nat) (Z0 : n0 ≤ h0.size) (O_a1 : own_B Z h0 a1 vi vn vr vh vc) (V_vi : own_Arr Z h0 vi .int (2 : Int32) (fun i => Value.int (gi i))) (V_vn : own_Arr Z h0 vn .int (2 : Int32) (fun i => Value.int (gn i))) (V_vr : own_Arr Z h0 vr .int (2 : Int32) (fun i => Value.int (gr i))) (V_vh : own_Arr Z h0 vh .int (2 : Int32) (fun i => Value.int (gh i))) (ne_a1_vi : a1 ≠ vi) (ne_a1_vn : a1 ≠ vn) (ne_a1_vr : a1 ≠ vr) (ne_a1_vh : a1 ≠ vh) (ne_vi_vn : vi ≠ vn) (ne_vi_vr : vi ≠ vr) (ne_vi_vh : vi ≠ vh) (ne_vn_vr : vn ≠ vr) (ne_vn_vh : vn ≠ vh) (ne_vr_vh : vr ≠ vh) (g_a1 : n0 ≤ a1) (g_vi : n0 ≤ vi) (g_vn : n0 ≤ vn) (g_vr : n0 ≤ vr) (g_vh : n0 ≤ vh) (hc0 : 0 ≤ vc.toInt) (hc1 : vc.toInt < (2 : Int32).toInt) :
    MetFree l (⟨"com/example/atoll/atoll/detect/Beacon$Builder", "add", "(IIII)V"⟩ : MethodName) (head1 (Jvm.Cond.code (⟨"com/example/atoll/atoll/detect/Beacon$Builder", "add", "(IIII)V"⟩ : MethodName) prog_10_method_2_code 5 none :: ws) ({ frames := 0, cells := 0, slots := 0, locals := 0 } : Room)) (fun a U => a = #[(.ref a1), (.int p2), (.int p3), (.int p4), (.int p5)] ∧ Z.Warmed39 U.vm ∧ U.heap = h0) (fun _ _ _ _ _ => True) (fun _ U o U' => ∃ v L, o = .returned v ∧ Q3 Z a1 p2 p3 p4 p5 vi vn vr vh vc gi gn gr gh h0 n0 v U'.heap L ∧ FrameEnd U o U' L ({ frames := 0, cells := 0, slots := 0, locals := 0 } : Room).cells ({ frames := 0, cells := 0, slots := 0, locals := 0 } : Room).slots) := by
  refine MetFree.of_bodySF (plainFor_of_name pn_3) hisR ?_
  intro p e s m args below meth c s₁ Bd hml0 hP hK
  obtain ⟨rfl, hZ, hh⟩ := hP
  have hx := Bd.exec
  have hby := Bd.bytes
  have hml : c.maxLocals = 5 := hml0
  have hown : s.vm.findClass "com/example/atoll/atoll/detect/Beacon$Builder" = some m.cls := findClass_of_methodNamed Bd.named
  have hnm := (name_of_methodNamed Bd.named Bd.method).1
  have X0 : Stand p l e ({ frames := 0, cells := 0, slots := 0, locals := 0 } : Room) s m #[(.ref a1), (.int p2), (.int p3), (.int p4), (.int p5)] below meth c s₁ [] 0 0 := Stand.of_body Bd
  have e0 : s₁.heap = h0 := by rw [← hh, Bd.state]; rfl
  have N0 := Fr.nil n0
  show own_End p e below s (s₁.setTop (entryFrame m #[(.ref a1), (.int p2), (.int p3), (.int p4), (.int p5)] 5)) (Q3 Z a1 p2 p3 p4 p5 vi vn vr vh vc gi gn gr gh h0 n0) ({ frames := 0, cells := 0, slots := 0, locals := 0 } : Room).cells ({ frames := 0, cells := 0, slots := 0, locals := 0 } : Room).slots
  obtain ⟨E_a1_1, F_ids_a1_2, F_incarnations_a1_3, F_rounds_a1_4, F_heard_a1_5, F_count_a1_6⟩ := O_a1
  refine own_pre (A := s₁.setTop (mkF m 0 #[.val (.ref a1), .val (.int p2), .val (.int p3), .val (.int p4), .val (.int p5)] [])) (fun tt kt => castTop (ef_3 m a1 p2 p3 p4 p5) kt) ?_
  show own_End p e below s (s₁.setTop (mkF m 0 #[.val (.ref a1), .val (.int p2), .val (.int p3), .val (.int p4), .val (.int p5)] [])) (Q3 Z a1 p2 p3 p4 p5 vi vn vr vh vc gi gn gr gh h0 n0) ({ frames := 0, cells := 0, slots := 0, locals := 0 } : Room).cells ({ frames := 0, cells := 0, slots := 0, locals := 0 } : Room).slots
  obtain ⟨T7, X7, e7, st7⟩ := getF X0 hx hZ hown (host := "") (Or.inl (hw _ (List.mem_of_getElem? (i := 14) rfl))) Via.refl e0 F_ids_a1_2 (g := (mkF m 1 #[.val (.ref a1), .val (.int p2), .val (.int p3), .val (.int p4), .val (.int p5)] [(.ref a1)])) rfl rfl (hb hby d3_1)
  obtain ⟨T8, X8, e8, st8⟩ := getF X7 hx hZ hown (host := "") (Or.inl (hw _ (List.mem_of_getElem? (i := 27) rfl))) Via.refl e7 F_count_a1_6 (g := (mkF m 5 #[.val (.ref a1), .val (.int p2), .val (.int p3), .val (.int p4), .val (.int p5)] [(.ref a1), (.ref vi)])) rfl rfl (hb hby d3_5)
  obtain ⟨cl9, Ar9, S9, Nn9, G9⟩ := id V_vi
  have hin9 : ¬ (vc < 0 ∨ cl9.slots.size ≤ vc.toNatClampNeg) := inb_of S9 (own_inb2 hc0 hc1 : ¬ vc < 0 ∧ vc < (2 : Int32))
  obtain ⟨T10, h10, X10, e10, W10, st10⟩ := stI X8 hx hZ e8 Ar9 (j := vc) hin9 (g := (mkF m 9 #[.val (.ref a1), .val (.int p2), .val (.int p3), .val (.int p4), .val (.int p5)] [(.int p2), (.int vc), (.ref vi)])) rfl rfl (hb hby d3_9)
  have fE_a1_x10 := (E_a1_1.wr W10)
  have fF_a1_ids_x10 := (Fld.other W10 F_ids_a1_2 (Or.inl ne_a1_vi))
  have fF_a1_incarnations_x10 := (Fld.other W10 F_incarnations_a1_3 (Or.inl ne_a1_vi))
  have fF_a1_rounds_x10 := (Fld.other W10 F_rounds_a1_4 (Or.inl ne_a1_vi))
  have fF_a1_heard_x10 := (Fld.other W10 F_heard_a1_5 (Or.inl ne_a1_vi))
  have fF_a1_count_x10 := (Fld.other W10 F_count_a1_6 (Or.inl ne_a1_vi))
  have fA_vn_x10 := (V_vn.other W10 (Ne.symm ne_vi_vn))
  have fA_vr_x10 := (V_vr.other W10 (Ne.symm ne_vi_vr))
  have fA_vh_x10 := (V_vh.other W10 (Ne.symm ne_vi_vh))
  have V10 : own_Arr Z h10 vi .int (2 : Int32) (fun i => Value.int ((own_put gi vc p2) i)) := own_Arr.set (w := Value.int) (g := gi) (x := p2) V_vi W10 rfl (fun i => rfl)
  have N10 := Fr.snoc X10 N0 g_vi
  have K10 : Keep h0 h10 [a1, vi, vn, vr, vh] := Keep.wr (Keep.refl h0 _) W10 (Or.inl (List.mem_of_getElem? (i := 1) rfl))
  have Z10 : n0 ≤ h10.size := Nat.le_trans Z0 (Nat.le_of_eq W10.size.symm)
  obtain ⟨T11, X11, e11, st11⟩ := getF X10 hx hZ hown (host := "") (Or.inl (hw _ (List.mem_of_getElem? (i := 16) rfl))) Via.refl e10 fF_a1_incarnations_x10 (g := (mkF m 11 #[.val (.ref a1), .val (.int p2), .val (.int p3), .val (.int p4), .val (.int p5)] [(.ref a1)])) rfl rfl (hb hby d3_11)
  obtain ⟨T12, X12, e12, st12⟩ := getF X11 hx hZ hown (host := "") (Or.inl (hw _ (List.mem_of_getElem? (i := 27) rfl))) Via.refl e11 fF_a1_count_x10 (g := (mkF m 15 #[.val (.ref a1), .val (.int p2), .val (.int p3), .val (.int p4), .val (.int p5)] [(.ref a1), (.ref vn)])) rfl rfl (hb hby d3_15)
  obtain ⟨cl13, Ar13, S13, Nn13, G13⟩ := id fA_vn_x10
  have hin13 : ¬ (vc < 0 ∨ cl13.slots.size ≤ vc.toNatClampNeg) := inb_of S13 (own_inb2 hc0 hc1 : ¬ vc < 0 ∧ vc < (2 : Int32))
  obtain ⟨T14, h14, X14, e14, W14, st14⟩ := stI X12 hx hZ e12 Ar13 (j := vc) hin13 (g := (mkF m 19 #[.val (.ref a1), .val (.int p2), .val (.int p3), .val (.int p4), .val (.int p5)] [(.int p3), (.int vc), (.ref vn)])) rfl rfl (hb hby d3_19)
  have fE_a1_x14 := (fE_a1_x10.wr W14)
  have fF_a1_ids_x14 := (Fld.other W14 fF_a1_ids_x10 (Or.inl ne_a1_vn))
  have fF_a1_incarnations_x14 := (Fld.other W14 fF_a1_incarnations_x10 (Or.inl ne_a1_vn))
  have fF_a1_rounds_x14 := (Fld.other W14 fF_a1_rounds_x10 (Or.inl ne_a1_vn))
  have fF_a1_heard_x14 := (Fld.other W14 fF_a1_heard_x10 (Or.inl ne_a1_vn))
  have fF_a1_count_x14 := (Fld.other W14 fF_a1_count_x10 (Or.inl ne_a1_vn))
  have fA_vi_x14 := (V10.other W14 ne_vi_vn)
  have fA_vr_x14 := (fA_vr_x10.other W14 (Ne.symm ne_vn_vr))
  have fA_vh_x14 := (fA_vh_x10.other W14 (Ne.symm ne_vn_vh))
  have V14 : own_Arr Z h14 vn .int (2 : Int32) (fun i => Value.int ((own_put gn vc p3) i)) := own_Arr.set (w := Value.int) (g := gn) (x := p3) fA_vn_x10 W14 rfl (fun i => rfl)
  have N14 := Fr.snoc X14 N10 g_vn
  have K14 : Keep h0 h14 [a1, vi, vn, vr, vh] := Keep.wr K10 W14 (Or.inl (List.mem_of_getElem? (i := 2) rfl))
  have Z14 : n0 ≤ h14.size := Nat.le_trans Z10 (Nat.le_of_eq W14.size.symm)
  obtain ⟨T15, X15, e15, st15⟩ := getF X14 hx hZ hown (host := "") (Or.inl (hw _ (List.mem_of_getElem? (i := 18) rfl))) Via.refl e14 fF_a1_rounds_x14 (g := (mkF m 21 #[.val (.ref a1), .val (.int p2), .val (.int p3), .val (.int p4), .val (.int p5)] [(.ref a1)])) rfl rfl (hb hby d3_21)
  obtain ⟨T16, X16, e16, st16⟩ := getF X15 hx hZ hown (host := "") (Or.inl (hw _ (List.mem_of_getElem? (i := 27) rfl))) Via.refl e15 fF_a1_count_x14 (g := (mkF m 25 #[.val (.ref a1), .val (.int p2), .val (.int p3), .val (.int p4), .val (.int p5)] [(.ref a1), (.ref vr)])) rfl rfl (hb hby d3_25)
  obtain ⟨cl17, Ar17, S17, Nn17, G17⟩ := id fA_vr_x14
  have hin17 : ¬ (vc < 0 ∨ cl17.slots.size ≤ vc.toNatClampNeg) := inb_of S17 (own_inb2 hc0 hc1 : ¬ vc < 0 ∧ vc < (2 : Int32))
  obtain ⟨T18, h18, X18, e18, W18, st18⟩ := stI X16 hx hZ e16 Ar17 (j := vc) hin17 (g := (mkF m 29 #[.val (.ref a1), .val (.int p2), .val (.int p3), .val (.int p4), .val (.int p5)] [(.int p4), (.int vc), (.ref vr)])) rfl rfl (hb hby d3_29)
  have fE_a1_x18 := (fE_a1_x14.wr W18)
  have fF_a1_ids_x18 := (Fld.other W18 fF_a1_ids_x14 (Or.inl ne_a1_vr))
  have fF_a1_incarnations_x18 := (Fld.other W18 fF_a1_incarnations_x14 (Or.inl ne_a1_vr))
  have fF_a1_rounds_x18 := (Fld.other W18 fF_a1_rounds_x14 (Or.inl ne_a1_vr))
  have fF_a1_heard_x18 := (Fld.other W18 fF_a1_heard_x14 (Or.inl ne_a1_vr))
  have fF_a1_count_x18 := (Fld.other W18 fF_a1_count_x14 (Or.inl ne_a1_vr))
  have fA_vi_x18 := (fA_vi_x14.other W18 ne_vi_vr)
  have fA_vn_x18 := (V14.other W18 ne_vn_vr)
  have fA_vh_x18 := (fA_vh_x14.other W18 (Ne.symm ne_vr_vh))
  have V18 : own_Arr Z h18 vr .int (2 : Int32) (fun i => Value.int ((own_put gr vc p4) i)) := own_Arr.set (w := Value.int) (g := gr) (x := p4) fA_vr_x14 W18 rfl (fun i => rfl)
  have N18 := Fr.snoc X18 N14 g_vr
  have K18 : Keep h0 h18 [a1, vi, vn, vr, vh] := Keep.wr K14 W18 (Or.inl (List.mem_of_getElem? (i := 3) rfl))
  have Z18 : n0 ≤ h18.size := Nat.le_trans Z14 (Nat.le_of_eq W18.size.symm)
  obtain ⟨T19, X19, e19, st19⟩ := getF X18 hx hZ hown (host := "") (Or.inl (hw _ (List.mem_of_getElem? (i := 20) rfl))) Via.refl e18 fF_a1_heard_x18 (g := (mkF m 31 #[.val (.ref a1), .val (.int p2), .val (.int p3), .val (.int p4), .val (.int p5)] [(.ref a1)])) rfl rfl (hb hby d3_31)
  obtain ⟨T20, X20, e20, st20⟩ := getF X19 hx hZ hown (host := "") (Or.inl (hw _ (List.mem_of_getElem? (i := 27) rfl))) Via.refl e19 fF_a1_count_x18 (g := (mkF m 35 #[.val (.ref a1), .val (.int p2), .val (.int p3), .val (.int p4), .val (.int p5)] [(.ref a1), (.ref vh)])) rfl rfl (hb hby d3_35)
  obtain ⟨cl21, Ar21, S21, Nn21, G21⟩ := id fA_vh_x18
  have hin21 : ¬ (vc < 0 ∨ cl21.slots.size ≤ vc.toNatClampNeg) := inb_of S21 (own_inb2 hc0 hc1 : ¬ vc < 0 ∧ vc < (2 : Int32))
  obtain ⟨T22, h22, X22, e22, W22, st22⟩ := stI X20 hx hZ e20 Ar21 (j := vc) hin21 (g := (mkF m 40 #[.val (.ref a1), .val (.int p2), .val (.int p3), .val (.int p4), .val (.int p5)] [(.int p5), (.int vc), (.ref vh)])) rfl rfl (hb hby d3_40)
  have fE_a1_x22 := (fE_a1_x18.wr W22)
  have fF_a1_ids_x22 := (Fld.other W22 fF_a1_ids_x18 (Or.inl ne_a1_vh))
  have fF_a1_incarnations_x22 := (Fld.other W22 fF_a1_incarnations_x18 (Or.inl ne_a1_vh))
  have fF_a1_rounds_x22 := (Fld.other W22 fF_a1_rounds_x18 (Or.inl ne_a1_vh))
  have fF_a1_heard_x22 := (Fld.other W22 fF_a1_heard_x18 (Or.inl ne_a1_vh))
  have fF_a1_count_x22 := (Fld.other W22 fF_a1_count_x18 (Or.inl ne_a1_vh))
  have fA_vi_x22 := (fA_vi_x18.other W22 ne_vi_vh)
  have fA_vn_x22 := (fA_vn_x18.other W22 ne_vn_vh)
  have fA_vr_x22 := (V18.other W22 ne_vr_vh)
  have V22 : own_Arr Z h22 vh .int (2 : Int32) (fun i => Value.int ((own_put gh vc p5) i)) := own_Arr.set (w := Value.int) (g := gh) (x := p5) fA_vh_x18 W22 rfl (fun i => rfl)
  have N22 := Fr.snoc X22 N18 g_vh
  have K22 : Keep h0 h22 [a1, vi, vn, vr, vh] := Keep.wr K18 W22 (Or.inl (List.mem_of_getElem? (i := 4) rfl))
  have Z22 : n0 ≤ h22.size := Nat.le_trans Z18 (Nat.le_of_eq W22.size.symm)
  obtain ⟨T23, X23, e23, st23⟩ := getF X22 hx hZ hown (host := "") (Or.inl (hw _ (List.mem_of_getElem? (i := 27) rfl))) Via.refl e22 fF_a1_count_x22 (g := (mkF m 43 #[.val (.ref a1), .val (.int p2), .val (.int p3), .val (.int p4), .val (.int p5)] [(.ref a1), (.ref a1)])) rfl rfl (hb hby d3_43)
  obtain ⟨T24, h24, X24, e24, W24, st24⟩ := putF X23 hx hZ hown (host := "") (Or.inl (hw _ (List.mem_of_getElem? (i := 27) rfl))) Via.refl e23 fF_a1_count_x22 fE_a1_x22 (Or.inl (hw _ (List.mem_of_getElem? (i := 28) rfl))) (hw _ (List.mem_of_getElem? (i := 5) rfl)) (ty := .int) (by decide) rfl rfl (g := (mkF m 48 #[.val (.ref a1), .val (.int p2), .val (.int p3), .val (.int p4), .val (.int p5)] [(.int (vc + (1 : Int32))), (.ref a1)])) rfl rfl (hb hby d3_48)
  have Fw24 := Fld.same W24 fF_a1_count_x22
  have fE_a1_x24 := (fE_a1_x22.wr W24)
  have fF_a1_ids_x24 := (Fld.other W24 fF_a1_ids_x22 (Or.inr (slot_ne (Or.inr (hw _ (List.mem_of_getElem? (i := 15) rfl))) (Or.inl (hw _ (List.mem_of_getElem? (i := 28) rfl))) (by decide) (t := (.array .int)) (t' := .int) (by decide) (by decide))))
  have fF_a1_incarnations_x24 := (Fld.other W24 fF_a1_incarnations_x22 (Or.inr (slot_ne (Or.inr (hw _ (List.mem_of_getElem? (i := 17) rfl))) (Or.inl (hw _ (List.mem_of_getElem? (i := 28) rfl))) (by decide) (t := (.array .int)) (t' := .int) (by decide) (by decide))))
  have fF_a1_rounds_x24 := (Fld.other W24 fF_a1_rounds_x22 (Or.inr (slot_ne (Or.inr (hw _ (List.mem_of_getElem? (i := 19) rfl))) (Or.inl (hw _ (List.mem_of_getElem? (i := 28) rfl))) (by decide) (t := (.array .int)) (t' := .int) (by decide) (by decide))))
  have fF_a1_heard_x24 := (Fld.other W24 fF_a1_heard_x22 (Or.inr (slot_ne (Or.inr (hw _ (List.mem_of_getElem? (i := 21) rfl))) (Or.inl (hw _ (List.mem_of_getElem? (i := 28) rfl))) (by decide) (t := (.array .int)) (t' := .int) (by decide) (by decide))))
  have fA_vi_x24 := (fA_vi_x22.other W24 (Ne.symm ne_a1_vi))
  have fA_vn_x24 := (fA_vn_x22.other W24 (Ne.symm ne_a1_vn))
  have fA_vr_x24 := (fA_vr_x22.other W24 (Ne.symm ne_a1_vr))
  have fA_vh_x24 := (V22.other W24 (Ne.symm ne_a1_vh))
  have N24 := Fr.snoc X24 N22 g_a1
  have K24 : Keep h0 h24 [a1, vi, vn, vr, vh] := Keep.wr K22 W24 (Or.inl (List.mem_of_getElem? (i := 0) rfl))
  have Z24 : n0 ≤ h24.size := Nat.le_trans Z22 (Nat.le_of_eq W24.size.symm)
  refine own_pre (A := T24.setTop (mkF m 51 #[.val (.ref a1), .val (.int p2), .val (.int p3), .val (.int p4), .val (.int p5)] [])) (fun tt kt => ?_) ?_
  · show Steps p.tables e below (s₁.setTop (mkF m 0 #[.val (.ref a1), .val (.int p2), .val (.int p3), .val (.int p4), .val (.int p5)] [])) _
    refine XS.aloadN X0.here hx rfl (hb hby d3_0) rfl rfl ?_
    show Steps p.tables e below (s₁.setTop (mkF m 1 #[.val (.ref a1), .val (.int p2), .val (.int p3), .val (.int p4), .val (.int p5)] [(.ref a1)])) _
    refine st7 _ ?_
    show Steps p.tables e below (T7.setTop (mkF m 4 #[.val (.ref a1), .val (.int p2), .val (.int p3), .val (.int p4), .val (.int p5)] [(.ref vi)])) _
    refine XS.aloadN X7.here hx rfl (hb hby d3_4) rfl rfl ?_
    show Steps p.tables e below (T7.setTop (mkF m 5 #[.val (.ref a1), .val (.int p2), .val (.int p3), .val (.int p4), .val (.int p5)] [(.ref a1), (.ref vi)])) _
    refine st8 _ ?_
    show Steps p.tables e below (T8.setTop (mkF m 8 #[.val (.ref a1), .val (.int p2), .val (.int p3), .val (.int p4), .val (.int p5)] [(.int vc), (.ref vi)])) _
    refine XS.iloadN X8.here hx rfl (hb hby d3_8) rfl ?_
    show Steps p.tables e below (T8.setTop (mkF m 9 #[.val (.ref a1), .val (.int p2), .val (.int p3), .val (.int p4), .val (.int p5)] [(.int p2), (.int vc), (.ref vi)])) _
    refine st10 _ ?_
    show Steps p.tables e below (T10.setTop (mkF m 10 #[.val (.ref a1), .val (.int p2), .val (.int p3), .val (.int p4), .val (.int p5)] [])) _
    refine XS.aloadN X10.here hx rfl (hb hby d3_10) rfl rfl ?_
    show Steps p.tables e below (T10.setTop (mkF m 11 #[.val (.ref a1), .val (.int p2), .val (.int p3), .val (.int p4), .val (.int p5)] [(.ref a1)])) _
    refine st11 _ ?_
    show Steps p.tables e below (T11.setTop (mkF m 14 #[.val (.ref a1), .val (.int p2), .val (.int p3), .val (.int p4), .val (.int p5)] [(.ref vn)])) _
    refine XS.aloadN X11.here hx rfl (hb hby d3_14) rfl rfl ?_
    show Steps p.tables e below (T11.setTop (mkF m 15 #[.val (.ref a1), .val (.int p2), .val (.int p3), .val (.int p4), .val (.int p5)] [(.ref a1), (.ref vn)])) _
    refine st12 _ ?_
    show Steps p.tables e below (T12.setTop (mkF m 18 #[.val (.ref a1), .val (.int p2), .val (.int p3), .val (.int p4), .val (.int p5)] [(.int vc), (.ref vn)])) _
    refine XS.iloadN X12.here hx rfl (hb hby d3_18) rfl ?_
    show Steps p.tables e below (T12.setTop (mkF m 19 #[.val (.ref a1), .val (.int p2), .val (.int p3), .val (.int p4), .val (.int p5)] [(.int p3), (.int vc), (.ref vn)])) _
    refine st14 _ ?_
    show Steps p.tables e below (T14.setTop (mkF m 20 #[.val (.ref a1), .val (.int p2), .val (.int p3), .val (.int p4), .val (.int p5)] [])) _
    refine XS.aloadN X14.here hx rfl (hb hby d3_20) rfl rfl ?_
    show Steps p.tables e below (T14.setTop (mkF m 21 #[.val (.ref a1), .val (.int p2), .val (.int p3), .val (.int p4), .val (.int p5)] [(.ref a1)])) _
    refine st15 _ ?_
    show Steps p.tables e below (T15.setTop (mkF m 24 #[.val (.ref a1), .val (.int p2), .val (.int p3), .val (.int p4), .val (.int p5)] [(.ref vr)])) _
    refine XS.aloadN X15.here hx rfl (hb hby d3_24) rfl rfl ?_
    show Steps p.tables e below (T15.setTop (mkF m 25 #[.val (.ref a1), .val (.int p2), .val (.int p3), .val (.int p4), .val (.int p5)] [(.ref a1), (.ref vr)])) _
    refine st16 _ ?_
    show Steps p.tables e below (T16.setTop (mkF m 28 #[.val (.ref a1), .val (.int p2), .val (.int p3), .val (.int p4), .val (.int p5)] [(.int vc), (.ref vr)])) _
    refine XS.iloadN X16.here hx rfl (hb hby d3_28) rfl ?_
    show Steps p.tables e below (T16.setTop (mkF m 29 #[.val (.ref a1), .val (.int p2), .val (.int p3), .val (.int p4), .val (.int p5)] [(.int p4), (.int vc), (.ref vr)])) _
    refine st18 _ ?_
    show Steps p.tables e below (T18.setTop (mkF m 30 #[.val (.ref a1), .val (.int p2), .val (.int p3), .val (.int p4), .val (.int p5)] [])) _
    refine XS.aloadN X18.here hx rfl (hb hby d3_30) rfl rfl ?_
    show Steps p.tables e below (T18.setTop (mkF m 31 #[.val (.ref a1), .val (.int p2), .val (.int p3), .val (.int p4), .val (.int p5)] [(.ref a1)])) _
    refine st19 _ ?_
    show Steps p.tables e below (T19.setTop (mkF m 34 #[.val (.ref a1), .val (.int p2), .val (.int p3), .val (.int p4), .val (.int p5)] [(.ref vh)])) _
    refine XS.aloadN X19.here hx rfl (hb hby d3_34) rfl rfl ?_
    show Steps p.tables e below (T19.setTop (mkF m 35 #[.val (.ref a1), .val (.int p2), .val (.int p3), .val (.int p4), .val (.int p5)] [(.ref a1), (.ref vh)])) _
    refine st20 _ ?_
    show Steps p.tables e below (T20.setTop (mkF m 38 #[.val (.ref a1), .val (.int p2), .val (.int p3), .val (.int p4), .val (.int p5)] [(.int vc), (.ref vh)])) _
    refine XS.iload X20.here hx rfl (hb hby d3_38) rfl ?_
    show Steps p.tables e below (T20.setTop (mkF m 40 #[.val (.ref a1), .val (.int p2), .val (.int p3), .val (.int p4), .val (.int p5)] [(.int p5), (.int vc), (.ref vh)])) _
    refine st22 _ ?_
    show Steps p.tables e below (T22.setTop (mkF m 41 #[.val (.ref a1), .val (.int p2), .val (.int p3), .val (.int p4), .val (.int p5)] [])) _
    refine XS.aloadN X22.here hx rfl (hb hby d3_41) rfl rfl ?_
    refine XS.dup X22.here hx rfl (hb hby d3_42) rfl rfl ?_
    show Steps p.tables e below (T22.setTop (mkF m 43 #[.val (.ref a1), .val (.int p2), .val (.int p3), .val (.int p4), .val (.int p5)] [(.ref a1), (.ref a1)])) _
    refine st23 _ ?_
    show Steps p.tables e below (T23.setTop (mkF m 46 #[.val (.ref a1), .val (.int p2), .val (.int p3), .val (.int p4), .val (.int p5)] [(.int vc), (.ref a1)])) _
    refine XS.iconst X23.here hx rfl (hb hby d3_46) ?_
    refine XS.iadd X23.here hx rfl (hb hby d3_47) rfl ?_
    show Steps p.tables e below (T23.setTop (mkF m 48 #[.val (.ref a1), .val (.int p2), .val (.int p3), .val (.int p4), .val (.int p5)] [(.int (vc + (1 : Int32))), (.ref a1)])) _
    refine st24 _ ?_
    exact kt
  show own_End p e below s (T24.setTop (mkF m 51 #[.val (.ref a1), .val (.int p2), .val (.int p3), .val (.int p4), .val (.int p5)] [])) (Q3 Z a1 p2 p3 p4 p5 vi vn vr vh vc gi gn gr gh h0 n0) ({ frames := 0, cells := 0, slots := 0, locals := 0 } : Room).cells ({ frames := 0, cells := 0, slots := 0, locals := 0 } : Room).slots
  obtain ⟨fs, hr, hrun, hended, hW, hsame⟩ := X24.leave (v := none) (fun _ => rfl)
  refine ⟨_, _, ?_, hrun, hended, _, _, rfl, ?_, ⟨_, rfl⟩, hW, hsame.mono (by decide) (by decide)⟩
  · exact X24.returnOut hx Bd.returns (hb hby d3_51) hr
  · show Q3 Z a1 p2 p3 p4 p5 vi vn vr vh vc gi gn gr gh h0 n0 _ T24.heap _
    rw [e24]
    exact ⟨rfl, N24, K24, ⟨fE_a1_x24, fF_a1_ids_x24, fF_a1_incarnations_x24, fF_a1_rounds_x24, fF_a1_heard_x24, Fw24⟩, fA_vi_x24, fA_vn_x24, fA_vr_x24, fA_vh_x24⟩
theorem d6_0 : decode prog_39_method_2_code 0 = .ok (.iload_n 0, 1) := by decide +kernel
theorem d6_1 : decode prog_39_method_2_code 1 = .ok (.iconst 1, 1) := by decide +kernel
theorem d6_2 : decode prog_39_method_2_code 2 = .ok (.if_icmp .ge 17, 3) := by decide +kernel
theorem d6_19 : decode prog_39_method_2_code 19 = .ok (.return_, 1) := by decide +kernel
theorem pn_6 : plainName "com/example/atoll/atoll/detect/Require" = true := by first | (simp [plainName, overriddenIn]; done) | decide +kernel
theorem ef_6 (m : MethodId) (x0 : Int32) : entryFrame m #[(.int x0)] 1 = mkF m 0 #[.val (.int x0)] [] := by first | (simp [entryFrame, mkF, argsToLocals, Value.category]; done) | rfl
def Q6 (Z : State) (p1 : Int32) (h0 : Heap) (n0 : Nat) (v : Option Value) (h : Heap) (L : List Loc) : Prop := v = none ∧ Fr n0 L ∧ h = h0
set_option maxRecDepth 65536 in
set_option maxHeartbeats 40000000 in
theorem rm6 (l : Launch) (Z : State) (a0 : Array Value) (hw : ∀ d ∈ tables_1, d.before a0 Z = true) (ws : List Jvm.Cond) (p1 : Int32) (h0 : Heap) (n0 : Nat) (Z0 : n0 ≤ h0.size) (hp : ¬ p1 < (1 : Int32)) :
    MetFree l (⟨"com/example/atoll/atoll/detect/Require", "nodeId", "(I)V"⟩ : MethodName) (head1 (Jvm.Cond.code (⟨"com/example/atoll/atoll/detect/Require", "nodeId", "(I)V"⟩ : MethodName) prog_39_method_2_code 1 none :: ws) ({ frames := 0, cells := 0, slots := 0, locals := 0 } : Room)) (fun a U => a = #[(.int p1)] ∧ Z.Warmed39 U.vm ∧ U.heap = h0) (fun _ _ _ _ _ => True) (fun _ U o U' => ∃ v L, o = .returned v ∧ Q6 Z p1 h0 n0 v U'.heap L ∧ FrameEnd U o U' L ({ frames := 0, cells := 0, slots := 0, locals := 0 } : Room).cells ({ frames := 0, cells := 0, slots := 0, locals := 0 } : Room).slots) := by
  refine MetFree.of_bodySF (plainFor_of_name pn_6) hisR ?_
  intro p e s m args below meth c s₁ Bd hml0 hP hK
  obtain ⟨rfl, hZ, hh⟩ := hP
  have hx := Bd.exec
  have hby := Bd.bytes
  have hml : c.maxLocals = 1 := hml0
  have hown : s.vm.findClass "com/example/atoll/atoll/detect/Require" = some m.cls := findClass_of_methodNamed Bd.named
  have hnm := (name_of_methodNamed Bd.named Bd.method).1
  have X0 : Stand p l e ({ frames := 0, cells := 0, slots := 0, locals := 0 } : Room) s m #[(.int p1)] below meth c s₁ [] 0 0 := Stand.of_body Bd
  have e0 : s₁.heap = h0 := by rw [← hh, Bd.state]; rfl
  have N0 := Fr.nil n0
  show own_End p e below s (s₁.setTop (entryFrame m #[(.int p1)] 1)) (Q6 Z p1 h0 n0) ({ frames := 0, cells := 0, slots := 0, locals := 0 } : Room).cells ({ frames := 0, cells := 0, slots := 0, locals := 0 } : Room).slots
  refine own_pre (A := s₁.setTop (mkF m 0 #[.val (.int p1)] [])) (fun tt kt => castTop (ef_6 m p1) kt) ?_
  show own_End p e below s (s₁.setTop (mkF m 0 #[.val (.int p1)] [])) (Q6 Z p1 h0 n0) ({ frames := 0, cells := 0, slots := 0, locals := 0 } : Room).cells ({ frames := 0, cells := 0, slots := 0, locals := 0 } : Room).slots
  refine own_pre (A := s₁.setTop (mkF m 19 #[.val (.int p1)] [])) (fun tt kt => ?_) ?_
  · show Steps p.tables e below (s₁.setTop (mkF m 0 #[.val (.int p1)] [])) _
    refine XS.iloadN X0.here hx rfl (hb hby d6_0) rfl ?_
    refine XS.iconst X0.here hx rfl (hb hby d6_1) ?_
    refine XS.icmpYes X0.here hx rfl (pc0 := 2) (pc' := 19) rfl (hb hby d6_2) rfl (flt (hp : ¬ (p1 < (1 : Int32)))).2.1 (by decide) (by decide) ?_
    exact kt
  show own_End p e below s (s₁.setTop (mkF m 19 #[.val (.int p1)] [])) (Q6 Z p1 h0 n0) ({ frames := 0, cells := 0, slots := 0, locals := 0 } : Room).cells ({ frames := 0, cells := 0, slots := 0, locals := 0 } : Room).slots
  obtain ⟨fs, hr, hrun, hended, hW, hsame⟩ := X0.leave (v := none) (fun _ => rfl)
  refine ⟨_, _, ?_, hrun, hended, _, _, rfl, ?_, ⟨_, rfl⟩, hW, hsame.mono (by decide) (by decide)⟩
  · exact X0.returnOut hx Bd.returns (hb hby d6_19) hr
  · show Q6 Z p1 h0 n0 _ s₁.heap _
    rw [e0]
    exact ⟨rfl, N0, rfl⟩
theorem d7_0 : decode prog_11_method_2_code 0 = .ok (.iload_n 0, 1) := by decide +kernel
theorem d7_1 : decode prog_11_method_2_code 1 = .ok (.invokestatic 28, 3) := by decide +kernel
theorem d7_4 : decode prog_11_method_2_code 4 = .ok (.iload_n 1, 1) := by decide +kernel
theorem d7_5 : decode prog_11_method_2_code 5 = .ok (.ifCond .lt 20, 3) := by decide +kernel
theorem d7_8 : decode prog_11_method_2_code 8 = .ok (.iload_n 1, 1) := by decide +kernel
theorem d7_9 : decode prog_11_method_2_code 9 = .ok (.ldc 34, 2) := by decide +kernel
theorem d7_11 : decode prog_11_method_2_code 11 = .ok (.if_icmp .gt 14, 3) := by decide +kernel
theorem d7_14 : decode prog_11_method_2_code 14 = .ok (.iload_n 2, 1) := by decide +kernel
theorem d7_15 : decode prog_11_method_2_code 15 = .ok (.iconst 1, 1) := by decide +kernel
theorem d7_16 : decode prog_11_method_2_code 16 = .ok (.if_icmp .lt 9, 3) := by decide +kernel
theorem d7_19 : decode prog_11_method_2_code 19 = .ok (.iload_n 2, 1) := by decide +kernel
theorem d7_20 : decode prog_11_method_2_code 20 = .ok (.ldc 34, 2) := by decide +kernel
theorem d7_22 : decode prog_11_method_2_code 22 = .ok (.if_icmp .le 18, 3) := by decide +kernel
theorem d7_40 : decode prog_11_method_2_code 40 = .ok (.return_, 1) := by decide +kernel
theorem pn_7 : plainName "com/example/atoll/atoll/detect/Beacon$Origin" = true := by first | (simp [plainName, overriddenIn]; done) | decide +kernel
theorem pd_7_0 : parseMethodDescriptor "(I)V" = some ⟨[.int], none⟩ := by decide +kernel
theorem ef_7 (m : MethodId) (x0 : Int32) (x1 : Int32) (x2 : Int32) : entryFrame m #[(.int x0), (.int x1), (.int x2)] 3 = mkF m 0 #[.val (.int x0), .val (.int x1), .val (.int x2)] [] := by first | (simp [entryFrame, mkF, argsToLocals, Value.category]; done) | rfl
def Q7 (Z : State) (p1 : Int32) (p2 : Int32) (p3 : Int32) (h0 : Heap) (n0 : Nat) (v : Option Value) (h : Heap) (L : List Loc) : Prop := v = none ∧ Fr n0 L ∧ h = h0
set_option maxRecDepth 65536 in
set_option maxHeartbeats 40000000 in
theorem rm7 (l : Launch) (Z : State) (a0 : Array Value) (hw : ∀ d ∈ tables_1, d.before a0 Z = true) (ws : List Jvm.Cond) (p1 : Int32) (p2 : Int32) (p3 : Int32) (h0 : Heap) (n0 : Nat) (Z0 : n0 ≤ h0.size) (h1 : ¬ p1 < (1 : Int32)) (h2 : ¬ p2 < (0 : Int32)) (h3 : ¬ (65535 : Int32) < p2) (h4 : ¬ p3 < (1 : Int32)) (h5 : ¬ (65535 : Int32) < p3) :
    MetFree l (⟨"com/example/atoll/atoll/detect/Beacon$Origin", "check", "(III)V"⟩ : MethodName) (head1 (Jvm.Cond.code (⟨"com/example/atoll/atoll/detect/Beacon$Origin", "check", "(III)V"⟩ : MethodName) prog_11_method_2_code 3 none :: ws) ({ frames := 1, cells := 0, slots := 0, locals := 12 } : Room)) (fun a U => a = #[(.int p1), (.int p2), (.int p3)] ∧ Z.Warmed39 U.vm ∧ U.heap = h0) (fun _ _ _ _ _ => True) (fun _ U o U' => ∃ v L, o = .returned v ∧ Q7 Z p1 p2 p3 h0 n0 v U'.heap L ∧ FrameEnd U o U' L ({ frames := 1, cells := 0, slots := 0, locals := 12 } : Room).cells ({ frames := 1, cells := 0, slots := 0, locals := 12 } : Room).slots) := by
  refine MetFree.of_bodySF (plainFor_of_name pn_7) hisR ?_
  intro p e s m args below meth c s₁ Bd hml0 hP hK
  obtain ⟨rfl, hZ, hh⟩ := hP
  have hx := Bd.exec
  have hby := Bd.bytes
  have hml : c.maxLocals = 3 := hml0
  have hown : s.vm.findClass "com/example/atoll/atoll/detect/Beacon$Origin" = some m.cls := findClass_of_methodNamed Bd.named
  have hnm := (name_of_methodNamed Bd.named Bd.method).1
  have X0 : Stand p l e ({ frames := 1, cells := 0, slots := 0, locals := 12 } : Room) s m #[(.int p1), (.int p2), (.int p3)] below meth c s₁ [] 0 0 := Stand.of_body Bd
  have e0 : s₁.heap = h0 := by rw [← hh, Bd.state]; rfl
  have N0 := Fr.nil n0
  show own_End p e below s (s₁.setTop (entryFrame m #[(.int p1), (.int p2), (.int p3)] 3)) (Q7 Z p1 p2 p3 h0 n0) ({ frames := 1, cells := 0, slots := 0, locals := 12 } : Room).cells ({ frames := 1, cells := 0, slots := 0, locals := 12 } : Room).slots
  refine own_pre (A := s₁.setTop (mkF m 0 #[.val (.int p1), .val (.int p2), .val (.int p3)] [])) (fun tt kt => castTop (ef_7 m p1 p2 p3) kt) ?_
  show own_End p e below s (s₁.setTop (mkF m 0 #[.val (.int p1), .val (.int p2), .val (.int p3)] [])) (Q7 Z p1 p2 p3 h0 n0) ({ frames := 1, cells := 0, slots := 0, locals := 12 } : Room).cells ({ frames := 1, cells := 0, slots := 0, locals := 12 } : Room).slots
  obtain ⟨_, _, ⟨T1, L1, k1, n1⟩, -, X1, ⟨Lc1, hQ1, l1, y1, z1⟩, st1⟩ := Jvm.LawKit.callS X0 hx (y := (⟨"com/example/atoll/atoll/detect/Require", "nodeId", "(I)V"⟩ : MethodName)) hown (mvT hZ (hw _ (List.mem_of_getElem? (i := 59) rfl))) (mvT hZ (hw _ (List.mem_of_getElem? (i := 52) rfl))) (mvT hZ (hw _ (List.mem_of_getElem? (i := 53) rfl))) (mvT hZ (hw _ (List.mem_of_getElem? (i := 54) rfl))) (by decide) (backOf (W := 0) (rm6 l Z a0 hw [] p1  h0 n0 Z0 h1) hZ (hw _ (List.mem_of_getElem? (i := 54) rfl)) (hw _ (List.mem_of_getElem? (i := 53) rfl)) (by decide) (by decide)) (g := (mkF m 1 #[.val (.int p1), .val (.int p2), .val (.int p3)] [(.int p1)])) rfl (by rw [hml]; rfl) (argsL := [(.int p1)]) (rest := []) (lenOf pd_7_0 rfl) rfl (by show 2 * 0 + _ ≤ _; exact Nat.le_of_eq rfl) (hb hby d7_1) (fun _ _ => ⟨rfl, e0, (by decide : 0 + 0 ≤ _), (by decide : 0 + 0 ≤ _)⟩)
  dsimp only [Pt.U, Pt.locs, Pt.cells, Pt.slots] at X1 l1 y1 z1 st1 hQ1
  subst l1 y1 z1
  obtain ⟨rfl, N1q, e1⟩ := hQ1
  have N1 := Fr.app N0 N1q
  refine own_pre (A := T1.setTop (mkF m 40 #[.val (.int p1), .val (.int p2), .val (.int p3)] [])) (fun tt kt => ?_) ?_
  · show Steps p.tables e below (s₁.setTop (mkF m 0 #[.val (.int p1), .val (.int p2), .val (.int p3)] [])) _
    refine XS.iloadN X0.here hx rfl (hb hby d7_0) rfl ?_
    show Steps p.tables e below (s₁.setTop (mkF m 1 #[.val (.int p1), .val (.int p2), .val (.int p3)] [(.int p1)])) _
    refine st1 _ ?_
    show Steps p.tables e below (T1.setTop (mkF m 4 #[.val (.int p1), .val (.int p2), .val (.int p3)] [])) _
    refine XS.iloadN X1.here hx rfl (hb hby d7_4) rfl ?_
    refine XS.ifNo X1.here hx rfl (hb hby d7_5) rfl ((if0 _ _).trans (flt (h2 : ¬ (p2 < (0 : Int32)))).1) ?_
    refine XS.iloadN X1.here hx rfl (hb hby d7_8) rfl ?_
    show Steps p.tables e below (T1.setTop (mkF m 9 #[.val (.int p1), .val (.int p2), .val (.int p3)] [(.int p2)])) _
    refine X1.ldcInt hx hown (mvT hZ (hw _ (List.mem_of_getElem? (i := 60) rfl))) (g := (mkF m 9 #[.val (.int p1), .val (.int p2), .val (.int p3)] [(.int p2)])) rfl (hb hby d7_9) _ ?_
    show Steps p.tables e below (T1.setTop (mkF m 11 #[.val (.int p1), .val (.int p2), .val (.int p3)] [(.int (65535 : Int32)), (.int p2)])) _
    refine XS.icmpNo X1.here hx rfl (hb hby d7_11) rfl (flt (h3 : ¬ ((65535 : Int32) < p2))).2.2.1 ?_
    refine XS.iloadN X1.here hx rfl (hb hby d7_14) rfl ?_
    refine XS.iconst X1.here hx rfl (hb hby d7_15) ?_
    refine XS.icmpNo X1.here hx rfl (hb hby d7_16) rfl (flt (h4 : ¬ (p3 < (1 : Int32)))).1 ?_
    show Steps p.tables e below (T1.setTop (mkF m 19 #[.val (.int p1), .val (.int p2), .val (.int p3)] [])) _
    refine XS.iloadN X1.here hx rfl (hb hby d7_19) rfl ?_
    show Steps p.tables e below (T1.setTop (mkF m 20 #[.val (.int p1), .val (.int p2), .val (.int p3)] [(.int p3)])) _
    refine X1.ldcInt hx hown (mvT hZ (hw _ (List.mem_of_getElem? (i := 60) rfl))) (g := (mkF m 20 #[.val (.int p1), .val (.int p2), .val (.int p3)] [(.int p3)])) rfl (hb hby d7_20) _ ?_
    show Steps p.tables e below (T1.setTop (mkF m 22 #[.val (.int p1), .val (.int p2), .val (.int p3)] [(.int (65535 : Int32)), (.int p3)])) _
    refine XS.icmpYes X1.here hx rfl (pc0 := 22) (pc' := 40) rfl (hb hby d7_22) rfl (flt (h5 : ¬ ((65535 : Int32) < p3))).2.2.2 (by decide) (by decide) ?_
    exact kt
  show own_End p e below s (T1.setTop (mkF m 40 #[.val (.int p1), .val (.int p2), .val (.int p3)] [])) (Q7 Z p1 p2 p3 h0 n0) ({ frames := 1, cells := 0, slots := 0, locals := 12 } : Room).cells ({ frames := 1, cells := 0, slots := 0, locals := 12 } : Room).slots
  obtain ⟨fs, hr, hrun, hended, hW, hsame⟩ := X1.leave (v := none) (fun _ => rfl)
  refine ⟨_, _, ?_, hrun, hended, _, _, rfl, ?_, ⟨_, rfl⟩, hW, hsame.mono (by decide) (by decide)⟩
  · exact X1.returnOut hx Bd.returns (hb hby d7_40) hr
  · show Q7 Z p1 p2 p3 h0 n0 _ T1.heap _
    rw [e1]
    exact ⟨rfl, N1, rfl⟩
theorem d5_0 : decode prog_9_method_1_code 0 = .ok (.aload_n 0, 1) := by decide +kernel
theorem d5_1 : decode prog_9_method_1_code 1 = .ok (.invokespecial 1, 3) := by decide +kernel
theorem d5_4 : decode prog_9_method_1_code 4 = .ok (.aload_n 0, 1) := by decide +kernel
theorem d5_5 : decode prog_9_method_1_code 5 = .ok (.iload_n 1, 1) := by decide +kernel
theorem d5_6 : decode prog_9_method_1_code 6 = .ok (.putfield 7, 3) := by decide +kernel
theorem d5_9 : decode prog_9_method_1_code 9 = .ok (.aload_n 0, 1) := by decide +kernel
theorem d5_10 : decode prog_9_method_1_code 10 = .ok (.aload_n 2, 1) := by decide +kernel
theorem d5_11 : decode prog_9_method_1_code 11 = .ok (.putfield 13, 3) := by decide +kernel
theorem d5_14 : decode prog_9_method_1_code 14 = .ok (.aload_n 0, 1) := by decide +kernel
theorem d5_15 : decode prog_9_method_1_code 15 = .ok (.aload_n 3, 1) := by decide +kernel
theorem d5_16 : decode prog_9_method_1_code 16 = .ok (.putfield 17, 3) := by decide +kernel
theorem d5_19 : decode prog_9_method_1_code 19 = .ok (.aload_n 0, 1) := by decide +kernel
theorem d5_20 : decode prog_9_method_1_code 20 = .ok (.aload 4, 2) := by decide +kernel
theorem d5_22 : decode prog_9_method_1_code 22 = .ok (.putfield 20, 3) := by decide +kernel
theorem d5_25 : decode prog_9_method_1_code 25 = .ok (.aload_n 0, 1) := by decide +kernel
theorem d5_26 : decode prog_9_method_1_code 26 = .ok (.aload 5, 2) := by decide +kernel
theorem d5_28 : decode prog_9_method_1_code 28 = .ok (.putfield 23, 3) := by decide +kernel
theorem d5_31 : decode prog_9_method_1_code 31 = .ok (.iload_n 1, 1) := by decide +kernel
theorem d5_32 : decode prog_9_method_1_code 32 = .ok (.invokestatic 26, 3) := by decide +kernel
theorem d5_35 : decode prog_9_method_1_code 35 = .ok (.iconst 0, 1) := by decide +kernel
theorem d5_36 : decode prog_9_method_1_code 36 = .ok (.istore 6, 2) := by decide +kernel
theorem d5_38 : decode prog_9_method_1_code 38 = .ok (.iload 6, 2) := by decide +kernel
theorem d5_40 : decode prog_9_method_1_code 40 = .ok (.aload_n 2, 1) := by decide +kernel
theorem d5_41 : decode prog_9_method_1_code 41 = .ok (.arraylength, 1) := by decide +kernel
theorem d5_42 : decode prog_9_method_1_code 42 = .ok (.if_icmp .ge 87, 3) := by decide +kernel
theorem d5_45 : decode prog_9_method_1_code 45 = .ok (.aload_n 2, 1) := by decide +kernel
theorem d5_46 : decode prog_9_method_1_code 46 = .ok (.iload 6, 2) := by decide +kernel
theorem d5_48 : decode prog_9_method_1_code 48 = .ok (.iaload, 1) := by decide +kernel
theorem d5_49 : decode prog_9_method_1_code 49 = .ok (.aload 4, 2) := by decide +kernel
theorem d5_51 : decode prog_9_method_1_code 51 = .ok (.iload 6, 2) := by decide +kernel
theorem d5_53 : decode prog_9_method_1_code 53 = .ok (.iaload, 1) := by decide +kernel
theorem d5_54 : decode prog_9_method_1_code 54 = .ok (.aload 5, 2) := by decide +kernel
theorem d5_56 : decode prog_9_method_1_code 56 = .ok (.iload 6, 2) := by decide +kernel
theorem d5_58 : decode prog_9_method_1_code 58 = .ok (.iaload, 1) := by decide +kernel
theorem d5_59 : decode prog_9_method_1_code 59 = .ok (.invokestatic 32, 3) := by decide +kernel
theorem d5_62 : decode prog_9_method_1_code 62 = .ok (.iload 6, 2) := by decide +kernel
theorem d5_64 : decode prog_9_method_1_code 64 = .ok (.ifCond .le 59, 3) := by decide +kernel
theorem d5_67 : decode prog_9_method_1_code 67 = .ok (.aload_n 2, 1) := by decide +kernel
theorem d5_68 : decode prog_9_method_1_code 68 = .ok (.iload 6, 2) := by decide +kernel
theorem d5_70 : decode prog_9_method_1_code 70 = .ok (.iaload, 1) := by decide +kernel
theorem d5_71 : decode prog_9_method_1_code 71 = .ok (.aload_n 2, 1) := by decide +kernel
theorem d5_72 : decode prog_9_method_1_code 72 = .ok (.iload 6, 2) := by decide +kernel
theorem d5_74 : decode prog_9_method_1_code 74 = .ok (.iconst 1, 1) := by decide +kernel
theorem d5_75 : decode prog_9_method_1_code 75 = .ok (.isub, 1) := by decide +kernel
theorem d5_76 : decode prog_9_method_1_code 76 = .ok (.iaload, 1) := by decide +kernel
theorem d5_77 : decode prog_9_method_1_code 77 = .ok (.if_icmp .gt 46, 3) := by decide +kernel
theorem d5_123 : decode prog_9_method_1_code 123 = .ok (.iinc 6 1, 3) := by decide +kernel
theorem d5_126 : decode prog_9_method_1_code 126 = .ok (.goto (-88), 3) := by decide +kernel
theorem d5_129 : decode prog_9_method_1_code 129 = .ok (.return_, 1) := by decide +kernel
theorem pn_5 : plainName "com/example/atoll/atoll/detect/Beacon" = true := by first | (simp [plainName, overriddenIn]; done) | decide +kernel
theorem pd_5_0 : parseMethodDescriptor "(I)V" = some ⟨[.int], none⟩ := by decide +kernel
theorem pd_5_1 : parseMethodDescriptor "(III)V" = some ⟨[.int, .int, .int], none⟩ := by decide +kernel
theorem ef_5 (m : MethodId) (x0 : Addr) (x1 : Int32) (x2 : Addr) (x3 : Addr) (x4 : Addr) (x5 : Addr) : entryFrame m #[(.ref x0), (.int x1), (.ref x2), (.ref x3), (.ref x4), (.ref x5)] 7 = mkF m 0 #[.val (.ref x0), .val (.int x1), .val (.ref x2), .val (.ref x3), .val (.ref x4), .val (.ref x5), .unset] [] := by first | (simp [entryFrame, mkF, argsToLocals, Value.category]; done) | rfl
def Q5 (Z : State) (a1 : Addr) (p2 : Int32) (a3 : Addr) (a4 : Addr) (a5 : Addr) (a6 : Addr) (vs : Int32) (gi : Nat → Int32) (gr : Nat → Int32) (gh : Nat → Int32) (h0 : Heap) (n0 : Nat) (v : Option Value) (h : Heap) (L : List Loc) : Prop := v = none ∧ Fr n0 L ∧ Keep h0 h [a1] ∧ own_C Z h a1 p2 a3 a4 a5 a6
set_option maxRecDepth 65536 in
set_option maxHeartbeats 40000000 in
theorem rm5 (l : Launch) (Z : State) (a0 : Array Value) (hw : ∀ d ∈ tables_1, d.before a0 Z = true) (ws : List Jvm.Cond) (a1 : Addr) (p2 : Int32) (a3 : Addr) (a4 : Addr) (a5 : Addr) (a6 : Addr) (vs : Int32) (gi : Nat → Int32) (gr : Nat → Int32) (gh : Nat → Int32) (h0 : Heap) (n0 : Nat) (Z0 : n0 ≤ h0.size) (O_a1 : own_C0 Z h0 a1 vs) (V_a3 : own_Arr Z h0 a3 .int (2 : Int32) (fun i => Value.int (gi i))) (V_a5 : own_Arr Z h0 a5 .int (2 : Int32) (fun i => Value.int (gr i))) (V_a6 : own_Arr Z h0 a6 .int (2 : Int32) (fun i => Value.int (gh i))) (ne_a3_a1 : a3 ≠ a1) (ne_a5_a1 : a5 ≠ a1) (ne_a6_a1 : a6 ≠ a1) (g_a1 : n0 ≤ a1) (hsd : ¬ p2 < (1 : Int32)) (k0_0 : ¬ (gi 0) < (1 : Int32)) (k1_0 : ¬ (gr 0) < (0 : Int32)) (k2_0 : ¬ (65535 : Int32) < (gr 0)) (k3_0 : ¬ (gh 0) < (1 : Int32)) (k4_0 : ¬ (65535 : Int32) < (gh 0)) (k0_1 : ¬ (gi 1) < (1 : Int32)) (k1_1 : ¬ (gr 1) < (0 : Int32)) (k2_1 : ¬ (65535 : Int32) < (gr 1)) (k3_1 : ¬ (gh 1) < (1 : Int32)) (k4_1 : ¬ (65535 : Int32) < (gh 1)) (ho : (gi 0) < (gi 1)) :
    MetFree l (⟨"com/example/atoll/atoll/detect/Beacon", "<init>", "(I[I[I[I[I)V"⟩ : MethodName) (head1 (Jvm.Cond.code (⟨"com/example/atoll/atoll/detect/Beacon", "<init>", "(I[I[I[I[I)V"⟩ : MethodName) prog_9_method_1_code 7 none :: ws) ({ frames := 2, cells := 0, slots := 0, locals := 26 } : Room)) (fun a U => a = #[(.ref a1), (.int p2), (.ref a3), (.ref a4), (.ref a5), (.ref a6)] ∧ Z.Warmed39 U.vm ∧ U.heap = h0) (fun _ _ _ _ _ => True) (fun _ U o U' => ∃ v L, o = .returned v ∧ Q5 Z a1 p2 a3 a4 a5 a6 vs gi gr gh h0 n0 v U'.heap L ∧ FrameEnd U o U' L ({ frames := 2, cells := 0, slots := 0, locals := 26 } : Room).cells ({ frames := 2, cells := 0, slots := 0, locals := 26 } : Room).slots) := by
  refine MetFree.of_bodySF (plainFor_of_name pn_5) hisR ?_
  intro p e s m args below meth c s₁ Bd hml0 hP hK
  obtain ⟨rfl, hZ, hh⟩ := hP
  have hx := Bd.exec
  have hby := Bd.bytes
  have hml : c.maxLocals = 7 := hml0
  have hown : s.vm.findClass "com/example/atoll/atoll/detect/Beacon" = some m.cls := findClass_of_methodNamed Bd.named
  have hnm := (name_of_methodNamed Bd.named Bd.method).1
  have X0 : Stand p l e ({ frames := 2, cells := 0, slots := 0, locals := 26 } : Room) s m #[(.ref a1), (.int p2), (.ref a3), (.ref a4), (.ref a5), (.ref a6)] below meth c s₁ [] 0 0 := Stand.of_body Bd
  have e0 : s₁.heap = h0 := by rw [← hh, Bd.state]; rfl
  have N0 := Fr.nil n0
  show own_End p e below s (s₁.setTop (entryFrame m #[(.ref a1), (.int p2), (.ref a3), (.ref a4), (.ref a5), (.ref a6)] 7)) (Q5 Z a1 p2 a3 a4 a5 a6 vs gi gr gh h0 n0) ({ frames := 2, cells := 0, slots := 0, locals := 26 } : Room).cells ({ frames := 2, cells := 0, slots := 0, locals := 26 } : Room).slots
  obtain ⟨E_a1_1, F_sender_a1_2, F_ids_a1_3, F_incarnations_a1_4, F_rounds_a1_5, F_heard_a1_6⟩ := O_a1
  refine own_pre (A := s₁.setTop (mkF m 0 #[.val (.ref a1), .val (.int p2), .val (.ref a3), .val (.ref a4), .val (.ref a5), .val (.ref a6), .unset] [])) (fun tt kt => castTop (ef_5 m a1 p2 a3 a4 a5 a6) kt) ?_
  show own_End p e below s (s₁.setTop (mkF m 0 #[.val (.ref a1), .val (.int p2), .val (.ref a3), .val (.ref a4), .val (.ref a5), .val (.ref a6), .unset] [])) (Q5 Z a1 p2 a3 a4 a5 a6 vs gi gr gh h0 n0) ({ frames := 2, cells := 0, slots := 0, locals := 26 } : Room).cells ({ frames := 2, cells := 0, slots := 0, locals := 26 } : Room).slots
  obtain ⟨T7, X7, e7, st7⟩ := initO X0 hx hZ hown (hw _ (List.mem_of_getElem? (i := 40) rfl)) (hw _ (List.mem_of_getElem? (i := 11) rfl)) (hw _ (List.mem_of_getElem? (i := 12) rfl)) e0 (g := (mkF m 1 #[.val (.ref a1), .val (.int p2), .val (.ref a3), .val (.ref a4), .val (.ref a5), .val (.ref a6), .unset] [(.ref a1)])) rfl (by rw [hml]; rfl) rfl (hb hby d5_1) (by decide) (W := 0) (by show 2 * 0 + _ ≤ _; exact Nat.le_of_eq rfl) (by decide)
  obtain ⟨T8, h8, X8, e8, W8, st8⟩ := putF X7 hx hZ hown (host := "") (Or.inl (hw _ (List.mem_of_getElem? (i := 41) rfl))) Via.refl e7 F_sender_a1_2 E_a1_1 (Or.inr ⟨(hw _ (List.mem_of_getElem? (i := 42) rfl)), rfl, hnm⟩) (hw _ (List.mem_of_getElem? (i := 35) rfl)) (ty := .int) (by decide) rfl rfl (g := (mkF m 6 #[.val (.ref a1), .val (.int p2), .val (.ref a3), .val (.ref a4), .val (.ref a5), .val (.ref a6), .unset] [(.int p2), (.ref a1)])) rfl rfl (hb hby d5_6)
  have Fw8 := Fld.same W8 F_sender_a1_2
  have fE_a1_x8 := (E_a1_1.wr W8)
  have fF_a1_ids_x8 := (Fld.other W8 F_ids_a1_3 (Or.inr (slot_ne (Or.inr (hw _ (List.mem_of_getElem? (i := 44) rfl))) (Or.inr (hw _ (List.mem_of_getElem? (i := 42) rfl))) (by decide) (t := (.array .int)) (t' := .int) (by decide) (by decide))))
  have fF_a1_incarnations_x8 := (Fld.other W8 F_incarnations_a1_4 (Or.inr (slot_ne (Or.inr (hw _ (List.mem_of_getElem? (i := 46) rfl))) (Or.inr (hw _ (List.mem_of_getElem? (i := 42) rfl))) (by decide) (t := (.array .int)) (t' := .int) (by decide) (by decide))))
  have fF_a1_rounds_x8 := (Fld.other W8 F_rounds_a1_5 (Or.inr (slot_ne (Or.inr (hw _ (List.mem_of_getElem? (i := 48) rfl))) (Or.inr (hw _ (List.mem_of_getElem? (i := 42) rfl))) (by decide) (t := (.array .int)) (t' := .int) (by decide) (by decide))))
  have fF_a1_heard_x8 := (Fld.other W8 F_heard_a1_6 (Or.inr (slot_ne (Or.inr (hw _ (List.mem_of_getElem? (i := 50) rfl))) (Or.inr (hw _ (List.mem_of_getElem? (i := 42) rfl))) (by decide) (t := (.array .int)) (t' := .int) (by decide) (by decide))))
  have fA_a3_x8 := (V_a3.other W8 ne_a3_a1)
  have fA_a5_x8 := (V_a5.other W8 ne_a5_a1)
  have fA_a6_x8 := (V_a6.other W8 ne_a6_a1)
  have N8 := Fr.snoc X8 N0 g_a1
  have K8 : Keep h0 h8 [a1] := Keep.wr (Keep.refl h0 _) W8 (Or.inl (List.mem_of_getElem? (i := 0) rfl))
  have Z8 : n0 ≤ h8.size := Nat.le_trans Z0 (Nat.le_of_eq W8.size.symm)
  obtain ⟨T9, h9, X9, e9, W9, st9⟩ := putF X8 hx hZ hown (host := "") (Or.inl (hw _ (List.mem_of_getElem? (i := 43) rfl))) Via.refl e8 fF_a1_ids_x8 fE_a1_x8 (Or.inr ⟨(hw _ (List.mem_of_getElem? (i := 44) rfl)), rfl, hnm⟩) (hw _ (List.mem_of_getElem? (i := 35) rfl)) (ty := (.array .int)) (by decide) rfl rfl (g := (mkF m 11 #[.val (.ref a1), .val (.int p2), .val (.ref a3), .val (.ref a4), .val (.ref a5), .val (.ref a6), .unset] [(.ref a3), (.ref a1)])) rfl rfl (hb hby d5_11)
  have Fw9 := Fld.same W9 fF_a1_ids_x8
  have fE_a1_x9 := (fE_a1_x8.wr W9)
  have fF_a1_sender_x9 := (Fld.other W9 Fw8 (Or.inr (slot_ne (Or.inr (hw _ (List.mem_of_getElem? (i := 42) rfl))) (Or.inr (hw _ (List.mem_of_getElem? (i := 44) rfl))) (by decide) (t := .int) (t' := (.array .int)) (by decide) (by decide))))
  have fF_a1_incarnations_x9 := (Fld.other W9 fF_a1_incarnations_x8 (Or.inr (slot_ne (Or.inr (hw _ (List.mem_of_getElem? (i := 46) rfl))) (Or.inr (hw _ (List.mem_of_getElem? (i := 44) rfl))) (by decide) (t := (.array .int)) (t' := (.array .int)) (by decide) (by decide))))
  have fF_a1_rounds_x9 := (Fld.other W9 fF_a1_rounds_x8 (Or.inr (slot_ne (Or.inr (hw _ (List.mem_of_getElem? (i := 48) rfl))) (Or.inr (hw _ (List.mem_of_getElem? (i := 44) rfl))) (by decide) (t := (.array .int)) (t' := (.array .int)) (by decide) (by decide))))
  have fF_a1_heard_x9 := (Fld.other W9 fF_a1_heard_x8 (Or.inr (slot_ne (Or.inr (hw _ (List.mem_of_getElem? (i := 50) rfl))) (Or.inr (hw _ (List.mem_of_getElem? (i := 44) rfl))) (by decide) (t := (.array .int)) (t' := (.array .int)) (by decide) (by decide))))
  have fA_a3_x9 := (fA_a3_x8.other W9 ne_a3_a1)
  have fA_a5_x9 := (fA_a5_x8.other W9 ne_a5_a1)
  have fA_a6_x9 := (fA_a6_x8.other W9 ne_a6_a1)
  have N9 := Fr.snoc X9 N8 g_a1
  have K9 : Keep h0 h9 [a1] := Keep.wr K8 W9 (Or.inl (List.mem_of_getElem? (i := 0) rfl))
  have Z9 : n0 ≤ h9.size := Nat.le_trans Z8 (Nat.le_of_eq W9.size.symm)
  obtain ⟨T10, h10, X10, e10, W10, st10⟩ := putF X9 hx hZ hown (host := "") (Or.inl (hw _ (List.mem_of_getElem? (i := 45) rfl))) Via.refl e9 fF_a1_incarnations_x9 fE_a1_x9 (Or.inr ⟨(hw _ (List.mem_of_getElem? (i := 46) rfl)), rfl, hnm⟩) (hw _ (List.mem_of_getElem? (i := 35) rfl)) (ty := (.array .int)) (by decide) rfl rfl (g := (mkF m 16 #[.val (.ref a1), .val (.int p2), .val (.ref a3), .val (.ref a4), .val (.ref a5), .val (.ref a6), .unset] [(.ref a4), (.ref a1)])) rfl rfl (hb hby d5_16)
  have Fw10 := Fld.same W10 fF_a1_incarnations_x9
  have fE_a1_x10 := (fE_a1_x9.wr W10)
  have fF_a1_sender_x10 := (Fld.other W10 fF_a1_sender_x9 (Or.inr (slot_ne (Or.inr (hw _ (List.mem_of_getElem? (i := 42) rfl))) (Or.inr (hw _ (List.mem_of_getElem? (i := 46) rfl))) (by decide) (t := .int) (t' := (.array .int)) (by decide) (by decide))))
  have fF_a1_ids_x10 := (Fld.other W10 Fw9 (Or.inr (slot_ne (Or.inr (hw _ (List.mem_of_getElem? (i := 44) rfl))) (Or.inr (hw _ (List.mem_of_getElem? (i := 46) rfl))) (by decide) (t := (.array .int)) (t' := (.array .int)) (by decide) (by decide))))
  have fF_a1_rounds_x10 := (Fld.other W10 fF_a1_rounds_x9 (Or.inr (slot_ne (Or.inr (hw _ (List.mem_of_getElem? (i := 48) rfl))) (Or.inr (hw _ (List.mem_of_getElem? (i := 46) rfl))) (by decide) (t := (.array .int)) (t' := (.array .int)) (by decide) (by decide))))
  have fF_a1_heard_x10 := (Fld.other W10 fF_a1_heard_x9 (Or.inr (slot_ne (Or.inr (hw _ (List.mem_of_getElem? (i := 50) rfl))) (Or.inr (hw _ (List.mem_of_getElem? (i := 46) rfl))) (by decide) (t := (.array .int)) (t' := (.array .int)) (by decide) (by decide))))
  have fA_a3_x10 := (fA_a3_x9.other W10 ne_a3_a1)
  have fA_a5_x10 := (fA_a5_x9.other W10 ne_a5_a1)
  have fA_a6_x10 := (fA_a6_x9.other W10 ne_a6_a1)
  have N10 := Fr.snoc X10 N9 g_a1
  have K10 : Keep h0 h10 [a1] := Keep.wr K9 W10 (Or.inl (List.mem_of_getElem? (i := 0) rfl))
  have Z10 : n0 ≤ h10.size := Nat.le_trans Z9 (Nat.le_of_eq W10.size.symm)
  obtain ⟨T11, h11, X11, e11, W11, st11⟩ := putF X10 hx hZ hown (host := "") (Or.inl (hw _ (List.mem_of_getElem? (i := 47) rfl))) Via.refl e10 fF_a1_rounds_x10 fE_a1_x10 (Or.inr ⟨(hw _ (List.mem_of_getElem? (i := 48) rfl)), rfl, hnm⟩) (hw _ (List.mem_of_getElem? (i := 35) rfl)) (ty := (.array .int)) (by decide) rfl rfl (g := (mkF m 22 #[.val (.ref a1), .val (.int p2), .val (.ref a3), .val (.ref a4), .val (.ref a5), .val (.ref a6), .unset] [(.ref a5), (.ref a1)])) rfl rfl (hb hby d5_22)
  have Fw11 := Fld.same W11 fF_a1_rounds_x10
  have fE_a1_x11 := (fE_a1_x10.wr W11)
  have fF_a1_sender_x11 := (Fld.other W11 fF_a1_sender_x10 (Or.inr (slot_ne (Or.inr (hw _ (List.mem_of_getElem? (i := 42) rfl))) (Or.inr (hw _ (List.mem_of_getElem? (i := 48) rfl))) (by decide) (t := .int) (t' := (.array .int)) (by decide) (by decide))))
  have fF_a1_ids_x11 := (Fld.other W11 fF_a1_ids_x10 (Or.inr (slot_ne (Or.inr (hw _ (List.mem_of_getElem? (i := 44) rfl))) (Or.inr (hw _ (List.mem_of_getElem? (i := 48) rfl))) (by decide) (t := (.array .int)) (t' := (.array .int)) (by decide) (by decide))))
  have fF_a1_incarnations_x11 := (Fld.other W11 Fw10 (Or.inr (slot_ne (Or.inr (hw _ (List.mem_of_getElem? (i := 46) rfl))) (Or.inr (hw _ (List.mem_of_getElem? (i := 48) rfl))) (by decide) (t := (.array .int)) (t' := (.array .int)) (by decide) (by decide))))
  have fF_a1_heard_x11 := (Fld.other W11 fF_a1_heard_x10 (Or.inr (slot_ne (Or.inr (hw _ (List.mem_of_getElem? (i := 50) rfl))) (Or.inr (hw _ (List.mem_of_getElem? (i := 48) rfl))) (by decide) (t := (.array .int)) (t' := (.array .int)) (by decide) (by decide))))
  have fA_a3_x11 := (fA_a3_x10.other W11 ne_a3_a1)
  have fA_a5_x11 := (fA_a5_x10.other W11 ne_a5_a1)
  have fA_a6_x11 := (fA_a6_x10.other W11 ne_a6_a1)
  have N11 := Fr.snoc X11 N10 g_a1
  have K11 : Keep h0 h11 [a1] := Keep.wr K10 W11 (Or.inl (List.mem_of_getElem? (i := 0) rfl))
  have Z11 : n0 ≤ h11.size := Nat.le_trans Z10 (Nat.le_of_eq W11.size.symm)
  obtain ⟨T12, h12, X12, e12, W12, st12⟩ := putF X11 hx hZ hown (host := "") (Or.inl (hw _ (List.mem_of_getElem? (i := 49) rfl))) Via.refl e11 fF_a1_heard_x11 fE_a1_x11 (Or.inr ⟨(hw _ (List.mem_of_getElem? (i := 50) rfl)), rfl, hnm⟩) (hw _ (List.mem_of_getElem? (i := 35) rfl)) (ty := (.array .int)) (by decide) rfl rfl (g := (mkF m 28 #[.val (.ref a1), .val (.int p2), .val (.ref a3), .val (.ref a4), .val (.ref a5), .val (.ref a6), .unset] [(.ref a6), (.ref a1)])) rfl rfl (hb hby d5_28)
  have Fw12 := Fld.same W12 fF_a1_heard_x11
  have fE_a1_x12 := (fE_a1_x11.wr W12)
  have fF_a1_sender_x12 := (Fld.other W12 fF_a1_sender_x11 (Or.inr (slot_ne (Or.inr (hw _ (List.mem_of_getElem? (i := 42) rfl))) (Or.inr (hw _ (List.mem_of_getElem? (i := 50) rfl))) (by decide) (t := .int) (t' := (.array .int)) (by decide) (by decide))))
  have fF_a1_ids_x12 := (Fld.other W12 fF_a1_ids_x11 (Or.inr (slot_ne (Or.inr (hw _ (List.mem_of_getElem? (i := 44) rfl))) (Or.inr (hw _ (List.mem_of_getElem? (i := 50) rfl))) (by decide) (t := (.array .int)) (t' := (.array .int)) (by decide) (by decide))))
  have fF_a1_incarnations_x12 := (Fld.other W12 fF_a1_incarnations_x11 (Or.inr (slot_ne (Or.inr (hw _ (List.mem_of_getElem? (i := 46) rfl))) (Or.inr (hw _ (List.mem_of_getElem? (i := 50) rfl))) (by decide) (t := (.array .int)) (t' := (.array .int)) (by decide) (by decide))))
  have fF_a1_rounds_x12 := (Fld.other W12 Fw11 (Or.inr (slot_ne (Or.inr (hw _ (List.mem_of_getElem? (i := 48) rfl))) (Or.inr (hw _ (List.mem_of_getElem? (i := 50) rfl))) (by decide) (t := (.array .int)) (t' := (.array .int)) (by decide) (by decide))))
  have fA_a3_x12 := (fA_a3_x11.other W12 ne_a3_a1)
  have fA_a5_x12 := (fA_a5_x11.other W12 ne_a5_a1)
  have fA_a6_x12 := (fA_a6_x11.other W12 ne_a6_a1)
  have N12 := Fr.snoc X12 N11 g_a1
  have K12 : Keep h0 h12 [a1] := Keep.wr K11 W12 (Or.inl (List.mem_of_getElem? (i := 0) rfl))
  have Z12 : n0 ≤ h12.size := Nat.le_trans Z11 (Nat.le_of_eq W12.size.symm)
  obtain ⟨_, _, ⟨T13, L13, k13, n13⟩, -, X13, ⟨Lc13, hQ13, l13, y13, z13⟩, st13⟩ := Jvm.LawKit.callS X12 hx (y := (⟨"com/example/atoll/atoll/detect/Require", "nodeId", "(I)V"⟩ : MethodName)) hown (mvT hZ (hw _ (List.mem_of_getElem? (i := 51) rfl))) (mvT hZ (hw _ (List.mem_of_getElem? (i := 52) rfl))) (mvT hZ (hw _ (List.mem_of_getElem? (i := 53) rfl))) (mvT hZ (hw _ (List.mem_of_getElem? (i := 54) rfl))) (by decide) (backOf (W := 0) (rm6 l Z a0 hw [] p2  h12 n0 Z12 hsd) hZ (hw _ (List.mem_of_getElem? (i := 54) rfl)) (hw _ (List.mem_of_getElem? (i := 53) rfl)) (by decide) (by decide)) (g := (mkF m 32 #[.val (.ref a1), .val (.int p2), .val (.ref a3), .val (.ref a4), .val (.ref a5), .val (.ref a6), .unset] [(.int p2)])) rfl (by rw [hml]; rfl) (argsL := [(.int p2)]) (rest := []) (lenOf pd_5_0 rfl) rfl (by show 2 * 0 + _ ≤ _; exact Nat.le_of_eq rfl) (hb hby d5_32) (fun _ _ => ⟨rfl, e12, (by decide : 0 + 0 ≤ _), (by decide : 0 + 0 ≤ _)⟩)
  dsimp only [Pt.U, Pt.locs, Pt.cells, Pt.slots] at X13 l13 y13 z13 st13 hQ13
  subst l13 y13 z13
  obtain ⟨rfl, N13q, e13⟩ := hQ13
  have N13 := Fr.app N12 N13q
  obtain ⟨cl14, Ar14, S14, Nn14, G14⟩ := id fA_a3_x12
  obtain ⟨cl15, Ar15, S15, Nn15, G15⟩ := id fA_a3_x12
  have hin15 : ¬ ((0 : Int32) < 0 ∨ cl15.slots.size ≤ (0 : Int32).toNatClampNeg) := inb_of S15 (⟨by decide, by decide⟩ : ¬ (0 : Int32) < 0 ∧ (0 : Int32) < (2 : Int32))
  have hat15 : cl15.slots[(0 : Int32).toNatClampNeg]? = some (.int (gi 0)) := own_at S15 G15 hin15
  obtain ⟨cl16, Ar16, S16, Nn16, G16⟩ := id fA_a5_x12
  have hin16 : ¬ ((0 : Int32) < 0 ∨ cl16.slots.size ≤ (0 : Int32).toNatClampNeg) := inb_of S16 (⟨by decide, by decide⟩ : ¬ (0 : Int32) < 0 ∧ (0 : Int32) < (2 : Int32))
  have hat16 : cl16.slots[(0 : Int32).toNatClampNeg]? = some (.int (gr 0)) := own_at S16 G16 hin16
  obtain ⟨cl17, Ar17, S17, Nn17, G17⟩ := id fA_a6_x12
  have hin17 : ¬ ((0 : Int32) < 0 ∨ cl17.slots.size ≤ (0 : Int32).toNatClampNeg) := inb_of S17 (⟨by decide, by decide⟩ : ¬ (0 : Int32) < 0 ∧ (0 : Int32) < (2 : Int32))
  have hat17 : cl17.slots[(0 : Int32).toNatClampNeg]? = some (.int (gh 0)) := own_at S17 G17 hin17
  obtain ⟨_, ⟨T18, L18, k18, n18⟩, X18, ⟨Lc18, hQ18, l18, y18, z18⟩, st18⟩ := own_callRef X13 hx (y := (⟨"com/example/atoll/atoll/detect/Beacon$Origin", "check", "(III)V"⟩ : MethodName)) hown (own_mvRef hZ (hw _ (List.mem_of_getElem? (i := 55) rfl)) (hw _ (List.mem_of_getElem? (i := 58) rfl)) (by decide)) (mvT hZ (hw _ (List.mem_of_getElem? (i := 56) rfl))) (mvT hZ (hw _ (List.mem_of_getElem? (i := 57) rfl))) (mvT hZ (hw _ (List.mem_of_getElem? (i := 58) rfl))) (by decide) (backOf (W := 0) (rm7 l Z a0 hw [] (gi 0) (gr 0) (gh 0)  h12 n0 Z12 k0_0 k1_0 k2_0 k3_0 k4_0) hZ (hw _ (List.mem_of_getElem? (i := 58) rfl)) (hw _ (List.mem_of_getElem? (i := 57) rfl)) (by decide) (by decide)) (g := (mkF m 59 #[.val (.ref a1), .val (.int p2), .val (.ref a3), .val (.ref a4), .val (.ref a5), .val (.ref a6), .val (.int (0 : Int32))] [(.int (gh 0)), (.int (gr 0)), (.int (gi 0))])) rfl (by rw [hml]; rfl) (argsL := [(.int (gi 0)), (.int (gr 0)), (.int (gh 0))]) (rest := []) (lenOf pd_5_1 rfl) rfl (by show 2 * 0 + _ ≤ _; exact Nat.le_of_eq rfl) (hb hby d5_59) (⟨rfl, e13, (by decide : 0 + 0 ≤ _), (by decide : 0 + 0 ≤ _)⟩)
  dsimp only [Pt.U, Pt.locs, Pt.cells, Pt.slots] at X18 l18 y18 z18 st18 hQ18
  subst l18 y18 z18
  obtain ⟨rfl, N18q, e18⟩ := hQ18
  have N18 := Fr.app N13 N18q
  obtain ⟨cl19, Ar19, S19, Nn19, G19⟩ := id fA_a3_x12
  obtain ⟨cl20, Ar20, S20, Nn20, G20⟩ := id fA_a3_x12
  have hin20 : ¬ ((1 : Int32) < 0 ∨ cl20.slots.size ≤ (1 : Int32).toNatClampNeg) := inb_of S20 (⟨by decide, by decide⟩ : ¬ (1 : Int32) < 0 ∧ (1 : Int32) < (2 : Int32))
  have hat20 : cl20.slots[(1 : Int32).toNatClampNeg]? = some (.int (gi 1)) := own_at S20 G20 hin20
  obtain ⟨cl21, Ar21, S21, Nn21, G21⟩ := id fA_a5_x12
  have hin21 : ¬ ((1 : Int32) < 0 ∨ cl21.slots.size ≤ (1 : Int32).toNatClampNeg) := inb_of S21 (⟨by decide, by decide⟩ : ¬ (1 : Int32) < 0 ∧ (1 : Int32) < (2 : Int32))
  have hat21 : cl21.slots[(1 : Int32).toNatClampNeg]? = some (.int (gr 1)) := own_at S21 G21 hin21
  obtain ⟨cl22, Ar22, S22, Nn22, G22⟩ := id fA_a6_x12
  have hin22 : ¬ ((1 : Int32) < 0 ∨ cl22.slots.size ≤ (1 : Int32).toNatClampNeg) := inb_of S22 (⟨by decide, by decide⟩ : ¬ (1 : Int32) < 0 ∧ (1 : Int32) < (2 : Int32))
  have hat22 : cl22.slots[(1 : Int32).toNatClampNeg]? = some (.int (gh 1)) := own_at S22 G22 hin22
  obtain ⟨_, ⟨T23, L23, k23, n23⟩, X23, ⟨Lc23, hQ23, l23, y23, z23⟩, st23⟩ := own_callRef X18 hx (y := (⟨"com/example/atoll/atoll/detect/Beacon$Origin", "check", "(III)V"⟩ : MethodName)) hown (own_mvRef hZ (hw _ (List.mem_of_getElem? (i := 55) rfl)) (hw _ (List.mem_of_getElem? (i := 58) rfl)) (by decide)) (mvT hZ (hw _ (List.mem_of_getElem? (i := 56) rfl))) (mvT hZ (hw _ (List.mem_of_getElem? (i := 57) rfl))) (mvT hZ (hw _ (List.mem_of_getElem? (i := 58) rfl))) (by decide) (backOf (W := 0) (rm7 l Z a0 hw [] (gi 1) (gr 1) (gh 1)  h12 n0 Z12 k0_1 k1_1 k2_1 k3_1 k4_1) hZ (hw _ (List.mem_of_getElem? (i := 58) rfl)) (hw _ (List.mem_of_getElem? (i := 57) rfl)) (by decide) (by decide)) (g := (mkF m 59 #[.val (.ref a1), .val (.int p2), .val (.ref a3), .val (.ref a4), .val (.ref a5), .val (.ref a6), .val (.int (1 : Int32))] [(.int (gh 1)), (.int (gr 1)), (.int (gi 1))])) rfl (by rw [hml]; rfl) (argsL := [(.int (gi 1)), (.int (gr 1)), (.int (gh 1))]) (rest := []) (lenOf pd_5_1 rfl) rfl (by show 2 * 0 + _ ≤ _; exact Nat.le_of_eq rfl) (hb hby d5_59) (⟨rfl, e18, (by decide : 0 + 0 ≤ _), (by decide : 0 + 0 ≤ _)⟩)
  dsimp only [Pt.U, Pt.locs, Pt.cells, Pt.slots] at X23 l23 y23 z23 st23 hQ23
  subst l23 y23 z23
  obtain ⟨rfl, N23q, e23⟩ := hQ23
  have N23 := Fr.app N18 N23q
  obtain ⟨cl24, Ar24, S24, Nn24, G24⟩ := id fA_a3_x12
  have hin24 : ¬ ((1 : Int32) < 0 ∨ cl24.slots.size ≤ (1 : Int32).toNatClampNeg) := inb_of S24 (⟨by decide, by decide⟩ : ¬ (1 : Int32) < 0 ∧ (1 : Int32) < (2 : Int32))
  have hat24 : cl24.slots[(1 : Int32).toNatClampNeg]? = some (.int (gi 1)) := own_at S24 G24 hin24
  obtain ⟨cl25, Ar25, S25, Nn25, G25⟩ := id fA_a3_x12
  have hin25 : ¬ ((0 : Int32) < 0 ∨ cl25.slots.size ≤ (0 : Int32).toNatClampNeg) := inb_of S25 (⟨by decide, by decide⟩ : ¬ (0 : Int32) < 0 ∧ (0 : Int32) < (2 : Int32))
  have hat25 : cl25.slots[(0 : Int32).toNatClampNeg]? = some (.int (gi 0)) := own_at S25 G25 hin25
  obtain ⟨cl26, Ar26, S26, Nn26, G26⟩ := id fA_a3_x12
  refine own_pre (A := T23.setTop (mkF m 129 #[.val (.ref a1), .val (.int p2), .val (.ref a3), .val (.ref a4), .val (.ref a5), .val (.ref a6), .val (.int (2 : Int32))] [])) (fun tt kt => ?_) ?_
  · show Steps p.tables e below (s₁.setTop (mkF m 0 #[.val (.ref a1), .val (.int p2), .val (.ref a3), .val (.ref a4), .val (.ref a5), .val (.ref a6), .unset] [])) _
    refine XS.aloadN X0.here hx rfl (hb hby d5_0) rfl rfl ?_
    show Steps p.tables e below (s₁.setTop (mkF m 1 #[.val (.ref a1), .val (.int p2), .val (.ref a3), .val (.ref a4), .val (.ref a5), .val (.ref a6), .unset] [(.ref a1)])) _
    refine st7 _ ?_
    show Steps p.tables e below (T7.setTop (mkF m 4 #[.val (.ref a1), .val (.int p2), .val (.ref a3), .val (.ref a4), .val (.ref a5), .val (.ref a6), .unset] [])) _
    refine XS.aloadN X7.here hx rfl (hb hby d5_4) rfl rfl ?_
    refine XS.iloadN X7.here hx rfl (hb hby d5_5) rfl ?_
    show Steps p.tables e below (T7.setTop (mkF m 6 #[.val (.ref a1), .val (.int p2), .val (.ref a3), .val (.ref a4), .val (.ref a5), .val (.ref a6), .unset] [(.int p2), (.ref a1)])) _
    refine st8 _ ?_
    show Steps p.tables e below (T8.setTop (mkF m 9 #[.val (.ref a1), .val (.int p2), .val (.ref a3), .val (.ref a4), .val (.ref a5), .val (.ref a6), .unset] [])) _
    refine XS.aloadN X8.here hx rfl (hb hby d5_9) rfl rfl ?_
    refine XS.aloadN X8.here hx rfl (hb hby d5_10) rfl rfl ?_
    show Steps p.tables e below (T8.setTop (mkF m 11 #[.val (.ref a1), .val (.int p2), .val (.ref a3), .val (.ref a4), .val (.ref a5), .val (.ref a6), .unset] [(.ref a3), (.ref a1)])) _
    refine st9 _ ?_
    show Steps p.tables e below (T9.setTop (mkF m 14 #[.val (.ref a1), .val (.int p2), .val (.ref a3), .val (.ref a4), .val (.ref a5), .val (.ref a6), .unset] [])) _
    refine XS.aloadN X9.here hx rfl (hb hby d5_14) rfl rfl ?_
    refine XS.aloadN X9.here hx rfl (hb hby d5_15) rfl rfl ?_
    show Steps p.tables e below (T9.setTop (mkF m 16 #[.val (.ref a1), .val (.int p2), .val (.ref a3), .val (.ref a4), .val (.ref a5), .val (.ref a6), .unset] [(.ref a4), (.ref a1)])) _
    refine st10 _ ?_
    show Steps p.tables e below (T10.setTop (mkF m 19 #[.val (.ref a1), .val (.int p2), .val (.ref a3), .val (.ref a4), .val (.ref a5), .val (.ref a6), .unset] [])) _
    refine XS.aloadN X10.here hx rfl (hb hby d5_19) rfl rfl ?_
    refine XS.aload X10.here hx rfl (hb hby d5_20) rfl rfl ?_
    show Steps p.tables e below (T10.setTop (mkF m 22 #[.val (.ref a1), .val (.int p2), .val (.ref a3), .val (.ref a4), .val (.ref a5), .val (.ref a6), .unset] [(.ref a5), (.ref a1)])) _
    refine st11 _ ?_
    show Steps p.tables e below (T11.setTop (mkF m 25 #[.val (.ref a1), .val (.int p2), .val (.ref a3), .val (.ref a4), .val (.ref a5), .val (.ref a6), .unset] [])) _
    refine XS.aloadN X11.here hx rfl (hb hby d5_25) rfl rfl ?_
    refine XS.aload X11.here hx rfl (hb hby d5_26) rfl rfl ?_
    show Steps p.tables e below (T11.setTop (mkF m 28 #[.val (.ref a1), .val (.int p2), .val (.ref a3), .val (.ref a4), .val (.ref a5), .val (.ref a6), .unset] [(.ref a6), (.ref a1)])) _
    refine st12 _ ?_
    show Steps p.tables e below (T12.setTop (mkF m 31 #[.val (.ref a1), .val (.int p2), .val (.ref a3), .val (.ref a4), .val (.ref a5), .val (.ref a6), .unset] [])) _
    refine XS.iloadN X12.here hx rfl (hb hby d5_31) rfl ?_
    show Steps p.tables e below (T12.setTop (mkF m 32 #[.val (.ref a1), .val (.int p2), .val (.ref a3), .val (.ref a4), .val (.ref a5), .val (.ref a6), .unset] [(.int p2)])) _
    refine st13 _ ?_
    show Steps p.tables e below (T13.setTop (mkF m 35 #[.val (.ref a1), .val (.int p2), .val (.ref a3), .val (.ref a4), .val (.ref a5), .val (.ref a6), .unset] [])) _
    refine XS.iconst X13.here hx rfl (hb hby d5_35) ?_
    refine XS.istore X13.here hx rfl (hb hby d5_36) rfl (l' := #[.val (.ref a1), .val (.int p2), .val (.ref a3), .val (.ref a4), .val (.ref a5), .val (.ref a6), .val (.int (0 : Int32))]) rfl ?_
    refine XS.iload X13.here hx rfl (hb hby d5_38) rfl ?_
    refine XS.aloadN X13.here hx rfl (hb hby d5_40) rfl rfl ?_
    show Steps p.tables e below (T13.setTop (mkF m 41 #[.val (.ref a1), .val (.int p2), .val (.ref a3), .val (.ref a4), .val (.ref a5), .val (.ref a6), .val (.int (0 : Int32))] [(.ref a3), (.int (0 : Int32))])) _
    refine X13.arraylength hx (by rw [e13]; exact Ar14.1) (State.isArrayOf_alike hZ.alike Ar14.2.1) (g := (mkF m 41 #[.val (.ref a1), .val (.int p2), .val (.ref a3), .val (.ref a4), .val (.ref a5), .val (.ref a6), .val (.int (0 : Int32))] [(.ref a3), (.int (0 : Int32))])) rfl rfl (hb hby d5_41) _ ?_
    rw [len_of S14 Nn14]
    show Steps p.tables e below (T13.setTop (mkF m 42 #[.val (.ref a1), .val (.int p2), .val (.ref a3), .val (.ref a4), .val (.ref a5), .val (.ref a6), .val (.int (0 : Int32))] [(.int (2 : Int32)), (.int (0 : Int32))])) _
    refine XS.icmpNo X13.here hx rfl (hb hby d5_42) rfl (tlt ((by decide) : (0 : Int32) < (2 : Int32))).2.1 ?_
    refine XS.aloadN X13.here hx rfl (hb hby d5_45) rfl rfl ?_
    refine XS.iload X13.here hx rfl (hb hby d5_46) rfl ?_
    show Steps p.tables e below (T13.setTop (mkF m 48 #[.val (.ref a1), .val (.int p2), .val (.ref a3), .val (.ref a4), .val (.ref a5), .val (.ref a6), .val (.int (0 : Int32))] [(.int (0 : Int32)), (.ref a3)])) _
    refine X13.iaload hx (j := (0 : Int32)) (v := (.int (gi 0))) (by rw [e13]; exact Ar15.1) (State.isArrayOf_alike hZ.alike Ar15.2.1) Ar15.2.2 hin15 hat15 (g := (mkF m 48 #[.val (.ref a1), .val (.int p2), .val (.ref a3), .val (.ref a4), .val (.ref a5), .val (.ref a6), .val (.int (0 : Int32))] [(.int (0 : Int32)), (.ref a3)])) rfl rfl (hb hby d5_48) _ ?_
    show Steps p.tables e below (T13.setTop (mkF m 49 #[.val (.ref a1), .val (.int p2), .val (.ref a3), .val (.ref a4), .val (.ref a5), .val (.ref a6), .val (.int (0 : Int32))] [(.int (gi 0))])) _
    refine XS.aload X13.here hx rfl (hb hby d5_49) rfl rfl ?_
    refine XS.iload X13.here hx rfl (hb hby d5_51) rfl ?_
    show Steps p.tables e below (T13.setTop (mkF m 53 #[.val (.ref a1), .val (.int p2), .val (.ref a3), .val (.ref a4), .val (.ref a5), .val (.ref a6), .val (.int (0 : Int32))] [(.int (0 : Int32)), (.ref a5), (.int (gi 0))])) _
    refine X13.iaload hx (j := (0 : Int32)) (v := (.int (gr 0))) (by rw [e13]; exact Ar16.1) (State.isArrayOf_alike hZ.alike Ar16.2.1) Ar16.2.2 hin16 hat16 (g := (mkF m 53 #[.val (.ref a1), .val (.int p2), .val (.ref a3), .val (.ref a4), .val (.ref a5), .val (.ref a6), .val (.int (0 : Int32))] [(.int (0 : Int32)), (.ref a5), (.int (gi 0))])) rfl rfl (hb hby d5_53) _ ?_
    show Steps p.tables e below (T13.setTop (mkF m 54 #[.val (.ref a1), .val (.int p2), .val (.ref a3), .val (.ref a4), .val (.ref a5), .val (.ref a6), .val (.int (0 : Int32))] [(.int (gr 0)), (.int (gi 0))])) _
    refine XS.aload X13.here hx rfl (hb hby d5_54) rfl rfl ?_
    refine XS.iload X13.here hx rfl (hb hby d5_56) rfl ?_
    show Steps p.tables e below (T13.setTop (mkF m 58 #[.val (.ref a1), .val (.int p2), .val (.ref a3), .val (.ref a4), .val (.ref a5), .val (.ref a6), .val (.int (0 : Int32))] [(.int (0 : Int32)), (.ref a6), (.int (gr 0)), (.int (gi 0))])) _
    refine X13.iaload hx (j := (0 : Int32)) (v := (.int (gh 0))) (by rw [e13]; exact Ar17.1) (State.isArrayOf_alike hZ.alike Ar17.2.1) Ar17.2.2 hin17 hat17 (g := (mkF m 58 #[.val (.ref a1), .val (.int p2), .val (.ref a3), .val (.ref a4), .val (.ref a5), .val (.ref a6), .val (.int (0 : Int32))] [(.int (0 : Int32)), (.ref a6), (.int (gr 0)), (.int (gi 0))])) rfl rfl (hb hby d5_58) _ ?_
    show Steps p.tables e below (T13.setTop (mkF m 59 #[.val (.ref a1), .val (.int p2), .val (.ref a3), .val (.ref a4), .val (.ref a5), .val (.ref a6), .val (.int (0 : Int32))] [(.int (gh 0)), (.int (gr 0)), (.int (gi 0))])) _
    refine st18 _ ?_
    show Steps p.tables e below (T18.setTop (mkF m 62 #[.val (.ref a1), .val (.int p2), .val (.ref a3), .val (.ref a4), .val (.ref a5), .val (.ref a6), .val (.int (0 : Int32))] [])) _
    refine XS.iload X18.here hx rfl (hb hby d5_62) rfl ?_
    refine XS.ifYes X18.here hx rfl (pc0 := 64) (pc' := 123) rfl (hb hby d5_64) rfl ((if0 _ _).trans (flt ((by decide) : ¬ ((0 : Int32) < (0 : Int32)))).2.2.2) (by decide) (by decide) ?_
    refine XS.iinc X18.here hx rfl (hb hby d5_123) rfl (l' := #[.val (.ref a1), .val (.int p2), .val (.ref a3), .val (.ref a4), .val (.ref a5), .val (.ref a6), .val (.int (1 : Int32))]) rfl ?_
    refine XS.goto X18.here hx rfl (pc0 := 126) (pc' := 38) rfl (hb hby d5_126) (by decide) (by decide) ?_
    show Steps p.tables e below (T18.setTop (mkF m 38 #[.val (.ref a1), .val (.int p2), .val (.ref a3), .val (.ref a4), .val (.ref a5), .val (.ref a6), .val (.int (1 : Int32))] [])) _
    refine XS.iload X18.here hx rfl (hb hby d5_38) rfl ?_
    refine XS.aloadN X18.here hx rfl (hb hby d5_40) rfl rfl ?_
    show Steps p.tables e below (T18.setTop (mkF m 41 #[.val (.ref a1), .val (.int p2), .val (.ref a3), .val (.ref a4), .val (.ref a5), .val (.ref a6), .val (.int (1 : Int32))] [(.ref a3), (.int (1 : Int32))])) _
    refine X18.arraylength hx (by rw [e18]; exact Ar19.1) (State.isArrayOf_alike hZ.alike Ar19.2.1) (g := (mkF m 41 #[.val (.ref a1), .val (.int p2), .val (.ref a3), .val (.ref a4), .val (.ref a5), .val (.ref a6), .val (.int (1 : Int32))] [(.ref a3), (.int (1 : Int32))])) rfl rfl (hb hby d5_41) _ ?_
    rw [len_of S19 Nn19]
    show Steps p.tables e below (T18.setTop (mkF m 42 #[.val (.ref a1), .val (.int p2), .val (.ref a3), .val (.ref a4), .val (.ref a5), .val (.ref a6), .val (.int (1 : Int32))] [(.int (2 : Int32)), (.int (1 : Int32))])) _
    refine XS.icmpNo X18.here hx rfl (hb hby d5_42) rfl (tlt ((by decide) : (1 : Int32) < (2 : Int32))).2.1 ?_
    refine XS.aloadN X18.here hx rfl (hb hby d5_45) rfl rfl ?_
    refine XS.iload X18.here hx rfl (hb hby d5_46) rfl ?_
    show Steps p.tables e below (T18.setTop (mkF m 48 #[.val (.ref a1), .val (.int p2), .val (.ref a3), .val (.ref a4), .val (.ref a5), .val (.ref a6), .val (.int (1 : Int32))] [(.int (1 : Int32)), (.ref a3)])) _
    refine X18.iaload hx (j := (1 : Int32)) (v := (.int (gi 1))) (by rw [e18]; exact Ar20.1) (State.isArrayOf_alike hZ.alike Ar20.2.1) Ar20.2.2 hin20 hat20 (g := (mkF m 48 #[.val (.ref a1), .val (.int p2), .val (.ref a3), .val (.ref a4), .val (.ref a5), .val (.ref a6), .val (.int (1 : Int32))] [(.int (1 : Int32)), (.ref a3)])) rfl rfl (hb hby d5_48) _ ?_
    show Steps p.tables e below (T18.setTop (mkF m 49 #[.val (.ref a1), .val (.int p2), .val (.ref a3), .val (.ref a4), .val (.ref a5), .val (.ref a6), .val (.int (1 : Int32))] [(.int (gi 1))])) _
    refine XS.aload X18.here hx rfl (hb hby d5_49) rfl rfl ?_
    refine XS.iload X18.here hx rfl (hb hby d5_51) rfl ?_
    show Steps p.tables e below (T18.setTop (mkF m 53 #[.val (.ref a1), .val (.int p2), .val (.ref a3), .val (.ref a4), .val (.ref a5), .val (.ref a6), .val (.int (1 : Int32))] [(.int (1 : Int32)), (.ref a5), (.int (gi 1))])) _
    refine X18.iaload hx (j := (1 : Int32)) (v := (.int (gr 1))) (by rw [e18]; exact Ar21.1) (State.isArrayOf_alike hZ.alike Ar21.2.1) Ar21.2.2 hin21 hat21 (g := (mkF m 53 #[.val (.ref a1), .val (.int p2), .val (.ref a3), .val (.ref a4), .val (.ref a5), .val (.ref a6), .val (.int (1 : Int32))] [(.int (1 : Int32)), (.ref a5), (.int (gi 1))])) rfl rfl (hb hby d5_53) _ ?_
    show Steps p.tables e below (T18.setTop (mkF m 54 #[.val (.ref a1), .val (.int p2), .val (.ref a3), .val (.ref a4), .val (.ref a5), .val (.ref a6), .val (.int (1 : Int32))] [(.int (gr 1)), (.int (gi 1))])) _
    refine XS.aload X18.here hx rfl (hb hby d5_54) rfl rfl ?_
    refine XS.iload X18.here hx rfl (hb hby d5_56) rfl ?_
    show Steps p.tables e below (T18.setTop (mkF m 58 #[.val (.ref a1), .val (.int p2), .val (.ref a3), .val (.ref a4), .val (.ref a5), .val (.ref a6), .val (.int (1 : Int32))] [(.int (1 : Int32)), (.ref a6), (.int (gr 1)), (.int (gi 1))])) _
    refine X18.iaload hx (j := (1 : Int32)) (v := (.int (gh 1))) (by rw [e18]; exact Ar22.1) (State.isArrayOf_alike hZ.alike Ar22.2.1) Ar22.2.2 hin22 hat22 (g := (mkF m 58 #[.val (.ref a1), .val (.int p2), .val (.ref a3), .val (.ref a4), .val (.ref a5), .val (.ref a6), .val (.int (1 : Int32))] [(.int (1 : Int32)), (.ref a6), (.int (gr 1)), (.int (gi 1))])) rfl rfl (hb hby d5_58) _ ?_
    show Steps p.tables e below (T18.setTop (mkF m 59 #[.val (.ref a1), .val (.int p2), .val (.ref a3), .val (.ref a4), .val (.ref a5), .val (.ref a6), .val (.int (1 : Int32))] [(.int (gh 1)), (.int (gr 1)), (.int (gi 1))])) _
    refine st23 _ ?_
    show Steps p.tables e below (T23.setTop (mkF m 62 #[.val (.ref a1), .val (.int p2), .val (.ref a3), .val (.ref a4), .val (.ref a5), .val (.ref a6), .val (.int (1 : Int32))] [])) _
    refine XS.iload X23.here hx rfl (hb hby d5_62) rfl ?_
    refine XS.ifNo X23.here hx rfl (hb hby d5_64) rfl ((if0 _ _).trans (tlt ((by decide) : (0 : Int32) < (1 : Int32))).2.2.2) ?_
    refine XS.aloadN X23.here hx rfl (hb hby d5_67) rfl rfl ?_
    refine XS.iload X23.here hx rfl (hb hby d5_68) rfl ?_
    show Steps p.tables e below (T23.setTop (mkF m 70 #[.val (.ref a1), .val (.int p2), .val (.ref a3), .val (.ref a4), .val (.ref a5), .val (.ref a6), .val (.int (1 : Int32))] [(.int (1 : Int32)), (.ref a3)])) _
    refine X23.iaload hx (j := (1 : Int32)) (v := (.int (gi 1))) (by rw [e23]; exact Ar24.1) (State.isArrayOf_alike hZ.alike Ar24.2.1) Ar24.2.2 hin24 hat24 (g := (mkF m 70 #[.val (.ref a1), .val (.int p2), .val (.ref a3), .val (.ref a4), .val (.ref a5), .val (.ref a6), .val (.int (1 : Int32))] [(.int (1 : Int32)), (.ref a3)])) rfl rfl (hb hby d5_70) _ ?_
    show Steps p.tables e below (T23.setTop (mkF m 71 #[.val (.ref a1), .val (.int p2), .val (.ref a3), .val (.ref a4), .val (.ref a5), .val (.ref a6), .val (.int (1 : Int32))] [(.int (gi 1))])) _
    refine XS.aloadN X23.here hx rfl (hb hby d5_71) rfl rfl ?_
    refine XS.iload X23.here hx rfl (hb hby d5_72) rfl ?_
    refine XS.iconst X23.here hx rfl (hb hby d5_74) ?_
    refine XS.isub X23.here hx rfl (hb hby d5_75) rfl ?_
    show Steps p.tables e below (T23.setTop (mkF m 76 #[.val (.ref a1), .val (.int p2), .val (.ref a3), .val (.ref a4), .val (.ref a5), .val (.ref a6), .val (.int (1 : Int32))] [(.int (0 : Int32)), (.ref a3), (.int (gi 1))])) _
    refine X23.iaload hx (j := (0 : Int32)) (v := (.int (gi 0))) (by rw [e23]; exact Ar25.1) (State.isArrayOf_alike hZ.alike Ar25.2.1) Ar25.2.2 hin25 hat25 (g := (mkF m 76 #[.val (.ref a1), .val (.int p2), .val (.ref a3), .val (.ref a4), .val (.ref a5), .val (.ref a6), .val (.int (1 : Int32))] [(.int (0 : Int32)), (.ref a3), (.int (gi 1))])) rfl rfl (hb hby d5_76) _ ?_
    show Steps p.tables e below (T23.setTop (mkF m 77 #[.val (.ref a1), .val (.int p2), .val (.ref a3), .val (.ref a4), .val (.ref a5), .val (.ref a6), .val (.int (1 : Int32))] [(.int (gi 0)), (.int (gi 1))])) _
    refine XS.icmpYes X23.here hx rfl (pc0 := 77) (pc' := 123) rfl (hb hby d5_77) rfl (tlt (ho : (gi 0) < (gi 1))).2.2.1 (by decide) (by decide) ?_
    refine XS.iinc X23.here hx rfl (hb hby d5_123) rfl (l' := #[.val (.ref a1), .val (.int p2), .val (.ref a3), .val (.ref a4), .val (.ref a5), .val (.ref a6), .val (.int (2 : Int32))]) rfl ?_
    refine XS.goto X23.here hx rfl (pc0 := 126) (pc' := 38) rfl (hb hby d5_126) (by decide) (by decide) ?_
    refine XS.iload X23.here hx rfl (hb hby d5_38) rfl ?_
    show Steps p.tables e below (T23.setTop (mkF m 40 #[.val (.ref a1), .val (.int p2), .val (.ref a3), .val (.ref a4), .val (.ref a5), .val (.ref a6), .val (.int (2 : Int32))] [(.int (2 : Int32))])) _
    refine XS.aloadN X23.here hx rfl (hb hby d5_40) rfl rfl ?_
    show Steps p.tables e below (T23.setTop (mkF m 41 #[.val (.ref a1), .val (.int p2), .val (.ref a3), .val (.ref a4), .val (.ref a5), .val (.ref a6), .val (.int (2 : Int32))] [(.ref a3), (.int (2 : Int32))])) _
    refine X23.arraylength hx (by rw [e23]; exact Ar26.1) (State.isArrayOf_alike hZ.alike Ar26.2.1) (g := (mkF m 41 #[.val (.ref a1), .val (.int p2), .val (.ref a3), .val (.ref a4), .val (.ref a5), .val (.ref a6), .val (.int (2 : Int32))] [(.ref a3), (.int (2 : Int32))])) rfl rfl (hb hby d5_41) _ ?_
    rw [len_of S26 Nn26]
    show Steps p.tables e below (T23.setTop (mkF m 42 #[.val (.ref a1), .val (.int p2), .val (.ref a3), .val (.ref a4), .val (.ref a5), .val (.ref a6), .val (.int (2 : Int32))] [(.int (2 : Int32)), (.int (2 : Int32))])) _
    refine XS.icmpYes X23.here hx rfl (pc0 := 42) (pc' := 129) rfl (hb hby d5_42) rfl (flt ((by decide) : ¬ ((2 : Int32) < (2 : Int32)))).2.1 (by decide) (by decide) ?_
    exact kt
  show own_End p e below s (T23.setTop (mkF m 129 #[.val (.ref a1), .val (.int p2), .val (.ref a3), .val (.ref a4), .val (.ref a5), .val (.ref a6), .val (.int (2 : Int32))] [])) (Q5 Z a1 p2 a3 a4 a5 a6 vs gi gr gh h0 n0) ({ frames := 2, cells := 0, slots := 0, locals := 26 } : Room).cells ({ frames := 2, cells := 0, slots := 0, locals := 26 } : Room).slots
  obtain ⟨fs, hr, hrun, hended, hW, hsame⟩ := X23.leave (v := none) (fun _ => rfl)
  refine ⟨_, _, ?_, hrun, hended, _, _, rfl, ?_, ⟨_, rfl⟩, hW, hsame.mono (by decide) (by decide)⟩
  · exact X23.returnOut hx Bd.returns (hb hby d5_129) hr
  · show Q5 Z a1 p2 a3 a4 a5 a6 vs gi gr gh h0 n0 _ T23.heap _
    rw [e23]
    exact ⟨rfl, N23, K12, ⟨fE_a1_x12, fF_a1_sender_x12, fF_a1_ids_x12, fF_a1_incarnations_x12, fF_a1_rounds_x12, Fw12⟩⟩
theorem d4_0 : decode prog_10_method_3_code 0 = .ok (.new 26, 3) := by decide +kernel
theorem d4_3 : decode prog_10_method_3_code 3 = .ok (.dup, 1) := by decide +kernel
theorem d4_4 : decode prog_10_method_3_code 4 = .ok (.iload_n 1, 1) := by decide +kernel
theorem d4_5 : decode prog_10_method_3_code 5 = .ok (.aload_n 0, 1) := by decide +kernel
theorem d4_6 : decode prog_10_method_3_code 6 = .ok (.getfield 7, 3) := by decide +kernel
theorem d4_9 : decode prog_10_method_3_code 9 = .ok (.aload_n 0, 1) := by decide +kernel
theorem d4_10 : decode prog_10_method_3_code 10 = .ok (.getfield 13, 3) := by decide +kernel
theorem d4_13 : decode prog_10_method_3_code 13 = .ok (.aload_n 0, 1) := by decide +kernel
theorem d4_14 : decode prog_10_method_3_code 14 = .ok (.getfield 16, 3) := by decide +kernel
theorem d4_17 : decode prog_10_method_3_code 17 = .ok (.aload_n 0, 1) := by decide +kernel
theorem d4_18 : decode prog_10_method_3_code 18 = .ok (.getfield 19, 3) := by decide +kernel
theorem d4_21 : decode prog_10_method_3_code 21 = .ok (.invokespecial 28, 3) := by decide +kernel
theorem d4_24 : decode prog_10_method_3_code 24 = .ok (.areturn, 1) := by decide +kernel
theorem pn_4 : plainName "com/example/atoll/atoll/detect/Beacon$Builder" = true := by first | (simp [plainName, overriddenIn]; done) | decide +kernel
theorem pd_4_0 : parseMethodDescriptor "(I[I[I[I[I)V" = some ⟨[.int, (.array .int), (.array .int), (.array .int), (.array .int)], none⟩ := by decide +kernel
theorem ef_4 (m : MethodId) (x0 : Addr) (x1 : Int32) : entryFrame m #[(.ref x0), (.int x1)] 2 = mkF m 0 #[.val (.ref x0), .val (.int x1)] [] := by first | (simp [entryFrame, mkF, argsToLocals, Value.category]; done) | rfl
def Q4 (Z : State) (a1 : Addr) (p2 : Int32) (vi : Addr) (vn : Addr) (vr : Addr) (vh : Addr) (vc : Int32) (gi : Nat → Int32) (gn : Nat → Int32) (gr : Nat → Int32) (gh : Nat → Int32) (h0 : Heap) (n0 : Nat) (v : Option Value) (h : Heap) (L : List Loc) : Prop := ∃ xb : Addr, v = some (.ref xb) ∧ Fr n0 L ∧ Keep h0 h [] ∧ h0.size ≤ xb ∧ own_C Z h xb p2 vi vn vr vh
set_option maxRecDepth 65536 in
set_option maxHeartbeats 40000000 in
theorem rm4 (l : Launch) (Z : State) (a0 : Array Value) (hw : ∀ d ∈ tables_1, d.before a0 Z = true) (ws : List Jvm.Cond) (a1 : Addr) (p2 : Int32) (vi : Addr) (vn : Addr) (vr : Addr) (vh : Addr) (vc : Int32) (gi : Nat → Int32) (gn : Nat → Int32) (gr : Nat → Int32) (gh : Nat → Int32) (h0 : Heap) (n0 : Nat) (Z0 : n0 ≤ h0.size) (O_a1 : own_B Z h0 a1 vi vn vr vh vc) (V_vi : own_Arr Z h0 vi .int (2 : Int32) (fun i => Value.int (gi i))) (V_vn : own_Arr Z h0 vn .int (2 : Int32) (fun i => Value.int (gn i))) (V_vr : own_Arr Z h0 vr .int (2 : Int32) (fun i => Value.int (gr i))) (V_vh : own_Arr Z h0 vh .int (2 : Int32) (fun i => Value.int (gh i))) (hsd : ¬ p2 < (1 : Int32)) (k0_0 : ¬ (gi 0) < (1 : Int32)) (k1_0 : ¬ (gr 0) < (0 : Int32)) (k2_0 : ¬ (65535 : Int32) < (gr 0)) (k3_0 : ¬ (gh 0) < (1 : Int32)) (k4_0 : ¬ (65535 : Int32) < (gh 0)) (k0_1 : ¬ (gi 1) < (1 : Int32)) (k1_1 : ¬ (gr 1) < (0 : Int32)) (k2_1 : ¬ (65535 : Int32) < (gr 1)) (k3_1 : ¬ (gh 1) < (1 : Int32)) (k4_1 : ¬ (65535 : Int32) < (gh 1)) (ho : (gi 0) < (gi 1)) :
    MetFree l (⟨"com/example/atoll/atoll/detect/Beacon$Builder", "sentBy", "(I)Lcom/example/atoll/atoll/detect/Beacon;"⟩ : MethodName) (head1 (Jvm.Cond.code (⟨"com/example/atoll/atoll/detect/Beacon$Builder", "sentBy", "(I)Lcom/example/atoll/atoll/detect/Beacon;"⟩ : MethodName) prog_10_method_3_code 2 (some (.object "com/example/atoll/atoll/detect/Beacon")) :: ws) ({ frames := 3, cells := 1, slots := 5, locals := 45 } : Room)) (fun a U => a = #[(.ref a1), (.int p2)] ∧ Z.Warmed39 U.vm ∧ U.heap = h0) (fun _ _ _ _ _ => True) (fun _ U o U' => ∃ v L, o = .returned v ∧ Q4 Z a1 p2 vi vn vr vh vc gi gn gr gh h0 n0 v U'.heap L ∧ FrameEnd U o U' L ({ frames := 3, cells := 1, slots := 5, locals := 45 } : Room).cells ({ frames := 3, cells := 1, slots := 5, locals := 45 } : Room).slots) := by
  refine MetFree.of_bodySF (plainFor_of_name pn_4) hisR ?_
  intro p e s m args below meth c s₁ Bd hml0 hP hK
  obtain ⟨rfl, hZ, hh⟩ := hP
  have hx := Bd.exec
  have hby := Bd.bytes
  have hml : c.maxLocals = 2 := hml0
  have hown : s.vm.findClass "com/example/atoll/atoll/detect/Beacon$Builder" = some m.cls := findClass_of_methodNamed Bd.named
  have hnm := (name_of_methodNamed Bd.named Bd.method).1
  have X0 : Stand p l e ({ frames := 3, cells := 1, slots := 5, locals := 45 } : Room) s m #[(.ref a1), (.int p2)] below meth c s₁ [] 0 0 := Stand.of_body Bd
  have e0 : s₁.heap = h0 := by rw [← hh, Bd.state]; rfl
  have N0 := Fr.nil n0
  show own_End p e below s (s₁.setTop (entryFrame m #[(.ref a1), (.int p2)] 2)) (Q4 Z a1 p2 vi vn vr vh vc gi gn gr gh h0 n0) ({ frames := 3, cells := 1, slots := 5, locals := 45 } : Room).cells ({ frames := 3, cells := 1, slots := 5, locals := 45 } : Room).slots
  obtain ⟨E_a1_1, F_ids_a1_2, F_incarnations_a1_3, F_rounds_a1_4, F_heard_a1_5, F_count_a1_6⟩ := O_a1
  refine own_pre (A := s₁.setTop (mkF m 0 #[.val (.ref a1), .val (.int p2)] [])) (fun tt kt => castTop (ef_4 m a1 p2) kt) ?_
  show own_End p e below s (s₁.setTop (mkF m 0 #[.val (.ref a1), .val (.int p2)] [])) (Q4 Z a1 p2 vi vn vr vh vc gi gn gr gh h0 n0) ({ frames := 3, cells := 1, slots := 5, locals := 45 } : Room).cells ({ frames := 3, cells := 1, slots := 5, locals := 45 } : Room).slots
  obtain ⟨T7, h7, X7, e7, E7, A7, D7, -, st7⟩ := newO X0 hx hZ hown (hw _ (List.mem_of_getElem? (i := 34) rfl)) (hw _ (List.mem_of_getElem? (i := 35) rfl)) (hw _ (List.mem_of_getElem? (i := 36) rfl)) e0 (g := (mkF m 0 #[.val (.ref a1), .val (.int p2)] [])) rfl (hb hby d4_0) (by decide) (by decide)
  obtain ⟨b7, g7⟩ : ∃ z, z = h0.size := ⟨_, rfl⟩
  rw [← g7] at A7 D7 st7
  have ne_vi_b7 : vi ≠ b7 := Nat.ne_of_lt (Nat.lt_of_lt_of_le V_vi.lt (Nat.le_of_eq g7.symm))
  have ne_vh_b7 : vh ≠ b7 := Nat.ne_of_lt (Nat.lt_of_lt_of_le V_vh.lt (Nat.le_of_eq g7.symm))
  have ne_vr_b7 : vr ≠ b7 := Nat.ne_of_lt (Nat.lt_of_lt_of_le V_vr.lt (Nat.le_of_eq g7.symm))
  have ne_a1_b7 : a1 ≠ b7 := Nat.ne_of_lt (Nat.lt_of_lt_of_le E_a1_1.lt (Nat.le_of_eq g7.symm))
  have ne_vn_b7 : vn ≠ b7 := Nat.ne_of_lt (Nat.lt_of_lt_of_le V_vn.lt (Nat.le_of_eq g7.symm))
  have g_b7 : n0 ≤ b7 := Nat.le_trans Z0 (Nat.le_of_eq g7.symm)
  have sz_b7 : h0.size ≤ b7 := Nat.le_trans (show Keep h0 h0 [] from (Keep.refl h0 _)).1 (Nat.le_of_eq g7.symm)
  have fE_a1_x7 := (E_a1_1.ext E7)
  have fF_a1_ids_x7 := (F_ids_a1_2.ext E7)
  have fF_a1_incarnations_x7 := (F_incarnations_a1_3.ext E7)
  have fF_a1_rounds_x7 := (F_rounds_a1_4.ext E7)
  have fF_a1_heard_x7 := (F_heard_a1_5.ext E7)
  have fF_a1_count_x7 := (F_count_a1_6.ext E7)
  have fA_vi_x7 := (V_vi.ext E7)
  have fA_vn_x7 := (V_vn.ext E7)
  have fA_vr_x7 := (V_vr.ext E7)
  have fA_vh_x7 := (V_vh.ext E7)
  have K7 : Keep h0 h7 [] := Keep.ext (Keep.refl h0 _) E7
  have Z7 : n0 ≤ h7.size := Nat.le_trans Z0 E7.1
  have F_sender_b7 : Fld Z h7 b7 "com/example/atoll/atoll/detect/Beacon" "sender" "I" (.int (0 : Int32)) := D7 (Or.inr (hw _ (List.mem_of_getElem? (i := 42) rfl))) (ty := .int) (by decide)
  have F_ids_b7 : Fld Z h7 b7 "com/example/atoll/atoll/detect/Beacon" "ids" "[I" .null := D7 (Or.inr (hw _ (List.mem_of_getElem? (i := 44) rfl))) (ty := (.array .int)) (by decide)
  have F_incarnations_b7 : Fld Z h7 b7 "com/example/atoll/atoll/detect/Beacon" "incarnations" "[I" .null := D7 (Or.inr (hw _ (List.mem_of_getElem? (i := 46) rfl))) (ty := (.array .int)) (by decide)
  have F_rounds_b7 : Fld Z h7 b7 "com/example/atoll/atoll/detect/Beacon" "rounds" "[I" .null := D7 (Or.inr (hw _ (List.mem_of_getElem? (i := 48) rfl))) (ty := (.array .int)) (by decide)
  have F_heard_b7 : Fld Z h7 b7 "com/example/atoll/atoll/detect/Beacon" "heard" "[I" .null := D7 (Or.inr (hw _ (List.mem_of_getElem? (i := 50) rfl))) (ty := (.array .int)) (by decide)
  obtain ⟨T8, X8, e8, st8⟩ := getF X7 hx hZ hown (host := "") (Or.inl (hw _ (List.mem_of_getElem? (i := 14) rfl))) Via.refl e7 fF_a1_ids_x7 (g := (mkF m 6 #[.val (.ref a1), .val (.int p2)] [(.ref a1), (.int p2), (.ref b7), (.ref b7)])) rfl rfl (hb hby d4_6)
  obtain ⟨T9, X9, e9, st9⟩ := getF X8 hx hZ hown (host := "") (Or.inl (hw _ (List.mem_of_getElem? (i := 16) rfl))) Via.refl e8 fF_a1_incarnations_x7 (g := (mkF m 10 #[.val (.ref a1), .val (.int p2)] [(.ref a1), (.ref vi), (.int p2), (.ref b7), (.ref b7)])) rfl rfl (hb hby d4_10)
  obtain ⟨T10, X10, e10, st10⟩ := getF X9 hx hZ hown (host := "") (Or.inl (hw _ (List.mem_of_getElem? (i := 18) rfl))) Via.refl e9 fF_a1_rounds_x7 (g := (mkF m 14 #[.val (.ref a1), .val (.int p2)] [(.ref a1), (.ref vn), (.ref vi), (.int p2), (.ref b7), (.ref b7)])) rfl rfl (hb hby d4_14)
  obtain ⟨T11, X11, e11, st11⟩ := getF X10 hx hZ hown (host := "") (Or.inl (hw _ (List.mem_of_getElem? (i := 20) rfl))) Via.refl e10 fF_a1_heard_x7 (g := (mkF m 18 #[.val (.ref a1), .val (.int p2)] [(.ref a1), (.ref vr), (.ref vn), (.ref vi), (.int p2), (.ref b7), (.ref b7)])) rfl rfl (hb hby d4_18)
  obtain ⟨_, _, ⟨T12, L12, k12, n12⟩, -, X12, ⟨Lc12, hQ12, l12, y12, z12⟩, st12⟩ := X11.specialBackNest hx (y := (⟨"com/example/atoll/atoll/detect/Beacon", "<init>", "(I[I[I[I[I)V"⟩ : MethodName)) rfl hown (own_mvNest hZ (hw _ (List.mem_of_getElem? (i := 37) rfl))) (mvT hZ (hw _ (List.mem_of_getElem? (i := 38) rfl))) (mvT hZ (hw _ (List.mem_of_getElem? (i := 39) rfl))) (by decide) (backOf (W := 1) (rm5 l Z a0 hw [] b7 p2 vi vn vr vh (0 : Int32) gi gr gh h7 n0 Z7 ⟨A7, F_sender_b7, F_ids_b7, F_incarnations_b7, F_rounds_b7, F_heard_b7⟩ fA_vi_x7 fA_vr_x7 fA_vh_x7 ne_vi_b7 ne_vr_b7 ne_vh_b7 g_b7 hsd k0_0 k1_0 k2_0 k3_0 k4_0 k0_1 k1_1 k2_1 k3_1 k4_1 ho) hZ (hw _ (List.mem_of_getElem? (i := 39) rfl)) (hw _ (List.mem_of_getElem? (i := 36) rfl)) (by decide) (by decide)) (g := (mkF m 21 #[.val (.ref a1), .val (.int p2)] [(.ref vh), (.ref vr), (.ref vn), (.ref vi), (.int p2), (.ref b7), (.ref b7)])) rfl (by rw [hml]; rfl) (Steps.refl _) (a := b7) (argsL := [(.int p2), (.ref vi), (.ref vn), (.ref vr), (.ref vh)]) (rest := [(.ref b7)]) (lenOf pd_4_0 rfl) rfl (by show 2 * 0 + _ ≤ _; exact Nat.le_of_eq rfl) (hb hby d4_21) (fun _ _ => ⟨rfl, e11, (by decide : 1 + 0 ≤ _), (by decide : 5 + 0 ≤ _)⟩)
  dsimp only [Pt.U, Pt.locs, Pt.cells, Pt.slots] at X12 l12 y12 z12 st12 hQ12
  subst l12 y12 z12
  obtain ⟨rfl, N12q, Kq12, O12_0⟩ := hQ12
  have N12 := Fr.app N0 N12q
  have fE_a1_x12 := (fE_a1_x7.keep Kq12)
  have fF_a1_ids_x12 := (fF_a1_ids_x7.keep Kq12 (ninS ne_a1_b7 nin0))
  have fF_a1_incarnations_x12 := (fF_a1_incarnations_x7.keep Kq12 (ninS ne_a1_b7 nin0))
  have fF_a1_rounds_x12 := (fF_a1_rounds_x7.keep Kq12 (ninS ne_a1_b7 nin0))
  have fF_a1_heard_x12 := (fF_a1_heard_x7.keep Kq12 (ninS ne_a1_b7 nin0))
  have fF_a1_count_x12 := (fF_a1_count_x7.keep Kq12 (ninS ne_a1_b7 nin0))
  have fA_vi_x12 := (fA_vi_x7.keep Kq12 (ninS ne_vi_b7 nin0))
  have fA_vn_x12 := (fA_vn_x7.keep Kq12 (ninS ne_vn_b7 nin0))
  have fA_vr_x12 := (fA_vr_x7.keep Kq12 (ninS ne_vr_b7 nin0))
  have fA_vh_x12 := (fA_vh_x7.keep Kq12 (ninS ne_vh_b7 nin0))
  have fE_b7_x12 := (A7.keep Kq12)
  have K12 : Keep h0 T12.heap [] := Keep.trans K7 Kq12 (allS (Or.inr sz_b7) all0)
  have Z12 : n0 ≤ T12.heap.size := Nat.le_trans Z7 Kq12.1
  obtain ⟨E_b7_13, F_sender_b7_14, F_ids_b7_15, F_incarnations_b7_16, F_rounds_b7_17, F_heard_b7_18⟩ := O12_0
  refine own_pre (A := T12.setTop (mkF m 24 #[.val (.ref a1), .val (.int p2)] [(.ref b7)])) (fun tt kt => ?_) ?_
  · show Steps p.tables e below (s₁.setTop (mkF m 0 #[.val (.ref a1), .val (.int p2)] [])) _
    refine st7 _ ?_
    show Steps p.tables e below (T7.setTop (mkF m 3 #[.val (.ref a1), .val (.int p2)] [(.ref b7)])) _
    refine XS.dup X7.here hx rfl (hb hby d4_3) rfl rfl ?_
    refine XS.iloadN X7.here hx rfl (hb hby d4_4) rfl ?_
    refine XS.aloadN X7.here hx rfl (hb hby d4_5) rfl rfl ?_
    show Steps p.tables e below (T7.setTop (mkF m 6 #[.val (.ref a1), .val (.int p2)] [(.ref a1), (.int p2), (.ref b7), (.ref b7)])) _
    refine st8 _ ?_
    show Steps p.tables e below (T8.setTop (mkF m 9 #[.val (.ref a1), .val (.int p2)] [(.ref vi), (.int p2), (.ref b7), (.ref b7)])) _
    refine XS.aloadN X8.here hx rfl (hb hby d4_9) rfl rfl ?_
    show Steps p.tables e below (T8.setTop (mkF m 10 #[.val (.ref a1), .val (.int p2)] [(.ref a1), (.ref vi), (.int p2), (.ref b7), (.ref b7)])) _
    refine st9 _ ?_
    show Steps p.tables e below (T9.setTop (mkF m 13 #[.val (.ref a1), .val (.int p2)] [(.ref vn), (.ref vi), (.int p2), (.ref b7), (.ref b7)])) _
    refine XS.aloadN X9.here hx rfl (hb hby d4_13) rfl rfl ?_
    show Steps p.tables e below (T9.setTop (mkF m 14 #[.val (.ref a1), .val (.int p2)] [(.ref a1), (.ref vn), (.ref vi), (.int p2), (.ref b7), (.ref b7)])) _
    refine st10 _ ?_
    show Steps p.tables e below (T10.setTop (mkF m 17 #[.val (.ref a1), .val (.int p2)] [(.ref vr), (.ref vn), (.ref vi), (.int p2), (.ref b7), (.ref b7)])) _
    refine XS.aloadN X10.here hx rfl (hb hby d4_17) rfl rfl ?_
    show Steps p.tables e below (T10.setTop (mkF m 18 #[.val (.ref a1), .val (.int p2)] [(.ref a1), (.ref vr), (.ref vn), (.ref vi), (.int p2), (.ref b7), (.ref b7)])) _
    refine st11 _ ?_
    show Steps p.tables e below (T11.setTop (mkF m 21 #[.val (.ref a1), .val (.int p2)] [(.ref vh), (.ref vr), (.ref vn), (.ref vi), (.int p2), (.ref b7), (.ref b7)])) _
    refine st12.trans ?_
    exact kt
  show own_End p e below s (T12.setTop (mkF m 24 #[.val (.ref a1), .val (.int p2)] [(.ref b7)])) (Q4 Z a1 p2 vi vn vr vh vc gi gn gr gh h0 n0) ({ frames := 3, cells := 1, slots := 5, locals := 45 } : Room).cells ({ frames := 3, cells := 1, slots := 5, locals := 45 } : Room).slots
  obtain ⟨fs, hr, hrun, hended, hW, hsame⟩ := X12.leave (v := some (.ref b7)) (fun h => by rw [Bd.returns] at h; cases h)
  refine ⟨_, _, ?_, hrun, hended, _, _, rfl, ?_, ⟨_, rfl⟩, hW, hsame.mono (by decide) (by decide)⟩
  · exact retOut X12 hx Bd.returns rfl (Or.inr (Or.inr (Or.inr (Or.inr ⟨rfl, rfl, rfl⟩)))) (hb hby d4_24) hr
  · show Q4 Z a1 p2 vi vn vr vh vc gi gn gr gh h0 n0 _ T12.heap _
    exact ⟨b7, rfl, N12, K12, sz_b7, ⟨E_b7_13, F_sender_b7_14, F_ids_b7_15, F_incarnations_b7_16, F_rounds_b7_17, F_heard_b7_18⟩⟩
theorem d8_0 : decode prog_9_method_7_code 0 = .ok (.aload_n 0, 1) := by decide +kernel
theorem d8_1 : decode prog_9_method_7_code 1 = .ok (.getfield 13, 3) := by decide +kernel
theorem d8_4 : decode prog_9_method_7_code 4 = .ok (.iload_n 1, 1) := by decide +kernel
theorem d8_5 : decode prog_9_method_7_code 5 = .ok (.iaload, 1) := by decide +kernel
theorem d8_6 : decode prog_9_method_7_code 6 = .ok (.ireturn, 1) := by decide +kernel
theorem pn_8 : plainName "com/example/atoll/atoll/detect/Beacon" = true := by first | (simp [plainName, overriddenIn]; done) | decide +kernel
theorem ef_8 (m : MethodId) (x0 : Addr) (x1 : Int32) : entryFrame m #[(.ref x0), (.int x1)] 2 = mkF m 0 #[.val (.ref x0), .val (.int x1)] [] := by first | (simp [entryFrame, mkF, argsToLocals, Value.category]; done) | rfl
def Q8 (Z : State) (a1 : Addr) (p2 : Int32) (vs : Int32) (vi : Addr) (vn : Addr) (vr : Addr) (vh : Addr) (g : Nat → Int32) (h0 : Heap) (n0 : Nat) (v : Option Value) (h : Heap) (L : List Loc) : Prop := v = some (.int (g p2.toNatClampNeg)) ∧ Fr n0 L ∧ h = h0
set_option maxRecDepth 65536 in
set_option maxHeartbeats 40000000 in
theorem rm8 (l : Launch) (Z : State) (a0 : Array Value) (hw : ∀ d ∈ tables_1, d.before a0 Z = true) (ws : List Jvm.Cond) (a1 : Addr) (p2 : Int32) (vs : Int32) (vi : Addr) (vn : Addr) (vr : Addr) (vh : Addr) (g : Nat → Int32) (h0 : Heap) (n0 : Nat) (Z0 : n0 ≤ h0.size) (O_a1 : own_C Z h0 a1 vs vi vn vr vh) (V_vi : own_Arr Z h0 vi .int (2 : Int32) (fun i => Value.int (g i))) (hix : ¬ p2 < 0 ∧ p2 < (2 : Int32)) :
    MetFree l (⟨"com/example/atoll/atoll/detect/Beacon", "id", "(I)I"⟩ : MethodName) (head1 (Jvm.Cond.code (⟨"com/example/atoll/atoll/detect/Beacon", "id", "(I)I"⟩ : MethodName) prog_9_method_7_code 2 (some .int) :: ws) ({ frames := 0, cells := 0, slots := 0, locals := 0 } : Room)) (fun a U => a = #[(.ref a1), (.int p2)] ∧ Z.Warmed39 U.vm ∧ U.heap = h0) (fun _ _ _ _ _ => True) (fun _ U o U' => ∃ v L, o = .returned v ∧ Q8 Z a1 p2 vs vi vn vr vh g h0 n0 v U'.heap L ∧ FrameEnd U o U' L ({ frames := 0, cells := 0, slots := 0, locals := 0 } : Room).cells ({ frames := 0, cells := 0, slots := 0, locals := 0 } : Room).slots) := by
  refine MetFree.of_bodySF (plainFor_of_name pn_8) hisR ?_
  intro p e s m args below meth c s₁ Bd hml0 hP hK
  obtain ⟨rfl, hZ, hh⟩ := hP
  have hx := Bd.exec
  have hby := Bd.bytes
  have hml : c.maxLocals = 2 := hml0
  have hown : s.vm.findClass "com/example/atoll/atoll/detect/Beacon" = some m.cls := findClass_of_methodNamed Bd.named
  have hnm := (name_of_methodNamed Bd.named Bd.method).1
  have X0 : Stand p l e ({ frames := 0, cells := 0, slots := 0, locals := 0 } : Room) s m #[(.ref a1), (.int p2)] below meth c s₁ [] 0 0 := Stand.of_body Bd
  have e0 : s₁.heap = h0 := by rw [← hh, Bd.state]; rfl
  have N0 := Fr.nil n0
  show own_End p e below s (s₁.setTop (entryFrame m #[(.ref a1), (.int p2)] 2)) (Q8 Z a1 p2 vs vi vn vr vh g h0 n0) ({ frames := 0, cells := 0, slots := 0, locals := 0 } : Room).cells ({ frames := 0, cells := 0, slots := 0, locals := 0 } : Room).slots
  obtain ⟨E_a1_1, F_sender_a1_2, F_ids_a1_3, F_incarnations_a1_4, F_rounds_a1_5, F_heard_a1_6⟩ := O_a1
  refine own_pre (A := s₁.setTop (mkF m 0 #[.val (.ref a1), .val (.int p2)] [])) (fun tt kt => castTop (ef_8 m a1 p2) kt) ?_
  show own_End p e below s (s₁.setTop (mkF m 0 #[.val (.ref a1), .val (.int p2)] [])) (Q8 Z a1 p2 vs vi vn vr vh g h0 n0) ({ frames := 0, cells := 0, slots := 0, locals := 0 } : Room).cells ({ frames := 0, cells := 0, slots := 0, locals := 0 } : Room).slots
  obtain ⟨T7, X7, e7, st7⟩ := getF X0 hx hZ hown (host := "") (Or.inl (hw _ (List.mem_of_getElem? (i := 43) rfl))) Via.refl e0 F_ids_a1_3 (g := (mkF m 1 #[.val (.ref a1), .val (.int p2)] [(.ref a1)])) rfl rfl (hb hby d8_1)
  obtain ⟨cl8, Ar8, S8, Nn8, G8⟩ := id V_vi
  have hin8 : ¬ (p2 < 0 ∨ cl8.slots.size ≤ p2.toNatClampNeg) := inb_of S8 (hix : ¬ p2 < 0 ∧ p2 < (2 : Int32))
  have hat8 : cl8.slots[p2.toNatClampNeg]? = some (.int (g p2.toNatClampNeg)) := own_at S8 G8 hin8
  refine own_pre (A := T7.setTop (mkF m 6 #[.val (.ref a1), .val (.int p2)] [(.int (g p2.toNatClampNeg))])) (fun tt kt => ?_) ?_
  · show Steps p.tables e below (s₁.setTop (mkF m 0 #[.val (.ref a1), .val (.int p2)] [])) _
    refine XS.aloadN X0.here hx rfl (hb hby d8_0) rfl rfl ?_
    show Steps p.tables e below (s₁.setTop (mkF m 1 #[.val (.ref a1), .val (.int p2)] [(.ref a1)])) _
    refine st7 _ ?_
    show Steps p.tables e below (T7.setTop (mkF m 4 #[.val (.ref a1), .val (.int p2)] [(.ref vi)])) _
    refine XS.iloadN X7.here hx rfl (hb hby d8_4) rfl ?_
    show Steps p.tables e below (T7.setTop (mkF m 5 #[.val (.ref a1), .val (.int p2)] [(.int p2), (.ref vi)])) _
    refine X7.iaload hx (j := p2) (v := (.int (g p2.toNatClampNeg))) (by rw [e7]; exact Ar8.1) (State.isArrayOf_alike hZ.alike Ar8.2.1) Ar8.2.2 hin8 hat8 (g := (mkF m 5 #[.val (.ref a1), .val (.int p2)] [(.int p2), (.ref vi)])) rfl rfl (hb hby d8_5) _ ?_
    exact kt
  show own_End p e below s (T7.setTop (mkF m 6 #[.val (.ref a1), .val (.int p2)] [(.int (g p2.toNatClampNeg))])) (Q8 Z a1 p2 vs vi vn vr vh g h0 n0) ({ frames := 0, cells := 0, slots := 0, locals := 0 } : Room).cells ({ frames := 0, cells := 0, slots := 0, locals := 0 } : Room).slots
  obtain ⟨fs, hr, hrun, hended, hW, hsame⟩ := X7.leave (v := some (.int (g p2.toNatClampNeg))) (fun h => by rw [Bd.returns] at h; cases h)
  refine ⟨_, _, ?_, hrun, hended, _, _, rfl, ?_, ⟨_, rfl⟩, hW, hsame.mono (by decide) (by decide)⟩
  · exact retI X7 hx Bd.returns (hb hby d8_6) hr
  · show Q8 Z a1 p2 vs vi vn vr vh g h0 n0 _ T7.heap _
    rw [e7]
    exact ⟨rfl, N0, rfl⟩
theorem d9_0 : decode prog_9_method_8_code 0 = .ok (.aload_n 0, 1) := by decide +kernel
theorem d9_1 : decode prog_9_method_8_code 1 = .ok (.getfield 17, 3) := by decide +kernel
theorem d9_4 : decode prog_9_method_8_code 4 = .ok (.iload_n 1, 1) := by decide +kernel
theorem d9_5 : decode prog_9_method_8_code 5 = .ok (.iaload, 1) := by decide +kernel
theorem d9_6 : decode prog_9_method_8_code 6 = .ok (.ireturn, 1) := by decide +kernel
theorem pn_9 : plainName "com/example/atoll/atoll/detect/Beacon" = true := by first | (simp [plainName, overriddenIn]; done) | decide +kernel
theorem ef_9 (m : MethodId) (x0 : Addr) (x1 : Int32) : entryFrame m #[(.ref x0), (.int x1)] 2 = mkF m 0 #[.val (.ref x0), .val (.int x1)] [] := by first | (simp [entryFrame, mkF, argsToLocals, Value.category]; done) | rfl
def Q9 (Z : State) (a1 : Addr) (p2 : Int32) (vs : Int32) (vi : Addr) (vn : Addr) (vr : Addr) (vh : Addr) (g : Nat → Int32) (h0 : Heap) (n0 : Nat) (v : Option Value) (h : Heap) (L : List Loc) : Prop := v = some (.int (g p2.toNatClampNeg)) ∧ Fr n0 L ∧ h = h0
set_option maxRecDepth 65536 in
set_option maxHeartbeats 40000000 in
theorem rm9 (l : Launch) (Z : State) (a0 : Array Value) (hw : ∀ d ∈ tables_1, d.before a0 Z = true) (ws : List Jvm.Cond) (a1 : Addr) (p2 : Int32) (vs : Int32) (vi : Addr) (vn : Addr) (vr : Addr) (vh : Addr) (g : Nat → Int32) (h0 : Heap) (n0 : Nat) (Z0 : n0 ≤ h0.size) (O_a1 : own_C Z h0 a1 vs vi vn vr vh) (V_vn : own_Arr Z h0 vn .int (2 : Int32) (fun i => Value.int (g i))) (hix : ¬ p2 < 0 ∧ p2 < (2 : Int32)) :
    MetFree l (⟨"com/example/atoll/atoll/detect/Beacon", "incarnation", "(I)I"⟩ : MethodName) (head1 (Jvm.Cond.code (⟨"com/example/atoll/atoll/detect/Beacon", "incarnation", "(I)I"⟩ : MethodName) prog_9_method_8_code 2 (some .int) :: ws) ({ frames := 0, cells := 0, slots := 0, locals := 0 } : Room)) (fun a U => a = #[(.ref a1), (.int p2)] ∧ Z.Warmed39 U.vm ∧ U.heap = h0) (fun _ _ _ _ _ => True) (fun _ U o U' => ∃ v L, o = .returned v ∧ Q9 Z a1 p2 vs vi vn vr vh g h0 n0 v U'.heap L ∧ FrameEnd U o U' L ({ frames := 0, cells := 0, slots := 0, locals := 0 } : Room).cells ({ frames := 0, cells := 0, slots := 0, locals := 0 } : Room).slots) := by
  refine MetFree.of_bodySF (plainFor_of_name pn_9) hisR ?_
  intro p e s m args below meth c s₁ Bd hml0 hP hK
  obtain ⟨rfl, hZ, hh⟩ := hP
  have hx := Bd.exec
  have hby := Bd.bytes
  have hml : c.maxLocals = 2 := hml0
  have hown : s.vm.findClass "com/example/atoll/atoll/detect/Beacon" = some m.cls := findClass_of_methodNamed Bd.named
  have hnm := (name_of_methodNamed Bd.named Bd.method).1
  have X0 : Stand p l e ({ frames := 0, cells := 0, slots := 0, locals := 0 } : Room) s m #[(.ref a1), (.int p2)] below meth c s₁ [] 0 0 := Stand.of_body Bd
  have e0 : s₁.heap = h0 := by rw [← hh, Bd.state]; rfl
  have N0 := Fr.nil n0
  show own_End p e below s (s₁.setTop (entryFrame m #[(.ref a1), (.int p2)] 2)) (Q9 Z a1 p2 vs vi vn vr vh g h0 n0) ({ frames := 0, cells := 0, slots := 0, locals := 0 } : Room).cells ({ frames := 0, cells := 0, slots := 0, locals := 0 } : Room).slots
  obtain ⟨E_a1_1, F_sender_a1_2, F_ids_a1_3, F_incarnations_a1_4, F_rounds_a1_5, F_heard_a1_6⟩ := O_a1
  refine own_pre (A := s₁.setTop (mkF m 0 #[.val (.ref a1), .val (.int p2)] [])) (fun tt kt => castTop (ef_9 m a1 p2) kt) ?_
  show own_End p e below s (s₁.setTop (mkF m 0 #[.val (.ref a1), .val (.int p2)] [])) (Q9 Z a1 p2 vs vi vn vr vh g h0 n0) ({ frames := 0, cells := 0, slots := 0, locals := 0 } : Room).cells ({ frames := 0, cells := 0, slots := 0, locals := 0 } : Room).slots
  obtain ⟨T7, X7, e7, st7⟩ := getF X0 hx hZ hown (host := "") (Or.inl (hw _ (List.mem_of_getElem? (i := 45) rfl))) Via.refl e0 F_incarnations_a1_4 (g := (mkF m 1 #[.val (.ref a1), .val (.int p2)] [(.ref a1)])) rfl rfl (hb hby d9_1)
  obtain ⟨cl8, Ar8, S8, Nn8, G8⟩ := id V_vn
  have hin8 : ¬ (p2 < 0 ∨ cl8.slots.size ≤ p2.toNatClampNeg) := inb_of S8 (hix : ¬ p2 < 0 ∧ p2 < (2 : Int32))
  have hat8 : cl8.slots[p2.toNatClampNeg]? = some (.int (g p2.toNatClampNeg)) := own_at S8 G8 hin8
  refine own_pre (A := T7.setTop (mkF m 6 #[.val (.ref a1), .val (.int p2)] [(.int (g p2.toNatClampNeg))])) (fun tt kt => ?_) ?_
  · show Steps p.tables e below (s₁.setTop (mkF m 0 #[.val (.ref a1), .val (.int p2)] [])) _
    refine XS.aloadN X0.here hx rfl (hb hby d9_0) rfl rfl ?_
    show Steps p.tables e below (s₁.setTop (mkF m 1 #[.val (.ref a1), .val (.int p2)] [(.ref a1)])) _
    refine st7 _ ?_
    show Steps p.tables e below (T7.setTop (mkF m 4 #[.val (.ref a1), .val (.int p2)] [(.ref vn)])) _
    refine XS.iloadN X7.here hx rfl (hb hby d9_4) rfl ?_
    show Steps p.tables e below (T7.setTop (mkF m 5 #[.val (.ref a1), .val (.int p2)] [(.int p2), (.ref vn)])) _
    refine X7.iaload hx (j := p2) (v := (.int (g p2.toNatClampNeg))) (by rw [e7]; exact Ar8.1) (State.isArrayOf_alike hZ.alike Ar8.2.1) Ar8.2.2 hin8 hat8 (g := (mkF m 5 #[.val (.ref a1), .val (.int p2)] [(.int p2), (.ref vn)])) rfl rfl (hb hby d9_5) _ ?_
    exact kt
  show own_End p e below s (T7.setTop (mkF m 6 #[.val (.ref a1), .val (.int p2)] [(.int (g p2.toNatClampNeg))])) (Q9 Z a1 p2 vs vi vn vr vh g h0 n0) ({ frames := 0, cells := 0, slots := 0, locals := 0 } : Room).cells ({ frames := 0, cells := 0, slots := 0, locals := 0 } : Room).slots
  obtain ⟨fs, hr, hrun, hended, hW, hsame⟩ := X7.leave (v := some (.int (g p2.toNatClampNeg))) (fun h => by rw [Bd.returns] at h; cases h)
  refine ⟨_, _, ?_, hrun, hended, _, _, rfl, ?_, ⟨_, rfl⟩, hW, hsame.mono (by decide) (by decide)⟩
  · exact retI X7 hx Bd.returns (hb hby d9_6) hr
  · show Q9 Z a1 p2 vs vi vn vr vh g h0 n0 _ T7.heap _
    rw [e7]
    exact ⟨rfl, N0, rfl⟩
theorem d10_0 : decode prog_9_method_9_code 0 = .ok (.aload_n 0, 1) := by decide +kernel
theorem d10_1 : decode prog_9_method_9_code 1 = .ok (.getfield 20, 3) := by decide +kernel
theorem d10_4 : decode prog_9_method_9_code 4 = .ok (.iload_n 1, 1) := by decide +kernel
theorem d10_5 : decode prog_9_method_9_code 5 = .ok (.iaload, 1) := by decide +kernel
theorem d10_6 : decode prog_9_method_9_code 6 = .ok (.ireturn, 1) := by decide +kernel
theorem pn_10 : plainName "com/example/atoll/atoll/detect/Beacon" = true := by first | (simp [plainName, overriddenIn]; done) | decide +kernel
theorem ef_10 (m : MethodId) (x0 : Addr) (x1 : Int32) : entryFrame m #[(.ref x0), (.int x1)] 2 = mkF m 0 #[.val (.ref x0), .val (.int x1)] [] := by first | (simp [entryFrame, mkF, argsToLocals, Value.category]; done) | rfl
def Q10 (Z : State) (a1 : Addr) (p2 : Int32) (vs : Int32) (vi : Addr) (vn : Addr) (vr : Addr) (vh : Addr) (g : Nat → Int32) (h0 : Heap) (n0 : Nat) (v : Option Value) (h : Heap) (L : List Loc) : Prop := v = some (.int (g p2.toNatClampNeg)) ∧ Fr n0 L ∧ h = h0
set_option maxRecDepth 65536 in
set_option maxHeartbeats 40000000 in
theorem rm10 (l : Launch) (Z : State) (a0 : Array Value) (hw : ∀ d ∈ tables_1, d.before a0 Z = true) (ws : List Jvm.Cond) (a1 : Addr) (p2 : Int32) (vs : Int32) (vi : Addr) (vn : Addr) (vr : Addr) (vh : Addr) (g : Nat → Int32) (h0 : Heap) (n0 : Nat) (Z0 : n0 ≤ h0.size) (O_a1 : own_C Z h0 a1 vs vi vn vr vh) (V_vr : own_Arr Z h0 vr .int (2 : Int32) (fun i => Value.int (g i))) (hix : ¬ p2 < 0 ∧ p2 < (2 : Int32)) :
    MetFree l (⟨"com/example/atoll/atoll/detect/Beacon", "round", "(I)I"⟩ : MethodName) (head1 (Jvm.Cond.code (⟨"com/example/atoll/atoll/detect/Beacon", "round", "(I)I"⟩ : MethodName) prog_9_method_9_code 2 (some .int) :: ws) ({ frames := 0, cells := 0, slots := 0, locals := 0 } : Room)) (fun a U => a = #[(.ref a1), (.int p2)] ∧ Z.Warmed39 U.vm ∧ U.heap = h0) (fun _ _ _ _ _ => True) (fun _ U o U' => ∃ v L, o = .returned v ∧ Q10 Z a1 p2 vs vi vn vr vh g h0 n0 v U'.heap L ∧ FrameEnd U o U' L ({ frames := 0, cells := 0, slots := 0, locals := 0 } : Room).cells ({ frames := 0, cells := 0, slots := 0, locals := 0 } : Room).slots) := by
  refine MetFree.of_bodySF (plainFor_of_name pn_10) hisR ?_
  intro p e s m args below meth c s₁ Bd hml0 hP hK
  obtain ⟨rfl, hZ, hh⟩ := hP
  have hx := Bd.exec
  have hby := Bd.bytes
  have hml : c.maxLocals = 2 := hml0
  have hown : s.vm.findClass "com/example/atoll/atoll/detect/Beacon" = some m.cls := findClass_of_methodNamed Bd.named
  have hnm := (name_of_methodNamed Bd.named Bd.method).1
  have X0 : Stand p l e ({ frames := 0, cells := 0, slots := 0, locals := 0 } : Room) s m #[(.ref a1), (.int p2)] below meth c s₁ [] 0 0 := Stand.of_body Bd
  have e0 : s₁.heap = h0 := by rw [← hh, Bd.state]; rfl
  have N0 := Fr.nil n0
  show own_End p e below s (s₁.setTop (entryFrame m #[(.ref a1), (.int p2)] 2)) (Q10 Z a1 p2 vs vi vn vr vh g h0 n0) ({ frames := 0, cells := 0, slots := 0, locals := 0 } : Room).cells ({ frames := 0, cells := 0, slots := 0, locals := 0 } : Room).slots
  obtain ⟨E_a1_1, F_sender_a1_2, F_ids_a1_3, F_incarnations_a1_4, F_rounds_a1_5, F_heard_a1_6⟩ := O_a1
  refine own_pre (A := s₁.setTop (mkF m 0 #[.val (.ref a1), .val (.int p2)] [])) (fun tt kt => castTop (ef_10 m a1 p2) kt) ?_
  show own_End p e below s (s₁.setTop (mkF m 0 #[.val (.ref a1), .val (.int p2)] [])) (Q10 Z a1 p2 vs vi vn vr vh g h0 n0) ({ frames := 0, cells := 0, slots := 0, locals := 0 } : Room).cells ({ frames := 0, cells := 0, slots := 0, locals := 0 } : Room).slots
  obtain ⟨T7, X7, e7, st7⟩ := getF X0 hx hZ hown (host := "") (Or.inl (hw _ (List.mem_of_getElem? (i := 47) rfl))) Via.refl e0 F_rounds_a1_5 (g := (mkF m 1 #[.val (.ref a1), .val (.int p2)] [(.ref a1)])) rfl rfl (hb hby d10_1)
  obtain ⟨cl8, Ar8, S8, Nn8, G8⟩ := id V_vr
  have hin8 : ¬ (p2 < 0 ∨ cl8.slots.size ≤ p2.toNatClampNeg) := inb_of S8 (hix : ¬ p2 < 0 ∧ p2 < (2 : Int32))
  have hat8 : cl8.slots[p2.toNatClampNeg]? = some (.int (g p2.toNatClampNeg)) := own_at S8 G8 hin8
  refine own_pre (A := T7.setTop (mkF m 6 #[.val (.ref a1), .val (.int p2)] [(.int (g p2.toNatClampNeg))])) (fun tt kt => ?_) ?_
  · show Steps p.tables e below (s₁.setTop (mkF m 0 #[.val (.ref a1), .val (.int p2)] [])) _
    refine XS.aloadN X0.here hx rfl (hb hby d10_0) rfl rfl ?_
    show Steps p.tables e below (s₁.setTop (mkF m 1 #[.val (.ref a1), .val (.int p2)] [(.ref a1)])) _
    refine st7 _ ?_
    show Steps p.tables e below (T7.setTop (mkF m 4 #[.val (.ref a1), .val (.int p2)] [(.ref vr)])) _
    refine XS.iloadN X7.here hx rfl (hb hby d10_4) rfl ?_
    show Steps p.tables e below (T7.setTop (mkF m 5 #[.val (.ref a1), .val (.int p2)] [(.int p2), (.ref vr)])) _
    refine X7.iaload hx (j := p2) (v := (.int (g p2.toNatClampNeg))) (by rw [e7]; exact Ar8.1) (State.isArrayOf_alike hZ.alike Ar8.2.1) Ar8.2.2 hin8 hat8 (g := (mkF m 5 #[.val (.ref a1), .val (.int p2)] [(.int p2), (.ref vr)])) rfl rfl (hb hby d10_5) _ ?_
    exact kt
  show own_End p e below s (T7.setTop (mkF m 6 #[.val (.ref a1), .val (.int p2)] [(.int (g p2.toNatClampNeg))])) (Q10 Z a1 p2 vs vi vn vr vh g h0 n0) ({ frames := 0, cells := 0, slots := 0, locals := 0 } : Room).cells ({ frames := 0, cells := 0, slots := 0, locals := 0 } : Room).slots
  obtain ⟨fs, hr, hrun, hended, hW, hsame⟩ := X7.leave (v := some (.int (g p2.toNatClampNeg))) (fun h => by rw [Bd.returns] at h; cases h)
  refine ⟨_, _, ?_, hrun, hended, _, _, rfl, ?_, ⟨_, rfl⟩, hW, hsame.mono (by decide) (by decide)⟩
  · exact retI X7 hx Bd.returns (hb hby d10_6) hr
  · show Q10 Z a1 p2 vs vi vn vr vh g h0 n0 _ T7.heap _
    rw [e7]
    exact ⟨rfl, N0, rfl⟩
theorem d11_0 : decode prog_9_method_10_code 0 = .ok (.aload_n 0, 1) := by decide +kernel
theorem d11_1 : decode prog_9_method_10_code 1 = .ok (.getfield 23, 3) := by decide +kernel
theorem d11_4 : decode prog_9_method_10_code 4 = .ok (.iload_n 1, 1) := by decide +kernel
theorem d11_5 : decode prog_9_method_10_code 5 = .ok (.iaload, 1) := by decide +kernel
theorem d11_6 : decode prog_9_method_10_code 6 = .ok (.ireturn, 1) := by decide +kernel
theorem pn_11 : plainName "com/example/atoll/atoll/detect/Beacon" = true := by first | (simp [plainName, overriddenIn]; done) | decide +kernel
theorem ef_11 (m : MethodId) (x0 : Addr) (x1 : Int32) : entryFrame m #[(.ref x0), (.int x1)] 2 = mkF m 0 #[.val (.ref x0), .val (.int x1)] [] := by first | (simp [entryFrame, mkF, argsToLocals, Value.category]; done) | rfl
def Q11 (Z : State) (a1 : Addr) (p2 : Int32) (vs : Int32) (vi : Addr) (vn : Addr) (vr : Addr) (vh : Addr) (g : Nat → Int32) (h0 : Heap) (n0 : Nat) (v : Option Value) (h : Heap) (L : List Loc) : Prop := v = some (.int (g p2.toNatClampNeg)) ∧ Fr n0 L ∧ h = h0
set_option maxRecDepth 65536 in
set_option maxHeartbeats 40000000 in
theorem rm11 (l : Launch) (Z : State) (a0 : Array Value) (hw : ∀ d ∈ tables_1, d.before a0 Z = true) (ws : List Jvm.Cond) (a1 : Addr) (p2 : Int32) (vs : Int32) (vi : Addr) (vn : Addr) (vr : Addr) (vh : Addr) (g : Nat → Int32) (h0 : Heap) (n0 : Nat) (Z0 : n0 ≤ h0.size) (O_a1 : own_C Z h0 a1 vs vi vn vr vh) (V_vh : own_Arr Z h0 vh .int (2 : Int32) (fun i => Value.int (g i))) (hix : ¬ p2 < 0 ∧ p2 < (2 : Int32)) :
    MetFree l (⟨"com/example/atoll/atoll/detect/Beacon", "heard", "(I)I"⟩ : MethodName) (head1 (Jvm.Cond.code (⟨"com/example/atoll/atoll/detect/Beacon", "heard", "(I)I"⟩ : MethodName) prog_9_method_10_code 2 (some .int) :: ws) ({ frames := 0, cells := 0, slots := 0, locals := 0 } : Room)) (fun a U => a = #[(.ref a1), (.int p2)] ∧ Z.Warmed39 U.vm ∧ U.heap = h0) (fun _ _ _ _ _ => True) (fun _ U o U' => ∃ v L, o = .returned v ∧ Q11 Z a1 p2 vs vi vn vr vh g h0 n0 v U'.heap L ∧ FrameEnd U o U' L ({ frames := 0, cells := 0, slots := 0, locals := 0 } : Room).cells ({ frames := 0, cells := 0, slots := 0, locals := 0 } : Room).slots) := by
  refine MetFree.of_bodySF (plainFor_of_name pn_11) hisR ?_
  intro p e s m args below meth c s₁ Bd hml0 hP hK
  obtain ⟨rfl, hZ, hh⟩ := hP
  have hx := Bd.exec
  have hby := Bd.bytes
  have hml : c.maxLocals = 2 := hml0
  have hown : s.vm.findClass "com/example/atoll/atoll/detect/Beacon" = some m.cls := findClass_of_methodNamed Bd.named
  have hnm := (name_of_methodNamed Bd.named Bd.method).1
  have X0 : Stand p l e ({ frames := 0, cells := 0, slots := 0, locals := 0 } : Room) s m #[(.ref a1), (.int p2)] below meth c s₁ [] 0 0 := Stand.of_body Bd
  have e0 : s₁.heap = h0 := by rw [← hh, Bd.state]; rfl
  have N0 := Fr.nil n0
  show own_End p e below s (s₁.setTop (entryFrame m #[(.ref a1), (.int p2)] 2)) (Q11 Z a1 p2 vs vi vn vr vh g h0 n0) ({ frames := 0, cells := 0, slots := 0, locals := 0 } : Room).cells ({ frames := 0, cells := 0, slots := 0, locals := 0 } : Room).slots
  obtain ⟨E_a1_1, F_sender_a1_2, F_ids_a1_3, F_incarnations_a1_4, F_rounds_a1_5, F_heard_a1_6⟩ := O_a1
  refine own_pre (A := s₁.setTop (mkF m 0 #[.val (.ref a1), .val (.int p2)] [])) (fun tt kt => castTop (ef_11 m a1 p2) kt) ?_
  show own_End p e below s (s₁.setTop (mkF m 0 #[.val (.ref a1), .val (.int p2)] [])) (Q11 Z a1 p2 vs vi vn vr vh g h0 n0) ({ frames := 0, cells := 0, slots := 0, locals := 0 } : Room).cells ({ frames := 0, cells := 0, slots := 0, locals := 0 } : Room).slots
  obtain ⟨T7, X7, e7, st7⟩ := getF X0 hx hZ hown (host := "") (Or.inl (hw _ (List.mem_of_getElem? (i := 49) rfl))) Via.refl e0 F_heard_a1_6 (g := (mkF m 1 #[.val (.ref a1), .val (.int p2)] [(.ref a1)])) rfl rfl (hb hby d11_1)
  obtain ⟨cl8, Ar8, S8, Nn8, G8⟩ := id V_vh
  have hin8 : ¬ (p2 < 0 ∨ cl8.slots.size ≤ p2.toNatClampNeg) := inb_of S8 (hix : ¬ p2 < 0 ∧ p2 < (2 : Int32))
  have hat8 : cl8.slots[p2.toNatClampNeg]? = some (.int (g p2.toNatClampNeg)) := own_at S8 G8 hin8
  refine own_pre (A := T7.setTop (mkF m 6 #[.val (.ref a1), .val (.int p2)] [(.int (g p2.toNatClampNeg))])) (fun tt kt => ?_) ?_
  · show Steps p.tables e below (s₁.setTop (mkF m 0 #[.val (.ref a1), .val (.int p2)] [])) _
    refine XS.aloadN X0.here hx rfl (hb hby d11_0) rfl rfl ?_
    show Steps p.tables e below (s₁.setTop (mkF m 1 #[.val (.ref a1), .val (.int p2)] [(.ref a1)])) _
    refine st7 _ ?_
    show Steps p.tables e below (T7.setTop (mkF m 4 #[.val (.ref a1), .val (.int p2)] [(.ref vh)])) _
    refine XS.iloadN X7.here hx rfl (hb hby d11_4) rfl ?_
    show Steps p.tables e below (T7.setTop (mkF m 5 #[.val (.ref a1), .val (.int p2)] [(.int p2), (.ref vh)])) _
    refine X7.iaload hx (j := p2) (v := (.int (g p2.toNatClampNeg))) (by rw [e7]; exact Ar8.1) (State.isArrayOf_alike hZ.alike Ar8.2.1) Ar8.2.2 hin8 hat8 (g := (mkF m 5 #[.val (.ref a1), .val (.int p2)] [(.int p2), (.ref vh)])) rfl rfl (hb hby d11_5) _ ?_
    exact kt
  show own_End p e below s (T7.setTop (mkF m 6 #[.val (.ref a1), .val (.int p2)] [(.int (g p2.toNatClampNeg))])) (Q11 Z a1 p2 vs vi vn vr vh g h0 n0) ({ frames := 0, cells := 0, slots := 0, locals := 0 } : Room).cells ({ frames := 0, cells := 0, slots := 0, locals := 0 } : Room).slots
  obtain ⟨fs, hr, hrun, hended, hW, hsame⟩ := X7.leave (v := some (.int (g p2.toNatClampNeg))) (fun h => by rw [Bd.returns] at h; cases h)
  refine ⟨_, _, ?_, hrun, hended, _, _, rfl, ?_, ⟨_, rfl⟩, hW, hsame.mono (by decide) (by decide)⟩
  · exact retI X7 hx Bd.returns (hb hby d11_6) hr
  · show Q11 Z a1 p2 vs vi vn vr vh g h0 n0 _ T7.heap _
    rw [e7]
    exact ⟨rfl, N0, rfl⟩
def own_law_85 (p1 : Int32) (p2 : Int32) (p3 : Int32) (p4 : Int32) (q5 : Int64) (p6 : Int32) (id1 : Int32) (id2 : Int32) (r1 : Int32) (r2 : Int32) (hd1 : Int32) (hd2 : Int32) (sd : Int32) : Int32 := (if ((own_put (own_put (fun _ => (0 : Int32)) (0 : Int32) id1) (1 : Int32) id2) (0 : Int32).toNatClampNeg) = id1 then (if ((own_put (own_put (fun _ => (0 : Int32)) (0 : Int32) p3) (1 : Int32) p4) (0 : Int32).toNatClampNeg) = p3 then (if ((own_put (own_put (fun _ => (0 : Int32)) (0 : Int32) r1) (1 : Int32) r2) (0 : Int32).toNatClampNeg) = r1 then (if ((own_put (own_put (fun _ => (0 : Int32)) (0 : Int32) hd1) (1 : Int32) hd2) (0 : Int32).toNatClampNeg) = hd1 then (if ((own_put (own_put (fun _ => (0 : Int32)) (0 : Int32) id1) (1 : Int32) id2) (1 : Int32).toNatClampNeg) = id2 then (if ((own_put (own_put (fun _ => (0 : Int32)) (0 : Int32) p3) (1 : Int32) p4) (1 : Int32).toNatClampNeg) = p4 then (if ((own_put (own_put (fun _ => (0 : Int32)) (0 : Int32) r1) (1 : Int32) r2) (1 : Int32).toNatClampNeg) = r2 then (if ((own_put (own_put (fun _ => (0 : Int32)) (0 : Int32) hd1) (1 : Int32) hd2) (1 : Int32).toNatClampNeg) = hd2 then (1 : Int32) else (0 : Int32)) else (0 : Int32)) else (0 : Int32)) else (0 : Int32)) else (if ((own_put (own_put (fun _ => (0 : Int32)) (0 : Int32) id1) (1 : Int32) id2) (1 : Int32).toNatClampNeg) = id2 then (if ((own_put (own_put (fun _ => (0 : Int32)) (0 : Int32) p3) (1 : Int32) p4) (1 : Int32).toNatClampNeg) = p4 then (if ((own_put (own_put (fun _ => (0 : Int32)) (0 : Int32) r1) (1 : Int32) r2) (1 : Int32).toNatClampNeg) = r2 then (if ((own_put (own_put (fun _ => (0 : Int32)) (0 : Int32) hd1) (1 : Int32) hd2) (1 : Int32).toNatClampNeg) = hd2 then (0 : Int32) else (0 : Int32)) else (0 : Int32)) else (0 : Int32)) else (0 : Int32))) else (if ((own_put (own_put (fun _ => (0 : Int32)) (0 : Int32) id1) (1 : Int32) id2) (1 : Int32).toNatClampNeg) = id2 then (if ((own_put (own_put (fun _ => (0 : Int32)) (0 : Int32) p3) (1 : Int32) p4) (1 : Int32).toNatClampNeg) = p4 then (if ((own_put (own_put (fun _ => (0 : Int32)) (0 : Int32) r1) (1 : Int32) r2) (1 : Int32).toNatClampNeg) = r2 then (if ((own_put (own_put (fun _ => (0 : Int32)) (0 : Int32) hd1) (1 : Int32) hd2) (1 : Int32).toNatClampNeg) = hd2 then (0 : Int32) else (0 : Int32)) else (0 : Int32)) else (0 : Int32)) else (0 : Int32))) else (if ((own_put (own_put (fun _ => (0 : Int32)) (0 : Int32) id1) (1 : Int32) id2) (1 : Int32).toNatClampNeg) = id2 then (if ((own_put (own_put (fun _ => (0 : Int32)) (0 : Int32) p3) (1 : Int32) p4) (1 : Int32).toNatClampNeg) = p4 then (if ((own_put (own_put (fun _ => (0 : Int32)) (0 : Int32) r1) (1 : Int32) r2) (1 : Int32).toNatClampNeg) = r2 then (if ((own_put (own_put (fun _ => (0 : Int32)) (0 : Int32) hd1) (1 : Int32) hd2) (1 : Int32).toNatClampNeg) = hd2 then (0 : Int32) else (0 : Int32)) else (0 : Int32)) else (0 : Int32)) else (0 : Int32))) else (if ((own_put (own_put (fun _ => (0 : Int32)) (0 : Int32) id1) (1 : Int32) id2) (1 : Int32).toNatClampNeg) = id2 then (if ((own_put (own_put (fun _ => (0 : Int32)) (0 : Int32) p3) (1 : Int32) p4) (1 : Int32).toNatClampNeg) = p4 then (if ((own_put (own_put (fun _ => (0 : Int32)) (0 : Int32) r1) (1 : Int32) r2) (1 : Int32).toNatClampNeg) = r2 then (if ((own_put (own_put (fun _ => (0 : Int32)) (0 : Int32) hd1) (1 : Int32) hd2) (1 : Int32).toNatClampNeg) = hd2 then (0 : Int32) else (0 : Int32)) else (0 : Int32)) else (0 : Int32)) else (0 : Int32)))
def own_law_76 (p1 : Int32) (p2 : Int32) (p3 : Int32) (p4 : Int32) (q5 : Int64) (p6 : Int32) (id1 : Int32) (id2 : Int32) (r1 : Int32) (r2 : Int32) (hd1 : Int32) (hd2 : Int32) : Int32 := (own_law_85 p1 p2 p3 p4 q5 p6 id1 id2 r1 r2 hd1 hd2 ((1 : Int32) + (p6 &&& (2147483646 : Int32))))
def own_law_58 (p1 : Int32) (p2 : Int32) (p3 : Int32) (p4 : Int32) (q5 : Int64) (p6 : Int32) (id1 : Int32) (id2 : Int32) (r1 : Int32) (r2 : Int32) (hd1 : Int32) : Int32 := (own_law_76 p1 p2 p3 p4 q5 p6 id1 id2 r1 r2 hd1 ((1 : Int32) + (((((q5.toUInt64 >>> ((48 : Int32) &&& 0x3f).toInt64.toUInt64).toInt64) &&& (65535 : Int64)) - ((((q5.toUInt64 >>> ((48 : Int32) &&& 0x3f).toInt64.toUInt64).toInt64) &&& (65535 : Int64)) / (65535 : Int64)) * (65535 : Int64)).toInt32)))
def own_law_40 (p1 : Int32) (p2 : Int32) (p3 : Int32) (p4 : Int32) (q5 : Int64) (p6 : Int32) (id1 : Int32) (id2 : Int32) (r1 : Int32) (r2 : Int32) : Int32 := (own_law_58 p1 p2 p3 p4 q5 p6 id1 id2 r1 r2 ((1 : Int32) + (((((q5.toUInt64 >>> ((32 : Int32) &&& 0x3f).toInt64.toUInt64).toInt64) &&& (65535 : Int64)) - ((((q5.toUInt64 >>> ((32 : Int32) &&& 0x3f).toInt64.toUInt64).toInt64) &&& (65535 : Int64)) / (65535 : Int64)) * (65535 : Int64)).toInt32)))
def own_law_28 (p1 : Int32) (p2 : Int32) (p3 : Int32) (p4 : Int32) (q5 : Int64) (p6 : Int32) (id1 : Int32) (id2 : Int32) (r1 : Int32) : Int32 := (own_law_40 p1 p2 p3 p4 q5 p6 id1 id2 r1 ((((q5.toUInt64 >>> ((16 : Int32) &&& 0x3f).toInt64.toUInt64).toInt64) &&& (65535 : Int64)).toInt32))
def own_law_19 (p1 : Int32) (p2 : Int32) (p3 : Int32) (p4 : Int32) (q5 : Int64) (p6 : Int32) (id1 : Int32) (id2 : Int32) : Int32 := (own_law_28 p1 p2 p3 p4 q5 p6 id1 id2 ((q5 &&& (65535 : Int64)).toInt32))
def own_law_8 (p1 : Int32) (p2 : Int32) (p3 : Int32) (p4 : Int32) (q5 : Int64) (p6 : Int32) (id1 : Int32) : Int32 := (own_law_19 p1 p2 p3 p4 q5 p6 id1 ((id1 + (1 : Int32)) + (p2 &&& (1073741822 : Int32))))
def own_law (p1 : Int32) (p2 : Int32) (p3 : Int32) (p4 : Int32) (q5 : Int64) (p6 : Int32) : Int32 := (own_law_8 p1 p2 p3 p4 q5 p6 ((1 : Int32) + (p1 &&& (1073741823 : Int32))))
theorem pn_0 : plainName "com/example/atoll/atoll/detect/BuilderAddPinLaw" = true := by first | (simp [plainName, overriddenIn]; done) | decide +kernel
theorem pd_0_0 : parseMethodDescriptor "(I)V" = some ⟨[.int], none⟩ := by decide +kernel
theorem pd_0_1 : parseMethodDescriptor "(IIII)V" = some ⟨[.int, .int, .int, .int], none⟩ := by decide +kernel
theorem pd_0_2 : parseMethodDescriptor "(I)Lcom/example/atoll/atoll/detect/Beacon;" = some ⟨[.int], some (.object "com/example/atoll/atoll/detect/Beacon")⟩ := by decide +kernel
theorem pd_0_3 : parseMethodDescriptor "(I)I" = some ⟨[.int], some .int⟩ := by decide +kernel
theorem ef_0 (m : MethodId) (x0 : Int32) (x1 : Int32) (x2 : Int32) (x3 : Int32) (x4 : Int64) (x5 : Int32) : entryFrame m #[(.int x0), (.int x1), (.int x2), (.int x3), (.long x4), (.int x5)] maxLocals = mkF m 0 #[.val (.int x0), .val (.int x1), .val (.int x2), .val (.int x3), .val (.long x4), .second, .val (.int x5), .unset, .unset, .unset, .unset, .unset, .unset, .unset, .unset, .unset, .unset, .unset] [] := by first | (simp [entryFrame, mkF, argsToLocals, Value.category, maxLocals]; done) | rfl
def Q0 (Z : State) (p1 : Int32) (p2 : Int32) (p3 : Int32) (p4 : Int32) (q5 : Int64) (p6 : Int32) (h0 : Heap) (n0 : Nat) (v : Option Value) (h : Heap) (L : List Loc) : Prop := v = some (.int (own_law p1 p2 p3 p4 q5 p6)) ∧ Fr n0 L
set_option maxRecDepth 65536 in
set_option maxHeartbeats 40000000 in
theorem rm0 (l : Launch) (Z : State) (a0 : Array Value) (hw : ∀ d ∈ tables_1, d.before a0 Z = true) (ws : List Jvm.Cond) (p1 : Int32) (p2 : Int32) (p3 : Int32) (p4 : Int32) (q5 : Int64) (p6 : Int32) (h0 : Heap) (n0 : Nat) (Z0 : n0 ≤ h0.size) :
    MetFree l x (head1 (Jvm.Cond.code x code maxLocals ret :: ws) room_1) (fun a U => a = #[(.int p1), (.int p2), (.int p3), (.int p4), (.long q5), (.int p6)] ∧ Z.Warmed39 U.vm ∧ U.heap = h0) (fun _ _ _ _ _ => True) (fun _ U o U' => ∃ v L, o = .returned v ∧ Q0 Z p1 p2 p3 p4 q5 p6 h0 n0 v U'.heap L ∧ FrameEnd U o U' L room_1.cells room_1.slots) := by
  refine MetFree.of_bodySF (plainFor_of_name pn_0) hisR ?_
  intro p e s m args below meth c s₁ Bd hml0 hP hK
  obtain ⟨rfl, hZ, hh⟩ := hP
  have hx := Bd.exec
  have hby := Bd.bytes
  have hml : c.maxLocals = 18 := hml0
  have hown : s.vm.findClass "com/example/atoll/atoll/detect/BuilderAddPinLaw" = some m.cls := findClass_of_methodNamed Bd.named
  have hnm := (name_of_methodNamed Bd.named Bd.method).1
  have X0 : Stand p l e room_1 s m #[(.int p1), (.int p2), (.int p3), (.int p4), (.long q5), (.int p6)] below meth c s₁ [] 0 0 := Stand.of_body Bd
  have e0 : s₁.heap = h0 := by rw [← hh, Bd.state]; rfl
  have N0 := Fr.nil n0
  show own_End p e below s (s₁.setTop (entryFrame m #[(.int p1), (.int p2), (.int p3), (.int p4), (.long q5), (.int p6)] maxLocals)) (Q0 Z p1 p2 p3 p4 q5 p6 h0 n0) room_1.cells room_1.slots
  refine own_pre (A := s₁.setTop (mkF m 0 #[.val (.int p1), .val (.int p2), .val (.int p3), .val (.int p4), .val (.long q5), .second, .val (.int p6), .unset, .unset, .unset, .unset, .unset, .unset, .unset, .unset, .unset, .unset, .unset] [])) (fun tt kt => castTop (ef_0 m p1 p2 p3 p4 q5 p6) kt) ?_
  show own_End p e below s (s₁.setTop (mkF m 0 #[.val (.int p1), .val (.int p2), .val (.int p3), .val (.int p4), .val (.long q5), .second, .val (.int p6), .unset, .unset, .unset, .unset, .unset, .unset, .unset, .unset, .unset, .unset, .unset] [])) (Q0 Z p1 p2 p3 p4 q5 p6 h0 n0) room_1.cells room_1.slots
  have hj : own_law p1 p2 p3 p4 q5 p6 = own_law p1 p2 p3 p4 q5 p6 := rfl
  refine own_pre (A := s₁.setTop (mkF m 8 #[.val (.int p1), .val (.int p2), .val (.int p3), .val (.int p4), .val (.long q5), .second, .val (.int p6), .val (.int ((1 : Int32) + (p1 &&& (1073741823 : Int32)))), .unset, .unset, .unset, .unset, .unset, .unset, .unset, .unset, .unset, .unset] [])) (fun tt kt => ?_) ?_
  · show Steps p.tables e below (s₁.setTop (mkF m 0 #[.val (.int p1), .val (.int p2), .val (.int p3), .val (.int p4), .val (.long q5), .second, .val (.int p6), .unset, .unset, .unset, .unset, .unset, .unset, .unset, .unset, .unset, .unset, .unset] [])) _
    refine XS.iconst X0.here hx rfl (hb hby at_0) ?_
    refine XS.iloadN X0.here hx rfl (hb hby at_1) rfl ?_
    show Steps p.tables e below (s₁.setTop (mkF m 2 #[.val (.int p1), .val (.int p2), .val (.int p3), .val (.int p4), .val (.long q5), .second, .val (.int p6), .unset, .unset, .unset, .unset, .unset, .unset, .unset, .unset, .unset, .unset, .unset] [(.int p1), (.int (1 : Int32))])) _
    refine X0.ldcInt hx hown (mvT hZ (hw _ (List.mem_of_getElem? (i := 0) rfl))) (g := (mkF m 2 #[.val (.int p1), .val (.int p2), .val (.int p3), .val (.int p4), .val (.long q5), .second, .val (.int p6), .unset, .unset, .unset, .unset, .unset, .unset, .unset, .unset, .unset, .unset, .unset] [(.int p1), (.int (1 : Int32))])) rfl (hb hby at_2) _ ?_
    show Steps p.tables e below (s₁.setTop (mkF m 4 #[.val (.int p1), .val (.int p2), .val (.int p3), .val (.int p4), .val (.long q5), .second, .val (.int p6), .unset, .unset, .unset, .unset, .unset, .unset, .unset, .unset, .unset, .unset, .unset] [(.int (1073741823 : Int32)), (.int p1), (.int (1 : Int32))])) _
    refine XS.iand X0.here hx rfl (hb hby at_4) rfl ?_
    refine XS.iadd X0.here hx rfl (hb hby at_5) rfl ?_
    refine XS.istore X0.here hx rfl (hb hby at_6) rfl (l' := #[.val (.int p1), .val (.int p2), .val (.int p3), .val (.int p4), .val (.long q5), .second, .val (.int p6), .val (.int ((1 : Int32) + (p1 &&& (1073741823 : Int32)))), .unset, .unset, .unset, .unset, .unset, .unset, .unset, .unset, .unset, .unset]) rfl ?_
    exact kt
  show own_End p e below s (s₁.setTop (mkF m 8 #[.val (.int p1), .val (.int p2), .val (.int p3), .val (.int p4), .val (.long q5), .second, .val (.int p6), .val (.int ((1 : Int32) + (p1 &&& (1073741823 : Int32)))), .unset, .unset, .unset, .unset, .unset, .unset, .unset, .unset, .unset, .unset] [])) (Q0 Z p1 p2 p3 p4 q5 p6 h0 n0) room_1.cells room_1.slots
  have j8 : ∀ (Tj8 : State) (Lj8 : List Loc) (Xj8 : Stand p l e room_1 s m #[(.int p1), (.int p2), (.int p3), (.int p4), (.long q5), (.int p6)] below meth c Tj8 Lj8 0 0) (ej8 : Tj8.heap = h0) (Nj8 : Fr n0 Lj8) (id1 : Int32) (hi1 : ¬ id1 < (1 : Int32)) (hi1b : id1.toInt ≤ 1073741824), own_law p1 p2 p3 p4 q5 p6 = own_law_8 p1 p2 p3 p4 q5 p6 id1 → own_End p e below s (Tj8.setTop (mkF m 8 #[.val (.int p1), .val (.int p2), .val (.int p3), .val (.int p4), .val (.long q5), .second, .val (.int p6), .val (.int id1), .unset, .unset, .unset, .unset, .unset, .unset, .unset, .unset, .unset, .unset] [])) (Q0 Z p1 p2 p3 p4 q5 p6 h0 n0) room_1.cells room_1.slots := by
    intro Tj8 Lj8 Xj8 ej8 Nj8 id1 hi1 hi1b hj
    refine own_pre (A := Tj8.setTop (mkF m 19 #[.val (.int p1), .val (.int p2), .val (.int p3), .val (.int p4), .val (.long q5), .second, .val (.int p6), .val (.int id1), .val (.int ((id1 + (1 : Int32)) + (p2 &&& (1073741822 : Int32)))), .unset, .unset, .unset, .unset, .unset, .unset, .unset, .unset, .unset] [])) (fun tt kt => ?_) ?_
    · show Steps p.tables e below (Tj8.setTop (mkF m 8 #[.val (.int p1), .val (.int p2), .val (.int p3), .val (.int p4), .val (.long q5), .second, .val (.int p6), .val (.int id1), .unset, .unset, .unset, .unset, .unset, .unset, .unset, .unset, .unset, .unset] [])) _
      refine XS.iload Xj8.here hx rfl (hb hby at_8) rfl ?_
      refine XS.iconst Xj8.here hx rfl (hb hby at_10) ?_
      refine XS.iadd Xj8.here hx rfl (hb hby at_11) rfl ?_
      refine XS.iloadN Xj8.here hx rfl (hb hby at_12) rfl ?_
      show Steps p.tables e below (Tj8.setTop (mkF m 13 #[.val (.int p1), .val (.int p2), .val (.int p3), .val (.int p4), .val (.long q5), .second, .val (.int p6), .val (.int id1), .unset, .unset, .unset, .unset, .unset, .unset, .unset, .unset, .unset, .unset] [(.int p2), (.int (id1 + (1 : Int32)))])) _
      refine Xj8.ldcInt hx hown (mvT hZ (hw _ (List.mem_of_getElem? (i := 1) rfl))) (g := (mkF m 13 #[.val (.int p1), .val (.int p2), .val (.int p3), .val (.int p4), .val (.long q5), .second, .val (.int p6), .val (.int id1), .unset, .unset, .unset, .unset, .unset, .unset, .unset, .unset, .unset, .unset] [(.int p2), (.int (id1 + (1 : Int32)))])) rfl (hb hby at_13) _ ?_
      show Steps p.tables e below (Tj8.setTop (mkF m 15 #[.val (.int p1), .val (.int p2), .val (.int p3), .val (.int p4), .val (.long q5), .second, .val (.int p6), .val (.int id1), .unset, .unset, .unset, .unset, .unset, .unset, .unset, .unset, .unset, .unset] [(.int (1073741822 : Int32)), (.int p2), (.int (id1 + (1 : Int32)))])) _
      refine XS.iand Xj8.here hx rfl (hb hby at_15) rfl ?_
      refine XS.iadd Xj8.here hx rfl (hb hby at_16) rfl ?_
      refine XS.istore Xj8.here hx rfl (hb hby at_17) rfl (l' := #[.val (.int p1), .val (.int p2), .val (.int p3), .val (.int p4), .val (.long q5), .second, .val (.int p6), .val (.int id1), .val (.int ((id1 + (1 : Int32)) + (p2 &&& (1073741822 : Int32)))), .unset, .unset, .unset, .unset, .unset, .unset, .unset, .unset, .unset]) rfl ?_
      exact kt
    show own_End p e below s (Tj8.setTop (mkF m 19 #[.val (.int p1), .val (.int p2), .val (.int p3), .val (.int p4), .val (.long q5), .second, .val (.int p6), .val (.int id1), .val (.int ((id1 + (1 : Int32)) + (p2 &&& (1073741822 : Int32)))), .unset, .unset, .unset, .unset, .unset, .unset, .unset, .unset, .unset] [])) (Q0 Z p1 p2 p3 p4 q5 p6 h0 n0) room_1.cells room_1.slots
    have j19 : ∀ (Tj19 : State) (Lj19 : List Loc) (Xj19 : Stand p l e room_1 s m #[(.int p1), (.int p2), (.int p3), (.int p4), (.long q5), (.int p6)] below meth c Tj19 Lj19 0 0) (ej19 : Tj19.heap = h0) (Nj19 : Fr n0 Lj19) (id2 : Int32) (hi12 : id1 < id2) (hi2 : ¬ id2 < (1 : Int32)), own_law p1 p2 p3 p4 q5 p6 = own_law_19 p1 p2 p3 p4 q5 p6 id1 id2 → own_End p e below s (Tj19.setTop (mkF m 19 #[.val (.int p1), .val (.int p2), .val (.int p3), .val (.int p4), .val (.long q5), .second, .val (.int p6), .val (.int id1), .val (.int id2), .unset, .unset, .unset, .unset, .unset, .unset, .unset, .unset, .unset] [])) (Q0 Z p1 p2 p3 p4 q5 p6 h0 n0) room_1.cells room_1.slots := by
      intro Tj19 Lj19 Xj19 ej19 Nj19 id2 hi12 hi2 hj
      refine own_pre (A := Tj19.setTop (mkF m 28 #[.val (.int p1), .val (.int p2), .val (.int p3), .val (.int p4), .val (.long q5), .second, .val (.int p6), .val (.int id1), .val (.int id2), .val (.int ((q5 &&& (65535 : Int64)).toInt32)), .unset, .unset, .unset, .unset, .unset, .unset, .unset, .unset] [])) (fun tt kt => ?_) ?_
      · show Steps p.tables e below (Tj19.setTop (mkF m 19 #[.val (.int p1), .val (.int p2), .val (.int p3), .val (.int p4), .val (.long q5), .second, .val (.int p6), .val (.int id1), .val (.int id2), .unset, .unset, .unset, .unset, .unset, .unset, .unset, .unset, .unset] [])) _
        refine XS.lload Xj19.here hx rfl (hb hby at_19) rfl ?_
        show Steps p.tables e below (Tj19.setTop (mkF m 21 #[.val (.int p1), .val (.int p2), .val (.int p3), .val (.int p4), .val (.long q5), .second, .val (.int p6), .val (.int id1), .val (.int id2), .unset, .unset, .unset, .unset, .unset, .unset, .unset, .unset, .unset] [(.long q5)])) _
        refine Xj19.ldc2Long hx hown (mvT hZ (hw _ (List.mem_of_getElem? (i := 2) rfl))) (g := (mkF m 21 #[.val (.int p1), .val (.int p2), .val (.int p3), .val (.int p4), .val (.long q5), .second, .val (.int p6), .val (.int id1), .val (.int id2), .unset, .unset, .unset, .unset, .unset, .unset, .unset, .unset, .unset] [(.long q5)])) rfl (hb hby at_21) _ ?_
        show Steps p.tables e below (Tj19.setTop (mkF m 24 #[.val (.int p1), .val (.int p2), .val (.int p3), .val (.int p4), .val (.long q5), .second, .val (.int p6), .val (.int id1), .val (.int id2), .unset, .unset, .unset, .unset, .unset, .unset, .unset, .unset, .unset] [(.long (65535 : Int64)), (.long q5)])) _
        refine XS.land Xj19.here hx rfl (hb hby at_24) rfl ?_
        refine XS.l2i Xj19.here hx rfl (hb hby at_25) rfl ?_
        refine XS.istore Xj19.here hx rfl (hb hby at_26) rfl (l' := #[.val (.int p1), .val (.int p2), .val (.int p3), .val (.int p4), .val (.long q5), .second, .val (.int p6), .val (.int id1), .val (.int id2), .val (.int ((q5 &&& (65535 : Int64)).toInt32)), .unset, .unset, .unset, .unset, .unset, .unset, .unset, .unset]) rfl ?_
        exact kt
      show own_End p e below s (Tj19.setTop (mkF m 28 #[.val (.int p1), .val (.int p2), .val (.int p3), .val (.int p4), .val (.long q5), .second, .val (.int p6), .val (.int id1), .val (.int id2), .val (.int ((q5 &&& (65535 : Int64)).toInt32)), .unset, .unset, .unset, .unset, .unset, .unset, .unset, .unset] [])) (Q0 Z p1 p2 p3 p4 q5 p6 h0 n0) room_1.cells room_1.slots
      have j28 : ∀ (Tj28 : State) (Lj28 : List Loc) (Xj28 : Stand p l e room_1 s m #[(.int p1), (.int p2), (.int p3), (.int p4), (.long q5), (.int p6)] below meth c Tj28 Lj28 0 0) (ej28 : Tj28.heap = h0) (Nj28 : Fr n0 Lj28) (r1 : Int32) (hr1 : ¬ r1 < (0 : Int32) ∧ ¬ (65535 : Int32) < r1), own_law p1 p2 p3 p4 q5 p6 = own_law_28 p1 p2 p3 p4 q5 p6 id1 id2 r1 → own_End p e below s (Tj28.setTop (mkF m 28 #[.val (.int p1), .val (.int p2), .val (.int p3), .val (.int p4), .val (.long q5), .second, .val (.int p6), .val (.int id1), .val (.int id2), .val (.int r1), .unset, .unset, .unset, .unset, .unset, .unset, .unset, .unset] [])) (Q0 Z p1 p2 p3 p4 q5 p6 h0 n0) room_1.cells room_1.slots := by
        intro Tj28 Lj28 Xj28 ej28 Nj28 r1 hr1 hj
        refine own_pre (A := Tj28.setTop (mkF m 40 #[.val (.int p1), .val (.int p2), .val (.int p3), .val (.int p4), .val (.long q5), .second, .val (.int p6), .val (.int id1), .val (.int id2), .val (.int r1), .val (.int ((((q5.toUInt64 >>> ((16 : Int32) &&& 0x3f).toInt64.toUInt64).toInt64) &&& (65535 : Int64)).toInt32)), .unset, .unset, .unset, .unset, .unset, .unset, .unset] [])) (fun tt kt => ?_) ?_
        · show Steps p.tables e below (Tj28.setTop (mkF m 28 #[.val (.int p1), .val (.int p2), .val (.int p3), .val (.int p4), .val (.long q5), .second, .val (.int p6), .val (.int id1), .val (.int id2), .val (.int r1), .unset, .unset, .unset, .unset, .unset, .unset, .unset, .unset] [])) _
          refine XS.lload Xj28.here hx rfl (hb hby at_28) rfl ?_
          refine XS.bipush Xj28.here hx rfl (hb hby at_30) ?_
          refine XS.lushr Xj28.here hx rfl (hb hby at_32) rfl ?_
          show Steps p.tables e below (Tj28.setTop (mkF m 33 #[.val (.int p1), .val (.int p2), .val (.int p3), .val (.int p4), .val (.long q5), .second, .val (.int p6), .val (.int id1), .val (.int id2), .val (.int r1), .unset, .unset, .unset, .unset, .unset, .unset, .unset, .unset] [(.long ((q5.toUInt64 >>> ((16 : Int32) &&& 0x3f).toInt64.toUInt64).toInt64))])) _
          refine Xj28.ldc2Long hx hown (mvT hZ (hw _ (List.mem_of_getElem? (i := 2) rfl))) (g := (mkF m 33 #[.val (.int p1), .val (.int p2), .val (.int p3), .val (.int p4), .val (.long q5), .second, .val (.int p6), .val (.int id1), .val (.int id2), .val (.int r1), .unset, .unset, .unset, .unset, .unset, .unset, .unset, .unset] [(.long ((q5.toUInt64 >>> ((16 : Int32) &&& 0x3f).toInt64.toUInt64).toInt64))])) rfl (hb hby at_33) _ ?_
          show Steps p.tables e below (Tj28.setTop (mkF m 36 #[.val (.int p1), .val (.int p2), .val (.int p3), .val (.int p4), .val (.long q5), .second, .val (.int p6), .val (.int id1), .val (.int id2), .val (.int r1), .unset, .unset, .unset, .unset, .unset, .unset, .unset, .unset] [(.long (65535 : Int64)), (.long ((q5.toUInt64 >>> ((16 : Int32) &&& 0x3f).toInt64.toUInt64).toInt64))])) _
          refine XS.land Xj28.here hx rfl (hb hby at_36) rfl ?_
          refine XS.l2i Xj28.here hx rfl (hb hby at_37) rfl ?_
          refine XS.istore Xj28.here hx rfl (hb hby at_38) rfl (l' := #[.val (.int p1), .val (.int p2), .val (.int p3), .val (.int p4), .val (.long q5), .second, .val (.int p6), .val (.int id1), .val (.int id2), .val (.int r1), .val (.int ((((q5.toUInt64 >>> ((16 : Int32) &&& 0x3f).toInt64.toUInt64).toInt64) &&& (65535 : Int64)).toInt32)), .unset, .unset, .unset, .unset, .unset, .unset, .unset]) rfl ?_
          exact kt
        show own_End p e below s (Tj28.setTop (mkF m 40 #[.val (.int p1), .val (.int p2), .val (.int p3), .val (.int p4), .val (.long q5), .second, .val (.int p6), .val (.int id1), .val (.int id2), .val (.int r1), .val (.int ((((q5.toUInt64 >>> ((16 : Int32) &&& 0x3f).toInt64.toUInt64).toInt64) &&& (65535 : Int64)).toInt32)), .unset, .unset, .unset, .unset, .unset, .unset, .unset] [])) (Q0 Z p1 p2 p3 p4 q5 p6 h0 n0) room_1.cells room_1.slots
        have j40 : ∀ (Tj40 : State) (Lj40 : List Loc) (Xj40 : Stand p l e room_1 s m #[(.int p1), (.int p2), (.int p3), (.int p4), (.long q5), (.int p6)] below meth c Tj40 Lj40 0 0) (ej40 : Tj40.heap = h0) (Nj40 : Fr n0 Lj40) (r2 : Int32) (hr2 : ¬ r2 < (0 : Int32) ∧ ¬ (65535 : Int32) < r2), own_law p1 p2 p3 p4 q5 p6 = own_law_40 p1 p2 p3 p4 q5 p6 id1 id2 r1 r2 → own_End p e below s (Tj40.setTop (mkF m 40 #[.val (.int p1), .val (.int p2), .val (.int p3), .val (.int p4), .val (.long q5), .second, .val (.int p6), .val (.int id1), .val (.int id2), .val (.int r1), .val (.int r2), .unset, .unset, .unset, .unset, .unset, .unset, .unset] [])) (Q0 Z p1 p2 p3 p4 q5 p6 h0 n0) room_1.cells room_1.slots := by
          intro Tj40 Lj40 Xj40 ej40 Nj40 r2 hr2 hj
          refine own_pre (A := Tj40.setTop (mkF m 58 #[.val (.int p1), .val (.int p2), .val (.int p3), .val (.int p4), .val (.long q5), .second, .val (.int p6), .val (.int id1), .val (.int id2), .val (.int r1), .val (.int r2), .val (.int ((1 : Int32) + (((((q5.toUInt64 >>> ((32 : Int32) &&& 0x3f).toInt64.toUInt64).toInt64) &&& (65535 : Int64)) - ((((q5.toUInt64 >>> ((32 : Int32) &&& 0x3f).toInt64.toUInt64).toInt64) &&& (65535 : Int64)) / (65535 : Int64)) * (65535 : Int64)).toInt32))), .unset, .unset, .unset, .unset, .unset, .unset] [])) (fun tt kt => ?_) ?_
          · show Steps p.tables e below (Tj40.setTop (mkF m 40 #[.val (.int p1), .val (.int p2), .val (.int p3), .val (.int p4), .val (.long q5), .second, .val (.int p6), .val (.int id1), .val (.int id2), .val (.int r1), .val (.int r2), .unset, .unset, .unset, .unset, .unset, .unset, .unset] [])) _
            refine XS.iconst Xj40.here hx rfl (hb hby at_40) ?_
            refine XS.lload Xj40.here hx rfl (hb hby at_41) rfl ?_
            refine XS.bipush Xj40.here hx rfl (hb hby at_43) ?_
            refine XS.lushr Xj40.here hx rfl (hb hby at_45) rfl ?_
            show Steps p.tables e below (Tj40.setTop (mkF m 46 #[.val (.int p1), .val (.int p2), .val (.int p3), .val (.int p4), .val (.long q5), .second, .val (.int p6), .val (.int id1), .val (.int id2), .val (.int r1), .val (.int r2), .unset, .unset, .unset, .unset, .unset, .unset, .unset] [(.long ((q5.toUInt64 >>> ((32 : Int32) &&& 0x3f).toInt64.toUInt64).toInt64)), (.int (1 : Int32))])) _
            refine Xj40.ldc2Long hx hown (mvT hZ (hw _ (List.mem_of_getElem? (i := 2) rfl))) (g := (mkF m 46 #[.val (.int p1), .val (.int p2), .val (.int p3), .val (.int p4), .val (.long q5), .second, .val (.int p6), .val (.int id1), .val (.int id2), .val (.int r1), .val (.int r2), .unset, .unset, .unset, .unset, .unset, .unset, .unset] [(.long ((q5.toUInt64 >>> ((32 : Int32) &&& 0x3f).toInt64.toUInt64).toInt64)), (.int (1 : Int32))])) rfl (hb hby at_46) _ ?_
            show Steps p.tables e below (Tj40.setTop (mkF m 49 #[.val (.int p1), .val (.int p2), .val (.int p3), .val (.int p4), .val (.long q5), .second, .val (.int p6), .val (.int id1), .val (.int id2), .val (.int r1), .val (.int r2), .unset, .unset, .unset, .unset, .unset, .unset, .unset] [(.long (65535 : Int64)), (.long ((q5.toUInt64 >>> ((32 : Int32) &&& 0x3f).toInt64.toUInt64).toInt64)), (.int (1 : Int32))])) _
            refine XS.land Xj40.here hx rfl (hb hby at_49) rfl ?_
            show Steps p.tables e below (Tj40.setTop (mkF m 50 #[.val (.int p1), .val (.int p2), .val (.int p3), .val (.int p4), .val (.long q5), .second, .val (.int p6), .val (.int id1), .val (.int id2), .val (.int r1), .val (.int r2), .unset, .unset, .unset, .unset, .unset, .unset, .unset] [(.long (((q5.toUInt64 >>> ((32 : Int32) &&& 0x3f).toInt64.toUInt64).toInt64) &&& (65535 : Int64))), (.int (1 : Int32))])) _
            refine Xj40.ldc2Long hx hown (mvT hZ (hw _ (List.mem_of_getElem? (i := 2) rfl))) (g := (mkF m 50 #[.val (.int p1), .val (.int p2), .val (.int p3), .val (.int p4), .val (.long q5), .second, .val (.int p6), .val (.int id1), .val (.int id2), .val (.int r1), .val (.int r2), .unset, .unset, .unset, .unset, .unset, .unset, .unset] [(.long (((q5.toUInt64 >>> ((32 : Int32) &&& 0x3f).toInt64.toUInt64).toInt64) &&& (65535 : Int64))), (.int (1 : Int32))])) rfl (hb hby at_50) _ ?_
            show Steps p.tables e below (Tj40.setTop (mkF m 53 #[.val (.int p1), .val (.int p2), .val (.int p3), .val (.int p4), .val (.long q5), .second, .val (.int p6), .val (.int id1), .val (.int id2), .val (.int r1), .val (.int r2), .unset, .unset, .unset, .unset, .unset, .unset, .unset] [(.long (65535 : Int64)), (.long (((q5.toUInt64 >>> ((32 : Int32) &&& 0x3f).toInt64.toUInt64).toInt64) &&& (65535 : Int64))), (.int (1 : Int32))])) _
            refine XS.lrem Xj40.here hx rfl (hb hby at_53) rfl (by decide : ¬ ((65535 : Int64) = (0 : Int64))) ?_
            refine XS.l2i Xj40.here hx rfl (hb hby at_54) rfl ?_
            refine XS.iadd Xj40.here hx rfl (hb hby at_55) rfl ?_
            refine XS.istore Xj40.here hx rfl (hb hby at_56) rfl (l' := #[.val (.int p1), .val (.int p2), .val (.int p3), .val (.int p4), .val (.long q5), .second, .val (.int p6), .val (.int id1), .val (.int id2), .val (.int r1), .val (.int r2), .val (.int ((1 : Int32) + (((((q5.toUInt64 >>> ((32 : Int32) &&& 0x3f).toInt64.toUInt64).toInt64) &&& (65535 : Int64)) - ((((q5.toUInt64 >>> ((32 : Int32) &&& 0x3f).toInt64.toUInt64).toInt64) &&& (65535 : Int64)) / (65535 : Int64)) * (65535 : Int64)).toInt32))), .unset, .unset, .unset, .unset, .unset, .unset]) rfl ?_
            exact kt
          show own_End p e below s (Tj40.setTop (mkF m 58 #[.val (.int p1), .val (.int p2), .val (.int p3), .val (.int p4), .val (.long q5), .second, .val (.int p6), .val (.int id1), .val (.int id2), .val (.int r1), .val (.int r2), .val (.int ((1 : Int32) + (((((q5.toUInt64 >>> ((32 : Int32) &&& 0x3f).toInt64.toUInt64).toInt64) &&& (65535 : Int64)) - ((((q5.toUInt64 >>> ((32 : Int32) &&& 0x3f).toInt64.toUInt64).toInt64) &&& (65535 : Int64)) / (65535 : Int64)) * (65535 : Int64)).toInt32))), .unset, .unset, .unset, .unset, .unset, .unset] [])) (Q0 Z p1 p2 p3 p4 q5 p6 h0 n0) room_1.cells room_1.slots
          have j58 : ∀ (Tj58 : State) (Lj58 : List Loc) (Xj58 : Stand p l e room_1 s m #[(.int p1), (.int p2), (.int p3), (.int p4), (.long q5), (.int p6)] below meth c Tj58 Lj58 0 0) (ej58 : Tj58.heap = h0) (Nj58 : Fr n0 Lj58) (hd1 : Int32) (hh1 : ¬ hd1 < (1 : Int32) ∧ ¬ (65535 : Int32) < hd1), own_law p1 p2 p3 p4 q5 p6 = own_law_58 p1 p2 p3 p4 q5 p6 id1 id2 r1 r2 hd1 → own_End p e below s (Tj58.setTop (mkF m 58 #[.val (.int p1), .val (.int p2), .val (.int p3), .val (.int p4), .val (.long q5), .second, .val (.int p6), .val (.int id1), .val (.int id2), .val (.int r1), .val (.int r2), .val (.int hd1), .unset, .unset, .unset, .unset, .unset, .unset] [])) (Q0 Z p1 p2 p3 p4 q5 p6 h0 n0) room_1.cells room_1.slots := by
            intro Tj58 Lj58 Xj58 ej58 Nj58 hd1 hh1 hj
            refine own_pre (A := Tj58.setTop (mkF m 76 #[.val (.int p1), .val (.int p2), .val (.int p3), .val (.int p4), .val (.long q5), .second, .val (.int p6), .val (.int id1), .val (.int id2), .val (.int r1), .val (.int r2), .val (.int hd1), .val (.int ((1 : Int32) + (((((q5.toUInt64 >>> ((48 : Int32) &&& 0x3f).toInt64.toUInt64).toInt64) &&& (65535 : Int64)) - ((((q5.toUInt64 >>> ((48 : Int32) &&& 0x3f).toInt64.toUInt64).toInt64) &&& (65535 : Int64)) / (65535 : Int64)) * (65535 : Int64)).toInt32))), .unset, .unset, .unset, .unset, .unset] [])) (fun tt kt => ?_) ?_
            · show Steps p.tables e below (Tj58.setTop (mkF m 58 #[.val (.int p1), .val (.int p2), .val (.int p3), .val (.int p4), .val (.long q5), .second, .val (.int p6), .val (.int id1), .val (.int id2), .val (.int r1), .val (.int r2), .val (.int hd1), .unset, .unset, .unset, .unset, .unset, .unset] [])) _
              refine XS.iconst Xj58.here hx rfl (hb hby at_58) ?_
              refine XS.lload Xj58.here hx rfl (hb hby at_59) rfl ?_
              refine XS.bipush Xj58.here hx rfl (hb hby at_61) ?_
              refine XS.lushr Xj58.here hx rfl (hb hby at_63) rfl ?_
              show Steps p.tables e below (Tj58.setTop (mkF m 64 #[.val (.int p1), .val (.int p2), .val (.int p3), .val (.int p4), .val (.long q5), .second, .val (.int p6), .val (.int id1), .val (.int id2), .val (.int r1), .val (.int r2), .val (.int hd1), .unset, .unset, .unset, .unset, .unset, .unset] [(.long ((q5.toUInt64 >>> ((48 : Int32) &&& 0x3f).toInt64.toUInt64).toInt64)), (.int (1 : Int32))])) _
              refine Xj58.ldc2Long hx hown (mvT hZ (hw _ (List.mem_of_getElem? (i := 2) rfl))) (g := (mkF m 64 #[.val (.int p1), .val (.int p2), .val (.int p3), .val (.int p4), .val (.long q5), .second, .val (.int p6), .val (.int id1), .val (.int id2), .val (.int r1), .val (.int r2), .val (.int hd1), .unset, .unset, .unset, .unset, .unset, .unset] [(.long ((q5.toUInt64 >>> ((48 : Int32) &&& 0x3f).toInt64.toUInt64).toInt64)), (.int (1 : Int32))])) rfl (hb hby at_64) _ ?_
              show Steps p.tables e below (Tj58.setTop (mkF m 67 #[.val (.int p1), .val (.int p2), .val (.int p3), .val (.int p4), .val (.long q5), .second, .val (.int p6), .val (.int id1), .val (.int id2), .val (.int r1), .val (.int r2), .val (.int hd1), .unset, .unset, .unset, .unset, .unset, .unset] [(.long (65535 : Int64)), (.long ((q5.toUInt64 >>> ((48 : Int32) &&& 0x3f).toInt64.toUInt64).toInt64)), (.int (1 : Int32))])) _
              refine XS.land Xj58.here hx rfl (hb hby at_67) rfl ?_
              show Steps p.tables e below (Tj58.setTop (mkF m 68 #[.val (.int p1), .val (.int p2), .val (.int p3), .val (.int p4), .val (.long q5), .second, .val (.int p6), .val (.int id1), .val (.int id2), .val (.int r1), .val (.int r2), .val (.int hd1), .unset, .unset, .unset, .unset, .unset, .unset] [(.long (((q5.toUInt64 >>> ((48 : Int32) &&& 0x3f).toInt64.toUInt64).toInt64) &&& (65535 : Int64))), (.int (1 : Int32))])) _
              refine Xj58.ldc2Long hx hown (mvT hZ (hw _ (List.mem_of_getElem? (i := 2) rfl))) (g := (mkF m 68 #[.val (.int p1), .val (.int p2), .val (.int p3), .val (.int p4), .val (.long q5), .second, .val (.int p6), .val (.int id1), .val (.int id2), .val (.int r1), .val (.int r2), .val (.int hd1), .unset, .unset, .unset, .unset, .unset, .unset] [(.long (((q5.toUInt64 >>> ((48 : Int32) &&& 0x3f).toInt64.toUInt64).toInt64) &&& (65535 : Int64))), (.int (1 : Int32))])) rfl (hb hby at_68) _ ?_
              show Steps p.tables e below (Tj58.setTop (mkF m 71 #[.val (.int p1), .val (.int p2), .val (.int p3), .val (.int p4), .val (.long q5), .second, .val (.int p6), .val (.int id1), .val (.int id2), .val (.int r1), .val (.int r2), .val (.int hd1), .unset, .unset, .unset, .unset, .unset, .unset] [(.long (65535 : Int64)), (.long (((q5.toUInt64 >>> ((48 : Int32) &&& 0x3f).toInt64.toUInt64).toInt64) &&& (65535 : Int64))), (.int (1 : Int32))])) _
              refine XS.lrem Xj58.here hx rfl (hb hby at_71) rfl (by decide : ¬ ((65535 : Int64) = (0 : Int64))) ?_
              refine XS.l2i Xj58.here hx rfl (hb hby at_72) rfl ?_
              refine XS.iadd Xj58.here hx rfl (hb hby at_73) rfl ?_
              refine XS.istore Xj58.here hx rfl (hb hby at_74) rfl (l' := #[.val (.int p1), .val (.int p2), .val (.int p3), .val (.int p4), .val (.long q5), .second, .val (.int p6), .val (.int id1), .val (.int id2), .val (.int r1), .val (.int r2), .val (.int hd1), .val (.int ((1 : Int32) + (((((q5.toUInt64 >>> ((48 : Int32) &&& 0x3f).toInt64.toUInt64).toInt64) &&& (65535 : Int64)) - ((((q5.toUInt64 >>> ((48 : Int32) &&& 0x3f).toInt64.toUInt64).toInt64) &&& (65535 : Int64)) / (65535 : Int64)) * (65535 : Int64)).toInt32))), .unset, .unset, .unset, .unset, .unset]) rfl ?_
              exact kt
            show own_End p e below s (Tj58.setTop (mkF m 76 #[.val (.int p1), .val (.int p2), .val (.int p3), .val (.int p4), .val (.long q5), .second, .val (.int p6), .val (.int id1), .val (.int id2), .val (.int r1), .val (.int r2), .val (.int hd1), .val (.int ((1 : Int32) + (((((q5.toUInt64 >>> ((48 : Int32) &&& 0x3f).toInt64.toUInt64).toInt64) &&& (65535 : Int64)) - ((((q5.toUInt64 >>> ((48 : Int32) &&& 0x3f).toInt64.toUInt64).toInt64) &&& (65535 : Int64)) / (65535 : Int64)) * (65535 : Int64)).toInt32))), .unset, .unset, .unset, .unset, .unset] [])) (Q0 Z p1 p2 p3 p4 q5 p6 h0 n0) room_1.cells room_1.slots
            have j76 : ∀ (Tj76 : State) (Lj76 : List Loc) (Xj76 : Stand p l e room_1 s m #[(.int p1), (.int p2), (.int p3), (.int p4), (.long q5), (.int p6)] below meth c Tj76 Lj76 0 0) (ej76 : Tj76.heap = h0) (Nj76 : Fr n0 Lj76) (hd2 : Int32) (hh2 : ¬ hd2 < (1 : Int32) ∧ ¬ (65535 : Int32) < hd2), own_law p1 p2 p3 p4 q5 p6 = own_law_76 p1 p2 p3 p4 q5 p6 id1 id2 r1 r2 hd1 hd2 → own_End p e below s (Tj76.setTop (mkF m 76 #[.val (.int p1), .val (.int p2), .val (.int p3), .val (.int p4), .val (.long q5), .second, .val (.int p6), .val (.int id1), .val (.int id2), .val (.int r1), .val (.int r2), .val (.int hd1), .val (.int hd2), .unset, .unset, .unset, .unset, .unset] [])) (Q0 Z p1 p2 p3 p4 q5 p6 h0 n0) room_1.cells room_1.slots := by
              intro Tj76 Lj76 Xj76 ej76 Nj76 hd2 hh2 hj
              refine own_pre (A := Tj76.setTop (mkF m 85 #[.val (.int p1), .val (.int p2), .val (.int p3), .val (.int p4), .val (.long q5), .second, .val (.int p6), .val (.int id1), .val (.int id2), .val (.int r1), .val (.int r2), .val (.int hd1), .val (.int hd2), .val (.int ((1 : Int32) + (p6 &&& (2147483646 : Int32)))), .unset, .unset, .unset, .unset] [])) (fun tt kt => ?_) ?_
              · show Steps p.tables e below (Tj76.setTop (mkF m 76 #[.val (.int p1), .val (.int p2), .val (.int p3), .val (.int p4), .val (.long q5), .second, .val (.int p6), .val (.int id1), .val (.int id2), .val (.int r1), .val (.int r2), .val (.int hd1), .val (.int hd2), .unset, .unset, .unset, .unset, .unset] [])) _
                refine XS.iconst Xj76.here hx rfl (hb hby at_76) ?_
                refine XS.iload Xj76.here hx rfl (hb hby at_77) rfl ?_
                show Steps p.tables e below (Tj76.setTop (mkF m 79 #[.val (.int p1), .val (.int p2), .val (.int p3), .val (.int p4), .val (.long q5), .second, .val (.int p6), .val (.int id1), .val (.int id2), .val (.int r1), .val (.int r2), .val (.int hd1), .val (.int hd2), .unset, .unset, .unset, .unset, .unset] [(.int p6), (.int (1 : Int32))])) _
                refine Xj76.ldcInt hx hown (mvT hZ (hw _ (List.mem_of_getElem? (i := 3) rfl))) (g := (mkF m 79 #[.val (.int p1), .val (.int p2), .val (.int p3), .val (.int p4), .val (.long q5), .second, .val (.int p6), .val (.int id1), .val (.int id2), .val (.int r1), .val (.int r2), .val (.int hd1), .val (.int hd2), .unset, .unset, .unset, .unset, .unset] [(.int p6), (.int (1 : Int32))])) rfl (hb hby at_79) _ ?_
                show Steps p.tables e below (Tj76.setTop (mkF m 81 #[.val (.int p1), .val (.int p2), .val (.int p3), .val (.int p4), .val (.long q5), .second, .val (.int p6), .val (.int id1), .val (.int id2), .val (.int r1), .val (.int r2), .val (.int hd1), .val (.int hd2), .unset, .unset, .unset, .unset, .unset] [(.int (2147483646 : Int32)), (.int p6), (.int (1 : Int32))])) _
                refine XS.iand Xj76.here hx rfl (hb hby at_81) rfl ?_
                refine XS.iadd Xj76.here hx rfl (hb hby at_82) rfl ?_
                refine XS.istore Xj76.here hx rfl (hb hby at_83) rfl (l' := #[.val (.int p1), .val (.int p2), .val (.int p3), .val (.int p4), .val (.long q5), .second, .val (.int p6), .val (.int id1), .val (.int id2), .val (.int r1), .val (.int r2), .val (.int hd1), .val (.int hd2), .val (.int ((1 : Int32) + (p6 &&& (2147483646 : Int32)))), .unset, .unset, .unset, .unset]) rfl ?_
                exact kt
              show own_End p e below s (Tj76.setTop (mkF m 85 #[.val (.int p1), .val (.int p2), .val (.int p3), .val (.int p4), .val (.long q5), .second, .val (.int p6), .val (.int id1), .val (.int id2), .val (.int r1), .val (.int r2), .val (.int hd1), .val (.int hd2), .val (.int ((1 : Int32) + (p6 &&& (2147483646 : Int32)))), .unset, .unset, .unset, .unset] [])) (Q0 Z p1 p2 p3 p4 q5 p6 h0 n0) room_1.cells room_1.slots
              have j85 : ∀ (Tj85 : State) (Lj85 : List Loc) (Xj85 : Stand p l e room_1 s m #[(.int p1), (.int p2), (.int p3), (.int p4), (.long q5), (.int p6)] below meth c Tj85 Lj85 0 0) (ej85 : Tj85.heap = h0) (Nj85 : Fr n0 Lj85) (sd : Int32) (hsd : ¬ sd < (1 : Int32)), own_law p1 p2 p3 p4 q5 p6 = own_law_85 p1 p2 p3 p4 q5 p6 id1 id2 r1 r2 hd1 hd2 sd → own_End p e below s (Tj85.setTop (mkF m 85 #[.val (.int p1), .val (.int p2), .val (.int p3), .val (.int p4), .val (.long q5), .second, .val (.int p6), .val (.int id1), .val (.int id2), .val (.int r1), .val (.int r2), .val (.int hd1), .val (.int hd2), .val (.int sd), .unset, .unset, .unset, .unset] [])) (Q0 Z p1 p2 p3 p4 q5 p6 h0 n0) room_1.cells room_1.slots := by
                intro Tj85 Lj85 Xj85 ej85 Nj85 sd hsd hj
                obtain ⟨T1, h1, X1, e1, E1, A1, D1, -, st1⟩ := newO Xj85 hx hZ hown (hw _ (List.mem_of_getElem? (i := 4) rfl)) (hw _ (List.mem_of_getElem? (i := 5) rfl)) (hw _ (List.mem_of_getElem? (i := 6) rfl)) ej85 (g := (mkF m 85 #[.val (.int p1), .val (.int p2), .val (.int p3), .val (.int p4), .val (.long q5), .second, .val (.int p6), .val (.int id1), .val (.int id2), .val (.int r1), .val (.int r2), .val (.int hd1), .val (.int hd2), .val (.int sd), .unset, .unset, .unset, .unset] [])) rfl (hb hby at_85) (by decide) (by decide)
                obtain ⟨b1, g1⟩ : ∃ z, z = h0.size := ⟨_, rfl⟩
                rw [← g1] at A1 D1 st1
                have g_b1 : n0 ≤ b1 := Nat.le_trans Z0 (Nat.le_of_eq g1.symm)
                have sz_b1 : h0.size ≤ b1 := Nat.le_trans (show Keep h0 h0 [] from (Keep.refl h0 _)).1 (Nat.le_of_eq g1.symm)
                have K1 : Keep h0 h1 [] := Keep.ext (Keep.refl h0 _) E1
                have Z1 : n0 ≤ h1.size := Nat.le_trans Z0 E1.1
                have F_ids_b1 : Fld Z h1 b1 "com/example/atoll/atoll/detect/Beacon$Builder" "ids" "[I" .null := D1 (Or.inr (hw _ (List.mem_of_getElem? (i := 15) rfl))) (ty := (.array .int)) (by decide)
                have F_incarnations_b1 : Fld Z h1 b1 "com/example/atoll/atoll/detect/Beacon$Builder" "incarnations" "[I" .null := D1 (Or.inr (hw _ (List.mem_of_getElem? (i := 17) rfl))) (ty := (.array .int)) (by decide)
                have F_rounds_b1 : Fld Z h1 b1 "com/example/atoll/atoll/detect/Beacon$Builder" "rounds" "[I" .null := D1 (Or.inr (hw _ (List.mem_of_getElem? (i := 19) rfl))) (ty := (.array .int)) (by decide)
                have F_heard_b1 : Fld Z h1 b1 "com/example/atoll/atoll/detect/Beacon$Builder" "heard" "[I" .null := D1 (Or.inr (hw _ (List.mem_of_getElem? (i := 21) rfl))) (ty := (.array .int)) (by decide)
                have F_count_b1 : Fld Z h1 b1 "com/example/atoll/atoll/detect/Beacon$Builder" "count" "I" (.int (0 : Int32)) := D1 (Or.inl (hw _ (List.mem_of_getElem? (i := 28) rfl))) (ty := .int) (by decide)
                obtain ⟨_, _, ⟨T2, L2, k2, n2⟩, -, X2, ⟨Lc2, hQ2, l2, y2, z2⟩, st2⟩ := X1.specialBack hx (y := (⟨"com/example/atoll/atoll/detect/Beacon$Builder", "<init>", "(I)V"⟩ : MethodName)) rfl hown (mvT hZ (hw _ (List.mem_of_getElem? (i := 7) rfl))) (mvT hZ (hw _ (List.mem_of_getElem? (i := 8) rfl))) (mvT hZ (hw _ (List.mem_of_getElem? (i := 9) rfl))) (by decide) (backOf (W := 1) (rm1 l Z a0 hw [] b1 (0 : Int32) h1 n0 Z1 ⟨A1, F_ids_b1, F_incarnations_b1, F_rounds_b1, F_heard_b1, F_count_b1⟩ g_b1) hZ (hw _ (List.mem_of_getElem? (i := 9) rfl)) (hw _ (List.mem_of_getElem? (i := 6) rfl)) (by decide) (by decide)) (g := (mkF m 90 #[.val (.int p1), .val (.int p2), .val (.int p3), .val (.int p4), .val (.long q5), .second, .val (.int p6), .val (.int id1), .val (.int id2), .val (.int r1), .val (.int r2), .val (.int hd1), .val (.int hd2), .val (.int sd), .unset, .unset, .unset, .unset] [(.int (2 : Int32)), (.ref b1), (.ref b1)])) rfl (by rw [hml]; rfl) (Steps.refl _) (a := b1) (argsL := [(.int (2 : Int32))]) (rest := [(.ref b1)]) (lenOf pd_0_0 rfl) rfl (by show 2 * 0 + _ ≤ _; exact Nat.le_of_eq rfl) (hb hby at_90) (fun _ _ => ⟨rfl, e1, (by decide : 1 + 4 ≤ _), (by decide : 5 + 8 ≤ _)⟩)
                dsimp only [Pt.U, Pt.locs, Pt.cells, Pt.slots] at X2 l2 y2 z2 st2 hQ2
                subst l2 y2 z2
                obtain ⟨rfl, N2q, c2_xi, c2_xn, c2_xr, c2_xh, Kq2, O2_0, szq_c2_xi, P2_xi_0, szq_c2_xn, P2_xn_0, szq_c2_xr, P2_xr_0, szq_c2_xh, P2_xh_0, ne_c2_xi_c2_xn, ne_c2_xi_c2_xr, ne_c2_xi_c2_xh, ne_c2_xn_c2_xr, ne_c2_xn_c2_xh, ne_c2_xr_c2_xh⟩ := hQ2
                have ne_b1_c2_xi : b1 ≠ c2_xi := Nat.ne_of_lt (Nat.lt_of_lt_of_le A1.lt szq_c2_xi)
                have g_c2_xi : n0 ≤ c2_xi := Nat.le_trans Z1 szq_c2_xi
                have sz_c2_xi : h0.size ≤ c2_xi := Nat.le_trans (show Keep h0 h1 [] from K1).1 szq_c2_xi
                have ne_b1_c2_xn : b1 ≠ c2_xn := Nat.ne_of_lt (Nat.lt_of_lt_of_le A1.lt szq_c2_xn)
                have g_c2_xn : n0 ≤ c2_xn := Nat.le_trans Z1 szq_c2_xn
                have sz_c2_xn : h0.size ≤ c2_xn := Nat.le_trans (show Keep h0 h1 [] from K1).1 szq_c2_xn
                have ne_b1_c2_xr : b1 ≠ c2_xr := Nat.ne_of_lt (Nat.lt_of_lt_of_le A1.lt szq_c2_xr)
                have g_c2_xr : n0 ≤ c2_xr := Nat.le_trans Z1 szq_c2_xr
                have sz_c2_xr : h0.size ≤ c2_xr := Nat.le_trans (show Keep h0 h1 [] from K1).1 szq_c2_xr
                have ne_b1_c2_xh : b1 ≠ c2_xh := Nat.ne_of_lt (Nat.lt_of_lt_of_le A1.lt szq_c2_xh)
                have g_c2_xh : n0 ≤ c2_xh := Nat.le_trans Z1 szq_c2_xh
                have sz_c2_xh : h0.size ≤ c2_xh := Nat.le_trans (show Keep h0 h1 [] from K1).1 szq_c2_xh
                have N2 := Fr.app Nj85 N2q
                have fE_b1_x2 := (A1.keep Kq2)
                have K2 : Keep h0 T2.heap [] := Keep.trans K1 Kq2 (allS (Or.inr sz_b1) all0)
                have Z2 : n0 ≤ T2.heap.size := Nat.le_trans Z1 Kq2.1
                obtain ⟨E_b1_3, F_ids_b1_4, F_incarnations_b1_5, F_rounds_b1_6, F_heard_b1_7, F_count_b1_8⟩ := O2_0
                obtain ⟨cq9, kq9, q9a, q9b, q9c⟩ := isOf hZ rfl E_b1_3
                obtain ⟨_, _, ⟨T9, L9, k9, n9⟩, -, X9, ⟨Lc9, hQ9, l9, y9, z9⟩, st9⟩ := X2.virtualBack hx (y := (⟨"com/example/atoll/atoll/detect/Beacon$Builder", "add", "(IIII)V"⟩ : MethodName)) (z := (⟨"com/example/atoll/atoll/detect/Beacon$Builder", "add", "(IIII)V"⟩ : MethodName)) hown (mvT hZ (hw _ (List.mem_of_getElem? (i := 22) rfl))) (mvT hZ (hw _ (List.mem_of_getElem? (i := 23) rfl))) (notFace_of_selects (args := #[]) (mvT hZ (hw _ (List.mem_of_getElem? (i := 25) rfl)))) (mvT hZ (hw _ (List.mem_of_getElem? (i := 25) rfl))) (mvT hZ (hw _ (List.mem_of_getElem? (i := 24) rfl))) (by decide) (backOf (W := 0) (rm3 l Z a0 hw [] b1 id1 p3 r1 hd1 c2_xi c2_xn c2_xr c2_xh (0 : Int32) (fun _ => (0 : Int32)) (fun _ => (0 : Int32)) (fun _ => (0 : Int32)) (fun _ => (0 : Int32)) T2.heap n0 Z2 ⟨E_b1_3, F_ids_b1_4, F_incarnations_b1_5, F_rounds_b1_6, F_heard_b1_7, F_count_b1_8⟩ P2_xi_0 P2_xn_0 P2_xr_0 P2_xh_0 ne_b1_c2_xi ne_b1_c2_xn ne_b1_c2_xr ne_b1_c2_xh ne_c2_xi_c2_xn ne_c2_xi_c2_xr ne_c2_xi_c2_xh ne_c2_xn_c2_xr ne_c2_xn_c2_xh ne_c2_xr_c2_xh g_b1 g_c2_xi g_c2_xn g_c2_xr g_c2_xh (by decide) (by decide)) hZ (hw _ (List.mem_of_getElem? (i := 26) rfl)) (hw _ (List.mem_of_getElem? (i := 6) rfl)) (by decide) (by decide)) q9a q9c (g := (mkF m 104 #[.val (.int p1), .val (.int p2), .val (.int p3), .val (.int p4), .val (.long q5), .second, .val (.int p6), .val (.int id1), .val (.int id2), .val (.int r1), .val (.int r2), .val (.int hd1), .val (.int hd2), .val (.int sd), .val (.ref b1), .unset, .unset, .unset] [(.int hd1), (.int r1), (.int p3), (.int id1), (.ref b1)])) rfl (by rw [hml]; rfl) (Steps.refl _) (argsL := [(.int id1), (.int p3), (.int r1), (.int hd1)]) (rest := []) (lenOf pd_0_1 rfl) rfl (by show 2 * 0 + _ ≤ _; exact Nat.le_of_eq rfl) (hb hby at_104) (fun _ _ => ⟨rfl, rfl, (by decide : 5 + 0 ≤ _), (by decide : 13 + 0 ≤ _)⟩)
                dsimp only [Pt.U, Pt.locs, Pt.cells, Pt.slots] at X9 l9 y9 z9 st9 hQ9
                subst l9 y9 z9
                obtain ⟨rfl, N9q, Kq9, O9_0, V9_0, V9_1, V9_2, V9_3⟩ := hQ9
                have N9 := Fr.app N2 N9q
                have fE_b1_x9 := (E_b1_3.keep Kq9)
                have K9 : Keep h0 T9.heap [] := Keep.trans K2 Kq9 (allS (Or.inr sz_b1) (allS (Or.inr sz_c2_xi) (allS (Or.inr sz_c2_xn) (allS (Or.inr sz_c2_xr) (allS (Or.inr sz_c2_xh) all0)))))
                have Z9 : n0 ≤ T9.heap.size := Nat.le_trans Z2 Kq9.1
                obtain ⟨E_b1_10, F_ids_b1_11, F_incarnations_b1_12, F_rounds_b1_13, F_heard_b1_14, F_count_b1_15⟩ := O9_0
                obtain ⟨cq16, kq16, q16a, q16b, q16c⟩ := isOf hZ rfl E_b1_10
                obtain ⟨_, _, ⟨T16, L16, k16, n16⟩, -, X16, ⟨Lc16, hQ16, l16, y16, z16⟩, st16⟩ := X9.virtualBack hx (y := (⟨"com/example/atoll/atoll/detect/Beacon$Builder", "add", "(IIII)V"⟩ : MethodName)) (z := (⟨"com/example/atoll/atoll/detect/Beacon$Builder", "add", "(IIII)V"⟩ : MethodName)) hown (mvT hZ (hw _ (List.mem_of_getElem? (i := 22) rfl))) (mvT hZ (hw _ (List.mem_of_getElem? (i := 23) rfl))) (notFace_of_selects (args := #[]) (mvT hZ (hw _ (List.mem_of_getElem? (i := 25) rfl)))) (mvT hZ (hw _ (List.mem_of_getElem? (i := 25) rfl))) (mvT hZ (hw _ (List.mem_of_getElem? (i := 24) rfl))) (by decide) (backOf (W := 0) (rm3 l Z a0 hw [] b1 id2 p4 r2 hd2 c2_xi c2_xn c2_xr c2_xh (1 : Int32) (own_put (fun _ => (0 : Int32)) (0 : Int32) id1) (own_put (fun _ => (0 : Int32)) (0 : Int32) p3) (own_put (fun _ => (0 : Int32)) (0 : Int32) r1) (own_put (fun _ => (0 : Int32)) (0 : Int32) hd1) T9.heap n0 Z9 ⟨E_b1_10, F_ids_b1_11, F_incarnations_b1_12, F_rounds_b1_13, F_heard_b1_14, F_count_b1_15⟩ V9_0 V9_1 V9_2 V9_3 ne_b1_c2_xi ne_b1_c2_xn ne_b1_c2_xr ne_b1_c2_xh ne_c2_xi_c2_xn ne_c2_xi_c2_xr ne_c2_xi_c2_xh ne_c2_xn_c2_xr ne_c2_xn_c2_xh ne_c2_xr_c2_xh g_b1 g_c2_xi g_c2_xn g_c2_xr g_c2_xh (by decide) (by decide)) hZ (hw _ (List.mem_of_getElem? (i := 26) rfl)) (hw _ (List.mem_of_getElem? (i := 6) rfl)) (by decide) (by decide)) q16a q16c (g := (mkF m 116 #[.val (.int p1), .val (.int p2), .val (.int p3), .val (.int p4), .val (.long q5), .second, .val (.int p6), .val (.int id1), .val (.int id2), .val (.int r1), .val (.int r2), .val (.int hd1), .val (.int hd2), .val (.int sd), .val (.ref b1), .unset, .unset, .unset] [(.int hd2), (.int r2), (.int p4), (.int id2), (.ref b1)])) rfl (by rw [hml]; rfl) (Steps.refl _) (argsL := [(.int id2), (.int p4), (.int r2), (.int hd2)]) (rest := []) (lenOf pd_0_1 rfl) rfl (by show 2 * 0 + _ ≤ _; exact Nat.le_of_eq rfl) (hb hby at_116) (fun _ _ => ⟨rfl, rfl, (by decide : 5 + 0 ≤ _), (by decide : 13 + 0 ≤ _)⟩)
                dsimp only [Pt.U, Pt.locs, Pt.cells, Pt.slots] at X16 l16 y16 z16 st16 hQ16
                subst l16 y16 z16
                obtain ⟨rfl, N16q, Kq16, O16_0, V16_0, V16_1, V16_2, V16_3⟩ := hQ16
                have N16 := Fr.app N9 N16q
                have fE_b1_x16 := (E_b1_10.keep Kq16)
                have K16 : Keep h0 T16.heap [] := Keep.trans K9 Kq16 (allS (Or.inr sz_b1) (allS (Or.inr sz_c2_xi) (allS (Or.inr sz_c2_xn) (allS (Or.inr sz_c2_xr) (allS (Or.inr sz_c2_xh) all0)))))
                have Z16 : n0 ≤ T16.heap.size := Nat.le_trans Z9 Kq16.1
                obtain ⟨E_b1_17, F_ids_b1_18, F_incarnations_b1_19, F_rounds_b1_20, F_heard_b1_21, F_count_b1_22⟩ := O16_0
                obtain ⟨cq23, kq23, q23a, q23b, q23c⟩ := isOf hZ rfl E_b1_17
                obtain ⟨_, _, ⟨T23, L23, k23, n23⟩, -, X23, ⟨Lc23, hQ23, l23, y23, z23⟩, st23⟩ := X16.virtualBack hx (y := (⟨"com/example/atoll/atoll/detect/Beacon$Builder", "sentBy", "(I)Lcom/example/atoll/atoll/detect/Beacon;"⟩ : MethodName)) (z := (⟨"com/example/atoll/atoll/detect/Beacon$Builder", "sentBy", "(I)Lcom/example/atoll/atoll/detect/Beacon;"⟩ : MethodName)) hown (mvT hZ (hw _ (List.mem_of_getElem? (i := 29) rfl))) (mvT hZ (hw _ (List.mem_of_getElem? (i := 30) rfl))) (notFace_of_selects (args := #[]) (mvT hZ (hw _ (List.mem_of_getElem? (i := 32) rfl)))) (mvT hZ (hw _ (List.mem_of_getElem? (i := 32) rfl))) (mvT hZ (hw _ (List.mem_of_getElem? (i := 31) rfl))) (by decide) (backOf (W := 0) (rm4 l Z a0 hw [] b1 sd c2_xi c2_xn c2_xr c2_xh (2 : Int32) (own_put (own_put (fun _ => (0 : Int32)) (0 : Int32) id1) (1 : Int32) id2) (own_put (own_put (fun _ => (0 : Int32)) (0 : Int32) p3) (1 : Int32) p4) (own_put (own_put (fun _ => (0 : Int32)) (0 : Int32) r1) (1 : Int32) r2) (own_put (own_put (fun _ => (0 : Int32)) (0 : Int32) hd1) (1 : Int32) hd2) T16.heap n0 Z16 ⟨E_b1_17, F_ids_b1_18, F_incarnations_b1_19, F_rounds_b1_20, F_heard_b1_21, F_count_b1_22⟩ V16_0 V16_1 V16_2 V16_3 hsd hi1 hr1.1 hr1.2 hh1.1 hh1.2 hi2 hr2.1 hr2.2 hh2.1 hh2.2 hi12) hZ (hw _ (List.mem_of_getElem? (i := 33) rfl)) (hw _ (List.mem_of_getElem? (i := 6) rfl)) (by decide) (by decide)) q23a q23c (g := (mkF m 123 #[.val (.int p1), .val (.int p2), .val (.int p3), .val (.int p4), .val (.long q5), .second, .val (.int p6), .val (.int id1), .val (.int id2), .val (.int r1), .val (.int r2), .val (.int hd1), .val (.int hd2), .val (.int sd), .val (.ref b1), .unset, .unset, .unset] [(.int sd), (.ref b1)])) rfl (by rw [hml]; rfl) (Steps.refl _) (argsL := [(.int sd)]) (rest := []) (lenOf pd_0_2 rfl) rfl (by show 2 * 0 + _ ≤ _; exact Nat.le_of_eq rfl) (hb hby at_123) (fun _ _ => ⟨rfl, rfl, (by decide : 5 + 1 ≤ _), (by decide : 13 + 5 ≤ _)⟩)
                dsimp only [Pt.U, Pt.locs, Pt.cells, Pt.slots] at X23 l23 y23 z23 st23 hQ23
                subst l23 y23 z23
                obtain ⟨c23_xb, rfl, N23q, Kq23, szq_c23_xb, P23_xb_0⟩ := hQ23
                have ne_b1_c23_xb : b1 ≠ c23_xb := Nat.ne_of_lt (Nat.lt_of_lt_of_le E_b1_17.lt szq_c23_xb)
                have ne_c2_xh_c23_xb : c2_xh ≠ c23_xb := Nat.ne_of_lt (Nat.lt_of_lt_of_le V16_3.lt szq_c23_xb)
                have ne_c2_xi_c23_xb : c2_xi ≠ c23_xb := Nat.ne_of_lt (Nat.lt_of_lt_of_le V16_0.lt szq_c23_xb)
                have ne_c2_xn_c23_xb : c2_xn ≠ c23_xb := Nat.ne_of_lt (Nat.lt_of_lt_of_le V16_1.lt szq_c23_xb)
                have ne_c2_xr_c23_xb : c2_xr ≠ c23_xb := Nat.ne_of_lt (Nat.lt_of_lt_of_le V16_2.lt szq_c23_xb)
                have g_c23_xb : n0 ≤ c23_xb := Nat.le_trans Z16 szq_c23_xb
                have sz_c23_xb : h0.size ≤ c23_xb := Nat.le_trans (show Keep h0 T16.heap [] from K16).1 szq_c23_xb
                have N23 := Fr.app N16 N23q
                have fE_b1_x23 := (E_b1_17.keep Kq23)
                have fF_b1_ids_x23 := (F_ids_b1_18.keep Kq23 nin0)
                have fF_b1_incarnations_x23 := (F_incarnations_b1_19.keep Kq23 nin0)
                have fF_b1_rounds_x23 := (F_rounds_b1_20.keep Kq23 nin0)
                have fF_b1_heard_x23 := (F_heard_b1_21.keep Kq23 nin0)
                have fF_b1_count_x23 := (F_count_b1_22.keep Kq23 nin0)
                have fA_c2_xi_x23 := (V16_0.keep Kq23 nin0)
                have fA_c2_xn_x23 := (V16_1.keep Kq23 nin0)
                have fA_c2_xr_x23 := (V16_2.keep Kq23 nin0)
                have fA_c2_xh_x23 := (V16_3.keep Kq23 nin0)
                have K23 : Keep h0 T23.heap [] := Keep.trans K16 Kq23 all0
                have Z23 : n0 ≤ T23.heap.size := Nat.le_trans Z16 Kq23.1
                obtain ⟨E_c23_xb_24, F_sender_c23_xb_25, F_ids_c23_xb_26, F_incarnations_c23_xb_27, F_rounds_c23_xb_28, F_heard_c23_xb_29⟩ := P23_xb_0
                obtain ⟨cq30, kq30, q30a, q30b, q30c⟩ := isOf hZ rfl E_c23_xb_24
                obtain ⟨_, _, ⟨T30, L30, k30, n30⟩, -, X30, ⟨Lc30, hQ30, l30, y30, z30⟩, st30⟩ := X23.virtualBack hx (y := (⟨"com/example/atoll/atoll/detect/Beacon", "id", "(I)I"⟩ : MethodName)) (z := (⟨"com/example/atoll/atoll/detect/Beacon", "id", "(I)I"⟩ : MethodName)) hown (mvT hZ (hw _ (List.mem_of_getElem? (i := 61) rfl))) (mvT hZ (hw _ (List.mem_of_getElem? (i := 62) rfl))) (notFace_of_selects (args := #[]) (mvT hZ (hw _ (List.mem_of_getElem? (i := 64) rfl)))) (mvT hZ (hw _ (List.mem_of_getElem? (i := 64) rfl))) (mvT hZ (hw _ (List.mem_of_getElem? (i := 63) rfl))) (by decide) (backOf (W := 0) (rm8 l Z a0 hw [] c23_xb (0 : Int32) sd c2_xi c2_xn c2_xr c2_xh (own_put (own_put (fun _ => (0 : Int32)) (0 : Int32) id1) (1 : Int32) id2) T23.heap n0 Z23 ⟨E_c23_xb_24, F_sender_c23_xb_25, F_ids_c23_xb_26, F_incarnations_c23_xb_27, F_rounds_c23_xb_28, F_heard_c23_xb_29⟩ fA_c2_xi_x23 ⟨by decide, by decide⟩) hZ (hw _ (List.mem_of_getElem? (i := 65) rfl)) (hw _ (List.mem_of_getElem? (i := 36) rfl)) (by decide) (by decide)) q30a q30c (g := (mkF m 131 #[.val (.int p1), .val (.int p2), .val (.int p3), .val (.int p4), .val (.long q5), .second, .val (.int p6), .val (.int id1), .val (.int id2), .val (.int r1), .val (.int r2), .val (.int hd1), .val (.int hd2), .val (.int sd), .val (.ref b1), .val (.ref c23_xb), .unset, .unset] [(.int (0 : Int32)), (.ref c23_xb)])) rfl (by rw [hml]; rfl) (Steps.refl _) (argsL := [(.int (0 : Int32))]) (rest := []) (lenOf pd_0_3 rfl) rfl (by show 2 * 0 + _ ≤ _; exact Nat.le_of_eq rfl) (hb hby at_131) (fun _ _ => ⟨rfl, rfl, (by decide : 6 + 0 ≤ _), (by decide : 18 + 0 ≤ _)⟩)
                dsimp only [Pt.U, Pt.locs, Pt.cells, Pt.slots] at X30 l30 y30 z30 st30 hQ30
                subst l30 y30 z30
                obtain ⟨rfl, N30q, e30⟩ := hQ30
                have N30 := Fr.app N23 N30q
                refine own_pre (A := T30.setTop (mkF m 136 #[.val (.int p1), .val (.int p2), .val (.int p3), .val (.int p4), .val (.long q5), .second, .val (.int p6), .val (.int id1), .val (.int id2), .val (.int r1), .val (.int r2), .val (.int hd1), .val (.int hd2), .val (.int sd), .val (.ref b1), .val (.ref c23_xb), .unset, .unset] [(.int id1), (.int ((own_put (own_put (fun _ => (0 : Int32)) (0 : Int32) id1) (1 : Int32) id2) (0 : Int32).toNatClampNeg))])) (fun tt kt => ?_) ?_
                · show Steps p.tables e below (Tj85.setTop (mkF m 85 #[.val (.int p1), .val (.int p2), .val (.int p3), .val (.int p4), .val (.long q5), .second, .val (.int p6), .val (.int id1), .val (.int id2), .val (.int r1), .val (.int r2), .val (.int hd1), .val (.int hd2), .val (.int sd), .unset, .unset, .unset, .unset] [])) _
                  refine st1 _ ?_
                  show Steps p.tables e below (T1.setTop (mkF m 88 #[.val (.int p1), .val (.int p2), .val (.int p3), .val (.int p4), .val (.long q5), .second, .val (.int p6), .val (.int id1), .val (.int id2), .val (.int r1), .val (.int r2), .val (.int hd1), .val (.int hd2), .val (.int sd), .unset, .unset, .unset, .unset] [(.ref b1)])) _
                  refine XS.dup X1.here hx rfl (hb hby at_88) rfl rfl ?_
                  refine XS.iconst X1.here hx rfl (hb hby at_89) ?_
                  show Steps p.tables e below (T1.setTop (mkF m 90 #[.val (.int p1), .val (.int p2), .val (.int p3), .val (.int p4), .val (.long q5), .second, .val (.int p6), .val (.int id1), .val (.int id2), .val (.int r1), .val (.int r2), .val (.int hd1), .val (.int hd2), .val (.int sd), .unset, .unset, .unset, .unset] [(.int (2 : Int32)), (.ref b1), (.ref b1)])) _
                  refine st2.trans ?_
                  show Steps p.tables e below (T2.setTop (mkF m 93 #[.val (.int p1), .val (.int p2), .val (.int p3), .val (.int p4), .val (.long q5), .second, .val (.int p6), .val (.int id1), .val (.int id2), .val (.int r1), .val (.int r2), .val (.int hd1), .val (.int hd2), .val (.int sd), .unset, .unset, .unset, .unset] [(.ref b1)])) _
                  refine XS.astore X2.here hx rfl (hb hby at_93) rfl rfl (l' := #[.val (.int p1), .val (.int p2), .val (.int p3), .val (.int p4), .val (.long q5), .second, .val (.int p6), .val (.int id1), .val (.int id2), .val (.int r1), .val (.int r2), .val (.int hd1), .val (.int hd2), .val (.int sd), .val (.ref b1), .unset, .unset, .unset]) rfl ?_
                  refine XS.aload X2.here hx rfl (hb hby at_95) rfl rfl ?_
                  refine XS.iload X2.here hx rfl (hb hby at_97) rfl ?_
                  refine XS.iloadN X2.here hx rfl (hb hby at_99) rfl ?_
                  show Steps p.tables e below (T2.setTop (mkF m 100 #[.val (.int p1), .val (.int p2), .val (.int p3), .val (.int p4), .val (.long q5), .second, .val (.int p6), .val (.int id1), .val (.int id2), .val (.int r1), .val (.int r2), .val (.int hd1), .val (.int hd2), .val (.int sd), .val (.ref b1), .unset, .unset, .unset] [(.int p3), (.int id1), (.ref b1)])) _
                  refine XS.iload X2.here hx rfl (hb hby at_100) rfl ?_
                  refine XS.iload X2.here hx rfl (hb hby at_102) rfl ?_
                  show Steps p.tables e below (T2.setTop (mkF m 104 #[.val (.int p1), .val (.int p2), .val (.int p3), .val (.int p4), .val (.long q5), .second, .val (.int p6), .val (.int id1), .val (.int id2), .val (.int r1), .val (.int r2), .val (.int hd1), .val (.int hd2), .val (.int sd), .val (.ref b1), .unset, .unset, .unset] [(.int hd1), (.int r1), (.int p3), (.int id1), (.ref b1)])) _
                  refine st9.trans ?_
                  show Steps p.tables e below (T9.setTop (mkF m 107 #[.val (.int p1), .val (.int p2), .val (.int p3), .val (.int p4), .val (.long q5), .second, .val (.int p6), .val (.int id1), .val (.int id2), .val (.int r1), .val (.int r2), .val (.int hd1), .val (.int hd2), .val (.int sd), .val (.ref b1), .unset, .unset, .unset] [])) _
                  refine XS.aload X9.here hx rfl (hb hby at_107) rfl rfl ?_
                  refine XS.iload X9.here hx rfl (hb hby at_109) rfl ?_
                  refine XS.iloadN X9.here hx rfl (hb hby at_111) rfl ?_
                  refine XS.iload X9.here hx rfl (hb hby at_112) rfl ?_
                  show Steps p.tables e below (T9.setTop (mkF m 114 #[.val (.int p1), .val (.int p2), .val (.int p3), .val (.int p4), .val (.long q5), .second, .val (.int p6), .val (.int id1), .val (.int id2), .val (.int r1), .val (.int r2), .val (.int hd1), .val (.int hd2), .val (.int sd), .val (.ref b1), .unset, .unset, .unset] [(.int r2), (.int p4), (.int id2), (.ref b1)])) _
                  refine XS.iload X9.here hx rfl (hb hby at_114) rfl ?_
                  show Steps p.tables e below (T9.setTop (mkF m 116 #[.val (.int p1), .val (.int p2), .val (.int p3), .val (.int p4), .val (.long q5), .second, .val (.int p6), .val (.int id1), .val (.int id2), .val (.int r1), .val (.int r2), .val (.int hd1), .val (.int hd2), .val (.int sd), .val (.ref b1), .unset, .unset, .unset] [(.int hd2), (.int r2), (.int p4), (.int id2), (.ref b1)])) _
                  refine st16.trans ?_
                  show Steps p.tables e below (T16.setTop (mkF m 119 #[.val (.int p1), .val (.int p2), .val (.int p3), .val (.int p4), .val (.long q5), .second, .val (.int p6), .val (.int id1), .val (.int id2), .val (.int r1), .val (.int r2), .val (.int hd1), .val (.int hd2), .val (.int sd), .val (.ref b1), .unset, .unset, .unset] [])) _
                  refine XS.aload X16.here hx rfl (hb hby at_119) rfl rfl ?_
                  refine XS.iload X16.here hx rfl (hb hby at_121) rfl ?_
                  show Steps p.tables e below (T16.setTop (mkF m 123 #[.val (.int p1), .val (.int p2), .val (.int p3), .val (.int p4), .val (.long q5), .second, .val (.int p6), .val (.int id1), .val (.int id2), .val (.int r1), .val (.int r2), .val (.int hd1), .val (.int hd2), .val (.int sd), .val (.ref b1), .unset, .unset, .unset] [(.int sd), (.ref b1)])) _
                  refine st23.trans ?_
                  show Steps p.tables e below (T23.setTop (mkF m 126 #[.val (.int p1), .val (.int p2), .val (.int p3), .val (.int p4), .val (.long q5), .second, .val (.int p6), .val (.int id1), .val (.int id2), .val (.int r1), .val (.int r2), .val (.int hd1), .val (.int hd2), .val (.int sd), .val (.ref b1), .unset, .unset, .unset] [(.ref c23_xb)])) _
                  refine XS.astore X23.here hx rfl (hb hby at_126) rfl rfl (l' := #[.val (.int p1), .val (.int p2), .val (.int p3), .val (.int p4), .val (.long q5), .second, .val (.int p6), .val (.int id1), .val (.int id2), .val (.int r1), .val (.int r2), .val (.int hd1), .val (.int hd2), .val (.int sd), .val (.ref b1), .val (.ref c23_xb), .unset, .unset]) rfl ?_
                  refine XS.aload X23.here hx rfl (hb hby at_128) rfl rfl ?_
                  refine XS.iconst X23.here hx rfl (hb hby at_130) ?_
                  show Steps p.tables e below (T23.setTop (mkF m 131 #[.val (.int p1), .val (.int p2), .val (.int p3), .val (.int p4), .val (.long q5), .second, .val (.int p6), .val (.int id1), .val (.int id2), .val (.int r1), .val (.int r2), .val (.int hd1), .val (.int hd2), .val (.int sd), .val (.ref b1), .val (.ref c23_xb), .unset, .unset] [(.int (0 : Int32)), (.ref c23_xb)])) _
                  refine st30.trans ?_
                  show Steps p.tables e below (T30.setTop (mkF m 134 #[.val (.int p1), .val (.int p2), .val (.int p3), .val (.int p4), .val (.long q5), .second, .val (.int p6), .val (.int id1), .val (.int id2), .val (.int r1), .val (.int r2), .val (.int hd1), .val (.int hd2), .val (.int sd), .val (.ref b1), .val (.ref c23_xb), .unset, .unset] [(.int ((own_put (own_put (fun _ => (0 : Int32)) (0 : Int32) id1) (1 : Int32) id2) (0 : Int32).toNatClampNeg))])) _
                  refine XS.iload X30.here hx rfl (hb hby at_134) rfl ?_
                  exact kt
                show own_End p e below s (T30.setTop (mkF m 136 #[.val (.int p1), .val (.int p2), .val (.int p3), .val (.int p4), .val (.long q5), .second, .val (.int p6), .val (.int id1), .val (.int id2), .val (.int r1), .val (.int r2), .val (.int hd1), .val (.int hd2), .val (.int sd), .val (.ref b1), .val (.ref c23_xb), .unset, .unset] [(.int id1), (.int ((own_put (own_put (fun _ => (0 : Int32)) (0 : Int32) id1) (1 : Int32) id2) (0 : Int32).toNatClampNeg))])) (Q0 Z p1 p2 p3 p4 q5 p6 h0 n0) room_1.cells room_1.slots
                by_cases hc136_31 : ((own_put (own_put (fun _ => (0 : Int32)) (0 : Int32) id1) (1 : Int32) id2) (0 : Int32).toNatClampNeg) = id1
                · obtain ⟨cq32, kq32, q32a, q32b, q32c⟩ := isOf hZ e30 E_c23_xb_24
                  obtain ⟨_, _, ⟨T32, L32, k32, n32⟩, -, X32, ⟨Lc32, hQ32, l32, y32, z32⟩, st32⟩ := X30.virtualBack hx (y := (⟨"com/example/atoll/atoll/detect/Beacon", "incarnation", "(I)I"⟩ : MethodName)) (z := (⟨"com/example/atoll/atoll/detect/Beacon", "incarnation", "(I)I"⟩ : MethodName)) hown (mvT hZ (hw _ (List.mem_of_getElem? (i := 66) rfl))) (mvT hZ (hw _ (List.mem_of_getElem? (i := 67) rfl))) (notFace_of_selects (args := #[]) (mvT hZ (hw _ (List.mem_of_getElem? (i := 69) rfl)))) (mvT hZ (hw _ (List.mem_of_getElem? (i := 69) rfl))) (mvT hZ (hw _ (List.mem_of_getElem? (i := 68) rfl))) (by decide) (backOf (W := 0) (rm9 l Z a0 hw [] c23_xb (0 : Int32) sd c2_xi c2_xn c2_xr c2_xh (own_put (own_put (fun _ => (0 : Int32)) (0 : Int32) p3) (1 : Int32) p4) T23.heap n0 Z23 ⟨E_c23_xb_24, F_sender_c23_xb_25, F_ids_c23_xb_26, F_incarnations_c23_xb_27, F_rounds_c23_xb_28, F_heard_c23_xb_29⟩ fA_c2_xn_x23 ⟨by decide, by decide⟩) hZ (hw _ (List.mem_of_getElem? (i := 70) rfl)) (hw _ (List.mem_of_getElem? (i := 36) rfl)) (by decide) (by decide)) q32a q32c (g := (mkF m 142 #[.val (.int p1), .val (.int p2), .val (.int p3), .val (.int p4), .val (.long q5), .second, .val (.int p6), .val (.int id1), .val (.int id2), .val (.int r1), .val (.int r2), .val (.int hd1), .val (.int hd2), .val (.int sd), .val (.ref b1), .val (.ref c23_xb), .unset, .unset] [(.int (0 : Int32)), (.ref c23_xb)])) rfl (by rw [hml]; rfl) (Steps.refl _) (argsL := [(.int (0 : Int32))]) (rest := []) (lenOf pd_0_3 rfl) rfl (by show 2 * 0 + _ ≤ _; exact Nat.le_of_eq rfl) (hb hby at_142) (fun _ _ => ⟨rfl, e30, (by decide : 6 + 0 ≤ _), (by decide : 18 + 0 ≤ _)⟩)
                  dsimp only [Pt.U, Pt.locs, Pt.cells, Pt.slots] at X32 l32 y32 z32 st32 hQ32
                  subst l32 y32 z32
                  obtain ⟨rfl, N32q, e32⟩ := hQ32
                  have N32 := Fr.app N30 N32q
                  refine own_pre (A := T32.setTop (mkF m 146 #[.val (.int p1), .val (.int p2), .val (.int p3), .val (.int p4), .val (.long q5), .second, .val (.int p6), .val (.int id1), .val (.int id2), .val (.int r1), .val (.int r2), .val (.int hd1), .val (.int hd2), .val (.int sd), .val (.ref b1), .val (.ref c23_xb), .unset, .unset] [(.int p3), (.int ((own_put (own_put (fun _ => (0 : Int32)) (0 : Int32) p3) (1 : Int32) p4) (0 : Int32).toNatClampNeg))])) (fun tt kt => ?_) ?_
                  · show Steps p.tables e below (T30.setTop (mkF m 136 #[.val (.int p1), .val (.int p2), .val (.int p3), .val (.int p4), .val (.long q5), .second, .val (.int p6), .val (.int id1), .val (.int id2), .val (.int r1), .val (.int r2), .val (.int hd1), .val (.int hd2), .val (.int sd), .val (.ref b1), .val (.ref c23_xb), .unset, .unset] [(.int id1), (.int ((own_put (own_put (fun _ => (0 : Int32)) (0 : Int32) id1) (1 : Int32) id2) (0 : Int32).toNatClampNeg))])) _
                    refine XS.icmpNo X30.here hx rfl (hb hby at_136) rfl (teq hc136_31).2 ?_
                    refine XS.aload X30.here hx rfl (hb hby at_139) rfl rfl ?_
                    refine XS.iconst X30.here hx rfl (hb hby at_141) ?_
                    show Steps p.tables e below (T30.setTop (mkF m 142 #[.val (.int p1), .val (.int p2), .val (.int p3), .val (.int p4), .val (.long q5), .second, .val (.int p6), .val (.int id1), .val (.int id2), .val (.int r1), .val (.int r2), .val (.int hd1), .val (.int hd2), .val (.int sd), .val (.ref b1), .val (.ref c23_xb), .unset, .unset] [(.int (0 : Int32)), (.ref c23_xb)])) _
                    refine st32.trans ?_
                    show Steps p.tables e below (T32.setTop (mkF m 145 #[.val (.int p1), .val (.int p2), .val (.int p3), .val (.int p4), .val (.long q5), .second, .val (.int p6), .val (.int id1), .val (.int id2), .val (.int r1), .val (.int r2), .val (.int hd1), .val (.int hd2), .val (.int sd), .val (.ref b1), .val (.ref c23_xb), .unset, .unset] [(.int ((own_put (own_put (fun _ => (0 : Int32)) (0 : Int32) p3) (1 : Int32) p4) (0 : Int32).toNatClampNeg))])) _
                    refine XS.iloadN X32.here hx rfl (hb hby at_145) rfl ?_
                    exact kt
                  show own_End p e below s (T32.setTop (mkF m 146 #[.val (.int p1), .val (.int p2), .val (.int p3), .val (.int p4), .val (.long q5), .second, .val (.int p6), .val (.int id1), .val (.int id2), .val (.int r1), .val (.int r2), .val (.int hd1), .val (.int hd2), .val (.int sd), .val (.ref b1), .val (.ref c23_xb), .unset, .unset] [(.int p3), (.int ((own_put (own_put (fun _ => (0 : Int32)) (0 : Int32) p3) (1 : Int32) p4) (0 : Int32).toNatClampNeg))])) (Q0 Z p1 p2 p3 p4 q5 p6 h0 n0) room_1.cells room_1.slots
                  by_cases hc146_33 : ((own_put (own_put (fun _ => (0 : Int32)) (0 : Int32) p3) (1 : Int32) p4) (0 : Int32).toNatClampNeg) = p3
                  · obtain ⟨cq34, kq34, q34a, q34b, q34c⟩ := isOf hZ e32 E_c23_xb_24
                    obtain ⟨_, _, ⟨T34, L34, k34, n34⟩, -, X34, ⟨Lc34, hQ34, l34, y34, z34⟩, st34⟩ := X32.virtualBack hx (y := (⟨"com/example/atoll/atoll/detect/Beacon", "round", "(I)I"⟩ : MethodName)) (z := (⟨"com/example/atoll/atoll/detect/Beacon", "round", "(I)I"⟩ : MethodName)) hown (mvT hZ (hw _ (List.mem_of_getElem? (i := 71) rfl))) (mvT hZ (hw _ (List.mem_of_getElem? (i := 72) rfl))) (notFace_of_selects (args := #[]) (mvT hZ (hw _ (List.mem_of_getElem? (i := 74) rfl)))) (mvT hZ (hw _ (List.mem_of_getElem? (i := 74) rfl))) (mvT hZ (hw _ (List.mem_of_getElem? (i := 73) rfl))) (by decide) (backOf (W := 0) (rm10 l Z a0 hw [] c23_xb (0 : Int32) sd c2_xi c2_xn c2_xr c2_xh (own_put (own_put (fun _ => (0 : Int32)) (0 : Int32) r1) (1 : Int32) r2) T23.heap n0 Z23 ⟨E_c23_xb_24, F_sender_c23_xb_25, F_ids_c23_xb_26, F_incarnations_c23_xb_27, F_rounds_c23_xb_28, F_heard_c23_xb_29⟩ fA_c2_xr_x23 ⟨by decide, by decide⟩) hZ (hw _ (List.mem_of_getElem? (i := 75) rfl)) (hw _ (List.mem_of_getElem? (i := 36) rfl)) (by decide) (by decide)) q34a q34c (g := (mkF m 152 #[.val (.int p1), .val (.int p2), .val (.int p3), .val (.int p4), .val (.long q5), .second, .val (.int p6), .val (.int id1), .val (.int id2), .val (.int r1), .val (.int r2), .val (.int hd1), .val (.int hd2), .val (.int sd), .val (.ref b1), .val (.ref c23_xb), .unset, .unset] [(.int (0 : Int32)), (.ref c23_xb)])) rfl (by rw [hml]; rfl) (Steps.refl _) (argsL := [(.int (0 : Int32))]) (rest := []) (lenOf pd_0_3 rfl) rfl (by show 2 * 0 + _ ≤ _; exact Nat.le_of_eq rfl) (hb hby at_152) (fun _ _ => ⟨rfl, e32, (by decide : 6 + 0 ≤ _), (by decide : 18 + 0 ≤ _)⟩)
                    dsimp only [Pt.U, Pt.locs, Pt.cells, Pt.slots] at X34 l34 y34 z34 st34 hQ34
                    subst l34 y34 z34
                    obtain ⟨rfl, N34q, e34⟩ := hQ34
                    have N34 := Fr.app N32 N34q
                    refine own_pre (A := T34.setTop (mkF m 157 #[.val (.int p1), .val (.int p2), .val (.int p3), .val (.int p4), .val (.long q5), .second, .val (.int p6), .val (.int id1), .val (.int id2), .val (.int r1), .val (.int r2), .val (.int hd1), .val (.int hd2), .val (.int sd), .val (.ref b1), .val (.ref c23_xb), .unset, .unset] [(.int r1), (.int ((own_put (own_put (fun _ => (0 : Int32)) (0 : Int32) r1) (1 : Int32) r2) (0 : Int32).toNatClampNeg))])) (fun tt kt => ?_) ?_
                    · show Steps p.tables e below (T32.setTop (mkF m 146 #[.val (.int p1), .val (.int p2), .val (.int p3), .val (.int p4), .val (.long q5), .second, .val (.int p6), .val (.int id1), .val (.int id2), .val (.int r1), .val (.int r2), .val (.int hd1), .val (.int hd2), .val (.int sd), .val (.ref b1), .val (.ref c23_xb), .unset, .unset] [(.int p3), (.int ((own_put (own_put (fun _ => (0 : Int32)) (0 : Int32) p3) (1 : Int32) p4) (0 : Int32).toNatClampNeg))])) _
                      refine XS.icmpNo X32.here hx rfl (hb hby at_146) rfl (teq hc146_33).2 ?_
                      refine XS.aload X32.here hx rfl (hb hby at_149) rfl rfl ?_
                      refine XS.iconst X32.here hx rfl (hb hby at_151) ?_
                      show Steps p.tables e below (T32.setTop (mkF m 152 #[.val (.int p1), .val (.int p2), .val (.int p3), .val (.int p4), .val (.long q5), .second, .val (.int p6), .val (.int id1), .val (.int id2), .val (.int r1), .val (.int r2), .val (.int hd1), .val (.int hd2), .val (.int sd), .val (.ref b1), .val (.ref c23_xb), .unset, .unset] [(.int (0 : Int32)), (.ref c23_xb)])) _
                      refine st34.trans ?_
                      show Steps p.tables e below (T34.setTop (mkF m 155 #[.val (.int p1), .val (.int p2), .val (.int p3), .val (.int p4), .val (.long q5), .second, .val (.int p6), .val (.int id1), .val (.int id2), .val (.int r1), .val (.int r2), .val (.int hd1), .val (.int hd2), .val (.int sd), .val (.ref b1), .val (.ref c23_xb), .unset, .unset] [(.int ((own_put (own_put (fun _ => (0 : Int32)) (0 : Int32) r1) (1 : Int32) r2) (0 : Int32).toNatClampNeg))])) _
                      refine XS.iload X34.here hx rfl (hb hby at_155) rfl ?_
                      exact kt
                    show own_End p e below s (T34.setTop (mkF m 157 #[.val (.int p1), .val (.int p2), .val (.int p3), .val (.int p4), .val (.long q5), .second, .val (.int p6), .val (.int id1), .val (.int id2), .val (.int r1), .val (.int r2), .val (.int hd1), .val (.int hd2), .val (.int sd), .val (.ref b1), .val (.ref c23_xb), .unset, .unset] [(.int r1), (.int ((own_put (own_put (fun _ => (0 : Int32)) (0 : Int32) r1) (1 : Int32) r2) (0 : Int32).toNatClampNeg))])) (Q0 Z p1 p2 p3 p4 q5 p6 h0 n0) room_1.cells room_1.slots
                    by_cases hc157_35 : ((own_put (own_put (fun _ => (0 : Int32)) (0 : Int32) r1) (1 : Int32) r2) (0 : Int32).toNatClampNeg) = r1
                    · obtain ⟨cq36, kq36, q36a, q36b, q36c⟩ := isOf hZ e34 E_c23_xb_24
                      obtain ⟨_, _, ⟨T36, L36, k36, n36⟩, -, X36, ⟨Lc36, hQ36, l36, y36, z36⟩, st36⟩ := X34.virtualBack hx (y := (⟨"com/example/atoll/atoll/detect/Beacon", "heard", "(I)I"⟩ : MethodName)) (z := (⟨"com/example/atoll/atoll/detect/Beacon", "heard", "(I)I"⟩ : MethodName)) hown (mvT hZ (hw _ (List.mem_of_getElem? (i := 76) rfl))) (mvT hZ (hw _ (List.mem_of_getElem? (i := 77) rfl))) (notFace_of_selects (args := #[]) (mvT hZ (hw _ (List.mem_of_getElem? (i := 79) rfl)))) (mvT hZ (hw _ (List.mem_of_getElem? (i := 79) rfl))) (mvT hZ (hw _ (List.mem_of_getElem? (i := 78) rfl))) (by decide) (backOf (W := 0) (rm11 l Z a0 hw [] c23_xb (0 : Int32) sd c2_xi c2_xn c2_xr c2_xh (own_put (own_put (fun _ => (0 : Int32)) (0 : Int32) hd1) (1 : Int32) hd2) T23.heap n0 Z23 ⟨E_c23_xb_24, F_sender_c23_xb_25, F_ids_c23_xb_26, F_incarnations_c23_xb_27, F_rounds_c23_xb_28, F_heard_c23_xb_29⟩ fA_c2_xh_x23 ⟨by decide, by decide⟩) hZ (hw _ (List.mem_of_getElem? (i := 80) rfl)) (hw _ (List.mem_of_getElem? (i := 36) rfl)) (by decide) (by decide)) q36a q36c (g := (mkF m 163 #[.val (.int p1), .val (.int p2), .val (.int p3), .val (.int p4), .val (.long q5), .second, .val (.int p6), .val (.int id1), .val (.int id2), .val (.int r1), .val (.int r2), .val (.int hd1), .val (.int hd2), .val (.int sd), .val (.ref b1), .val (.ref c23_xb), .unset, .unset] [(.int (0 : Int32)), (.ref c23_xb)])) rfl (by rw [hml]; rfl) (Steps.refl _) (argsL := [(.int (0 : Int32))]) (rest := []) (lenOf pd_0_3 rfl) rfl (by show 2 * 0 + _ ≤ _; exact Nat.le_of_eq rfl) (hb hby at_163) (fun _ _ => ⟨rfl, e34, (by decide : 6 + 0 ≤ _), (by decide : 18 + 0 ≤ _)⟩)
                      dsimp only [Pt.U, Pt.locs, Pt.cells, Pt.slots] at X36 l36 y36 z36 st36 hQ36
                      subst l36 y36 z36
                      obtain ⟨rfl, N36q, e36⟩ := hQ36
                      have N36 := Fr.app N34 N36q
                      refine own_pre (A := T36.setTop (mkF m 168 #[.val (.int p1), .val (.int p2), .val (.int p3), .val (.int p4), .val (.long q5), .second, .val (.int p6), .val (.int id1), .val (.int id2), .val (.int r1), .val (.int r2), .val (.int hd1), .val (.int hd2), .val (.int sd), .val (.ref b1), .val (.ref c23_xb), .unset, .unset] [(.int hd1), (.int ((own_put (own_put (fun _ => (0 : Int32)) (0 : Int32) hd1) (1 : Int32) hd2) (0 : Int32).toNatClampNeg))])) (fun tt kt => ?_) ?_
                      · show Steps p.tables e below (T34.setTop (mkF m 157 #[.val (.int p1), .val (.int p2), .val (.int p3), .val (.int p4), .val (.long q5), .second, .val (.int p6), .val (.int id1), .val (.int id2), .val (.int r1), .val (.int r2), .val (.int hd1), .val (.int hd2), .val (.int sd), .val (.ref b1), .val (.ref c23_xb), .unset, .unset] [(.int r1), (.int ((own_put (own_put (fun _ => (0 : Int32)) (0 : Int32) r1) (1 : Int32) r2) (0 : Int32).toNatClampNeg))])) _
                        refine XS.icmpNo X34.here hx rfl (hb hby at_157) rfl (teq hc157_35).2 ?_
                        refine XS.aload X34.here hx rfl (hb hby at_160) rfl rfl ?_
                        refine XS.iconst X34.here hx rfl (hb hby at_162) ?_
                        show Steps p.tables e below (T34.setTop (mkF m 163 #[.val (.int p1), .val (.int p2), .val (.int p3), .val (.int p4), .val (.long q5), .second, .val (.int p6), .val (.int id1), .val (.int id2), .val (.int r1), .val (.int r2), .val (.int hd1), .val (.int hd2), .val (.int sd), .val (.ref b1), .val (.ref c23_xb), .unset, .unset] [(.int (0 : Int32)), (.ref c23_xb)])) _
                        refine st36.trans ?_
                        show Steps p.tables e below (T36.setTop (mkF m 166 #[.val (.int p1), .val (.int p2), .val (.int p3), .val (.int p4), .val (.long q5), .second, .val (.int p6), .val (.int id1), .val (.int id2), .val (.int r1), .val (.int r2), .val (.int hd1), .val (.int hd2), .val (.int sd), .val (.ref b1), .val (.ref c23_xb), .unset, .unset] [(.int ((own_put (own_put (fun _ => (0 : Int32)) (0 : Int32) hd1) (1 : Int32) hd2) (0 : Int32).toNatClampNeg))])) _
                        refine XS.iload X36.here hx rfl (hb hby at_166) rfl ?_
                        exact kt
                      show own_End p e below s (T36.setTop (mkF m 168 #[.val (.int p1), .val (.int p2), .val (.int p3), .val (.int p4), .val (.long q5), .second, .val (.int p6), .val (.int id1), .val (.int id2), .val (.int r1), .val (.int r2), .val (.int hd1), .val (.int hd2), .val (.int sd), .val (.ref b1), .val (.ref c23_xb), .unset, .unset] [(.int hd1), (.int ((own_put (own_put (fun _ => (0 : Int32)) (0 : Int32) hd1) (1 : Int32) hd2) (0 : Int32).toNatClampNeg))])) (Q0 Z p1 p2 p3 p4 q5 p6 h0 n0) room_1.cells room_1.slots
                      by_cases hc168_37 : ((own_put (own_put (fun _ => (0 : Int32)) (0 : Int32) hd1) (1 : Int32) hd2) (0 : Int32).toNatClampNeg) = hd1
                      · obtain ⟨cq38, kq38, q38a, q38b, q38c⟩ := isOf hZ e36 E_c23_xb_24
                        obtain ⟨_, _, ⟨T38, L38, k38, n38⟩, -, X38, ⟨Lc38, hQ38, l38, y38, z38⟩, st38⟩ := X36.virtualBack hx (y := (⟨"com/example/atoll/atoll/detect/Beacon", "id", "(I)I"⟩ : MethodName)) (z := (⟨"com/example/atoll/atoll/detect/Beacon", "id", "(I)I"⟩ : MethodName)) hown (mvT hZ (hw _ (List.mem_of_getElem? (i := 61) rfl))) (mvT hZ (hw _ (List.mem_of_getElem? (i := 62) rfl))) (notFace_of_selects (args := #[]) (mvT hZ (hw _ (List.mem_of_getElem? (i := 64) rfl)))) (mvT hZ (hw _ (List.mem_of_getElem? (i := 64) rfl))) (mvT hZ (hw _ (List.mem_of_getElem? (i := 63) rfl))) (by decide) (backOf (W := 0) (rm8 l Z a0 hw [] c23_xb (1 : Int32) sd c2_xi c2_xn c2_xr c2_xh (own_put (own_put (fun _ => (0 : Int32)) (0 : Int32) id1) (1 : Int32) id2) T23.heap n0 Z23 ⟨E_c23_xb_24, F_sender_c23_xb_25, F_ids_c23_xb_26, F_incarnations_c23_xb_27, F_rounds_c23_xb_28, F_heard_c23_xb_29⟩ fA_c2_xi_x23 ⟨by decide, by decide⟩) hZ (hw _ (List.mem_of_getElem? (i := 65) rfl)) (hw _ (List.mem_of_getElem? (i := 36) rfl)) (by decide) (by decide)) q38a q38c (g := (mkF m 181 #[.val (.int p1), .val (.int p2), .val (.int p3), .val (.int p4), .val (.long q5), .second, .val (.int p6), .val (.int id1), .val (.int id2), .val (.int r1), .val (.int r2), .val (.int hd1), .val (.int hd2), .val (.int sd), .val (.ref b1), .val (.ref c23_xb), .val (.int (1 : Int32)), .unset] [(.int (1 : Int32)), (.ref c23_xb)])) rfl (by rw [hml]; rfl) (Steps.refl _) (argsL := [(.int (1 : Int32))]) (rest := []) (lenOf pd_0_3 rfl) rfl (by show 2 * 0 + _ ≤ _; exact Nat.le_of_eq rfl) (hb hby at_181) (fun _ _ => ⟨rfl, e36, (by decide : 6 + 0 ≤ _), (by decide : 18 + 0 ≤ _)⟩)
                        dsimp only [Pt.U, Pt.locs, Pt.cells, Pt.slots] at X38 l38 y38 z38 st38 hQ38
                        subst l38 y38 z38
                        obtain ⟨rfl, N38q, e38⟩ := hQ38
                        have N38 := Fr.app N36 N38q
                        refine own_pre (A := T38.setTop (mkF m 186 #[.val (.int p1), .val (.int p2), .val (.int p3), .val (.int p4), .val (.long q5), .second, .val (.int p6), .val (.int id1), .val (.int id2), .val (.int r1), .val (.int r2), .val (.int hd1), .val (.int hd2), .val (.int sd), .val (.ref b1), .val (.ref c23_xb), .val (.int (1 : Int32)), .unset] [(.int id2), (.int ((own_put (own_put (fun _ => (0 : Int32)) (0 : Int32) id1) (1 : Int32) id2) (1 : Int32).toNatClampNeg))])) (fun tt kt => ?_) ?_
                        · show Steps p.tables e below (T36.setTop (mkF m 168 #[.val (.int p1), .val (.int p2), .val (.int p3), .val (.int p4), .val (.long q5), .second, .val (.int p6), .val (.int id1), .val (.int id2), .val (.int r1), .val (.int r2), .val (.int hd1), .val (.int hd2), .val (.int sd), .val (.ref b1), .val (.ref c23_xb), .unset, .unset] [(.int hd1), (.int ((own_put (own_put (fun _ => (0 : Int32)) (0 : Int32) hd1) (1 : Int32) hd2) (0 : Int32).toNatClampNeg))])) _
                          refine XS.icmpNo X36.here hx rfl (hb hby at_168) rfl (teq hc168_37).2 ?_
                          refine XS.iconst X36.here hx rfl (hb hby at_171) ?_
                          refine XS.goto X36.here hx rfl (pc0 := 172) (pc' := 176) rfl (hb hby at_172) (by decide) (by decide) ?_
                          refine XS.istore X36.here hx rfl (hb hby at_176) rfl (l' := #[.val (.int p1), .val (.int p2), .val (.int p3), .val (.int p4), .val (.long q5), .second, .val (.int p6), .val (.int id1), .val (.int id2), .val (.int r1), .val (.int r2), .val (.int hd1), .val (.int hd2), .val (.int sd), .val (.ref b1), .val (.ref c23_xb), .val (.int (1 : Int32)), .unset]) rfl ?_
                          show Steps p.tables e below (T36.setTop (mkF m 178 #[.val (.int p1), .val (.int p2), .val (.int p3), .val (.int p4), .val (.long q5), .second, .val (.int p6), .val (.int id1), .val (.int id2), .val (.int r1), .val (.int r2), .val (.int hd1), .val (.int hd2), .val (.int sd), .val (.ref b1), .val (.ref c23_xb), .val (.int (1 : Int32)), .unset] [])) _
                          refine XS.aload X36.here hx rfl (hb hby at_178) rfl rfl ?_
                          refine XS.iconst X36.here hx rfl (hb hby at_180) ?_
                          show Steps p.tables e below (T36.setTop (mkF m 181 #[.val (.int p1), .val (.int p2), .val (.int p3), .val (.int p4), .val (.long q5), .second, .val (.int p6), .val (.int id1), .val (.int id2), .val (.int r1), .val (.int r2), .val (.int hd1), .val (.int hd2), .val (.int sd), .val (.ref b1), .val (.ref c23_xb), .val (.int (1 : Int32)), .unset] [(.int (1 : Int32)), (.ref c23_xb)])) _
                          refine st38.trans ?_
                          show Steps p.tables e below (T38.setTop (mkF m 184 #[.val (.int p1), .val (.int p2), .val (.int p3), .val (.int p4), .val (.long q5), .second, .val (.int p6), .val (.int id1), .val (.int id2), .val (.int r1), .val (.int r2), .val (.int hd1), .val (.int hd2), .val (.int sd), .val (.ref b1), .val (.ref c23_xb), .val (.int (1 : Int32)), .unset] [(.int ((own_put (own_put (fun _ => (0 : Int32)) (0 : Int32) id1) (1 : Int32) id2) (1 : Int32).toNatClampNeg))])) _
                          refine XS.iload X38.here hx rfl (hb hby at_184) rfl ?_
                          exact kt
                        show own_End p e below s (T38.setTop (mkF m 186 #[.val (.int p1), .val (.int p2), .val (.int p3), .val (.int p4), .val (.long q5), .second, .val (.int p6), .val (.int id1), .val (.int id2), .val (.int r1), .val (.int r2), .val (.int hd1), .val (.int hd2), .val (.int sd), .val (.ref b1), .val (.ref c23_xb), .val (.int (1 : Int32)), .unset] [(.int id2), (.int ((own_put (own_put (fun _ => (0 : Int32)) (0 : Int32) id1) (1 : Int32) id2) (1 : Int32).toNatClampNeg))])) (Q0 Z p1 p2 p3 p4 q5 p6 h0 n0) room_1.cells room_1.slots
                        by_cases hc186_39 : ((own_put (own_put (fun _ => (0 : Int32)) (0 : Int32) id1) (1 : Int32) id2) (1 : Int32).toNatClampNeg) = id2
                        · obtain ⟨cq40, kq40, q40a, q40b, q40c⟩ := isOf hZ e38 E_c23_xb_24
                          obtain ⟨_, _, ⟨T40, L40, k40, n40⟩, -, X40, ⟨Lc40, hQ40, l40, y40, z40⟩, st40⟩ := X38.virtualBack hx (y := (⟨"com/example/atoll/atoll/detect/Beacon", "incarnation", "(I)I"⟩ : MethodName)) (z := (⟨"com/example/atoll/atoll/detect/Beacon", "incarnation", "(I)I"⟩ : MethodName)) hown (mvT hZ (hw _ (List.mem_of_getElem? (i := 66) rfl))) (mvT hZ (hw _ (List.mem_of_getElem? (i := 67) rfl))) (notFace_of_selects (args := #[]) (mvT hZ (hw _ (List.mem_of_getElem? (i := 69) rfl)))) (mvT hZ (hw _ (List.mem_of_getElem? (i := 69) rfl))) (mvT hZ (hw _ (List.mem_of_getElem? (i := 68) rfl))) (by decide) (backOf (W := 0) (rm9 l Z a0 hw [] c23_xb (1 : Int32) sd c2_xi c2_xn c2_xr c2_xh (own_put (own_put (fun _ => (0 : Int32)) (0 : Int32) p3) (1 : Int32) p4) T23.heap n0 Z23 ⟨E_c23_xb_24, F_sender_c23_xb_25, F_ids_c23_xb_26, F_incarnations_c23_xb_27, F_rounds_c23_xb_28, F_heard_c23_xb_29⟩ fA_c2_xn_x23 ⟨by decide, by decide⟩) hZ (hw _ (List.mem_of_getElem? (i := 70) rfl)) (hw _ (List.mem_of_getElem? (i := 36) rfl)) (by decide) (by decide)) q40a q40c (g := (mkF m 192 #[.val (.int p1), .val (.int p2), .val (.int p3), .val (.int p4), .val (.long q5), .second, .val (.int p6), .val (.int id1), .val (.int id2), .val (.int r1), .val (.int r2), .val (.int hd1), .val (.int hd2), .val (.int sd), .val (.ref b1), .val (.ref c23_xb), .val (.int (1 : Int32)), .unset] [(.int (1 : Int32)), (.ref c23_xb)])) rfl (by rw [hml]; rfl) (Steps.refl _) (argsL := [(.int (1 : Int32))]) (rest := []) (lenOf pd_0_3 rfl) rfl (by show 2 * 0 + _ ≤ _; exact Nat.le_of_eq rfl) (hb hby at_192) (fun _ _ => ⟨rfl, e38, (by decide : 6 + 0 ≤ _), (by decide : 18 + 0 ≤ _)⟩)
                          dsimp only [Pt.U, Pt.locs, Pt.cells, Pt.slots] at X40 l40 y40 z40 st40 hQ40
                          subst l40 y40 z40
                          obtain ⟨rfl, N40q, e40⟩ := hQ40
                          have N40 := Fr.app N38 N40q
                          refine own_pre (A := T40.setTop (mkF m 196 #[.val (.int p1), .val (.int p2), .val (.int p3), .val (.int p4), .val (.long q5), .second, .val (.int p6), .val (.int id1), .val (.int id2), .val (.int r1), .val (.int r2), .val (.int hd1), .val (.int hd2), .val (.int sd), .val (.ref b1), .val (.ref c23_xb), .val (.int (1 : Int32)), .unset] [(.int p4), (.int ((own_put (own_put (fun _ => (0 : Int32)) (0 : Int32) p3) (1 : Int32) p4) (1 : Int32).toNatClampNeg))])) (fun tt kt => ?_) ?_
                          · show Steps p.tables e below (T38.setTop (mkF m 186 #[.val (.int p1), .val (.int p2), .val (.int p3), .val (.int p4), .val (.long q5), .second, .val (.int p6), .val (.int id1), .val (.int id2), .val (.int r1), .val (.int r2), .val (.int hd1), .val (.int hd2), .val (.int sd), .val (.ref b1), .val (.ref c23_xb), .val (.int (1 : Int32)), .unset] [(.int id2), (.int ((own_put (own_put (fun _ => (0 : Int32)) (0 : Int32) id1) (1 : Int32) id2) (1 : Int32).toNatClampNeg))])) _
                            refine XS.icmpNo X38.here hx rfl (hb hby at_186) rfl (teq hc186_39).2 ?_
                            refine XS.aload X38.here hx rfl (hb hby at_189) rfl rfl ?_
                            refine XS.iconst X38.here hx rfl (hb hby at_191) ?_
                            show Steps p.tables e below (T38.setTop (mkF m 192 #[.val (.int p1), .val (.int p2), .val (.int p3), .val (.int p4), .val (.long q5), .second, .val (.int p6), .val (.int id1), .val (.int id2), .val (.int r1), .val (.int r2), .val (.int hd1), .val (.int hd2), .val (.int sd), .val (.ref b1), .val (.ref c23_xb), .val (.int (1 : Int32)), .unset] [(.int (1 : Int32)), (.ref c23_xb)])) _
                            refine st40.trans ?_
                            show Steps p.tables e below (T40.setTop (mkF m 195 #[.val (.int p1), .val (.int p2), .val (.int p3), .val (.int p4), .val (.long q5), .second, .val (.int p6), .val (.int id1), .val (.int id2), .val (.int r1), .val (.int r2), .val (.int hd1), .val (.int hd2), .val (.int sd), .val (.ref b1), .val (.ref c23_xb), .val (.int (1 : Int32)), .unset] [(.int ((own_put (own_put (fun _ => (0 : Int32)) (0 : Int32) p3) (1 : Int32) p4) (1 : Int32).toNatClampNeg))])) _
                            refine XS.iloadN X40.here hx rfl (hb hby at_195) rfl ?_
                            exact kt
                          show own_End p e below s (T40.setTop (mkF m 196 #[.val (.int p1), .val (.int p2), .val (.int p3), .val (.int p4), .val (.long q5), .second, .val (.int p6), .val (.int id1), .val (.int id2), .val (.int r1), .val (.int r2), .val (.int hd1), .val (.int hd2), .val (.int sd), .val (.ref b1), .val (.ref c23_xb), .val (.int (1 : Int32)), .unset] [(.int p4), (.int ((own_put (own_put (fun _ => (0 : Int32)) (0 : Int32) p3) (1 : Int32) p4) (1 : Int32).toNatClampNeg))])) (Q0 Z p1 p2 p3 p4 q5 p6 h0 n0) room_1.cells room_1.slots
                          by_cases hc196_41 : ((own_put (own_put (fun _ => (0 : Int32)) (0 : Int32) p3) (1 : Int32) p4) (1 : Int32).toNatClampNeg) = p4
                          · obtain ⟨cq42, kq42, q42a, q42b, q42c⟩ := isOf hZ e40 E_c23_xb_24
                            obtain ⟨_, _, ⟨T42, L42, k42, n42⟩, -, X42, ⟨Lc42, hQ42, l42, y42, z42⟩, st42⟩ := X40.virtualBack hx (y := (⟨"com/example/atoll/atoll/detect/Beacon", "round", "(I)I"⟩ : MethodName)) (z := (⟨"com/example/atoll/atoll/detect/Beacon", "round", "(I)I"⟩ : MethodName)) hown (mvT hZ (hw _ (List.mem_of_getElem? (i := 71) rfl))) (mvT hZ (hw _ (List.mem_of_getElem? (i := 72) rfl))) (notFace_of_selects (args := #[]) (mvT hZ (hw _ (List.mem_of_getElem? (i := 74) rfl)))) (mvT hZ (hw _ (List.mem_of_getElem? (i := 74) rfl))) (mvT hZ (hw _ (List.mem_of_getElem? (i := 73) rfl))) (by decide) (backOf (W := 0) (rm10 l Z a0 hw [] c23_xb (1 : Int32) sd c2_xi c2_xn c2_xr c2_xh (own_put (own_put (fun _ => (0 : Int32)) (0 : Int32) r1) (1 : Int32) r2) T23.heap n0 Z23 ⟨E_c23_xb_24, F_sender_c23_xb_25, F_ids_c23_xb_26, F_incarnations_c23_xb_27, F_rounds_c23_xb_28, F_heard_c23_xb_29⟩ fA_c2_xr_x23 ⟨by decide, by decide⟩) hZ (hw _ (List.mem_of_getElem? (i := 75) rfl)) (hw _ (List.mem_of_getElem? (i := 36) rfl)) (by decide) (by decide)) q42a q42c (g := (mkF m 202 #[.val (.int p1), .val (.int p2), .val (.int p3), .val (.int p4), .val (.long q5), .second, .val (.int p6), .val (.int id1), .val (.int id2), .val (.int r1), .val (.int r2), .val (.int hd1), .val (.int hd2), .val (.int sd), .val (.ref b1), .val (.ref c23_xb), .val (.int (1 : Int32)), .unset] [(.int (1 : Int32)), (.ref c23_xb)])) rfl (by rw [hml]; rfl) (Steps.refl _) (argsL := [(.int (1 : Int32))]) (rest := []) (lenOf pd_0_3 rfl) rfl (by show 2 * 0 + _ ≤ _; exact Nat.le_of_eq rfl) (hb hby at_202) (fun _ _ => ⟨rfl, e40, (by decide : 6 + 0 ≤ _), (by decide : 18 + 0 ≤ _)⟩)
                            dsimp only [Pt.U, Pt.locs, Pt.cells, Pt.slots] at X42 l42 y42 z42 st42 hQ42
                            subst l42 y42 z42
                            obtain ⟨rfl, N42q, e42⟩ := hQ42
                            have N42 := Fr.app N40 N42q
                            refine own_pre (A := T42.setTop (mkF m 207 #[.val (.int p1), .val (.int p2), .val (.int p3), .val (.int p4), .val (.long q5), .second, .val (.int p6), .val (.int id1), .val (.int id2), .val (.int r1), .val (.int r2), .val (.int hd1), .val (.int hd2), .val (.int sd), .val (.ref b1), .val (.ref c23_xb), .val (.int (1 : Int32)), .unset] [(.int r2), (.int ((own_put (own_put (fun _ => (0 : Int32)) (0 : Int32) r1) (1 : Int32) r2) (1 : Int32).toNatClampNeg))])) (fun tt kt => ?_) ?_
                            · show Steps p.tables e below (T40.setTop (mkF m 196 #[.val (.int p1), .val (.int p2), .val (.int p3), .val (.int p4), .val (.long q5), .second, .val (.int p6), .val (.int id1), .val (.int id2), .val (.int r1), .val (.int r2), .val (.int hd1), .val (.int hd2), .val (.int sd), .val (.ref b1), .val (.ref c23_xb), .val (.int (1 : Int32)), .unset] [(.int p4), (.int ((own_put (own_put (fun _ => (0 : Int32)) (0 : Int32) p3) (1 : Int32) p4) (1 : Int32).toNatClampNeg))])) _
                              refine XS.icmpNo X40.here hx rfl (hb hby at_196) rfl (teq hc196_41).2 ?_
                              refine XS.aload X40.here hx rfl (hb hby at_199) rfl rfl ?_
                              refine XS.iconst X40.here hx rfl (hb hby at_201) ?_
                              show Steps p.tables e below (T40.setTop (mkF m 202 #[.val (.int p1), .val (.int p2), .val (.int p3), .val (.int p4), .val (.long q5), .second, .val (.int p6), .val (.int id1), .val (.int id2), .val (.int r1), .val (.int r2), .val (.int hd1), .val (.int hd2), .val (.int sd), .val (.ref b1), .val (.ref c23_xb), .val (.int (1 : Int32)), .unset] [(.int (1 : Int32)), (.ref c23_xb)])) _
                              refine st42.trans ?_
                              show Steps p.tables e below (T42.setTop (mkF m 205 #[.val (.int p1), .val (.int p2), .val (.int p3), .val (.int p4), .val (.long q5), .second, .val (.int p6), .val (.int id1), .val (.int id2), .val (.int r1), .val (.int r2), .val (.int hd1), .val (.int hd2), .val (.int sd), .val (.ref b1), .val (.ref c23_xb), .val (.int (1 : Int32)), .unset] [(.int ((own_put (own_put (fun _ => (0 : Int32)) (0 : Int32) r1) (1 : Int32) r2) (1 : Int32).toNatClampNeg))])) _
                              refine XS.iload X42.here hx rfl (hb hby at_205) rfl ?_
                              exact kt
                            show own_End p e below s (T42.setTop (mkF m 207 #[.val (.int p1), .val (.int p2), .val (.int p3), .val (.int p4), .val (.long q5), .second, .val (.int p6), .val (.int id1), .val (.int id2), .val (.int r1), .val (.int r2), .val (.int hd1), .val (.int hd2), .val (.int sd), .val (.ref b1), .val (.ref c23_xb), .val (.int (1 : Int32)), .unset] [(.int r2), (.int ((own_put (own_put (fun _ => (0 : Int32)) (0 : Int32) r1) (1 : Int32) r2) (1 : Int32).toNatClampNeg))])) (Q0 Z p1 p2 p3 p4 q5 p6 h0 n0) room_1.cells room_1.slots
                            by_cases hc207_43 : ((own_put (own_put (fun _ => (0 : Int32)) (0 : Int32) r1) (1 : Int32) r2) (1 : Int32).toNatClampNeg) = r2
                            · obtain ⟨cq44, kq44, q44a, q44b, q44c⟩ := isOf hZ e42 E_c23_xb_24
                              obtain ⟨_, _, ⟨T44, L44, k44, n44⟩, -, X44, ⟨Lc44, hQ44, l44, y44, z44⟩, st44⟩ := X42.virtualBack hx (y := (⟨"com/example/atoll/atoll/detect/Beacon", "heard", "(I)I"⟩ : MethodName)) (z := (⟨"com/example/atoll/atoll/detect/Beacon", "heard", "(I)I"⟩ : MethodName)) hown (mvT hZ (hw _ (List.mem_of_getElem? (i := 76) rfl))) (mvT hZ (hw _ (List.mem_of_getElem? (i := 77) rfl))) (notFace_of_selects (args := #[]) (mvT hZ (hw _ (List.mem_of_getElem? (i := 79) rfl)))) (mvT hZ (hw _ (List.mem_of_getElem? (i := 79) rfl))) (mvT hZ (hw _ (List.mem_of_getElem? (i := 78) rfl))) (by decide) (backOf (W := 0) (rm11 l Z a0 hw [] c23_xb (1 : Int32) sd c2_xi c2_xn c2_xr c2_xh (own_put (own_put (fun _ => (0 : Int32)) (0 : Int32) hd1) (1 : Int32) hd2) T23.heap n0 Z23 ⟨E_c23_xb_24, F_sender_c23_xb_25, F_ids_c23_xb_26, F_incarnations_c23_xb_27, F_rounds_c23_xb_28, F_heard_c23_xb_29⟩ fA_c2_xh_x23 ⟨by decide, by decide⟩) hZ (hw _ (List.mem_of_getElem? (i := 80) rfl)) (hw _ (List.mem_of_getElem? (i := 36) rfl)) (by decide) (by decide)) q44a q44c (g := (mkF m 213 #[.val (.int p1), .val (.int p2), .val (.int p3), .val (.int p4), .val (.long q5), .second, .val (.int p6), .val (.int id1), .val (.int id2), .val (.int r1), .val (.int r2), .val (.int hd1), .val (.int hd2), .val (.int sd), .val (.ref b1), .val (.ref c23_xb), .val (.int (1 : Int32)), .unset] [(.int (1 : Int32)), (.ref c23_xb)])) rfl (by rw [hml]; rfl) (Steps.refl _) (argsL := [(.int (1 : Int32))]) (rest := []) (lenOf pd_0_3 rfl) rfl (by show 2 * 0 + _ ≤ _; exact Nat.le_of_eq rfl) (hb hby at_213) (fun _ _ => ⟨rfl, e42, (by decide : 6 + 0 ≤ _), (by decide : 18 + 0 ≤ _)⟩)
                              dsimp only [Pt.U, Pt.locs, Pt.cells, Pt.slots] at X44 l44 y44 z44 st44 hQ44
                              subst l44 y44 z44
                              obtain ⟨rfl, N44q, e44⟩ := hQ44
                              have N44 := Fr.app N42 N44q
                              refine own_pre (A := T44.setTop (mkF m 218 #[.val (.int p1), .val (.int p2), .val (.int p3), .val (.int p4), .val (.long q5), .second, .val (.int p6), .val (.int id1), .val (.int id2), .val (.int r1), .val (.int r2), .val (.int hd1), .val (.int hd2), .val (.int sd), .val (.ref b1), .val (.ref c23_xb), .val (.int (1 : Int32)), .unset] [(.int hd2), (.int ((own_put (own_put (fun _ => (0 : Int32)) (0 : Int32) hd1) (1 : Int32) hd2) (1 : Int32).toNatClampNeg))])) (fun tt kt => ?_) ?_
                              · show Steps p.tables e below (T42.setTop (mkF m 207 #[.val (.int p1), .val (.int p2), .val (.int p3), .val (.int p4), .val (.long q5), .second, .val (.int p6), .val (.int id1), .val (.int id2), .val (.int r1), .val (.int r2), .val (.int hd1), .val (.int hd2), .val (.int sd), .val (.ref b1), .val (.ref c23_xb), .val (.int (1 : Int32)), .unset] [(.int r2), (.int ((own_put (own_put (fun _ => (0 : Int32)) (0 : Int32) r1) (1 : Int32) r2) (1 : Int32).toNatClampNeg))])) _
                                refine XS.icmpNo X42.here hx rfl (hb hby at_207) rfl (teq hc207_43).2 ?_
                                refine XS.aload X42.here hx rfl (hb hby at_210) rfl rfl ?_
                                refine XS.iconst X42.here hx rfl (hb hby at_212) ?_
                                show Steps p.tables e below (T42.setTop (mkF m 213 #[.val (.int p1), .val (.int p2), .val (.int p3), .val (.int p4), .val (.long q5), .second, .val (.int p6), .val (.int id1), .val (.int id2), .val (.int r1), .val (.int r2), .val (.int hd1), .val (.int hd2), .val (.int sd), .val (.ref b1), .val (.ref c23_xb), .val (.int (1 : Int32)), .unset] [(.int (1 : Int32)), (.ref c23_xb)])) _
                                refine st44.trans ?_
                                show Steps p.tables e below (T44.setTop (mkF m 216 #[.val (.int p1), .val (.int p2), .val (.int p3), .val (.int p4), .val (.long q5), .second, .val (.int p6), .val (.int id1), .val (.int id2), .val (.int r1), .val (.int r2), .val (.int hd1), .val (.int hd2), .val (.int sd), .val (.ref b1), .val (.ref c23_xb), .val (.int (1 : Int32)), .unset] [(.int ((own_put (own_put (fun _ => (0 : Int32)) (0 : Int32) hd1) (1 : Int32) hd2) (1 : Int32).toNatClampNeg))])) _
                                refine XS.iload X44.here hx rfl (hb hby at_216) rfl ?_
                                exact kt
                              show own_End p e below s (T44.setTop (mkF m 218 #[.val (.int p1), .val (.int p2), .val (.int p3), .val (.int p4), .val (.long q5), .second, .val (.int p6), .val (.int id1), .val (.int id2), .val (.int r1), .val (.int r2), .val (.int hd1), .val (.int hd2), .val (.int sd), .val (.ref b1), .val (.ref c23_xb), .val (.int (1 : Int32)), .unset] [(.int hd2), (.int ((own_put (own_put (fun _ => (0 : Int32)) (0 : Int32) hd1) (1 : Int32) hd2) (1 : Int32).toNatClampNeg))])) (Q0 Z p1 p2 p3 p4 q5 p6 h0 n0) room_1.cells room_1.slots
                              by_cases hc218_45 : ((own_put (own_put (fun _ => (0 : Int32)) (0 : Int32) hd1) (1 : Int32) hd2) (1 : Int32).toNatClampNeg) = hd2
                              · refine own_pre (A := T44.setTop (mkF m 243 #[.val (.int p1), .val (.int p2), .val (.int p3), .val (.int p4), .val (.long q5), .second, .val (.int p6), .val (.int id1), .val (.int id2), .val (.int r1), .val (.int r2), .val (.int hd1), .val (.int hd2), .val (.int sd), .val (.ref b1), .val (.ref c23_xb), .val (.int (1 : Int32)), .val (.int (1 : Int32))] [(.int (1 : Int32))])) (fun tt kt => ?_) ?_
                                · show Steps p.tables e below (T44.setTop (mkF m 218 #[.val (.int p1), .val (.int p2), .val (.int p3), .val (.int p4), .val (.long q5), .second, .val (.int p6), .val (.int id1), .val (.int id2), .val (.int r1), .val (.int r2), .val (.int hd1), .val (.int hd2), .val (.int sd), .val (.ref b1), .val (.ref c23_xb), .val (.int (1 : Int32)), .unset] [(.int hd2), (.int ((own_put (own_put (fun _ => (0 : Int32)) (0 : Int32) hd1) (1 : Int32) hd2) (1 : Int32).toNatClampNeg))])) _
                                  refine XS.icmpNo X44.here hx rfl (hb hby at_218) rfl (teq hc218_45).2 ?_
                                  refine XS.iconst X44.here hx rfl (hb hby at_221) ?_
                                  refine XS.goto X44.here hx rfl (pc0 := 222) (pc' := 226) rfl (hb hby at_222) (by decide) (by decide) ?_
                                  refine XS.istore X44.here hx rfl (hb hby at_226) rfl (l' := #[.val (.int p1), .val (.int p2), .val (.int p3), .val (.int p4), .val (.long q5), .second, .val (.int p6), .val (.int id1), .val (.int id2), .val (.int r1), .val (.int r2), .val (.int hd1), .val (.int hd2), .val (.int sd), .val (.ref b1), .val (.ref c23_xb), .val (.int (1 : Int32)), .val (.int (1 : Int32))]) rfl ?_
                                  show Steps p.tables e below (T44.setTop (mkF m 228 #[.val (.int p1), .val (.int p2), .val (.int p3), .val (.int p4), .val (.long q5), .second, .val (.int p6), .val (.int id1), .val (.int id2), .val (.int r1), .val (.int r2), .val (.int hd1), .val (.int hd2), .val (.int sd), .val (.ref b1), .val (.ref c23_xb), .val (.int (1 : Int32)), .val (.int (1 : Int32))] [])) _
                                  refine XS.iload X44.here hx rfl (hb hby at_228) rfl ?_
                                  refine XS.ifNo X44.here hx rfl (hb hby at_230) rfl ((if0 _ _).trans (feq ((by decide) : ¬ ((1 : Int32) = (0 : Int32)))).1) ?_
                                  refine XS.iload X44.here hx rfl (hb hby at_233) rfl ?_
                                  refine XS.ifNo X44.here hx rfl (hb hby at_235) rfl ((if0 _ _).trans (feq ((by decide) : ¬ ((1 : Int32) = (0 : Int32)))).1) ?_
                                  show Steps p.tables e below (T44.setTop (mkF m 238 #[.val (.int p1), .val (.int p2), .val (.int p3), .val (.int p4), .val (.long q5), .second, .val (.int p6), .val (.int id1), .val (.int id2), .val (.int r1), .val (.int r2), .val (.int hd1), .val (.int hd2), .val (.int sd), .val (.ref b1), .val (.ref c23_xb), .val (.int (1 : Int32)), .val (.int (1 : Int32))] [])) _
                                  refine XS.iconst X44.here hx rfl (hb hby at_238) ?_
                                  refine XS.goto X44.here hx rfl (pc0 := 239) (pc' := 243) rfl (hb hby at_239) (by decide) (by decide) ?_
                                  exact kt
                                show own_End p e below s (T44.setTop (mkF m 243 #[.val (.int p1), .val (.int p2), .val (.int p3), .val (.int p4), .val (.long q5), .second, .val (.int p6), .val (.int id1), .val (.int id2), .val (.int r1), .val (.int r2), .val (.int hd1), .val (.int hd2), .val (.int sd), .val (.ref b1), .val (.ref c23_xb), .val (.int (1 : Int32)), .val (.int (1 : Int32))] [(.int (1 : Int32))])) (Q0 Z p1 p2 p3 p4 q5 p6 h0 n0) room_1.cells room_1.slots
                                have hv : (own_law p1 p2 p3 p4 q5 p6) = (1 : Int32) := hj.trans (by simp only [own_law_85, if_pos hc136_31, if_pos hc146_33, if_pos hc157_35, if_pos hc168_37, if_pos hc186_39, if_pos hc196_41, if_pos hc207_43, if_pos hc218_45])
                                obtain ⟨fs, hr, hrun, hended, hW, hsame⟩ := X44.leave (v := some (.int (1 : Int32))) (fun h => by rw [Bd.returns] at h; cases h)
                                refine ⟨_, _, ?_, hrun, hended, _, _, rfl, ?_, ⟨_, rfl⟩, hW, hsame.mono (by decide) (by decide)⟩
                                · exact retN X44 hx (t := .boolean) Bd.returns (by simp) (hb hby at_243) hr
                                · show Q0 Z p1 p2 p3 p4 q5 p6 h0 n0 _ T44.heap _
                                  rw [e44]
                                  exact ⟨(congrArg (fun z => some (Value.int z)) hv.symm), N44⟩
                              · refine own_pre (A := T44.setTop (mkF m 243 #[.val (.int p1), .val (.int p2), .val (.int p3), .val (.int p4), .val (.long q5), .second, .val (.int p6), .val (.int id1), .val (.int id2), .val (.int r1), .val (.int r2), .val (.int hd1), .val (.int hd2), .val (.int sd), .val (.ref b1), .val (.ref c23_xb), .val (.int (1 : Int32)), .val (.int (0 : Int32))] [(.int (0 : Int32))])) (fun tt kt => ?_) ?_
                                · show Steps p.tables e below (T44.setTop (mkF m 218 #[.val (.int p1), .val (.int p2), .val (.int p3), .val (.int p4), .val (.long q5), .second, .val (.int p6), .val (.int id1), .val (.int id2), .val (.int r1), .val (.int r2), .val (.int hd1), .val (.int hd2), .val (.int sd), .val (.ref b1), .val (.ref c23_xb), .val (.int (1 : Int32)), .unset] [(.int hd2), (.int ((own_put (own_put (fun _ => (0 : Int32)) (0 : Int32) hd1) (1 : Int32) hd2) (1 : Int32).toNatClampNeg))])) _
                                  refine XS.icmpYes X44.here hx rfl (pc0 := 218) (pc' := 225) rfl (hb hby at_218) rfl (feq hc218_45).2 (by decide) (by decide) ?_
                                  refine XS.iconst X44.here hx rfl (hb hby at_225) ?_
                                  refine XS.istore X44.here hx rfl (hb hby at_226) rfl (l' := #[.val (.int p1), .val (.int p2), .val (.int p3), .val (.int p4), .val (.long q5), .second, .val (.int p6), .val (.int id1), .val (.int id2), .val (.int r1), .val (.int r2), .val (.int hd1), .val (.int hd2), .val (.int sd), .val (.ref b1), .val (.ref c23_xb), .val (.int (1 : Int32)), .val (.int (0 : Int32))]) rfl ?_
                                  refine XS.iload X44.here hx rfl (hb hby at_228) rfl ?_
                                  show Steps p.tables e below (T44.setTop (mkF m 230 #[.val (.int p1), .val (.int p2), .val (.int p3), .val (.int p4), .val (.long q5), .second, .val (.int p6), .val (.int id1), .val (.int id2), .val (.int r1), .val (.int r2), .val (.int hd1), .val (.int hd2), .val (.int sd), .val (.ref b1), .val (.ref c23_xb), .val (.int (1 : Int32)), .val (.int (0 : Int32))] [(.int (1 : Int32))])) _
                                  refine XS.ifNo X44.here hx rfl (hb hby at_230) rfl ((if0 _ _).trans (feq ((by decide) : ¬ ((1 : Int32) = (0 : Int32)))).1) ?_
                                  refine XS.iload X44.here hx rfl (hb hby at_233) rfl ?_
                                  refine XS.ifYes X44.here hx rfl (pc0 := 235) (pc' := 242) rfl (hb hby at_235) rfl ((if0 _ _).trans (teq ((by decide) : (0 : Int32) = (0 : Int32))).1) (by decide) (by decide) ?_
                                  refine XS.iconst X44.here hx rfl (hb hby at_242) ?_
                                  exact kt
                                show own_End p e below s (T44.setTop (mkF m 243 #[.val (.int p1), .val (.int p2), .val (.int p3), .val (.int p4), .val (.long q5), .second, .val (.int p6), .val (.int id1), .val (.int id2), .val (.int r1), .val (.int r2), .val (.int hd1), .val (.int hd2), .val (.int sd), .val (.ref b1), .val (.ref c23_xb), .val (.int (1 : Int32)), .val (.int (0 : Int32))] [(.int (0 : Int32))])) (Q0 Z p1 p2 p3 p4 q5 p6 h0 n0) room_1.cells room_1.slots
                                have hv : (own_law p1 p2 p3 p4 q5 p6) = (0 : Int32) := hj.trans (by simp only [own_law_85, if_pos hc136_31, if_pos hc146_33, if_pos hc157_35, if_pos hc168_37, if_pos hc186_39, if_pos hc196_41, if_pos hc207_43, if_neg hc218_45])
                                obtain ⟨fs, hr, hrun, hended, hW, hsame⟩ := X44.leave (v := some (.int (0 : Int32))) (fun h => by rw [Bd.returns] at h; cases h)
                                refine ⟨_, _, ?_, hrun, hended, _, _, rfl, ?_, ⟨_, rfl⟩, hW, hsame.mono (by decide) (by decide)⟩
                                · exact retN X44 hx (t := .boolean) Bd.returns (by simp) (hb hby at_243) hr
                                · show Q0 Z p1 p2 p3 p4 q5 p6 h0 n0 _ T44.heap _
                                  rw [e44]
                                  exact ⟨(congrArg (fun z => some (Value.int z)) hv.symm), N44⟩
                            · refine own_pre (A := T42.setTop (mkF m 243 #[.val (.int p1), .val (.int p2), .val (.int p3), .val (.int p4), .val (.long q5), .second, .val (.int p6), .val (.int id1), .val (.int id2), .val (.int r1), .val (.int r2), .val (.int hd1), .val (.int hd2), .val (.int sd), .val (.ref b1), .val (.ref c23_xb), .val (.int (1 : Int32)), .val (.int (0 : Int32))] [(.int (0 : Int32))])) (fun tt kt => ?_) ?_
                              · show Steps p.tables e below (T42.setTop (mkF m 207 #[.val (.int p1), .val (.int p2), .val (.int p3), .val (.int p4), .val (.long q5), .second, .val (.int p6), .val (.int id1), .val (.int id2), .val (.int r1), .val (.int r2), .val (.int hd1), .val (.int hd2), .val (.int sd), .val (.ref b1), .val (.ref c23_xb), .val (.int (1 : Int32)), .unset] [(.int r2), (.int ((own_put (own_put (fun _ => (0 : Int32)) (0 : Int32) r1) (1 : Int32) r2) (1 : Int32).toNatClampNeg))])) _
                                refine XS.icmpYes X42.here hx rfl (pc0 := 207) (pc' := 225) rfl (hb hby at_207) rfl (feq hc207_43).2 (by decide) (by decide) ?_
                                refine XS.iconst X42.here hx rfl (hb hby at_225) ?_
                                refine XS.istore X42.here hx rfl (hb hby at_226) rfl (l' := #[.val (.int p1), .val (.int p2), .val (.int p3), .val (.int p4), .val (.long q5), .second, .val (.int p6), .val (.int id1), .val (.int id2), .val (.int r1), .val (.int r2), .val (.int hd1), .val (.int hd2), .val (.int sd), .val (.ref b1), .val (.ref c23_xb), .val (.int (1 : Int32)), .val (.int (0 : Int32))]) rfl ?_
                                refine XS.iload X42.here hx rfl (hb hby at_228) rfl ?_
                                show Steps p.tables e below (T42.setTop (mkF m 230 #[.val (.int p1), .val (.int p2), .val (.int p3), .val (.int p4), .val (.long q5), .second, .val (.int p6), .val (.int id1), .val (.int id2), .val (.int r1), .val (.int r2), .val (.int hd1), .val (.int hd2), .val (.int sd), .val (.ref b1), .val (.ref c23_xb), .val (.int (1 : Int32)), .val (.int (0 : Int32))] [(.int (1 : Int32))])) _
                                refine XS.ifNo X42.here hx rfl (hb hby at_230) rfl ((if0 _ _).trans (feq ((by decide) : ¬ ((1 : Int32) = (0 : Int32)))).1) ?_
                                refine XS.iload X42.here hx rfl (hb hby at_233) rfl ?_
                                refine XS.ifYes X42.here hx rfl (pc0 := 235) (pc' := 242) rfl (hb hby at_235) rfl ((if0 _ _).trans (teq ((by decide) : (0 : Int32) = (0 : Int32))).1) (by decide) (by decide) ?_
                                refine XS.iconst X42.here hx rfl (hb hby at_242) ?_
                                exact kt
                              show own_End p e below s (T42.setTop (mkF m 243 #[.val (.int p1), .val (.int p2), .val (.int p3), .val (.int p4), .val (.long q5), .second, .val (.int p6), .val (.int id1), .val (.int id2), .val (.int r1), .val (.int r2), .val (.int hd1), .val (.int hd2), .val (.int sd), .val (.ref b1), .val (.ref c23_xb), .val (.int (1 : Int32)), .val (.int (0 : Int32))] [(.int (0 : Int32))])) (Q0 Z p1 p2 p3 p4 q5 p6 h0 n0) room_1.cells room_1.slots
                              have hv : (own_law p1 p2 p3 p4 q5 p6) = (0 : Int32) := hj.trans (by simp only [own_law_85, if_pos hc136_31, if_pos hc146_33, if_pos hc157_35, if_pos hc168_37, if_pos hc186_39, if_pos hc196_41, if_neg hc207_43])
                              obtain ⟨fs, hr, hrun, hended, hW, hsame⟩ := X42.leave (v := some (.int (0 : Int32))) (fun h => by rw [Bd.returns] at h; cases h)
                              refine ⟨_, _, ?_, hrun, hended, _, _, rfl, ?_, ⟨_, rfl⟩, hW, hsame.mono (by decide) (by decide)⟩
                              · exact retN X42 hx (t := .boolean) Bd.returns (by simp) (hb hby at_243) hr
                              · show Q0 Z p1 p2 p3 p4 q5 p6 h0 n0 _ T42.heap _
                                rw [e42]
                                exact ⟨(congrArg (fun z => some (Value.int z)) hv.symm), N42⟩
                          · refine own_pre (A := T40.setTop (mkF m 243 #[.val (.int p1), .val (.int p2), .val (.int p3), .val (.int p4), .val (.long q5), .second, .val (.int p6), .val (.int id1), .val (.int id2), .val (.int r1), .val (.int r2), .val (.int hd1), .val (.int hd2), .val (.int sd), .val (.ref b1), .val (.ref c23_xb), .val (.int (1 : Int32)), .val (.int (0 : Int32))] [(.int (0 : Int32))])) (fun tt kt => ?_) ?_
                            · show Steps p.tables e below (T40.setTop (mkF m 196 #[.val (.int p1), .val (.int p2), .val (.int p3), .val (.int p4), .val (.long q5), .second, .val (.int p6), .val (.int id1), .val (.int id2), .val (.int r1), .val (.int r2), .val (.int hd1), .val (.int hd2), .val (.int sd), .val (.ref b1), .val (.ref c23_xb), .val (.int (1 : Int32)), .unset] [(.int p4), (.int ((own_put (own_put (fun _ => (0 : Int32)) (0 : Int32) p3) (1 : Int32) p4) (1 : Int32).toNatClampNeg))])) _
                              refine XS.icmpYes X40.here hx rfl (pc0 := 196) (pc' := 225) rfl (hb hby at_196) rfl (feq hc196_41).2 (by decide) (by decide) ?_
                              refine XS.iconst X40.here hx rfl (hb hby at_225) ?_
                              refine XS.istore X40.here hx rfl (hb hby at_226) rfl (l' := #[.val (.int p1), .val (.int p2), .val (.int p3), .val (.int p4), .val (.long q5), .second, .val (.int p6), .val (.int id1), .val (.int id2), .val (.int r1), .val (.int r2), .val (.int hd1), .val (.int hd2), .val (.int sd), .val (.ref b1), .val (.ref c23_xb), .val (.int (1 : Int32)), .val (.int (0 : Int32))]) rfl ?_
                              refine XS.iload X40.here hx rfl (hb hby at_228) rfl ?_
                              show Steps p.tables e below (T40.setTop (mkF m 230 #[.val (.int p1), .val (.int p2), .val (.int p3), .val (.int p4), .val (.long q5), .second, .val (.int p6), .val (.int id1), .val (.int id2), .val (.int r1), .val (.int r2), .val (.int hd1), .val (.int hd2), .val (.int sd), .val (.ref b1), .val (.ref c23_xb), .val (.int (1 : Int32)), .val (.int (0 : Int32))] [(.int (1 : Int32))])) _
                              refine XS.ifNo X40.here hx rfl (hb hby at_230) rfl ((if0 _ _).trans (feq ((by decide) : ¬ ((1 : Int32) = (0 : Int32)))).1) ?_
                              refine XS.iload X40.here hx rfl (hb hby at_233) rfl ?_
                              refine XS.ifYes X40.here hx rfl (pc0 := 235) (pc' := 242) rfl (hb hby at_235) rfl ((if0 _ _).trans (teq ((by decide) : (0 : Int32) = (0 : Int32))).1) (by decide) (by decide) ?_
                              refine XS.iconst X40.here hx rfl (hb hby at_242) ?_
                              exact kt
                            show own_End p e below s (T40.setTop (mkF m 243 #[.val (.int p1), .val (.int p2), .val (.int p3), .val (.int p4), .val (.long q5), .second, .val (.int p6), .val (.int id1), .val (.int id2), .val (.int r1), .val (.int r2), .val (.int hd1), .val (.int hd2), .val (.int sd), .val (.ref b1), .val (.ref c23_xb), .val (.int (1 : Int32)), .val (.int (0 : Int32))] [(.int (0 : Int32))])) (Q0 Z p1 p2 p3 p4 q5 p6 h0 n0) room_1.cells room_1.slots
                            have hv : (own_law p1 p2 p3 p4 q5 p6) = (0 : Int32) := hj.trans (by simp only [own_law_85, if_pos hc136_31, if_pos hc146_33, if_pos hc157_35, if_pos hc168_37, if_pos hc186_39, if_neg hc196_41])
                            obtain ⟨fs, hr, hrun, hended, hW, hsame⟩ := X40.leave (v := some (.int (0 : Int32))) (fun h => by rw [Bd.returns] at h; cases h)
                            refine ⟨_, _, ?_, hrun, hended, _, _, rfl, ?_, ⟨_, rfl⟩, hW, hsame.mono (by decide) (by decide)⟩
                            · exact retN X40 hx (t := .boolean) Bd.returns (by simp) (hb hby at_243) hr
                            · show Q0 Z p1 p2 p3 p4 q5 p6 h0 n0 _ T40.heap _
                              rw [e40]
                              exact ⟨(congrArg (fun z => some (Value.int z)) hv.symm), N40⟩
                        · refine own_pre (A := T38.setTop (mkF m 243 #[.val (.int p1), .val (.int p2), .val (.int p3), .val (.int p4), .val (.long q5), .second, .val (.int p6), .val (.int id1), .val (.int id2), .val (.int r1), .val (.int r2), .val (.int hd1), .val (.int hd2), .val (.int sd), .val (.ref b1), .val (.ref c23_xb), .val (.int (1 : Int32)), .val (.int (0 : Int32))] [(.int (0 : Int32))])) (fun tt kt => ?_) ?_
                          · show Steps p.tables e below (T38.setTop (mkF m 186 #[.val (.int p1), .val (.int p2), .val (.int p3), .val (.int p4), .val (.long q5), .second, .val (.int p6), .val (.int id1), .val (.int id2), .val (.int r1), .val (.int r2), .val (.int hd1), .val (.int hd2), .val (.int sd), .val (.ref b1), .val (.ref c23_xb), .val (.int (1 : Int32)), .unset] [(.int id2), (.int ((own_put (own_put (fun _ => (0 : Int32)) (0 : Int32) id1) (1 : Int32) id2) (1 : Int32).toNatClampNeg))])) _
                            refine XS.icmpYes X38.here hx rfl (pc0 := 186) (pc' := 225) rfl (hb hby at_186) rfl (feq hc186_39).2 (by decide) (by decide) ?_
                            refine XS.iconst X38.here hx rfl (hb hby at_225) ?_
                            refine XS.istore X38.here hx rfl (hb hby at_226) rfl (l' := #[.val (.int p1), .val (.int p2), .val (.int p3), .val (.int p4), .val (.long q5), .second, .val (.int p6), .val (.int id1), .val (.int id2), .val (.int r1), .val (.int r2), .val (.int hd1), .val (.int hd2), .val (.int sd), .val (.ref b1), .val (.ref c23_xb), .val (.int (1 : Int32)), .val (.int (0 : Int32))]) rfl ?_
                            refine XS.iload X38.here hx rfl (hb hby at_228) rfl ?_
                            show Steps p.tables e below (T38.setTop (mkF m 230 #[.val (.int p1), .val (.int p2), .val (.int p3), .val (.int p4), .val (.long q5), .second, .val (.int p6), .val (.int id1), .val (.int id2), .val (.int r1), .val (.int r2), .val (.int hd1), .val (.int hd2), .val (.int sd), .val (.ref b1), .val (.ref c23_xb), .val (.int (1 : Int32)), .val (.int (0 : Int32))] [(.int (1 : Int32))])) _
                            refine XS.ifNo X38.here hx rfl (hb hby at_230) rfl ((if0 _ _).trans (feq ((by decide) : ¬ ((1 : Int32) = (0 : Int32)))).1) ?_
                            refine XS.iload X38.here hx rfl (hb hby at_233) rfl ?_
                            refine XS.ifYes X38.here hx rfl (pc0 := 235) (pc' := 242) rfl (hb hby at_235) rfl ((if0 _ _).trans (teq ((by decide) : (0 : Int32) = (0 : Int32))).1) (by decide) (by decide) ?_
                            refine XS.iconst X38.here hx rfl (hb hby at_242) ?_
                            exact kt
                          show own_End p e below s (T38.setTop (mkF m 243 #[.val (.int p1), .val (.int p2), .val (.int p3), .val (.int p4), .val (.long q5), .second, .val (.int p6), .val (.int id1), .val (.int id2), .val (.int r1), .val (.int r2), .val (.int hd1), .val (.int hd2), .val (.int sd), .val (.ref b1), .val (.ref c23_xb), .val (.int (1 : Int32)), .val (.int (0 : Int32))] [(.int (0 : Int32))])) (Q0 Z p1 p2 p3 p4 q5 p6 h0 n0) room_1.cells room_1.slots
                          have hv : (own_law p1 p2 p3 p4 q5 p6) = (0 : Int32) := hj.trans (by simp only [own_law_85, if_pos hc136_31, if_pos hc146_33, if_pos hc157_35, if_pos hc168_37, if_neg hc186_39])
                          obtain ⟨fs, hr, hrun, hended, hW, hsame⟩ := X38.leave (v := some (.int (0 : Int32))) (fun h => by rw [Bd.returns] at h; cases h)
                          refine ⟨_, _, ?_, hrun, hended, _, _, rfl, ?_, ⟨_, rfl⟩, hW, hsame.mono (by decide) (by decide)⟩
                          · exact retN X38 hx (t := .boolean) Bd.returns (by simp) (hb hby at_243) hr
                          · show Q0 Z p1 p2 p3 p4 q5 p6 h0 n0 _ T38.heap _
                            rw [e38]
                            exact ⟨(congrArg (fun z => some (Value.int z)) hv.symm), N38⟩
                      · obtain ⟨cq46, kq46, q46a, q46b, q46c⟩ := isOf hZ e36 E_c23_xb_24
                        obtain ⟨_, _, ⟨T46, L46, k46, n46⟩, -, X46, ⟨Lc46, hQ46, l46, y46, z46⟩, st46⟩ := X36.virtualBack hx (y := (⟨"com/example/atoll/atoll/detect/Beacon", "id", "(I)I"⟩ : MethodName)) (z := (⟨"com/example/atoll/atoll/detect/Beacon", "id", "(I)I"⟩ : MethodName)) hown (mvT hZ (hw _ (List.mem_of_getElem? (i := 61) rfl))) (mvT hZ (hw _ (List.mem_of_getElem? (i := 62) rfl))) (notFace_of_selects (args := #[]) (mvT hZ (hw _ (List.mem_of_getElem? (i := 64) rfl)))) (mvT hZ (hw _ (List.mem_of_getElem? (i := 64) rfl))) (mvT hZ (hw _ (List.mem_of_getElem? (i := 63) rfl))) (by decide) (backOf (W := 0) (rm8 l Z a0 hw [] c23_xb (1 : Int32) sd c2_xi c2_xn c2_xr c2_xh (own_put (own_put (fun _ => (0 : Int32)) (0 : Int32) id1) (1 : Int32) id2) T23.heap n0 Z23 ⟨E_c23_xb_24, F_sender_c23_xb_25, F_ids_c23_xb_26, F_incarnations_c23_xb_27, F_rounds_c23_xb_28, F_heard_c23_xb_29⟩ fA_c2_xi_x23 ⟨by decide, by decide⟩) hZ (hw _ (List.mem_of_getElem? (i := 65) rfl)) (hw _ (List.mem_of_getElem? (i := 36) rfl)) (by decide) (by decide)) q46a q46c (g := (mkF m 181 #[.val (.int p1), .val (.int p2), .val (.int p3), .val (.int p4), .val (.long q5), .second, .val (.int p6), .val (.int id1), .val (.int id2), .val (.int r1), .val (.int r2), .val (.int hd1), .val (.int hd2), .val (.int sd), .val (.ref b1), .val (.ref c23_xb), .val (.int (0 : Int32)), .unset] [(.int (1 : Int32)), (.ref c23_xb)])) rfl (by rw [hml]; rfl) (Steps.refl _) (argsL := [(.int (1 : Int32))]) (rest := []) (lenOf pd_0_3 rfl) rfl (by show 2 * 0 + _ ≤ _; exact Nat.le_of_eq rfl) (hb hby at_181) (fun _ _ => ⟨rfl, e36, (by decide : 6 + 0 ≤ _), (by decide : 18 + 0 ≤ _)⟩)
                        dsimp only [Pt.U, Pt.locs, Pt.cells, Pt.slots] at X46 l46 y46 z46 st46 hQ46
                        subst l46 y46 z46
                        obtain ⟨rfl, N46q, e46⟩ := hQ46
                        have N46 := Fr.app N36 N46q
                        refine own_pre (A := T46.setTop (mkF m 186 #[.val (.int p1), .val (.int p2), .val (.int p3), .val (.int p4), .val (.long q5), .second, .val (.int p6), .val (.int id1), .val (.int id2), .val (.int r1), .val (.int r2), .val (.int hd1), .val (.int hd2), .val (.int sd), .val (.ref b1), .val (.ref c23_xb), .val (.int (0 : Int32)), .unset] [(.int id2), (.int ((own_put (own_put (fun _ => (0 : Int32)) (0 : Int32) id1) (1 : Int32) id2) (1 : Int32).toNatClampNeg))])) (fun tt kt => ?_) ?_
                        · show Steps p.tables e below (T36.setTop (mkF m 168 #[.val (.int p1), .val (.int p2), .val (.int p3), .val (.int p4), .val (.long q5), .second, .val (.int p6), .val (.int id1), .val (.int id2), .val (.int r1), .val (.int r2), .val (.int hd1), .val (.int hd2), .val (.int sd), .val (.ref b1), .val (.ref c23_xb), .unset, .unset] [(.int hd1), (.int ((own_put (own_put (fun _ => (0 : Int32)) (0 : Int32) hd1) (1 : Int32) hd2) (0 : Int32).toNatClampNeg))])) _
                          refine XS.icmpYes X36.here hx rfl (pc0 := 168) (pc' := 175) rfl (hb hby at_168) rfl (feq hc168_37).2 (by decide) (by decide) ?_
                          refine XS.iconst X36.here hx rfl (hb hby at_175) ?_
                          refine XS.istore X36.here hx rfl (hb hby at_176) rfl (l' := #[.val (.int p1), .val (.int p2), .val (.int p3), .val (.int p4), .val (.long q5), .second, .val (.int p6), .val (.int id1), .val (.int id2), .val (.int r1), .val (.int r2), .val (.int hd1), .val (.int hd2), .val (.int sd), .val (.ref b1), .val (.ref c23_xb), .val (.int (0 : Int32)), .unset]) rfl ?_
                          refine XS.aload X36.here hx rfl (hb hby at_178) rfl rfl ?_
                          show Steps p.tables e below (T36.setTop (mkF m 180 #[.val (.int p1), .val (.int p2), .val (.int p3), .val (.int p4), .val (.long q5), .second, .val (.int p6), .val (.int id1), .val (.int id2), .val (.int r1), .val (.int r2), .val (.int hd1), .val (.int hd2), .val (.int sd), .val (.ref b1), .val (.ref c23_xb), .val (.int (0 : Int32)), .unset] [(.ref c23_xb)])) _
                          refine XS.iconst X36.here hx rfl (hb hby at_180) ?_
                          show Steps p.tables e below (T36.setTop (mkF m 181 #[.val (.int p1), .val (.int p2), .val (.int p3), .val (.int p4), .val (.long q5), .second, .val (.int p6), .val (.int id1), .val (.int id2), .val (.int r1), .val (.int r2), .val (.int hd1), .val (.int hd2), .val (.int sd), .val (.ref b1), .val (.ref c23_xb), .val (.int (0 : Int32)), .unset] [(.int (1 : Int32)), (.ref c23_xb)])) _
                          refine st46.trans ?_
                          show Steps p.tables e below (T46.setTop (mkF m 184 #[.val (.int p1), .val (.int p2), .val (.int p3), .val (.int p4), .val (.long q5), .second, .val (.int p6), .val (.int id1), .val (.int id2), .val (.int r1), .val (.int r2), .val (.int hd1), .val (.int hd2), .val (.int sd), .val (.ref b1), .val (.ref c23_xb), .val (.int (0 : Int32)), .unset] [(.int ((own_put (own_put (fun _ => (0 : Int32)) (0 : Int32) id1) (1 : Int32) id2) (1 : Int32).toNatClampNeg))])) _
                          refine XS.iload X46.here hx rfl (hb hby at_184) rfl ?_
                          exact kt
                        show own_End p e below s (T46.setTop (mkF m 186 #[.val (.int p1), .val (.int p2), .val (.int p3), .val (.int p4), .val (.long q5), .second, .val (.int p6), .val (.int id1), .val (.int id2), .val (.int r1), .val (.int r2), .val (.int hd1), .val (.int hd2), .val (.int sd), .val (.ref b1), .val (.ref c23_xb), .val (.int (0 : Int32)), .unset] [(.int id2), (.int ((own_put (own_put (fun _ => (0 : Int32)) (0 : Int32) id1) (1 : Int32) id2) (1 : Int32).toNatClampNeg))])) (Q0 Z p1 p2 p3 p4 q5 p6 h0 n0) room_1.cells room_1.slots
                        by_cases hc186_47 : ((own_put (own_put (fun _ => (0 : Int32)) (0 : Int32) id1) (1 : Int32) id2) (1 : Int32).toNatClampNeg) = id2
                        · obtain ⟨cq48, kq48, q48a, q48b, q48c⟩ := isOf hZ e46 E_c23_xb_24
                          obtain ⟨_, _, ⟨T48, L48, k48, n48⟩, -, X48, ⟨Lc48, hQ48, l48, y48, z48⟩, st48⟩ := X46.virtualBack hx (y := (⟨"com/example/atoll/atoll/detect/Beacon", "incarnation", "(I)I"⟩ : MethodName)) (z := (⟨"com/example/atoll/atoll/detect/Beacon", "incarnation", "(I)I"⟩ : MethodName)) hown (mvT hZ (hw _ (List.mem_of_getElem? (i := 66) rfl))) (mvT hZ (hw _ (List.mem_of_getElem? (i := 67) rfl))) (notFace_of_selects (args := #[]) (mvT hZ (hw _ (List.mem_of_getElem? (i := 69) rfl)))) (mvT hZ (hw _ (List.mem_of_getElem? (i := 69) rfl))) (mvT hZ (hw _ (List.mem_of_getElem? (i := 68) rfl))) (by decide) (backOf (W := 0) (rm9 l Z a0 hw [] c23_xb (1 : Int32) sd c2_xi c2_xn c2_xr c2_xh (own_put (own_put (fun _ => (0 : Int32)) (0 : Int32) p3) (1 : Int32) p4) T23.heap n0 Z23 ⟨E_c23_xb_24, F_sender_c23_xb_25, F_ids_c23_xb_26, F_incarnations_c23_xb_27, F_rounds_c23_xb_28, F_heard_c23_xb_29⟩ fA_c2_xn_x23 ⟨by decide, by decide⟩) hZ (hw _ (List.mem_of_getElem? (i := 70) rfl)) (hw _ (List.mem_of_getElem? (i := 36) rfl)) (by decide) (by decide)) q48a q48c (g := (mkF m 192 #[.val (.int p1), .val (.int p2), .val (.int p3), .val (.int p4), .val (.long q5), .second, .val (.int p6), .val (.int id1), .val (.int id2), .val (.int r1), .val (.int r2), .val (.int hd1), .val (.int hd2), .val (.int sd), .val (.ref b1), .val (.ref c23_xb), .val (.int (0 : Int32)), .unset] [(.int (1 : Int32)), (.ref c23_xb)])) rfl (by rw [hml]; rfl) (Steps.refl _) (argsL := [(.int (1 : Int32))]) (rest := []) (lenOf pd_0_3 rfl) rfl (by show 2 * 0 + _ ≤ _; exact Nat.le_of_eq rfl) (hb hby at_192) (fun _ _ => ⟨rfl, e46, (by decide : 6 + 0 ≤ _), (by decide : 18 + 0 ≤ _)⟩)
                          dsimp only [Pt.U, Pt.locs, Pt.cells, Pt.slots] at X48 l48 y48 z48 st48 hQ48
                          subst l48 y48 z48
                          obtain ⟨rfl, N48q, e48⟩ := hQ48
                          have N48 := Fr.app N46 N48q
                          refine own_pre (A := T48.setTop (mkF m 196 #[.val (.int p1), .val (.int p2), .val (.int p3), .val (.int p4), .val (.long q5), .second, .val (.int p6), .val (.int id1), .val (.int id2), .val (.int r1), .val (.int r2), .val (.int hd1), .val (.int hd2), .val (.int sd), .val (.ref b1), .val (.ref c23_xb), .val (.int (0 : Int32)), .unset] [(.int p4), (.int ((own_put (own_put (fun _ => (0 : Int32)) (0 : Int32) p3) (1 : Int32) p4) (1 : Int32).toNatClampNeg))])) (fun tt kt => ?_) ?_
                          · show Steps p.tables e below (T46.setTop (mkF m 186 #[.val (.int p1), .val (.int p2), .val (.int p3), .val (.int p4), .val (.long q5), .second, .val (.int p6), .val (.int id1), .val (.int id2), .val (.int r1), .val (.int r2), .val (.int hd1), .val (.int hd2), .val (.int sd), .val (.ref b1), .val (.ref c23_xb), .val (.int (0 : Int32)), .unset] [(.int id2), (.int ((own_put (own_put (fun _ => (0 : Int32)) (0 : Int32) id1) (1 : Int32) id2) (1 : Int32).toNatClampNeg))])) _
                            refine XS.icmpNo X46.here hx rfl (hb hby at_186) rfl (teq hc186_47).2 ?_
                            refine XS.aload X46.here hx rfl (hb hby at_189) rfl rfl ?_
                            refine XS.iconst X46.here hx rfl (hb hby at_191) ?_
                            show Steps p.tables e below (T46.setTop (mkF m 192 #[.val (.int p1), .val (.int p2), .val (.int p3), .val (.int p4), .val (.long q5), .second, .val (.int p6), .val (.int id1), .val (.int id2), .val (.int r1), .val (.int r2), .val (.int hd1), .val (.int hd2), .val (.int sd), .val (.ref b1), .val (.ref c23_xb), .val (.int (0 : Int32)), .unset] [(.int (1 : Int32)), (.ref c23_xb)])) _
                            refine st48.trans ?_
                            show Steps p.tables e below (T48.setTop (mkF m 195 #[.val (.int p1), .val (.int p2), .val (.int p3), .val (.int p4), .val (.long q5), .second, .val (.int p6), .val (.int id1), .val (.int id2), .val (.int r1), .val (.int r2), .val (.int hd1), .val (.int hd2), .val (.int sd), .val (.ref b1), .val (.ref c23_xb), .val (.int (0 : Int32)), .unset] [(.int ((own_put (own_put (fun _ => (0 : Int32)) (0 : Int32) p3) (1 : Int32) p4) (1 : Int32).toNatClampNeg))])) _
                            refine XS.iloadN X48.here hx rfl (hb hby at_195) rfl ?_
                            exact kt
                          show own_End p e below s (T48.setTop (mkF m 196 #[.val (.int p1), .val (.int p2), .val (.int p3), .val (.int p4), .val (.long q5), .second, .val (.int p6), .val (.int id1), .val (.int id2), .val (.int r1), .val (.int r2), .val (.int hd1), .val (.int hd2), .val (.int sd), .val (.ref b1), .val (.ref c23_xb), .val (.int (0 : Int32)), .unset] [(.int p4), (.int ((own_put (own_put (fun _ => (0 : Int32)) (0 : Int32) p3) (1 : Int32) p4) (1 : Int32).toNatClampNeg))])) (Q0 Z p1 p2 p3 p4 q5 p6 h0 n0) room_1.cells room_1.slots
                          by_cases hc196_49 : ((own_put (own_put (fun _ => (0 : Int32)) (0 : Int32) p3) (1 : Int32) p4) (1 : Int32).toNatClampNeg) = p4
                          · obtain ⟨cq50, kq50, q50a, q50b, q50c⟩ := isOf hZ e48 E_c23_xb_24
                            obtain ⟨_, _, ⟨T50, L50, k50, n50⟩, -, X50, ⟨Lc50, hQ50, l50, y50, z50⟩, st50⟩ := X48.virtualBack hx (y := (⟨"com/example/atoll/atoll/detect/Beacon", "round", "(I)I"⟩ : MethodName)) (z := (⟨"com/example/atoll/atoll/detect/Beacon", "round", "(I)I"⟩ : MethodName)) hown (mvT hZ (hw _ (List.mem_of_getElem? (i := 71) rfl))) (mvT hZ (hw _ (List.mem_of_getElem? (i := 72) rfl))) (notFace_of_selects (args := #[]) (mvT hZ (hw _ (List.mem_of_getElem? (i := 74) rfl)))) (mvT hZ (hw _ (List.mem_of_getElem? (i := 74) rfl))) (mvT hZ (hw _ (List.mem_of_getElem? (i := 73) rfl))) (by decide) (backOf (W := 0) (rm10 l Z a0 hw [] c23_xb (1 : Int32) sd c2_xi c2_xn c2_xr c2_xh (own_put (own_put (fun _ => (0 : Int32)) (0 : Int32) r1) (1 : Int32) r2) T23.heap n0 Z23 ⟨E_c23_xb_24, F_sender_c23_xb_25, F_ids_c23_xb_26, F_incarnations_c23_xb_27, F_rounds_c23_xb_28, F_heard_c23_xb_29⟩ fA_c2_xr_x23 ⟨by decide, by decide⟩) hZ (hw _ (List.mem_of_getElem? (i := 75) rfl)) (hw _ (List.mem_of_getElem? (i := 36) rfl)) (by decide) (by decide)) q50a q50c (g := (mkF m 202 #[.val (.int p1), .val (.int p2), .val (.int p3), .val (.int p4), .val (.long q5), .second, .val (.int p6), .val (.int id1), .val (.int id2), .val (.int r1), .val (.int r2), .val (.int hd1), .val (.int hd2), .val (.int sd), .val (.ref b1), .val (.ref c23_xb), .val (.int (0 : Int32)), .unset] [(.int (1 : Int32)), (.ref c23_xb)])) rfl (by rw [hml]; rfl) (Steps.refl _) (argsL := [(.int (1 : Int32))]) (rest := []) (lenOf pd_0_3 rfl) rfl (by show 2 * 0 + _ ≤ _; exact Nat.le_of_eq rfl) (hb hby at_202) (fun _ _ => ⟨rfl, e48, (by decide : 6 + 0 ≤ _), (by decide : 18 + 0 ≤ _)⟩)
                            dsimp only [Pt.U, Pt.locs, Pt.cells, Pt.slots] at X50 l50 y50 z50 st50 hQ50
                            subst l50 y50 z50
                            obtain ⟨rfl, N50q, e50⟩ := hQ50
                            have N50 := Fr.app N48 N50q
                            refine own_pre (A := T50.setTop (mkF m 207 #[.val (.int p1), .val (.int p2), .val (.int p3), .val (.int p4), .val (.long q5), .second, .val (.int p6), .val (.int id1), .val (.int id2), .val (.int r1), .val (.int r2), .val (.int hd1), .val (.int hd2), .val (.int sd), .val (.ref b1), .val (.ref c23_xb), .val (.int (0 : Int32)), .unset] [(.int r2), (.int ((own_put (own_put (fun _ => (0 : Int32)) (0 : Int32) r1) (1 : Int32) r2) (1 : Int32).toNatClampNeg))])) (fun tt kt => ?_) ?_
                            · show Steps p.tables e below (T48.setTop (mkF m 196 #[.val (.int p1), .val (.int p2), .val (.int p3), .val (.int p4), .val (.long q5), .second, .val (.int p6), .val (.int id1), .val (.int id2), .val (.int r1), .val (.int r2), .val (.int hd1), .val (.int hd2), .val (.int sd), .val (.ref b1), .val (.ref c23_xb), .val (.int (0 : Int32)), .unset] [(.int p4), (.int ((own_put (own_put (fun _ => (0 : Int32)) (0 : Int32) p3) (1 : Int32) p4) (1 : Int32).toNatClampNeg))])) _
                              refine XS.icmpNo X48.here hx rfl (hb hby at_196) rfl (teq hc196_49).2 ?_
                              refine XS.aload X48.here hx rfl (hb hby at_199) rfl rfl ?_
                              refine XS.iconst X48.here hx rfl (hb hby at_201) ?_
                              show Steps p.tables e below (T48.setTop (mkF m 202 #[.val (.int p1), .val (.int p2), .val (.int p3), .val (.int p4), .val (.long q5), .second, .val (.int p6), .val (.int id1), .val (.int id2), .val (.int r1), .val (.int r2), .val (.int hd1), .val (.int hd2), .val (.int sd), .val (.ref b1), .val (.ref c23_xb), .val (.int (0 : Int32)), .unset] [(.int (1 : Int32)), (.ref c23_xb)])) _
                              refine st50.trans ?_
                              show Steps p.tables e below (T50.setTop (mkF m 205 #[.val (.int p1), .val (.int p2), .val (.int p3), .val (.int p4), .val (.long q5), .second, .val (.int p6), .val (.int id1), .val (.int id2), .val (.int r1), .val (.int r2), .val (.int hd1), .val (.int hd2), .val (.int sd), .val (.ref b1), .val (.ref c23_xb), .val (.int (0 : Int32)), .unset] [(.int ((own_put (own_put (fun _ => (0 : Int32)) (0 : Int32) r1) (1 : Int32) r2) (1 : Int32).toNatClampNeg))])) _
                              refine XS.iload X50.here hx rfl (hb hby at_205) rfl ?_
                              exact kt
                            show own_End p e below s (T50.setTop (mkF m 207 #[.val (.int p1), .val (.int p2), .val (.int p3), .val (.int p4), .val (.long q5), .second, .val (.int p6), .val (.int id1), .val (.int id2), .val (.int r1), .val (.int r2), .val (.int hd1), .val (.int hd2), .val (.int sd), .val (.ref b1), .val (.ref c23_xb), .val (.int (0 : Int32)), .unset] [(.int r2), (.int ((own_put (own_put (fun _ => (0 : Int32)) (0 : Int32) r1) (1 : Int32) r2) (1 : Int32).toNatClampNeg))])) (Q0 Z p1 p2 p3 p4 q5 p6 h0 n0) room_1.cells room_1.slots
                            by_cases hc207_51 : ((own_put (own_put (fun _ => (0 : Int32)) (0 : Int32) r1) (1 : Int32) r2) (1 : Int32).toNatClampNeg) = r2
                            · obtain ⟨cq52, kq52, q52a, q52b, q52c⟩ := isOf hZ e50 E_c23_xb_24
                              obtain ⟨_, _, ⟨T52, L52, k52, n52⟩, -, X52, ⟨Lc52, hQ52, l52, y52, z52⟩, st52⟩ := X50.virtualBack hx (y := (⟨"com/example/atoll/atoll/detect/Beacon", "heard", "(I)I"⟩ : MethodName)) (z := (⟨"com/example/atoll/atoll/detect/Beacon", "heard", "(I)I"⟩ : MethodName)) hown (mvT hZ (hw _ (List.mem_of_getElem? (i := 76) rfl))) (mvT hZ (hw _ (List.mem_of_getElem? (i := 77) rfl))) (notFace_of_selects (args := #[]) (mvT hZ (hw _ (List.mem_of_getElem? (i := 79) rfl)))) (mvT hZ (hw _ (List.mem_of_getElem? (i := 79) rfl))) (mvT hZ (hw _ (List.mem_of_getElem? (i := 78) rfl))) (by decide) (backOf (W := 0) (rm11 l Z a0 hw [] c23_xb (1 : Int32) sd c2_xi c2_xn c2_xr c2_xh (own_put (own_put (fun _ => (0 : Int32)) (0 : Int32) hd1) (1 : Int32) hd2) T23.heap n0 Z23 ⟨E_c23_xb_24, F_sender_c23_xb_25, F_ids_c23_xb_26, F_incarnations_c23_xb_27, F_rounds_c23_xb_28, F_heard_c23_xb_29⟩ fA_c2_xh_x23 ⟨by decide, by decide⟩) hZ (hw _ (List.mem_of_getElem? (i := 80) rfl)) (hw _ (List.mem_of_getElem? (i := 36) rfl)) (by decide) (by decide)) q52a q52c (g := (mkF m 213 #[.val (.int p1), .val (.int p2), .val (.int p3), .val (.int p4), .val (.long q5), .second, .val (.int p6), .val (.int id1), .val (.int id2), .val (.int r1), .val (.int r2), .val (.int hd1), .val (.int hd2), .val (.int sd), .val (.ref b1), .val (.ref c23_xb), .val (.int (0 : Int32)), .unset] [(.int (1 : Int32)), (.ref c23_xb)])) rfl (by rw [hml]; rfl) (Steps.refl _) (argsL := [(.int (1 : Int32))]) (rest := []) (lenOf pd_0_3 rfl) rfl (by show 2 * 0 + _ ≤ _; exact Nat.le_of_eq rfl) (hb hby at_213) (fun _ _ => ⟨rfl, e50, (by decide : 6 + 0 ≤ _), (by decide : 18 + 0 ≤ _)⟩)
                              dsimp only [Pt.U, Pt.locs, Pt.cells, Pt.slots] at X52 l52 y52 z52 st52 hQ52
                              subst l52 y52 z52
                              obtain ⟨rfl, N52q, e52⟩ := hQ52
                              have N52 := Fr.app N50 N52q
                              refine own_pre (A := T52.setTop (mkF m 218 #[.val (.int p1), .val (.int p2), .val (.int p3), .val (.int p4), .val (.long q5), .second, .val (.int p6), .val (.int id1), .val (.int id2), .val (.int r1), .val (.int r2), .val (.int hd1), .val (.int hd2), .val (.int sd), .val (.ref b1), .val (.ref c23_xb), .val (.int (0 : Int32)), .unset] [(.int hd2), (.int ((own_put (own_put (fun _ => (0 : Int32)) (0 : Int32) hd1) (1 : Int32) hd2) (1 : Int32).toNatClampNeg))])) (fun tt kt => ?_) ?_
                              · show Steps p.tables e below (T50.setTop (mkF m 207 #[.val (.int p1), .val (.int p2), .val (.int p3), .val (.int p4), .val (.long q5), .second, .val (.int p6), .val (.int id1), .val (.int id2), .val (.int r1), .val (.int r2), .val (.int hd1), .val (.int hd2), .val (.int sd), .val (.ref b1), .val (.ref c23_xb), .val (.int (0 : Int32)), .unset] [(.int r2), (.int ((own_put (own_put (fun _ => (0 : Int32)) (0 : Int32) r1) (1 : Int32) r2) (1 : Int32).toNatClampNeg))])) _
                                refine XS.icmpNo X50.here hx rfl (hb hby at_207) rfl (teq hc207_51).2 ?_
                                refine XS.aload X50.here hx rfl (hb hby at_210) rfl rfl ?_
                                refine XS.iconst X50.here hx rfl (hb hby at_212) ?_
                                show Steps p.tables e below (T50.setTop (mkF m 213 #[.val (.int p1), .val (.int p2), .val (.int p3), .val (.int p4), .val (.long q5), .second, .val (.int p6), .val (.int id1), .val (.int id2), .val (.int r1), .val (.int r2), .val (.int hd1), .val (.int hd2), .val (.int sd), .val (.ref b1), .val (.ref c23_xb), .val (.int (0 : Int32)), .unset] [(.int (1 : Int32)), (.ref c23_xb)])) _
                                refine st52.trans ?_
                                show Steps p.tables e below (T52.setTop (mkF m 216 #[.val (.int p1), .val (.int p2), .val (.int p3), .val (.int p4), .val (.long q5), .second, .val (.int p6), .val (.int id1), .val (.int id2), .val (.int r1), .val (.int r2), .val (.int hd1), .val (.int hd2), .val (.int sd), .val (.ref b1), .val (.ref c23_xb), .val (.int (0 : Int32)), .unset] [(.int ((own_put (own_put (fun _ => (0 : Int32)) (0 : Int32) hd1) (1 : Int32) hd2) (1 : Int32).toNatClampNeg))])) _
                                refine XS.iload X52.here hx rfl (hb hby at_216) rfl ?_
                                exact kt
                              show own_End p e below s (T52.setTop (mkF m 218 #[.val (.int p1), .val (.int p2), .val (.int p3), .val (.int p4), .val (.long q5), .second, .val (.int p6), .val (.int id1), .val (.int id2), .val (.int r1), .val (.int r2), .val (.int hd1), .val (.int hd2), .val (.int sd), .val (.ref b1), .val (.ref c23_xb), .val (.int (0 : Int32)), .unset] [(.int hd2), (.int ((own_put (own_put (fun _ => (0 : Int32)) (0 : Int32) hd1) (1 : Int32) hd2) (1 : Int32).toNatClampNeg))])) (Q0 Z p1 p2 p3 p4 q5 p6 h0 n0) room_1.cells room_1.slots
                              by_cases hc218_53 : ((own_put (own_put (fun _ => (0 : Int32)) (0 : Int32) hd1) (1 : Int32) hd2) (1 : Int32).toNatClampNeg) = hd2
                              · refine own_pre (A := T52.setTop (mkF m 243 #[.val (.int p1), .val (.int p2), .val (.int p3), .val (.int p4), .val (.long q5), .second, .val (.int p6), .val (.int id1), .val (.int id2), .val (.int r1), .val (.int r2), .val (.int hd1), .val (.int hd2), .val (.int sd), .val (.ref b1), .val (.ref c23_xb), .val (.int (0 : Int32)), .val (.int (1 : Int32))] [(.int (0 : Int32))])) (fun tt kt => ?_) ?_
                                · show Steps p.tables e below (T52.setTop (mkF m 218 #[.val (.int p1), .val (.int p2), .val (.int p3), .val (.int p4), .val (.long q5), .second, .val (.int p6), .val (.int id1), .val (.int id2), .val (.int r1), .val (.int r2), .val (.int hd1), .val (.int hd2), .val (.int sd), .val (.ref b1), .val (.ref c23_xb), .val (.int (0 : Int32)), .unset] [(.int hd2), (.int ((own_put (own_put (fun _ => (0 : Int32)) (0 : Int32) hd1) (1 : Int32) hd2) (1 : Int32).toNatClampNeg))])) _
                                  refine XS.icmpNo X52.here hx rfl (hb hby at_218) rfl (teq hc218_53).2 ?_
                                  refine XS.iconst X52.here hx rfl (hb hby at_221) ?_
                                  refine XS.goto X52.here hx rfl (pc0 := 222) (pc' := 226) rfl (hb hby at_222) (by decide) (by decide) ?_
                                  refine XS.istore X52.here hx rfl (hb hby at_226) rfl (l' := #[.val (.int p1), .val (.int p2), .val (.int p3), .val (.int p4), .val (.long q5), .second, .val (.int p6), .val (.int id1), .val (.int id2), .val (.int r1), .val (.int r2), .val (.int hd1), .val (.int hd2), .val (.int sd), .val (.ref b1), .val (.ref c23_xb), .val (.int (0 : Int32)), .val (.int (1 : Int32))]) rfl ?_
                                  show Steps p.tables e below (T52.setTop (mkF m 228 #[.val (.int p1), .val (.int p2), .val (.int p3), .val (.int p4), .val (.long q5), .second, .val (.int p6), .val (.int id1), .val (.int id2), .val (.int r1), .val (.int r2), .val (.int hd1), .val (.int hd2), .val (.int sd), .val (.ref b1), .val (.ref c23_xb), .val (.int (0 : Int32)), .val (.int (1 : Int32))] [])) _
                                  refine XS.iload X52.here hx rfl (hb hby at_228) rfl ?_
                                  refine XS.ifYes X52.here hx rfl (pc0 := 230) (pc' := 242) rfl (hb hby at_230) rfl ((if0 _ _).trans (teq ((by decide) : (0 : Int32) = (0 : Int32))).1) (by decide) (by decide) ?_
                                  refine XS.iconst X52.here hx rfl (hb hby at_242) ?_
                                  exact kt
                                show own_End p e below s (T52.setTop (mkF m 243 #[.val (.int p1), .val (.int p2), .val (.int p3), .val (.int p4), .val (.long q5), .second, .val (.int p6), .val (.int id1), .val (.int id2), .val (.int r1), .val (.int r2), .val (.int hd1), .val (.int hd2), .val (.int sd), .val (.ref b1), .val (.ref c23_xb), .val (.int (0 : Int32)), .val (.int (1 : Int32))] [(.int (0 : Int32))])) (Q0 Z p1 p2 p3 p4 q5 p6 h0 n0) room_1.cells room_1.slots
                                have hv : (own_law p1 p2 p3 p4 q5 p6) = (0 : Int32) := hj.trans (by simp only [own_law_85, if_pos hc136_31, if_pos hc146_33, if_pos hc157_35, if_neg hc168_37, if_pos hc186_47, if_pos hc196_49, if_pos hc207_51, if_pos hc218_53])
                                obtain ⟨fs, hr, hrun, hended, hW, hsame⟩ := X52.leave (v := some (.int (0 : Int32))) (fun h => by rw [Bd.returns] at h; cases h)
                                refine ⟨_, _, ?_, hrun, hended, _, _, rfl, ?_, ⟨_, rfl⟩, hW, hsame.mono (by decide) (by decide)⟩
                                · exact retN X52 hx (t := .boolean) Bd.returns (by simp) (hb hby at_243) hr
                                · show Q0 Z p1 p2 p3 p4 q5 p6 h0 n0 _ T52.heap _
                                  rw [e52]
                                  exact ⟨(congrArg (fun z => some (Value.int z)) hv.symm), N52⟩
                              · refine own_pre (A := T52.setTop (mkF m 243 #[.val (.int p1), .val (.int p2), .val (.int p3), .val (.int p4), .val (.long q5), .second, .val (.int p6), .val (.int id1), .val (.int id2), .val (.int r1), .val (.int r2), .val (.int hd1), .val (.int hd2), .val (.int sd), .val (.ref b1), .val (.ref c23_xb), .val (.int (0 : Int32)), .val (.int (0 : Int32))] [(.int (0 : Int32))])) (fun tt kt => ?_) ?_
                                · show Steps p.tables e below (T52.setTop (mkF m 218 #[.val (.int p1), .val (.int p2), .val (.int p3), .val (.int p4), .val (.long q5), .second, .val (.int p6), .val (.int id1), .val (.int id2), .val (.int r1), .val (.int r2), .val (.int hd1), .val (.int hd2), .val (.int sd), .val (.ref b1), .val (.ref c23_xb), .val (.int (0 : Int32)), .unset] [(.int hd2), (.int ((own_put (own_put (fun _ => (0 : Int32)) (0 : Int32) hd1) (1 : Int32) hd2) (1 : Int32).toNatClampNeg))])) _
                                  refine XS.icmpYes X52.here hx rfl (pc0 := 218) (pc' := 225) rfl (hb hby at_218) rfl (feq hc218_53).2 (by decide) (by decide) ?_
                                  refine XS.iconst X52.here hx rfl (hb hby at_225) ?_
                                  refine XS.istore X52.here hx rfl (hb hby at_226) rfl (l' := #[.val (.int p1), .val (.int p2), .val (.int p3), .val (.int p4), .val (.long q5), .second, .val (.int p6), .val (.int id1), .val (.int id2), .val (.int r1), .val (.int r2), .val (.int hd1), .val (.int hd2), .val (.int sd), .val (.ref b1), .val (.ref c23_xb), .val (.int (0 : Int32)), .val (.int (0 : Int32))]) rfl ?_
                                  refine XS.iload X52.here hx rfl (hb hby at_228) rfl ?_
                                  show Steps p.tables e below (T52.setTop (mkF m 230 #[.val (.int p1), .val (.int p2), .val (.int p3), .val (.int p4), .val (.long q5), .second, .val (.int p6), .val (.int id1), .val (.int id2), .val (.int r1), .val (.int r2), .val (.int hd1), .val (.int hd2), .val (.int sd), .val (.ref b1), .val (.ref c23_xb), .val (.int (0 : Int32)), .val (.int (0 : Int32))] [(.int (0 : Int32))])) _
                                  refine XS.ifYes X52.here hx rfl (pc0 := 230) (pc' := 242) rfl (hb hby at_230) rfl ((if0 _ _).trans (teq ((by decide) : (0 : Int32) = (0 : Int32))).1) (by decide) (by decide) ?_
                                  refine XS.iconst X52.here hx rfl (hb hby at_242) ?_
                                  exact kt
                                show own_End p e below s (T52.setTop (mkF m 243 #[.val (.int p1), .val (.int p2), .val (.int p3), .val (.int p4), .val (.long q5), .second, .val (.int p6), .val (.int id1), .val (.int id2), .val (.int r1), .val (.int r2), .val (.int hd1), .val (.int hd2), .val (.int sd), .val (.ref b1), .val (.ref c23_xb), .val (.int (0 : Int32)), .val (.int (0 : Int32))] [(.int (0 : Int32))])) (Q0 Z p1 p2 p3 p4 q5 p6 h0 n0) room_1.cells room_1.slots
                                have hv : (own_law p1 p2 p3 p4 q5 p6) = (0 : Int32) := hj.trans (by simp only [own_law_85, if_pos hc136_31, if_pos hc146_33, if_pos hc157_35, if_neg hc168_37, if_pos hc186_47, if_pos hc196_49, if_pos hc207_51, if_neg hc218_53])
                                obtain ⟨fs, hr, hrun, hended, hW, hsame⟩ := X52.leave (v := some (.int (0 : Int32))) (fun h => by rw [Bd.returns] at h; cases h)
                                refine ⟨_, _, ?_, hrun, hended, _, _, rfl, ?_, ⟨_, rfl⟩, hW, hsame.mono (by decide) (by decide)⟩
                                · exact retN X52 hx (t := .boolean) Bd.returns (by simp) (hb hby at_243) hr
                                · show Q0 Z p1 p2 p3 p4 q5 p6 h0 n0 _ T52.heap _
                                  rw [e52]
                                  exact ⟨(congrArg (fun z => some (Value.int z)) hv.symm), N52⟩
                            · refine own_pre (A := T50.setTop (mkF m 243 #[.val (.int p1), .val (.int p2), .val (.int p3), .val (.int p4), .val (.long q5), .second, .val (.int p6), .val (.int id1), .val (.int id2), .val (.int r1), .val (.int r2), .val (.int hd1), .val (.int hd2), .val (.int sd), .val (.ref b1), .val (.ref c23_xb), .val (.int (0 : Int32)), .val (.int (0 : Int32))] [(.int (0 : Int32))])) (fun tt kt => ?_) ?_
                              · show Steps p.tables e below (T50.setTop (mkF m 207 #[.val (.int p1), .val (.int p2), .val (.int p3), .val (.int p4), .val (.long q5), .second, .val (.int p6), .val (.int id1), .val (.int id2), .val (.int r1), .val (.int r2), .val (.int hd1), .val (.int hd2), .val (.int sd), .val (.ref b1), .val (.ref c23_xb), .val (.int (0 : Int32)), .unset] [(.int r2), (.int ((own_put (own_put (fun _ => (0 : Int32)) (0 : Int32) r1) (1 : Int32) r2) (1 : Int32).toNatClampNeg))])) _
                                refine XS.icmpYes X50.here hx rfl (pc0 := 207) (pc' := 225) rfl (hb hby at_207) rfl (feq hc207_51).2 (by decide) (by decide) ?_
                                refine XS.iconst X50.here hx rfl (hb hby at_225) ?_
                                refine XS.istore X50.here hx rfl (hb hby at_226) rfl (l' := #[.val (.int p1), .val (.int p2), .val (.int p3), .val (.int p4), .val (.long q5), .second, .val (.int p6), .val (.int id1), .val (.int id2), .val (.int r1), .val (.int r2), .val (.int hd1), .val (.int hd2), .val (.int sd), .val (.ref b1), .val (.ref c23_xb), .val (.int (0 : Int32)), .val (.int (0 : Int32))]) rfl ?_
                                refine XS.iload X50.here hx rfl (hb hby at_228) rfl ?_
                                show Steps p.tables e below (T50.setTop (mkF m 230 #[.val (.int p1), .val (.int p2), .val (.int p3), .val (.int p4), .val (.long q5), .second, .val (.int p6), .val (.int id1), .val (.int id2), .val (.int r1), .val (.int r2), .val (.int hd1), .val (.int hd2), .val (.int sd), .val (.ref b1), .val (.ref c23_xb), .val (.int (0 : Int32)), .val (.int (0 : Int32))] [(.int (0 : Int32))])) _
                                refine XS.ifYes X50.here hx rfl (pc0 := 230) (pc' := 242) rfl (hb hby at_230) rfl ((if0 _ _).trans (teq ((by decide) : (0 : Int32) = (0 : Int32))).1) (by decide) (by decide) ?_
                                refine XS.iconst X50.here hx rfl (hb hby at_242) ?_
                                exact kt
                              show own_End p e below s (T50.setTop (mkF m 243 #[.val (.int p1), .val (.int p2), .val (.int p3), .val (.int p4), .val (.long q5), .second, .val (.int p6), .val (.int id1), .val (.int id2), .val (.int r1), .val (.int r2), .val (.int hd1), .val (.int hd2), .val (.int sd), .val (.ref b1), .val (.ref c23_xb), .val (.int (0 : Int32)), .val (.int (0 : Int32))] [(.int (0 : Int32))])) (Q0 Z p1 p2 p3 p4 q5 p6 h0 n0) room_1.cells room_1.slots
                              have hv : (own_law p1 p2 p3 p4 q5 p6) = (0 : Int32) := hj.trans (by simp only [own_law_85, if_pos hc136_31, if_pos hc146_33, if_pos hc157_35, if_neg hc168_37, if_pos hc186_47, if_pos hc196_49, if_neg hc207_51])
                              obtain ⟨fs, hr, hrun, hended, hW, hsame⟩ := X50.leave (v := some (.int (0 : Int32))) (fun h => by rw [Bd.returns] at h; cases h)
                              refine ⟨_, _, ?_, hrun, hended, _, _, rfl, ?_, ⟨_, rfl⟩, hW, hsame.mono (by decide) (by decide)⟩
                              · exact retN X50 hx (t := .boolean) Bd.returns (by simp) (hb hby at_243) hr
                              · show Q0 Z p1 p2 p3 p4 q5 p6 h0 n0 _ T50.heap _
                                rw [e50]
                                exact ⟨(congrArg (fun z => some (Value.int z)) hv.symm), N50⟩
                          · refine own_pre (A := T48.setTop (mkF m 243 #[.val (.int p1), .val (.int p2), .val (.int p3), .val (.int p4), .val (.long q5), .second, .val (.int p6), .val (.int id1), .val (.int id2), .val (.int r1), .val (.int r2), .val (.int hd1), .val (.int hd2), .val (.int sd), .val (.ref b1), .val (.ref c23_xb), .val (.int (0 : Int32)), .val (.int (0 : Int32))] [(.int (0 : Int32))])) (fun tt kt => ?_) ?_
                            · show Steps p.tables e below (T48.setTop (mkF m 196 #[.val (.int p1), .val (.int p2), .val (.int p3), .val (.int p4), .val (.long q5), .second, .val (.int p6), .val (.int id1), .val (.int id2), .val (.int r1), .val (.int r2), .val (.int hd1), .val (.int hd2), .val (.int sd), .val (.ref b1), .val (.ref c23_xb), .val (.int (0 : Int32)), .unset] [(.int p4), (.int ((own_put (own_put (fun _ => (0 : Int32)) (0 : Int32) p3) (1 : Int32) p4) (1 : Int32).toNatClampNeg))])) _
                              refine XS.icmpYes X48.here hx rfl (pc0 := 196) (pc' := 225) rfl (hb hby at_196) rfl (feq hc196_49).2 (by decide) (by decide) ?_
                              refine XS.iconst X48.here hx rfl (hb hby at_225) ?_
                              refine XS.istore X48.here hx rfl (hb hby at_226) rfl (l' := #[.val (.int p1), .val (.int p2), .val (.int p3), .val (.int p4), .val (.long q5), .second, .val (.int p6), .val (.int id1), .val (.int id2), .val (.int r1), .val (.int r2), .val (.int hd1), .val (.int hd2), .val (.int sd), .val (.ref b1), .val (.ref c23_xb), .val (.int (0 : Int32)), .val (.int (0 : Int32))]) rfl ?_
                              refine XS.iload X48.here hx rfl (hb hby at_228) rfl ?_
                              show Steps p.tables e below (T48.setTop (mkF m 230 #[.val (.int p1), .val (.int p2), .val (.int p3), .val (.int p4), .val (.long q5), .second, .val (.int p6), .val (.int id1), .val (.int id2), .val (.int r1), .val (.int r2), .val (.int hd1), .val (.int hd2), .val (.int sd), .val (.ref b1), .val (.ref c23_xb), .val (.int (0 : Int32)), .val (.int (0 : Int32))] [(.int (0 : Int32))])) _
                              refine XS.ifYes X48.here hx rfl (pc0 := 230) (pc' := 242) rfl (hb hby at_230) rfl ((if0 _ _).trans (teq ((by decide) : (0 : Int32) = (0 : Int32))).1) (by decide) (by decide) ?_
                              refine XS.iconst X48.here hx rfl (hb hby at_242) ?_
                              exact kt
                            show own_End p e below s (T48.setTop (mkF m 243 #[.val (.int p1), .val (.int p2), .val (.int p3), .val (.int p4), .val (.long q5), .second, .val (.int p6), .val (.int id1), .val (.int id2), .val (.int r1), .val (.int r2), .val (.int hd1), .val (.int hd2), .val (.int sd), .val (.ref b1), .val (.ref c23_xb), .val (.int (0 : Int32)), .val (.int (0 : Int32))] [(.int (0 : Int32))])) (Q0 Z p1 p2 p3 p4 q5 p6 h0 n0) room_1.cells room_1.slots
                            have hv : (own_law p1 p2 p3 p4 q5 p6) = (0 : Int32) := hj.trans (by simp only [own_law_85, if_pos hc136_31, if_pos hc146_33, if_pos hc157_35, if_neg hc168_37, if_pos hc186_47, if_neg hc196_49])
                            obtain ⟨fs, hr, hrun, hended, hW, hsame⟩ := X48.leave (v := some (.int (0 : Int32))) (fun h => by rw [Bd.returns] at h; cases h)
                            refine ⟨_, _, ?_, hrun, hended, _, _, rfl, ?_, ⟨_, rfl⟩, hW, hsame.mono (by decide) (by decide)⟩
                            · exact retN X48 hx (t := .boolean) Bd.returns (by simp) (hb hby at_243) hr
                            · show Q0 Z p1 p2 p3 p4 q5 p6 h0 n0 _ T48.heap _
                              rw [e48]
                              exact ⟨(congrArg (fun z => some (Value.int z)) hv.symm), N48⟩
                        · refine own_pre (A := T46.setTop (mkF m 243 #[.val (.int p1), .val (.int p2), .val (.int p3), .val (.int p4), .val (.long q5), .second, .val (.int p6), .val (.int id1), .val (.int id2), .val (.int r1), .val (.int r2), .val (.int hd1), .val (.int hd2), .val (.int sd), .val (.ref b1), .val (.ref c23_xb), .val (.int (0 : Int32)), .val (.int (0 : Int32))] [(.int (0 : Int32))])) (fun tt kt => ?_) ?_
                          · show Steps p.tables e below (T46.setTop (mkF m 186 #[.val (.int p1), .val (.int p2), .val (.int p3), .val (.int p4), .val (.long q5), .second, .val (.int p6), .val (.int id1), .val (.int id2), .val (.int r1), .val (.int r2), .val (.int hd1), .val (.int hd2), .val (.int sd), .val (.ref b1), .val (.ref c23_xb), .val (.int (0 : Int32)), .unset] [(.int id2), (.int ((own_put (own_put (fun _ => (0 : Int32)) (0 : Int32) id1) (1 : Int32) id2) (1 : Int32).toNatClampNeg))])) _
                            refine XS.icmpYes X46.here hx rfl (pc0 := 186) (pc' := 225) rfl (hb hby at_186) rfl (feq hc186_47).2 (by decide) (by decide) ?_
                            refine XS.iconst X46.here hx rfl (hb hby at_225) ?_
                            refine XS.istore X46.here hx rfl (hb hby at_226) rfl (l' := #[.val (.int p1), .val (.int p2), .val (.int p3), .val (.int p4), .val (.long q5), .second, .val (.int p6), .val (.int id1), .val (.int id2), .val (.int r1), .val (.int r2), .val (.int hd1), .val (.int hd2), .val (.int sd), .val (.ref b1), .val (.ref c23_xb), .val (.int (0 : Int32)), .val (.int (0 : Int32))]) rfl ?_
                            refine XS.iload X46.here hx rfl (hb hby at_228) rfl ?_
                            show Steps p.tables e below (T46.setTop (mkF m 230 #[.val (.int p1), .val (.int p2), .val (.int p3), .val (.int p4), .val (.long q5), .second, .val (.int p6), .val (.int id1), .val (.int id2), .val (.int r1), .val (.int r2), .val (.int hd1), .val (.int hd2), .val (.int sd), .val (.ref b1), .val (.ref c23_xb), .val (.int (0 : Int32)), .val (.int (0 : Int32))] [(.int (0 : Int32))])) _
                            refine XS.ifYes X46.here hx rfl (pc0 := 230) (pc' := 242) rfl (hb hby at_230) rfl ((if0 _ _).trans (teq ((by decide) : (0 : Int32) = (0 : Int32))).1) (by decide) (by decide) ?_
                            refine XS.iconst X46.here hx rfl (hb hby at_242) ?_
                            exact kt
                          show own_End p e below s (T46.setTop (mkF m 243 #[.val (.int p1), .val (.int p2), .val (.int p3), .val (.int p4), .val (.long q5), .second, .val (.int p6), .val (.int id1), .val (.int id2), .val (.int r1), .val (.int r2), .val (.int hd1), .val (.int hd2), .val (.int sd), .val (.ref b1), .val (.ref c23_xb), .val (.int (0 : Int32)), .val (.int (0 : Int32))] [(.int (0 : Int32))])) (Q0 Z p1 p2 p3 p4 q5 p6 h0 n0) room_1.cells room_1.slots
                          have hv : (own_law p1 p2 p3 p4 q5 p6) = (0 : Int32) := hj.trans (by simp only [own_law_85, if_pos hc136_31, if_pos hc146_33, if_pos hc157_35, if_neg hc168_37, if_neg hc186_47])
                          obtain ⟨fs, hr, hrun, hended, hW, hsame⟩ := X46.leave (v := some (.int (0 : Int32))) (fun h => by rw [Bd.returns] at h; cases h)
                          refine ⟨_, _, ?_, hrun, hended, _, _, rfl, ?_, ⟨_, rfl⟩, hW, hsame.mono (by decide) (by decide)⟩
                          · exact retN X46 hx (t := .boolean) Bd.returns (by simp) (hb hby at_243) hr
                          · show Q0 Z p1 p2 p3 p4 q5 p6 h0 n0 _ T46.heap _
                            rw [e46]
                            exact ⟨(congrArg (fun z => some (Value.int z)) hv.symm), N46⟩
                    · obtain ⟨cq54, kq54, q54a, q54b, q54c⟩ := isOf hZ e34 E_c23_xb_24
                      obtain ⟨_, _, ⟨T54, L54, k54, n54⟩, -, X54, ⟨Lc54, hQ54, l54, y54, z54⟩, st54⟩ := X34.virtualBack hx (y := (⟨"com/example/atoll/atoll/detect/Beacon", "id", "(I)I"⟩ : MethodName)) (z := (⟨"com/example/atoll/atoll/detect/Beacon", "id", "(I)I"⟩ : MethodName)) hown (mvT hZ (hw _ (List.mem_of_getElem? (i := 61) rfl))) (mvT hZ (hw _ (List.mem_of_getElem? (i := 62) rfl))) (notFace_of_selects (args := #[]) (mvT hZ (hw _ (List.mem_of_getElem? (i := 64) rfl)))) (mvT hZ (hw _ (List.mem_of_getElem? (i := 64) rfl))) (mvT hZ (hw _ (List.mem_of_getElem? (i := 63) rfl))) (by decide) (backOf (W := 0) (rm8 l Z a0 hw [] c23_xb (1 : Int32) sd c2_xi c2_xn c2_xr c2_xh (own_put (own_put (fun _ => (0 : Int32)) (0 : Int32) id1) (1 : Int32) id2) T23.heap n0 Z23 ⟨E_c23_xb_24, F_sender_c23_xb_25, F_ids_c23_xb_26, F_incarnations_c23_xb_27, F_rounds_c23_xb_28, F_heard_c23_xb_29⟩ fA_c2_xi_x23 ⟨by decide, by decide⟩) hZ (hw _ (List.mem_of_getElem? (i := 65) rfl)) (hw _ (List.mem_of_getElem? (i := 36) rfl)) (by decide) (by decide)) q54a q54c (g := (mkF m 181 #[.val (.int p1), .val (.int p2), .val (.int p3), .val (.int p4), .val (.long q5), .second, .val (.int p6), .val (.int id1), .val (.int id2), .val (.int r1), .val (.int r2), .val (.int hd1), .val (.int hd2), .val (.int sd), .val (.ref b1), .val (.ref c23_xb), .val (.int (0 : Int32)), .unset] [(.int (1 : Int32)), (.ref c23_xb)])) rfl (by rw [hml]; rfl) (Steps.refl _) (argsL := [(.int (1 : Int32))]) (rest := []) (lenOf pd_0_3 rfl) rfl (by show 2 * 0 + _ ≤ _; exact Nat.le_of_eq rfl) (hb hby at_181) (fun _ _ => ⟨rfl, e34, (by decide : 6 + 0 ≤ _), (by decide : 18 + 0 ≤ _)⟩)
                      dsimp only [Pt.U, Pt.locs, Pt.cells, Pt.slots] at X54 l54 y54 z54 st54 hQ54
                      subst l54 y54 z54
                      obtain ⟨rfl, N54q, e54⟩ := hQ54
                      have N54 := Fr.app N34 N54q
                      refine own_pre (A := T54.setTop (mkF m 186 #[.val (.int p1), .val (.int p2), .val (.int p3), .val (.int p4), .val (.long q5), .second, .val (.int p6), .val (.int id1), .val (.int id2), .val (.int r1), .val (.int r2), .val (.int hd1), .val (.int hd2), .val (.int sd), .val (.ref b1), .val (.ref c23_xb), .val (.int (0 : Int32)), .unset] [(.int id2), (.int ((own_put (own_put (fun _ => (0 : Int32)) (0 : Int32) id1) (1 : Int32) id2) (1 : Int32).toNatClampNeg))])) (fun tt kt => ?_) ?_
                      · show Steps p.tables e below (T34.setTop (mkF m 157 #[.val (.int p1), .val (.int p2), .val (.int p3), .val (.int p4), .val (.long q5), .second, .val (.int p6), .val (.int id1), .val (.int id2), .val (.int r1), .val (.int r2), .val (.int hd1), .val (.int hd2), .val (.int sd), .val (.ref b1), .val (.ref c23_xb), .unset, .unset] [(.int r1), (.int ((own_put (own_put (fun _ => (0 : Int32)) (0 : Int32) r1) (1 : Int32) r2) (0 : Int32).toNatClampNeg))])) _
                        refine XS.icmpYes X34.here hx rfl (pc0 := 157) (pc' := 175) rfl (hb hby at_157) rfl (feq hc157_35).2 (by decide) (by decide) ?_
                        refine XS.iconst X34.here hx rfl (hb hby at_175) ?_
                        refine XS.istore X34.here hx rfl (hb hby at_176) rfl (l' := #[.val (.int p1), .val (.int p2), .val (.int p3), .val (.int p4), .val (.long q5), .second, .val (.int p6), .val (.int id1), .val (.int id2), .val (.int r1), .val (.int r2), .val (.int hd1), .val (.int hd2), .val (.int sd), .val (.ref b1), .val (.ref c23_xb), .val (.int (0 : Int32)), .unset]) rfl ?_
                        refine XS.aload X34.here hx rfl (hb hby at_178) rfl rfl ?_
                        show Steps p.tables e below (T34.setTop (mkF m 180 #[.val (.int p1), .val (.int p2), .val (.int p3), .val (.int p4), .val (.long q5), .second, .val (.int p6), .val (.int id1), .val (.int id2), .val (.int r1), .val (.int r2), .val (.int hd1), .val (.int hd2), .val (.int sd), .val (.ref b1), .val (.ref c23_xb), .val (.int (0 : Int32)), .unset] [(.ref c23_xb)])) _
                        refine XS.iconst X34.here hx rfl (hb hby at_180) ?_
                        show Steps p.tables e below (T34.setTop (mkF m 181 #[.val (.int p1), .val (.int p2), .val (.int p3), .val (.int p4), .val (.long q5), .second, .val (.int p6), .val (.int id1), .val (.int id2), .val (.int r1), .val (.int r2), .val (.int hd1), .val (.int hd2), .val (.int sd), .val (.ref b1), .val (.ref c23_xb), .val (.int (0 : Int32)), .unset] [(.int (1 : Int32)), (.ref c23_xb)])) _
                        refine st54.trans ?_
                        show Steps p.tables e below (T54.setTop (mkF m 184 #[.val (.int p1), .val (.int p2), .val (.int p3), .val (.int p4), .val (.long q5), .second, .val (.int p6), .val (.int id1), .val (.int id2), .val (.int r1), .val (.int r2), .val (.int hd1), .val (.int hd2), .val (.int sd), .val (.ref b1), .val (.ref c23_xb), .val (.int (0 : Int32)), .unset] [(.int ((own_put (own_put (fun _ => (0 : Int32)) (0 : Int32) id1) (1 : Int32) id2) (1 : Int32).toNatClampNeg))])) _
                        refine XS.iload X54.here hx rfl (hb hby at_184) rfl ?_
                        exact kt
                      show own_End p e below s (T54.setTop (mkF m 186 #[.val (.int p1), .val (.int p2), .val (.int p3), .val (.int p4), .val (.long q5), .second, .val (.int p6), .val (.int id1), .val (.int id2), .val (.int r1), .val (.int r2), .val (.int hd1), .val (.int hd2), .val (.int sd), .val (.ref b1), .val (.ref c23_xb), .val (.int (0 : Int32)), .unset] [(.int id2), (.int ((own_put (own_put (fun _ => (0 : Int32)) (0 : Int32) id1) (1 : Int32) id2) (1 : Int32).toNatClampNeg))])) (Q0 Z p1 p2 p3 p4 q5 p6 h0 n0) room_1.cells room_1.slots
                      by_cases hc186_55 : ((own_put (own_put (fun _ => (0 : Int32)) (0 : Int32) id1) (1 : Int32) id2) (1 : Int32).toNatClampNeg) = id2
                      · obtain ⟨cq56, kq56, q56a, q56b, q56c⟩ := isOf hZ e54 E_c23_xb_24
                        obtain ⟨_, _, ⟨T56, L56, k56, n56⟩, -, X56, ⟨Lc56, hQ56, l56, y56, z56⟩, st56⟩ := X54.virtualBack hx (y := (⟨"com/example/atoll/atoll/detect/Beacon", "incarnation", "(I)I"⟩ : MethodName)) (z := (⟨"com/example/atoll/atoll/detect/Beacon", "incarnation", "(I)I"⟩ : MethodName)) hown (mvT hZ (hw _ (List.mem_of_getElem? (i := 66) rfl))) (mvT hZ (hw _ (List.mem_of_getElem? (i := 67) rfl))) (notFace_of_selects (args := #[]) (mvT hZ (hw _ (List.mem_of_getElem? (i := 69) rfl)))) (mvT hZ (hw _ (List.mem_of_getElem? (i := 69) rfl))) (mvT hZ (hw _ (List.mem_of_getElem? (i := 68) rfl))) (by decide) (backOf (W := 0) (rm9 l Z a0 hw [] c23_xb (1 : Int32) sd c2_xi c2_xn c2_xr c2_xh (own_put (own_put (fun _ => (0 : Int32)) (0 : Int32) p3) (1 : Int32) p4) T23.heap n0 Z23 ⟨E_c23_xb_24, F_sender_c23_xb_25, F_ids_c23_xb_26, F_incarnations_c23_xb_27, F_rounds_c23_xb_28, F_heard_c23_xb_29⟩ fA_c2_xn_x23 ⟨by decide, by decide⟩) hZ (hw _ (List.mem_of_getElem? (i := 70) rfl)) (hw _ (List.mem_of_getElem? (i := 36) rfl)) (by decide) (by decide)) q56a q56c (g := (mkF m 192 #[.val (.int p1), .val (.int p2), .val (.int p3), .val (.int p4), .val (.long q5), .second, .val (.int p6), .val (.int id1), .val (.int id2), .val (.int r1), .val (.int r2), .val (.int hd1), .val (.int hd2), .val (.int sd), .val (.ref b1), .val (.ref c23_xb), .val (.int (0 : Int32)), .unset] [(.int (1 : Int32)), (.ref c23_xb)])) rfl (by rw [hml]; rfl) (Steps.refl _) (argsL := [(.int (1 : Int32))]) (rest := []) (lenOf pd_0_3 rfl) rfl (by show 2 * 0 + _ ≤ _; exact Nat.le_of_eq rfl) (hb hby at_192) (fun _ _ => ⟨rfl, e54, (by decide : 6 + 0 ≤ _), (by decide : 18 + 0 ≤ _)⟩)
                        dsimp only [Pt.U, Pt.locs, Pt.cells, Pt.slots] at X56 l56 y56 z56 st56 hQ56
                        subst l56 y56 z56
                        obtain ⟨rfl, N56q, e56⟩ := hQ56
                        have N56 := Fr.app N54 N56q
                        refine own_pre (A := T56.setTop (mkF m 196 #[.val (.int p1), .val (.int p2), .val (.int p3), .val (.int p4), .val (.long q5), .second, .val (.int p6), .val (.int id1), .val (.int id2), .val (.int r1), .val (.int r2), .val (.int hd1), .val (.int hd2), .val (.int sd), .val (.ref b1), .val (.ref c23_xb), .val (.int (0 : Int32)), .unset] [(.int p4), (.int ((own_put (own_put (fun _ => (0 : Int32)) (0 : Int32) p3) (1 : Int32) p4) (1 : Int32).toNatClampNeg))])) (fun tt kt => ?_) ?_
                        · show Steps p.tables e below (T54.setTop (mkF m 186 #[.val (.int p1), .val (.int p2), .val (.int p3), .val (.int p4), .val (.long q5), .second, .val (.int p6), .val (.int id1), .val (.int id2), .val (.int r1), .val (.int r2), .val (.int hd1), .val (.int hd2), .val (.int sd), .val (.ref b1), .val (.ref c23_xb), .val (.int (0 : Int32)), .unset] [(.int id2), (.int ((own_put (own_put (fun _ => (0 : Int32)) (0 : Int32) id1) (1 : Int32) id2) (1 : Int32).toNatClampNeg))])) _
                          refine XS.icmpNo X54.here hx rfl (hb hby at_186) rfl (teq hc186_55).2 ?_
                          refine XS.aload X54.here hx rfl (hb hby at_189) rfl rfl ?_
                          refine XS.iconst X54.here hx rfl (hb hby at_191) ?_
                          show Steps p.tables e below (T54.setTop (mkF m 192 #[.val (.int p1), .val (.int p2), .val (.int p3), .val (.int p4), .val (.long q5), .second, .val (.int p6), .val (.int id1), .val (.int id2), .val (.int r1), .val (.int r2), .val (.int hd1), .val (.int hd2), .val (.int sd), .val (.ref b1), .val (.ref c23_xb), .val (.int (0 : Int32)), .unset] [(.int (1 : Int32)), (.ref c23_xb)])) _
                          refine st56.trans ?_
                          show Steps p.tables e below (T56.setTop (mkF m 195 #[.val (.int p1), .val (.int p2), .val (.int p3), .val (.int p4), .val (.long q5), .second, .val (.int p6), .val (.int id1), .val (.int id2), .val (.int r1), .val (.int r2), .val (.int hd1), .val (.int hd2), .val (.int sd), .val (.ref b1), .val (.ref c23_xb), .val (.int (0 : Int32)), .unset] [(.int ((own_put (own_put (fun _ => (0 : Int32)) (0 : Int32) p3) (1 : Int32) p4) (1 : Int32).toNatClampNeg))])) _
                          refine XS.iloadN X56.here hx rfl (hb hby at_195) rfl ?_
                          exact kt
                        show own_End p e below s (T56.setTop (mkF m 196 #[.val (.int p1), .val (.int p2), .val (.int p3), .val (.int p4), .val (.long q5), .second, .val (.int p6), .val (.int id1), .val (.int id2), .val (.int r1), .val (.int r2), .val (.int hd1), .val (.int hd2), .val (.int sd), .val (.ref b1), .val (.ref c23_xb), .val (.int (0 : Int32)), .unset] [(.int p4), (.int ((own_put (own_put (fun _ => (0 : Int32)) (0 : Int32) p3) (1 : Int32) p4) (1 : Int32).toNatClampNeg))])) (Q0 Z p1 p2 p3 p4 q5 p6 h0 n0) room_1.cells room_1.slots
                        by_cases hc196_57 : ((own_put (own_put (fun _ => (0 : Int32)) (0 : Int32) p3) (1 : Int32) p4) (1 : Int32).toNatClampNeg) = p4
                        · obtain ⟨cq58, kq58, q58a, q58b, q58c⟩ := isOf hZ e56 E_c23_xb_24
                          obtain ⟨_, _, ⟨T58, L58, k58, n58⟩, -, X58, ⟨Lc58, hQ58, l58, y58, z58⟩, st58⟩ := X56.virtualBack hx (y := (⟨"com/example/atoll/atoll/detect/Beacon", "round", "(I)I"⟩ : MethodName)) (z := (⟨"com/example/atoll/atoll/detect/Beacon", "round", "(I)I"⟩ : MethodName)) hown (mvT hZ (hw _ (List.mem_of_getElem? (i := 71) rfl))) (mvT hZ (hw _ (List.mem_of_getElem? (i := 72) rfl))) (notFace_of_selects (args := #[]) (mvT hZ (hw _ (List.mem_of_getElem? (i := 74) rfl)))) (mvT hZ (hw _ (List.mem_of_getElem? (i := 74) rfl))) (mvT hZ (hw _ (List.mem_of_getElem? (i := 73) rfl))) (by decide) (backOf (W := 0) (rm10 l Z a0 hw [] c23_xb (1 : Int32) sd c2_xi c2_xn c2_xr c2_xh (own_put (own_put (fun _ => (0 : Int32)) (0 : Int32) r1) (1 : Int32) r2) T23.heap n0 Z23 ⟨E_c23_xb_24, F_sender_c23_xb_25, F_ids_c23_xb_26, F_incarnations_c23_xb_27, F_rounds_c23_xb_28, F_heard_c23_xb_29⟩ fA_c2_xr_x23 ⟨by decide, by decide⟩) hZ (hw _ (List.mem_of_getElem? (i := 75) rfl)) (hw _ (List.mem_of_getElem? (i := 36) rfl)) (by decide) (by decide)) q58a q58c (g := (mkF m 202 #[.val (.int p1), .val (.int p2), .val (.int p3), .val (.int p4), .val (.long q5), .second, .val (.int p6), .val (.int id1), .val (.int id2), .val (.int r1), .val (.int r2), .val (.int hd1), .val (.int hd2), .val (.int sd), .val (.ref b1), .val (.ref c23_xb), .val (.int (0 : Int32)), .unset] [(.int (1 : Int32)), (.ref c23_xb)])) rfl (by rw [hml]; rfl) (Steps.refl _) (argsL := [(.int (1 : Int32))]) (rest := []) (lenOf pd_0_3 rfl) rfl (by show 2 * 0 + _ ≤ _; exact Nat.le_of_eq rfl) (hb hby at_202) (fun _ _ => ⟨rfl, e56, (by decide : 6 + 0 ≤ _), (by decide : 18 + 0 ≤ _)⟩)
                          dsimp only [Pt.U, Pt.locs, Pt.cells, Pt.slots] at X58 l58 y58 z58 st58 hQ58
                          subst l58 y58 z58
                          obtain ⟨rfl, N58q, e58⟩ := hQ58
                          have N58 := Fr.app N56 N58q
                          refine own_pre (A := T58.setTop (mkF m 207 #[.val (.int p1), .val (.int p2), .val (.int p3), .val (.int p4), .val (.long q5), .second, .val (.int p6), .val (.int id1), .val (.int id2), .val (.int r1), .val (.int r2), .val (.int hd1), .val (.int hd2), .val (.int sd), .val (.ref b1), .val (.ref c23_xb), .val (.int (0 : Int32)), .unset] [(.int r2), (.int ((own_put (own_put (fun _ => (0 : Int32)) (0 : Int32) r1) (1 : Int32) r2) (1 : Int32).toNatClampNeg))])) (fun tt kt => ?_) ?_
                          · show Steps p.tables e below (T56.setTop (mkF m 196 #[.val (.int p1), .val (.int p2), .val (.int p3), .val (.int p4), .val (.long q5), .second, .val (.int p6), .val (.int id1), .val (.int id2), .val (.int r1), .val (.int r2), .val (.int hd1), .val (.int hd2), .val (.int sd), .val (.ref b1), .val (.ref c23_xb), .val (.int (0 : Int32)), .unset] [(.int p4), (.int ((own_put (own_put (fun _ => (0 : Int32)) (0 : Int32) p3) (1 : Int32) p4) (1 : Int32).toNatClampNeg))])) _
                            refine XS.icmpNo X56.here hx rfl (hb hby at_196) rfl (teq hc196_57).2 ?_
                            refine XS.aload X56.here hx rfl (hb hby at_199) rfl rfl ?_
                            refine XS.iconst X56.here hx rfl (hb hby at_201) ?_
                            show Steps p.tables e below (T56.setTop (mkF m 202 #[.val (.int p1), .val (.int p2), .val (.int p3), .val (.int p4), .val (.long q5), .second, .val (.int p6), .val (.int id1), .val (.int id2), .val (.int r1), .val (.int r2), .val (.int hd1), .val (.int hd2), .val (.int sd), .val (.ref b1), .val (.ref c23_xb), .val (.int (0 : Int32)), .unset] [(.int (1 : Int32)), (.ref c23_xb)])) _
                            refine st58.trans ?_
                            show Steps p.tables e below (T58.setTop (mkF m 205 #[.val (.int p1), .val (.int p2), .val (.int p3), .val (.int p4), .val (.long q5), .second, .val (.int p6), .val (.int id1), .val (.int id2), .val (.int r1), .val (.int r2), .val (.int hd1), .val (.int hd2), .val (.int sd), .val (.ref b1), .val (.ref c23_xb), .val (.int (0 : Int32)), .unset] [(.int ((own_put (own_put (fun _ => (0 : Int32)) (0 : Int32) r1) (1 : Int32) r2) (1 : Int32).toNatClampNeg))])) _
                            refine XS.iload X58.here hx rfl (hb hby at_205) rfl ?_
                            exact kt
                          show own_End p e below s (T58.setTop (mkF m 207 #[.val (.int p1), .val (.int p2), .val (.int p3), .val (.int p4), .val (.long q5), .second, .val (.int p6), .val (.int id1), .val (.int id2), .val (.int r1), .val (.int r2), .val (.int hd1), .val (.int hd2), .val (.int sd), .val (.ref b1), .val (.ref c23_xb), .val (.int (0 : Int32)), .unset] [(.int r2), (.int ((own_put (own_put (fun _ => (0 : Int32)) (0 : Int32) r1) (1 : Int32) r2) (1 : Int32).toNatClampNeg))])) (Q0 Z p1 p2 p3 p4 q5 p6 h0 n0) room_1.cells room_1.slots
                          by_cases hc207_59 : ((own_put (own_put (fun _ => (0 : Int32)) (0 : Int32) r1) (1 : Int32) r2) (1 : Int32).toNatClampNeg) = r2
                          · obtain ⟨cq60, kq60, q60a, q60b, q60c⟩ := isOf hZ e58 E_c23_xb_24
                            obtain ⟨_, _, ⟨T60, L60, k60, n60⟩, -, X60, ⟨Lc60, hQ60, l60, y60, z60⟩, st60⟩ := X58.virtualBack hx (y := (⟨"com/example/atoll/atoll/detect/Beacon", "heard", "(I)I"⟩ : MethodName)) (z := (⟨"com/example/atoll/atoll/detect/Beacon", "heard", "(I)I"⟩ : MethodName)) hown (mvT hZ (hw _ (List.mem_of_getElem? (i := 76) rfl))) (mvT hZ (hw _ (List.mem_of_getElem? (i := 77) rfl))) (notFace_of_selects (args := #[]) (mvT hZ (hw _ (List.mem_of_getElem? (i := 79) rfl)))) (mvT hZ (hw _ (List.mem_of_getElem? (i := 79) rfl))) (mvT hZ (hw _ (List.mem_of_getElem? (i := 78) rfl))) (by decide) (backOf (W := 0) (rm11 l Z a0 hw [] c23_xb (1 : Int32) sd c2_xi c2_xn c2_xr c2_xh (own_put (own_put (fun _ => (0 : Int32)) (0 : Int32) hd1) (1 : Int32) hd2) T23.heap n0 Z23 ⟨E_c23_xb_24, F_sender_c23_xb_25, F_ids_c23_xb_26, F_incarnations_c23_xb_27, F_rounds_c23_xb_28, F_heard_c23_xb_29⟩ fA_c2_xh_x23 ⟨by decide, by decide⟩) hZ (hw _ (List.mem_of_getElem? (i := 80) rfl)) (hw _ (List.mem_of_getElem? (i := 36) rfl)) (by decide) (by decide)) q60a q60c (g := (mkF m 213 #[.val (.int p1), .val (.int p2), .val (.int p3), .val (.int p4), .val (.long q5), .second, .val (.int p6), .val (.int id1), .val (.int id2), .val (.int r1), .val (.int r2), .val (.int hd1), .val (.int hd2), .val (.int sd), .val (.ref b1), .val (.ref c23_xb), .val (.int (0 : Int32)), .unset] [(.int (1 : Int32)), (.ref c23_xb)])) rfl (by rw [hml]; rfl) (Steps.refl _) (argsL := [(.int (1 : Int32))]) (rest := []) (lenOf pd_0_3 rfl) rfl (by show 2 * 0 + _ ≤ _; exact Nat.le_of_eq rfl) (hb hby at_213) (fun _ _ => ⟨rfl, e58, (by decide : 6 + 0 ≤ _), (by decide : 18 + 0 ≤ _)⟩)
                            dsimp only [Pt.U, Pt.locs, Pt.cells, Pt.slots] at X60 l60 y60 z60 st60 hQ60
                            subst l60 y60 z60
                            obtain ⟨rfl, N60q, e60⟩ := hQ60
                            have N60 := Fr.app N58 N60q
                            refine own_pre (A := T60.setTop (mkF m 218 #[.val (.int p1), .val (.int p2), .val (.int p3), .val (.int p4), .val (.long q5), .second, .val (.int p6), .val (.int id1), .val (.int id2), .val (.int r1), .val (.int r2), .val (.int hd1), .val (.int hd2), .val (.int sd), .val (.ref b1), .val (.ref c23_xb), .val (.int (0 : Int32)), .unset] [(.int hd2), (.int ((own_put (own_put (fun _ => (0 : Int32)) (0 : Int32) hd1) (1 : Int32) hd2) (1 : Int32).toNatClampNeg))])) (fun tt kt => ?_) ?_
                            · show Steps p.tables e below (T58.setTop (mkF m 207 #[.val (.int p1), .val (.int p2), .val (.int p3), .val (.int p4), .val (.long q5), .second, .val (.int p6), .val (.int id1), .val (.int id2), .val (.int r1), .val (.int r2), .val (.int hd1), .val (.int hd2), .val (.int sd), .val (.ref b1), .val (.ref c23_xb), .val (.int (0 : Int32)), .unset] [(.int r2), (.int ((own_put (own_put (fun _ => (0 : Int32)) (0 : Int32) r1) (1 : Int32) r2) (1 : Int32).toNatClampNeg))])) _
                              refine XS.icmpNo X58.here hx rfl (hb hby at_207) rfl (teq hc207_59).2 ?_
                              refine XS.aload X58.here hx rfl (hb hby at_210) rfl rfl ?_
                              refine XS.iconst X58.here hx rfl (hb hby at_212) ?_
                              show Steps p.tables e below (T58.setTop (mkF m 213 #[.val (.int p1), .val (.int p2), .val (.int p3), .val (.int p4), .val (.long q5), .second, .val (.int p6), .val (.int id1), .val (.int id2), .val (.int r1), .val (.int r2), .val (.int hd1), .val (.int hd2), .val (.int sd), .val (.ref b1), .val (.ref c23_xb), .val (.int (0 : Int32)), .unset] [(.int (1 : Int32)), (.ref c23_xb)])) _
                              refine st60.trans ?_
                              show Steps p.tables e below (T60.setTop (mkF m 216 #[.val (.int p1), .val (.int p2), .val (.int p3), .val (.int p4), .val (.long q5), .second, .val (.int p6), .val (.int id1), .val (.int id2), .val (.int r1), .val (.int r2), .val (.int hd1), .val (.int hd2), .val (.int sd), .val (.ref b1), .val (.ref c23_xb), .val (.int (0 : Int32)), .unset] [(.int ((own_put (own_put (fun _ => (0 : Int32)) (0 : Int32) hd1) (1 : Int32) hd2) (1 : Int32).toNatClampNeg))])) _
                              refine XS.iload X60.here hx rfl (hb hby at_216) rfl ?_
                              exact kt
                            show own_End p e below s (T60.setTop (mkF m 218 #[.val (.int p1), .val (.int p2), .val (.int p3), .val (.int p4), .val (.long q5), .second, .val (.int p6), .val (.int id1), .val (.int id2), .val (.int r1), .val (.int r2), .val (.int hd1), .val (.int hd2), .val (.int sd), .val (.ref b1), .val (.ref c23_xb), .val (.int (0 : Int32)), .unset] [(.int hd2), (.int ((own_put (own_put (fun _ => (0 : Int32)) (0 : Int32) hd1) (1 : Int32) hd2) (1 : Int32).toNatClampNeg))])) (Q0 Z p1 p2 p3 p4 q5 p6 h0 n0) room_1.cells room_1.slots
                            by_cases hc218_61 : ((own_put (own_put (fun _ => (0 : Int32)) (0 : Int32) hd1) (1 : Int32) hd2) (1 : Int32).toNatClampNeg) = hd2
                            · refine own_pre (A := T60.setTop (mkF m 243 #[.val (.int p1), .val (.int p2), .val (.int p3), .val (.int p4), .val (.long q5), .second, .val (.int p6), .val (.int id1), .val (.int id2), .val (.int r1), .val (.int r2), .val (.int hd1), .val (.int hd2), .val (.int sd), .val (.ref b1), .val (.ref c23_xb), .val (.int (0 : Int32)), .val (.int (1 : Int32))] [(.int (0 : Int32))])) (fun tt kt => ?_) ?_
                              · show Steps p.tables e below (T60.setTop (mkF m 218 #[.val (.int p1), .val (.int p2), .val (.int p3), .val (.int p4), .val (.long q5), .second, .val (.int p6), .val (.int id1), .val (.int id2), .val (.int r1), .val (.int r2), .val (.int hd1), .val (.int hd2), .val (.int sd), .val (.ref b1), .val (.ref c23_xb), .val (.int (0 : Int32)), .unset] [(.int hd2), (.int ((own_put (own_put (fun _ => (0 : Int32)) (0 : Int32) hd1) (1 : Int32) hd2) (1 : Int32).toNatClampNeg))])) _
                                refine XS.icmpNo X60.here hx rfl (hb hby at_218) rfl (teq hc218_61).2 ?_
                                refine XS.iconst X60.here hx rfl (hb hby at_221) ?_
                                refine XS.goto X60.here hx rfl (pc0 := 222) (pc' := 226) rfl (hb hby at_222) (by decide) (by decide) ?_
                                refine XS.istore X60.here hx rfl (hb hby at_226) rfl (l' := #[.val (.int p1), .val (.int p2), .val (.int p3), .val (.int p4), .val (.long q5), .second, .val (.int p6), .val (.int id1), .val (.int id2), .val (.int r1), .val (.int r2), .val (.int hd1), .val (.int hd2), .val (.int sd), .val (.ref b1), .val (.ref c23_xb), .val (.int (0 : Int32)), .val (.int (1 : Int32))]) rfl ?_
                                show Steps p.tables e below (T60.setTop (mkF m 228 #[.val (.int p1), .val (.int p2), .val (.int p3), .val (.int p4), .val (.long q5), .second, .val (.int p6), .val (.int id1), .val (.int id2), .val (.int r1), .val (.int r2), .val (.int hd1), .val (.int hd2), .val (.int sd), .val (.ref b1), .val (.ref c23_xb), .val (.int (0 : Int32)), .val (.int (1 : Int32))] [])) _
                                refine XS.iload X60.here hx rfl (hb hby at_228) rfl ?_
                                refine XS.ifYes X60.here hx rfl (pc0 := 230) (pc' := 242) rfl (hb hby at_230) rfl ((if0 _ _).trans (teq ((by decide) : (0 : Int32) = (0 : Int32))).1) (by decide) (by decide) ?_
                                refine XS.iconst X60.here hx rfl (hb hby at_242) ?_
                                exact kt
                              show own_End p e below s (T60.setTop (mkF m 243 #[.val (.int p1), .val (.int p2), .val (.int p3), .val (.int p4), .val (.long q5), .second, .val (.int p6), .val (.int id1), .val (.int id2), .val (.int r1), .val (.int r2), .val (.int hd1), .val (.int hd2), .val (.int sd), .val (.ref b1), .val (.ref c23_xb), .val (.int (0 : Int32)), .val (.int (1 : Int32))] [(.int (0 : Int32))])) (Q0 Z p1 p2 p3 p4 q5 p6 h0 n0) room_1.cells room_1.slots
                              have hv : (own_law p1 p2 p3 p4 q5 p6) = (0 : Int32) := hj.trans (by simp only [own_law_85, if_pos hc136_31, if_pos hc146_33, if_neg hc157_35, if_pos hc186_55, if_pos hc196_57, if_pos hc207_59, if_pos hc218_61])
                              obtain ⟨fs, hr, hrun, hended, hW, hsame⟩ := X60.leave (v := some (.int (0 : Int32))) (fun h => by rw [Bd.returns] at h; cases h)
                              refine ⟨_, _, ?_, hrun, hended, _, _, rfl, ?_, ⟨_, rfl⟩, hW, hsame.mono (by decide) (by decide)⟩
                              · exact retN X60 hx (t := .boolean) Bd.returns (by simp) (hb hby at_243) hr
                              · show Q0 Z p1 p2 p3 p4 q5 p6 h0 n0 _ T60.heap _
                                rw [e60]
                                exact ⟨(congrArg (fun z => some (Value.int z)) hv.symm), N60⟩
                            · refine own_pre (A := T60.setTop (mkF m 243 #[.val (.int p1), .val (.int p2), .val (.int p3), .val (.int p4), .val (.long q5), .second, .val (.int p6), .val (.int id1), .val (.int id2), .val (.int r1), .val (.int r2), .val (.int hd1), .val (.int hd2), .val (.int sd), .val (.ref b1), .val (.ref c23_xb), .val (.int (0 : Int32)), .val (.int (0 : Int32))] [(.int (0 : Int32))])) (fun tt kt => ?_) ?_
                              · show Steps p.tables e below (T60.setTop (mkF m 218 #[.val (.int p1), .val (.int p2), .val (.int p3), .val (.int p4), .val (.long q5), .second, .val (.int p6), .val (.int id1), .val (.int id2), .val (.int r1), .val (.int r2), .val (.int hd1), .val (.int hd2), .val (.int sd), .val (.ref b1), .val (.ref c23_xb), .val (.int (0 : Int32)), .unset] [(.int hd2), (.int ((own_put (own_put (fun _ => (0 : Int32)) (0 : Int32) hd1) (1 : Int32) hd2) (1 : Int32).toNatClampNeg))])) _
                                refine XS.icmpYes X60.here hx rfl (pc0 := 218) (pc' := 225) rfl (hb hby at_218) rfl (feq hc218_61).2 (by decide) (by decide) ?_
                                refine XS.iconst X60.here hx rfl (hb hby at_225) ?_
                                refine XS.istore X60.here hx rfl (hb hby at_226) rfl (l' := #[.val (.int p1), .val (.int p2), .val (.int p3), .val (.int p4), .val (.long q5), .second, .val (.int p6), .val (.int id1), .val (.int id2), .val (.int r1), .val (.int r2), .val (.int hd1), .val (.int hd2), .val (.int sd), .val (.ref b1), .val (.ref c23_xb), .val (.int (0 : Int32)), .val (.int (0 : Int32))]) rfl ?_
                                refine XS.iload X60.here hx rfl (hb hby at_228) rfl ?_
                                show Steps p.tables e below (T60.setTop (mkF m 230 #[.val (.int p1), .val (.int p2), .val (.int p3), .val (.int p4), .val (.long q5), .second, .val (.int p6), .val (.int id1), .val (.int id2), .val (.int r1), .val (.int r2), .val (.int hd1), .val (.int hd2), .val (.int sd), .val (.ref b1), .val (.ref c23_xb), .val (.int (0 : Int32)), .val (.int (0 : Int32))] [(.int (0 : Int32))])) _
                                refine XS.ifYes X60.here hx rfl (pc0 := 230) (pc' := 242) rfl (hb hby at_230) rfl ((if0 _ _).trans (teq ((by decide) : (0 : Int32) = (0 : Int32))).1) (by decide) (by decide) ?_
                                refine XS.iconst X60.here hx rfl (hb hby at_242) ?_
                                exact kt
                              show own_End p e below s (T60.setTop (mkF m 243 #[.val (.int p1), .val (.int p2), .val (.int p3), .val (.int p4), .val (.long q5), .second, .val (.int p6), .val (.int id1), .val (.int id2), .val (.int r1), .val (.int r2), .val (.int hd1), .val (.int hd2), .val (.int sd), .val (.ref b1), .val (.ref c23_xb), .val (.int (0 : Int32)), .val (.int (0 : Int32))] [(.int (0 : Int32))])) (Q0 Z p1 p2 p3 p4 q5 p6 h0 n0) room_1.cells room_1.slots
                              have hv : (own_law p1 p2 p3 p4 q5 p6) = (0 : Int32) := hj.trans (by simp only [own_law_85, if_pos hc136_31, if_pos hc146_33, if_neg hc157_35, if_pos hc186_55, if_pos hc196_57, if_pos hc207_59, if_neg hc218_61])
                              obtain ⟨fs, hr, hrun, hended, hW, hsame⟩ := X60.leave (v := some (.int (0 : Int32))) (fun h => by rw [Bd.returns] at h; cases h)
                              refine ⟨_, _, ?_, hrun, hended, _, _, rfl, ?_, ⟨_, rfl⟩, hW, hsame.mono (by decide) (by decide)⟩
                              · exact retN X60 hx (t := .boolean) Bd.returns (by simp) (hb hby at_243) hr
                              · show Q0 Z p1 p2 p3 p4 q5 p6 h0 n0 _ T60.heap _
                                rw [e60]
                                exact ⟨(congrArg (fun z => some (Value.int z)) hv.symm), N60⟩
                          · refine own_pre (A := T58.setTop (mkF m 243 #[.val (.int p1), .val (.int p2), .val (.int p3), .val (.int p4), .val (.long q5), .second, .val (.int p6), .val (.int id1), .val (.int id2), .val (.int r1), .val (.int r2), .val (.int hd1), .val (.int hd2), .val (.int sd), .val (.ref b1), .val (.ref c23_xb), .val (.int (0 : Int32)), .val (.int (0 : Int32))] [(.int (0 : Int32))])) (fun tt kt => ?_) ?_
                            · show Steps p.tables e below (T58.setTop (mkF m 207 #[.val (.int p1), .val (.int p2), .val (.int p3), .val (.int p4), .val (.long q5), .second, .val (.int p6), .val (.int id1), .val (.int id2), .val (.int r1), .val (.int r2), .val (.int hd1), .val (.int hd2), .val (.int sd), .val (.ref b1), .val (.ref c23_xb), .val (.int (0 : Int32)), .unset] [(.int r2), (.int ((own_put (own_put (fun _ => (0 : Int32)) (0 : Int32) r1) (1 : Int32) r2) (1 : Int32).toNatClampNeg))])) _
                              refine XS.icmpYes X58.here hx rfl (pc0 := 207) (pc' := 225) rfl (hb hby at_207) rfl (feq hc207_59).2 (by decide) (by decide) ?_
                              refine XS.iconst X58.here hx rfl (hb hby at_225) ?_
                              refine XS.istore X58.here hx rfl (hb hby at_226) rfl (l' := #[.val (.int p1), .val (.int p2), .val (.int p3), .val (.int p4), .val (.long q5), .second, .val (.int p6), .val (.int id1), .val (.int id2), .val (.int r1), .val (.int r2), .val (.int hd1), .val (.int hd2), .val (.int sd), .val (.ref b1), .val (.ref c23_xb), .val (.int (0 : Int32)), .val (.int (0 : Int32))]) rfl ?_
                              refine XS.iload X58.here hx rfl (hb hby at_228) rfl ?_
                              show Steps p.tables e below (T58.setTop (mkF m 230 #[.val (.int p1), .val (.int p2), .val (.int p3), .val (.int p4), .val (.long q5), .second, .val (.int p6), .val (.int id1), .val (.int id2), .val (.int r1), .val (.int r2), .val (.int hd1), .val (.int hd2), .val (.int sd), .val (.ref b1), .val (.ref c23_xb), .val (.int (0 : Int32)), .val (.int (0 : Int32))] [(.int (0 : Int32))])) _
                              refine XS.ifYes X58.here hx rfl (pc0 := 230) (pc' := 242) rfl (hb hby at_230) rfl ((if0 _ _).trans (teq ((by decide) : (0 : Int32) = (0 : Int32))).1) (by decide) (by decide) ?_
                              refine XS.iconst X58.here hx rfl (hb hby at_242) ?_
                              exact kt
                            show own_End p e below s (T58.setTop (mkF m 243 #[.val (.int p1), .val (.int p2), .val (.int p3), .val (.int p4), .val (.long q5), .second, .val (.int p6), .val (.int id1), .val (.int id2), .val (.int r1), .val (.int r2), .val (.int hd1), .val (.int hd2), .val (.int sd), .val (.ref b1), .val (.ref c23_xb), .val (.int (0 : Int32)), .val (.int (0 : Int32))] [(.int (0 : Int32))])) (Q0 Z p1 p2 p3 p4 q5 p6 h0 n0) room_1.cells room_1.slots
                            have hv : (own_law p1 p2 p3 p4 q5 p6) = (0 : Int32) := hj.trans (by simp only [own_law_85, if_pos hc136_31, if_pos hc146_33, if_neg hc157_35, if_pos hc186_55, if_pos hc196_57, if_neg hc207_59])
                            obtain ⟨fs, hr, hrun, hended, hW, hsame⟩ := X58.leave (v := some (.int (0 : Int32))) (fun h => by rw [Bd.returns] at h; cases h)
                            refine ⟨_, _, ?_, hrun, hended, _, _, rfl, ?_, ⟨_, rfl⟩, hW, hsame.mono (by decide) (by decide)⟩
                            · exact retN X58 hx (t := .boolean) Bd.returns (by simp) (hb hby at_243) hr
                            · show Q0 Z p1 p2 p3 p4 q5 p6 h0 n0 _ T58.heap _
                              rw [e58]
                              exact ⟨(congrArg (fun z => some (Value.int z)) hv.symm), N58⟩
                        · refine own_pre (A := T56.setTop (mkF m 243 #[.val (.int p1), .val (.int p2), .val (.int p3), .val (.int p4), .val (.long q5), .second, .val (.int p6), .val (.int id1), .val (.int id2), .val (.int r1), .val (.int r2), .val (.int hd1), .val (.int hd2), .val (.int sd), .val (.ref b1), .val (.ref c23_xb), .val (.int (0 : Int32)), .val (.int (0 : Int32))] [(.int (0 : Int32))])) (fun tt kt => ?_) ?_
                          · show Steps p.tables e below (T56.setTop (mkF m 196 #[.val (.int p1), .val (.int p2), .val (.int p3), .val (.int p4), .val (.long q5), .second, .val (.int p6), .val (.int id1), .val (.int id2), .val (.int r1), .val (.int r2), .val (.int hd1), .val (.int hd2), .val (.int sd), .val (.ref b1), .val (.ref c23_xb), .val (.int (0 : Int32)), .unset] [(.int p4), (.int ((own_put (own_put (fun _ => (0 : Int32)) (0 : Int32) p3) (1 : Int32) p4) (1 : Int32).toNatClampNeg))])) _
                            refine XS.icmpYes X56.here hx rfl (pc0 := 196) (pc' := 225) rfl (hb hby at_196) rfl (feq hc196_57).2 (by decide) (by decide) ?_
                            refine XS.iconst X56.here hx rfl (hb hby at_225) ?_
                            refine XS.istore X56.here hx rfl (hb hby at_226) rfl (l' := #[.val (.int p1), .val (.int p2), .val (.int p3), .val (.int p4), .val (.long q5), .second, .val (.int p6), .val (.int id1), .val (.int id2), .val (.int r1), .val (.int r2), .val (.int hd1), .val (.int hd2), .val (.int sd), .val (.ref b1), .val (.ref c23_xb), .val (.int (0 : Int32)), .val (.int (0 : Int32))]) rfl ?_
                            refine XS.iload X56.here hx rfl (hb hby at_228) rfl ?_
                            show Steps p.tables e below (T56.setTop (mkF m 230 #[.val (.int p1), .val (.int p2), .val (.int p3), .val (.int p4), .val (.long q5), .second, .val (.int p6), .val (.int id1), .val (.int id2), .val (.int r1), .val (.int r2), .val (.int hd1), .val (.int hd2), .val (.int sd), .val (.ref b1), .val (.ref c23_xb), .val (.int (0 : Int32)), .val (.int (0 : Int32))] [(.int (0 : Int32))])) _
                            refine XS.ifYes X56.here hx rfl (pc0 := 230) (pc' := 242) rfl (hb hby at_230) rfl ((if0 _ _).trans (teq ((by decide) : (0 : Int32) = (0 : Int32))).1) (by decide) (by decide) ?_
                            refine XS.iconst X56.here hx rfl (hb hby at_242) ?_
                            exact kt
                          show own_End p e below s (T56.setTop (mkF m 243 #[.val (.int p1), .val (.int p2), .val (.int p3), .val (.int p4), .val (.long q5), .second, .val (.int p6), .val (.int id1), .val (.int id2), .val (.int r1), .val (.int r2), .val (.int hd1), .val (.int hd2), .val (.int sd), .val (.ref b1), .val (.ref c23_xb), .val (.int (0 : Int32)), .val (.int (0 : Int32))] [(.int (0 : Int32))])) (Q0 Z p1 p2 p3 p4 q5 p6 h0 n0) room_1.cells room_1.slots
                          have hv : (own_law p1 p2 p3 p4 q5 p6) = (0 : Int32) := hj.trans (by simp only [own_law_85, if_pos hc136_31, if_pos hc146_33, if_neg hc157_35, if_pos hc186_55, if_neg hc196_57])
                          obtain ⟨fs, hr, hrun, hended, hW, hsame⟩ := X56.leave (v := some (.int (0 : Int32))) (fun h => by rw [Bd.returns] at h; cases h)
                          refine ⟨_, _, ?_, hrun, hended, _, _, rfl, ?_, ⟨_, rfl⟩, hW, hsame.mono (by decide) (by decide)⟩
                          · exact retN X56 hx (t := .boolean) Bd.returns (by simp) (hb hby at_243) hr
                          · show Q0 Z p1 p2 p3 p4 q5 p6 h0 n0 _ T56.heap _
                            rw [e56]
                            exact ⟨(congrArg (fun z => some (Value.int z)) hv.symm), N56⟩
                      · refine own_pre (A := T54.setTop (mkF m 243 #[.val (.int p1), .val (.int p2), .val (.int p3), .val (.int p4), .val (.long q5), .second, .val (.int p6), .val (.int id1), .val (.int id2), .val (.int r1), .val (.int r2), .val (.int hd1), .val (.int hd2), .val (.int sd), .val (.ref b1), .val (.ref c23_xb), .val (.int (0 : Int32)), .val (.int (0 : Int32))] [(.int (0 : Int32))])) (fun tt kt => ?_) ?_
                        · show Steps p.tables e below (T54.setTop (mkF m 186 #[.val (.int p1), .val (.int p2), .val (.int p3), .val (.int p4), .val (.long q5), .second, .val (.int p6), .val (.int id1), .val (.int id2), .val (.int r1), .val (.int r2), .val (.int hd1), .val (.int hd2), .val (.int sd), .val (.ref b1), .val (.ref c23_xb), .val (.int (0 : Int32)), .unset] [(.int id2), (.int ((own_put (own_put (fun _ => (0 : Int32)) (0 : Int32) id1) (1 : Int32) id2) (1 : Int32).toNatClampNeg))])) _
                          refine XS.icmpYes X54.here hx rfl (pc0 := 186) (pc' := 225) rfl (hb hby at_186) rfl (feq hc186_55).2 (by decide) (by decide) ?_
                          refine XS.iconst X54.here hx rfl (hb hby at_225) ?_
                          refine XS.istore X54.here hx rfl (hb hby at_226) rfl (l' := #[.val (.int p1), .val (.int p2), .val (.int p3), .val (.int p4), .val (.long q5), .second, .val (.int p6), .val (.int id1), .val (.int id2), .val (.int r1), .val (.int r2), .val (.int hd1), .val (.int hd2), .val (.int sd), .val (.ref b1), .val (.ref c23_xb), .val (.int (0 : Int32)), .val (.int (0 : Int32))]) rfl ?_
                          refine XS.iload X54.here hx rfl (hb hby at_228) rfl ?_
                          show Steps p.tables e below (T54.setTop (mkF m 230 #[.val (.int p1), .val (.int p2), .val (.int p3), .val (.int p4), .val (.long q5), .second, .val (.int p6), .val (.int id1), .val (.int id2), .val (.int r1), .val (.int r2), .val (.int hd1), .val (.int hd2), .val (.int sd), .val (.ref b1), .val (.ref c23_xb), .val (.int (0 : Int32)), .val (.int (0 : Int32))] [(.int (0 : Int32))])) _
                          refine XS.ifYes X54.here hx rfl (pc0 := 230) (pc' := 242) rfl (hb hby at_230) rfl ((if0 _ _).trans (teq ((by decide) : (0 : Int32) = (0 : Int32))).1) (by decide) (by decide) ?_
                          refine XS.iconst X54.here hx rfl (hb hby at_242) ?_
                          exact kt
                        show own_End p e below s (T54.setTop (mkF m 243 #[.val (.int p1), .val (.int p2), .val (.int p3), .val (.int p4), .val (.long q5), .second, .val (.int p6), .val (.int id1), .val (.int id2), .val (.int r1), .val (.int r2), .val (.int hd1), .val (.int hd2), .val (.int sd), .val (.ref b1), .val (.ref c23_xb), .val (.int (0 : Int32)), .val (.int (0 : Int32))] [(.int (0 : Int32))])) (Q0 Z p1 p2 p3 p4 q5 p6 h0 n0) room_1.cells room_1.slots
                        have hv : (own_law p1 p2 p3 p4 q5 p6) = (0 : Int32) := hj.trans (by simp only [own_law_85, if_pos hc136_31, if_pos hc146_33, if_neg hc157_35, if_neg hc186_55])
                        obtain ⟨fs, hr, hrun, hended, hW, hsame⟩ := X54.leave (v := some (.int (0 : Int32))) (fun h => by rw [Bd.returns] at h; cases h)
                        refine ⟨_, _, ?_, hrun, hended, _, _, rfl, ?_, ⟨_, rfl⟩, hW, hsame.mono (by decide) (by decide)⟩
                        · exact retN X54 hx (t := .boolean) Bd.returns (by simp) (hb hby at_243) hr
                        · show Q0 Z p1 p2 p3 p4 q5 p6 h0 n0 _ T54.heap _
                          rw [e54]
                          exact ⟨(congrArg (fun z => some (Value.int z)) hv.symm), N54⟩
                  · obtain ⟨cq62, kq62, q62a, q62b, q62c⟩ := isOf hZ e32 E_c23_xb_24
                    obtain ⟨_, _, ⟨T62, L62, k62, n62⟩, -, X62, ⟨Lc62, hQ62, l62, y62, z62⟩, st62⟩ := X32.virtualBack hx (y := (⟨"com/example/atoll/atoll/detect/Beacon", "id", "(I)I"⟩ : MethodName)) (z := (⟨"com/example/atoll/atoll/detect/Beacon", "id", "(I)I"⟩ : MethodName)) hown (mvT hZ (hw _ (List.mem_of_getElem? (i := 61) rfl))) (mvT hZ (hw _ (List.mem_of_getElem? (i := 62) rfl))) (notFace_of_selects (args := #[]) (mvT hZ (hw _ (List.mem_of_getElem? (i := 64) rfl)))) (mvT hZ (hw _ (List.mem_of_getElem? (i := 64) rfl))) (mvT hZ (hw _ (List.mem_of_getElem? (i := 63) rfl))) (by decide) (backOf (W := 0) (rm8 l Z a0 hw [] c23_xb (1 : Int32) sd c2_xi c2_xn c2_xr c2_xh (own_put (own_put (fun _ => (0 : Int32)) (0 : Int32) id1) (1 : Int32) id2) T23.heap n0 Z23 ⟨E_c23_xb_24, F_sender_c23_xb_25, F_ids_c23_xb_26, F_incarnations_c23_xb_27, F_rounds_c23_xb_28, F_heard_c23_xb_29⟩ fA_c2_xi_x23 ⟨by decide, by decide⟩) hZ (hw _ (List.mem_of_getElem? (i := 65) rfl)) (hw _ (List.mem_of_getElem? (i := 36) rfl)) (by decide) (by decide)) q62a q62c (g := (mkF m 181 #[.val (.int p1), .val (.int p2), .val (.int p3), .val (.int p4), .val (.long q5), .second, .val (.int p6), .val (.int id1), .val (.int id2), .val (.int r1), .val (.int r2), .val (.int hd1), .val (.int hd2), .val (.int sd), .val (.ref b1), .val (.ref c23_xb), .val (.int (0 : Int32)), .unset] [(.int (1 : Int32)), (.ref c23_xb)])) rfl (by rw [hml]; rfl) (Steps.refl _) (argsL := [(.int (1 : Int32))]) (rest := []) (lenOf pd_0_3 rfl) rfl (by show 2 * 0 + _ ≤ _; exact Nat.le_of_eq rfl) (hb hby at_181) (fun _ _ => ⟨rfl, e32, (by decide : 6 + 0 ≤ _), (by decide : 18 + 0 ≤ _)⟩)
                    dsimp only [Pt.U, Pt.locs, Pt.cells, Pt.slots] at X62 l62 y62 z62 st62 hQ62
                    subst l62 y62 z62
                    obtain ⟨rfl, N62q, e62⟩ := hQ62
                    have N62 := Fr.app N32 N62q
                    refine own_pre (A := T62.setTop (mkF m 186 #[.val (.int p1), .val (.int p2), .val (.int p3), .val (.int p4), .val (.long q5), .second, .val (.int p6), .val (.int id1), .val (.int id2), .val (.int r1), .val (.int r2), .val (.int hd1), .val (.int hd2), .val (.int sd), .val (.ref b1), .val (.ref c23_xb), .val (.int (0 : Int32)), .unset] [(.int id2), (.int ((own_put (own_put (fun _ => (0 : Int32)) (0 : Int32) id1) (1 : Int32) id2) (1 : Int32).toNatClampNeg))])) (fun tt kt => ?_) ?_
                    · show Steps p.tables e below (T32.setTop (mkF m 146 #[.val (.int p1), .val (.int p2), .val (.int p3), .val (.int p4), .val (.long q5), .second, .val (.int p6), .val (.int id1), .val (.int id2), .val (.int r1), .val (.int r2), .val (.int hd1), .val (.int hd2), .val (.int sd), .val (.ref b1), .val (.ref c23_xb), .unset, .unset] [(.int p3), (.int ((own_put (own_put (fun _ => (0 : Int32)) (0 : Int32) p3) (1 : Int32) p4) (0 : Int32).toNatClampNeg))])) _
                      refine XS.icmpYes X32.here hx rfl (pc0 := 146) (pc' := 175) rfl (hb hby at_146) rfl (feq hc146_33).2 (by decide) (by decide) ?_
                      refine XS.iconst X32.here hx rfl (hb hby at_175) ?_
                      refine XS.istore X32.here hx rfl (hb hby at_176) rfl (l' := #[.val (.int p1), .val (.int p2), .val (.int p3), .val (.int p4), .val (.long q5), .second, .val (.int p6), .val (.int id1), .val (.int id2), .val (.int r1), .val (.int r2), .val (.int hd1), .val (.int hd2), .val (.int sd), .val (.ref b1), .val (.ref c23_xb), .val (.int (0 : Int32)), .unset]) rfl ?_
                      refine XS.aload X32.here hx rfl (hb hby at_178) rfl rfl ?_
                      show Steps p.tables e below (T32.setTop (mkF m 180 #[.val (.int p1), .val (.int p2), .val (.int p3), .val (.int p4), .val (.long q5), .second, .val (.int p6), .val (.int id1), .val (.int id2), .val (.int r1), .val (.int r2), .val (.int hd1), .val (.int hd2), .val (.int sd), .val (.ref b1), .val (.ref c23_xb), .val (.int (0 : Int32)), .unset] [(.ref c23_xb)])) _
                      refine XS.iconst X32.here hx rfl (hb hby at_180) ?_
                      show Steps p.tables e below (T32.setTop (mkF m 181 #[.val (.int p1), .val (.int p2), .val (.int p3), .val (.int p4), .val (.long q5), .second, .val (.int p6), .val (.int id1), .val (.int id2), .val (.int r1), .val (.int r2), .val (.int hd1), .val (.int hd2), .val (.int sd), .val (.ref b1), .val (.ref c23_xb), .val (.int (0 : Int32)), .unset] [(.int (1 : Int32)), (.ref c23_xb)])) _
                      refine st62.trans ?_
                      show Steps p.tables e below (T62.setTop (mkF m 184 #[.val (.int p1), .val (.int p2), .val (.int p3), .val (.int p4), .val (.long q5), .second, .val (.int p6), .val (.int id1), .val (.int id2), .val (.int r1), .val (.int r2), .val (.int hd1), .val (.int hd2), .val (.int sd), .val (.ref b1), .val (.ref c23_xb), .val (.int (0 : Int32)), .unset] [(.int ((own_put (own_put (fun _ => (0 : Int32)) (0 : Int32) id1) (1 : Int32) id2) (1 : Int32).toNatClampNeg))])) _
                      refine XS.iload X62.here hx rfl (hb hby at_184) rfl ?_
                      exact kt
                    show own_End p e below s (T62.setTop (mkF m 186 #[.val (.int p1), .val (.int p2), .val (.int p3), .val (.int p4), .val (.long q5), .second, .val (.int p6), .val (.int id1), .val (.int id2), .val (.int r1), .val (.int r2), .val (.int hd1), .val (.int hd2), .val (.int sd), .val (.ref b1), .val (.ref c23_xb), .val (.int (0 : Int32)), .unset] [(.int id2), (.int ((own_put (own_put (fun _ => (0 : Int32)) (0 : Int32) id1) (1 : Int32) id2) (1 : Int32).toNatClampNeg))])) (Q0 Z p1 p2 p3 p4 q5 p6 h0 n0) room_1.cells room_1.slots
                    by_cases hc186_63 : ((own_put (own_put (fun _ => (0 : Int32)) (0 : Int32) id1) (1 : Int32) id2) (1 : Int32).toNatClampNeg) = id2
                    · obtain ⟨cq64, kq64, q64a, q64b, q64c⟩ := isOf hZ e62 E_c23_xb_24
                      obtain ⟨_, _, ⟨T64, L64, k64, n64⟩, -, X64, ⟨Lc64, hQ64, l64, y64, z64⟩, st64⟩ := X62.virtualBack hx (y := (⟨"com/example/atoll/atoll/detect/Beacon", "incarnation", "(I)I"⟩ : MethodName)) (z := (⟨"com/example/atoll/atoll/detect/Beacon", "incarnation", "(I)I"⟩ : MethodName)) hown (mvT hZ (hw _ (List.mem_of_getElem? (i := 66) rfl))) (mvT hZ (hw _ (List.mem_of_getElem? (i := 67) rfl))) (notFace_of_selects (args := #[]) (mvT hZ (hw _ (List.mem_of_getElem? (i := 69) rfl)))) (mvT hZ (hw _ (List.mem_of_getElem? (i := 69) rfl))) (mvT hZ (hw _ (List.mem_of_getElem? (i := 68) rfl))) (by decide) (backOf (W := 0) (rm9 l Z a0 hw [] c23_xb (1 : Int32) sd c2_xi c2_xn c2_xr c2_xh (own_put (own_put (fun _ => (0 : Int32)) (0 : Int32) p3) (1 : Int32) p4) T23.heap n0 Z23 ⟨E_c23_xb_24, F_sender_c23_xb_25, F_ids_c23_xb_26, F_incarnations_c23_xb_27, F_rounds_c23_xb_28, F_heard_c23_xb_29⟩ fA_c2_xn_x23 ⟨by decide, by decide⟩) hZ (hw _ (List.mem_of_getElem? (i := 70) rfl)) (hw _ (List.mem_of_getElem? (i := 36) rfl)) (by decide) (by decide)) q64a q64c (g := (mkF m 192 #[.val (.int p1), .val (.int p2), .val (.int p3), .val (.int p4), .val (.long q5), .second, .val (.int p6), .val (.int id1), .val (.int id2), .val (.int r1), .val (.int r2), .val (.int hd1), .val (.int hd2), .val (.int sd), .val (.ref b1), .val (.ref c23_xb), .val (.int (0 : Int32)), .unset] [(.int (1 : Int32)), (.ref c23_xb)])) rfl (by rw [hml]; rfl) (Steps.refl _) (argsL := [(.int (1 : Int32))]) (rest := []) (lenOf pd_0_3 rfl) rfl (by show 2 * 0 + _ ≤ _; exact Nat.le_of_eq rfl) (hb hby at_192) (fun _ _ => ⟨rfl, e62, (by decide : 6 + 0 ≤ _), (by decide : 18 + 0 ≤ _)⟩)
                      dsimp only [Pt.U, Pt.locs, Pt.cells, Pt.slots] at X64 l64 y64 z64 st64 hQ64
                      subst l64 y64 z64
                      obtain ⟨rfl, N64q, e64⟩ := hQ64
                      have N64 := Fr.app N62 N64q
                      refine own_pre (A := T64.setTop (mkF m 196 #[.val (.int p1), .val (.int p2), .val (.int p3), .val (.int p4), .val (.long q5), .second, .val (.int p6), .val (.int id1), .val (.int id2), .val (.int r1), .val (.int r2), .val (.int hd1), .val (.int hd2), .val (.int sd), .val (.ref b1), .val (.ref c23_xb), .val (.int (0 : Int32)), .unset] [(.int p4), (.int ((own_put (own_put (fun _ => (0 : Int32)) (0 : Int32) p3) (1 : Int32) p4) (1 : Int32).toNatClampNeg))])) (fun tt kt => ?_) ?_
                      · show Steps p.tables e below (T62.setTop (mkF m 186 #[.val (.int p1), .val (.int p2), .val (.int p3), .val (.int p4), .val (.long q5), .second, .val (.int p6), .val (.int id1), .val (.int id2), .val (.int r1), .val (.int r2), .val (.int hd1), .val (.int hd2), .val (.int sd), .val (.ref b1), .val (.ref c23_xb), .val (.int (0 : Int32)), .unset] [(.int id2), (.int ((own_put (own_put (fun _ => (0 : Int32)) (0 : Int32) id1) (1 : Int32) id2) (1 : Int32).toNatClampNeg))])) _
                        refine XS.icmpNo X62.here hx rfl (hb hby at_186) rfl (teq hc186_63).2 ?_
                        refine XS.aload X62.here hx rfl (hb hby at_189) rfl rfl ?_
                        refine XS.iconst X62.here hx rfl (hb hby at_191) ?_
                        show Steps p.tables e below (T62.setTop (mkF m 192 #[.val (.int p1), .val (.int p2), .val (.int p3), .val (.int p4), .val (.long q5), .second, .val (.int p6), .val (.int id1), .val (.int id2), .val (.int r1), .val (.int r2), .val (.int hd1), .val (.int hd2), .val (.int sd), .val (.ref b1), .val (.ref c23_xb), .val (.int (0 : Int32)), .unset] [(.int (1 : Int32)), (.ref c23_xb)])) _
                        refine st64.trans ?_
                        show Steps p.tables e below (T64.setTop (mkF m 195 #[.val (.int p1), .val (.int p2), .val (.int p3), .val (.int p4), .val (.long q5), .second, .val (.int p6), .val (.int id1), .val (.int id2), .val (.int r1), .val (.int r2), .val (.int hd1), .val (.int hd2), .val (.int sd), .val (.ref b1), .val (.ref c23_xb), .val (.int (0 : Int32)), .unset] [(.int ((own_put (own_put (fun _ => (0 : Int32)) (0 : Int32) p3) (1 : Int32) p4) (1 : Int32).toNatClampNeg))])) _
                        refine XS.iloadN X64.here hx rfl (hb hby at_195) rfl ?_
                        exact kt
                      show own_End p e below s (T64.setTop (mkF m 196 #[.val (.int p1), .val (.int p2), .val (.int p3), .val (.int p4), .val (.long q5), .second, .val (.int p6), .val (.int id1), .val (.int id2), .val (.int r1), .val (.int r2), .val (.int hd1), .val (.int hd2), .val (.int sd), .val (.ref b1), .val (.ref c23_xb), .val (.int (0 : Int32)), .unset] [(.int p4), (.int ((own_put (own_put (fun _ => (0 : Int32)) (0 : Int32) p3) (1 : Int32) p4) (1 : Int32).toNatClampNeg))])) (Q0 Z p1 p2 p3 p4 q5 p6 h0 n0) room_1.cells room_1.slots
                      by_cases hc196_65 : ((own_put (own_put (fun _ => (0 : Int32)) (0 : Int32) p3) (1 : Int32) p4) (1 : Int32).toNatClampNeg) = p4
                      · obtain ⟨cq66, kq66, q66a, q66b, q66c⟩ := isOf hZ e64 E_c23_xb_24
                        obtain ⟨_, _, ⟨T66, L66, k66, n66⟩, -, X66, ⟨Lc66, hQ66, l66, y66, z66⟩, st66⟩ := X64.virtualBack hx (y := (⟨"com/example/atoll/atoll/detect/Beacon", "round", "(I)I"⟩ : MethodName)) (z := (⟨"com/example/atoll/atoll/detect/Beacon", "round", "(I)I"⟩ : MethodName)) hown (mvT hZ (hw _ (List.mem_of_getElem? (i := 71) rfl))) (mvT hZ (hw _ (List.mem_of_getElem? (i := 72) rfl))) (notFace_of_selects (args := #[]) (mvT hZ (hw _ (List.mem_of_getElem? (i := 74) rfl)))) (mvT hZ (hw _ (List.mem_of_getElem? (i := 74) rfl))) (mvT hZ (hw _ (List.mem_of_getElem? (i := 73) rfl))) (by decide) (backOf (W := 0) (rm10 l Z a0 hw [] c23_xb (1 : Int32) sd c2_xi c2_xn c2_xr c2_xh (own_put (own_put (fun _ => (0 : Int32)) (0 : Int32) r1) (1 : Int32) r2) T23.heap n0 Z23 ⟨E_c23_xb_24, F_sender_c23_xb_25, F_ids_c23_xb_26, F_incarnations_c23_xb_27, F_rounds_c23_xb_28, F_heard_c23_xb_29⟩ fA_c2_xr_x23 ⟨by decide, by decide⟩) hZ (hw _ (List.mem_of_getElem? (i := 75) rfl)) (hw _ (List.mem_of_getElem? (i := 36) rfl)) (by decide) (by decide)) q66a q66c (g := (mkF m 202 #[.val (.int p1), .val (.int p2), .val (.int p3), .val (.int p4), .val (.long q5), .second, .val (.int p6), .val (.int id1), .val (.int id2), .val (.int r1), .val (.int r2), .val (.int hd1), .val (.int hd2), .val (.int sd), .val (.ref b1), .val (.ref c23_xb), .val (.int (0 : Int32)), .unset] [(.int (1 : Int32)), (.ref c23_xb)])) rfl (by rw [hml]; rfl) (Steps.refl _) (argsL := [(.int (1 : Int32))]) (rest := []) (lenOf pd_0_3 rfl) rfl (by show 2 * 0 + _ ≤ _; exact Nat.le_of_eq rfl) (hb hby at_202) (fun _ _ => ⟨rfl, e64, (by decide : 6 + 0 ≤ _), (by decide : 18 + 0 ≤ _)⟩)
                        dsimp only [Pt.U, Pt.locs, Pt.cells, Pt.slots] at X66 l66 y66 z66 st66 hQ66
                        subst l66 y66 z66
                        obtain ⟨rfl, N66q, e66⟩ := hQ66
                        have N66 := Fr.app N64 N66q
                        refine own_pre (A := T66.setTop (mkF m 207 #[.val (.int p1), .val (.int p2), .val (.int p3), .val (.int p4), .val (.long q5), .second, .val (.int p6), .val (.int id1), .val (.int id2), .val (.int r1), .val (.int r2), .val (.int hd1), .val (.int hd2), .val (.int sd), .val (.ref b1), .val (.ref c23_xb), .val (.int (0 : Int32)), .unset] [(.int r2), (.int ((own_put (own_put (fun _ => (0 : Int32)) (0 : Int32) r1) (1 : Int32) r2) (1 : Int32).toNatClampNeg))])) (fun tt kt => ?_) ?_
                        · show Steps p.tables e below (T64.setTop (mkF m 196 #[.val (.int p1), .val (.int p2), .val (.int p3), .val (.int p4), .val (.long q5), .second, .val (.int p6), .val (.int id1), .val (.int id2), .val (.int r1), .val (.int r2), .val (.int hd1), .val (.int hd2), .val (.int sd), .val (.ref b1), .val (.ref c23_xb), .val (.int (0 : Int32)), .unset] [(.int p4), (.int ((own_put (own_put (fun _ => (0 : Int32)) (0 : Int32) p3) (1 : Int32) p4) (1 : Int32).toNatClampNeg))])) _
                          refine XS.icmpNo X64.here hx rfl (hb hby at_196) rfl (teq hc196_65).2 ?_
                          refine XS.aload X64.here hx rfl (hb hby at_199) rfl rfl ?_
                          refine XS.iconst X64.here hx rfl (hb hby at_201) ?_
                          show Steps p.tables e below (T64.setTop (mkF m 202 #[.val (.int p1), .val (.int p2), .val (.int p3), .val (.int p4), .val (.long q5), .second, .val (.int p6), .val (.int id1), .val (.int id2), .val (.int r1), .val (.int r2), .val (.int hd1), .val (.int hd2), .val (.int sd), .val (.ref b1), .val (.ref c23_xb), .val (.int (0 : Int32)), .unset] [(.int (1 : Int32)), (.ref c23_xb)])) _
                          refine st66.trans ?_
                          show Steps p.tables e below (T66.setTop (mkF m 205 #[.val (.int p1), .val (.int p2), .val (.int p3), .val (.int p4), .val (.long q5), .second, .val (.int p6), .val (.int id1), .val (.int id2), .val (.int r1), .val (.int r2), .val (.int hd1), .val (.int hd2), .val (.int sd), .val (.ref b1), .val (.ref c23_xb), .val (.int (0 : Int32)), .unset] [(.int ((own_put (own_put (fun _ => (0 : Int32)) (0 : Int32) r1) (1 : Int32) r2) (1 : Int32).toNatClampNeg))])) _
                          refine XS.iload X66.here hx rfl (hb hby at_205) rfl ?_
                          exact kt
                        show own_End p e below s (T66.setTop (mkF m 207 #[.val (.int p1), .val (.int p2), .val (.int p3), .val (.int p4), .val (.long q5), .second, .val (.int p6), .val (.int id1), .val (.int id2), .val (.int r1), .val (.int r2), .val (.int hd1), .val (.int hd2), .val (.int sd), .val (.ref b1), .val (.ref c23_xb), .val (.int (0 : Int32)), .unset] [(.int r2), (.int ((own_put (own_put (fun _ => (0 : Int32)) (0 : Int32) r1) (1 : Int32) r2) (1 : Int32).toNatClampNeg))])) (Q0 Z p1 p2 p3 p4 q5 p6 h0 n0) room_1.cells room_1.slots
                        by_cases hc207_67 : ((own_put (own_put (fun _ => (0 : Int32)) (0 : Int32) r1) (1 : Int32) r2) (1 : Int32).toNatClampNeg) = r2
                        · obtain ⟨cq68, kq68, q68a, q68b, q68c⟩ := isOf hZ e66 E_c23_xb_24
                          obtain ⟨_, _, ⟨T68, L68, k68, n68⟩, -, X68, ⟨Lc68, hQ68, l68, y68, z68⟩, st68⟩ := X66.virtualBack hx (y := (⟨"com/example/atoll/atoll/detect/Beacon", "heard", "(I)I"⟩ : MethodName)) (z := (⟨"com/example/atoll/atoll/detect/Beacon", "heard", "(I)I"⟩ : MethodName)) hown (mvT hZ (hw _ (List.mem_of_getElem? (i := 76) rfl))) (mvT hZ (hw _ (List.mem_of_getElem? (i := 77) rfl))) (notFace_of_selects (args := #[]) (mvT hZ (hw _ (List.mem_of_getElem? (i := 79) rfl)))) (mvT hZ (hw _ (List.mem_of_getElem? (i := 79) rfl))) (mvT hZ (hw _ (List.mem_of_getElem? (i := 78) rfl))) (by decide) (backOf (W := 0) (rm11 l Z a0 hw [] c23_xb (1 : Int32) sd c2_xi c2_xn c2_xr c2_xh (own_put (own_put (fun _ => (0 : Int32)) (0 : Int32) hd1) (1 : Int32) hd2) T23.heap n0 Z23 ⟨E_c23_xb_24, F_sender_c23_xb_25, F_ids_c23_xb_26, F_incarnations_c23_xb_27, F_rounds_c23_xb_28, F_heard_c23_xb_29⟩ fA_c2_xh_x23 ⟨by decide, by decide⟩) hZ (hw _ (List.mem_of_getElem? (i := 80) rfl)) (hw _ (List.mem_of_getElem? (i := 36) rfl)) (by decide) (by decide)) q68a q68c (g := (mkF m 213 #[.val (.int p1), .val (.int p2), .val (.int p3), .val (.int p4), .val (.long q5), .second, .val (.int p6), .val (.int id1), .val (.int id2), .val (.int r1), .val (.int r2), .val (.int hd1), .val (.int hd2), .val (.int sd), .val (.ref b1), .val (.ref c23_xb), .val (.int (0 : Int32)), .unset] [(.int (1 : Int32)), (.ref c23_xb)])) rfl (by rw [hml]; rfl) (Steps.refl _) (argsL := [(.int (1 : Int32))]) (rest := []) (lenOf pd_0_3 rfl) rfl (by show 2 * 0 + _ ≤ _; exact Nat.le_of_eq rfl) (hb hby at_213) (fun _ _ => ⟨rfl, e66, (by decide : 6 + 0 ≤ _), (by decide : 18 + 0 ≤ _)⟩)
                          dsimp only [Pt.U, Pt.locs, Pt.cells, Pt.slots] at X68 l68 y68 z68 st68 hQ68
                          subst l68 y68 z68
                          obtain ⟨rfl, N68q, e68⟩ := hQ68
                          have N68 := Fr.app N66 N68q
                          refine own_pre (A := T68.setTop (mkF m 218 #[.val (.int p1), .val (.int p2), .val (.int p3), .val (.int p4), .val (.long q5), .second, .val (.int p6), .val (.int id1), .val (.int id2), .val (.int r1), .val (.int r2), .val (.int hd1), .val (.int hd2), .val (.int sd), .val (.ref b1), .val (.ref c23_xb), .val (.int (0 : Int32)), .unset] [(.int hd2), (.int ((own_put (own_put (fun _ => (0 : Int32)) (0 : Int32) hd1) (1 : Int32) hd2) (1 : Int32).toNatClampNeg))])) (fun tt kt => ?_) ?_
                          · show Steps p.tables e below (T66.setTop (mkF m 207 #[.val (.int p1), .val (.int p2), .val (.int p3), .val (.int p4), .val (.long q5), .second, .val (.int p6), .val (.int id1), .val (.int id2), .val (.int r1), .val (.int r2), .val (.int hd1), .val (.int hd2), .val (.int sd), .val (.ref b1), .val (.ref c23_xb), .val (.int (0 : Int32)), .unset] [(.int r2), (.int ((own_put (own_put (fun _ => (0 : Int32)) (0 : Int32) r1) (1 : Int32) r2) (1 : Int32).toNatClampNeg))])) _
                            refine XS.icmpNo X66.here hx rfl (hb hby at_207) rfl (teq hc207_67).2 ?_
                            refine XS.aload X66.here hx rfl (hb hby at_210) rfl rfl ?_
                            refine XS.iconst X66.here hx rfl (hb hby at_212) ?_
                            show Steps p.tables e below (T66.setTop (mkF m 213 #[.val (.int p1), .val (.int p2), .val (.int p3), .val (.int p4), .val (.long q5), .second, .val (.int p6), .val (.int id1), .val (.int id2), .val (.int r1), .val (.int r2), .val (.int hd1), .val (.int hd2), .val (.int sd), .val (.ref b1), .val (.ref c23_xb), .val (.int (0 : Int32)), .unset] [(.int (1 : Int32)), (.ref c23_xb)])) _
                            refine st68.trans ?_
                            show Steps p.tables e below (T68.setTop (mkF m 216 #[.val (.int p1), .val (.int p2), .val (.int p3), .val (.int p4), .val (.long q5), .second, .val (.int p6), .val (.int id1), .val (.int id2), .val (.int r1), .val (.int r2), .val (.int hd1), .val (.int hd2), .val (.int sd), .val (.ref b1), .val (.ref c23_xb), .val (.int (0 : Int32)), .unset] [(.int ((own_put (own_put (fun _ => (0 : Int32)) (0 : Int32) hd1) (1 : Int32) hd2) (1 : Int32).toNatClampNeg))])) _
                            refine XS.iload X68.here hx rfl (hb hby at_216) rfl ?_
                            exact kt
                          show own_End p e below s (T68.setTop (mkF m 218 #[.val (.int p1), .val (.int p2), .val (.int p3), .val (.int p4), .val (.long q5), .second, .val (.int p6), .val (.int id1), .val (.int id2), .val (.int r1), .val (.int r2), .val (.int hd1), .val (.int hd2), .val (.int sd), .val (.ref b1), .val (.ref c23_xb), .val (.int (0 : Int32)), .unset] [(.int hd2), (.int ((own_put (own_put (fun _ => (0 : Int32)) (0 : Int32) hd1) (1 : Int32) hd2) (1 : Int32).toNatClampNeg))])) (Q0 Z p1 p2 p3 p4 q5 p6 h0 n0) room_1.cells room_1.slots
                          by_cases hc218_69 : ((own_put (own_put (fun _ => (0 : Int32)) (0 : Int32) hd1) (1 : Int32) hd2) (1 : Int32).toNatClampNeg) = hd2
                          · refine own_pre (A := T68.setTop (mkF m 243 #[.val (.int p1), .val (.int p2), .val (.int p3), .val (.int p4), .val (.long q5), .second, .val (.int p6), .val (.int id1), .val (.int id2), .val (.int r1), .val (.int r2), .val (.int hd1), .val (.int hd2), .val (.int sd), .val (.ref b1), .val (.ref c23_xb), .val (.int (0 : Int32)), .val (.int (1 : Int32))] [(.int (0 : Int32))])) (fun tt kt => ?_) ?_
                            · show Steps p.tables e below (T68.setTop (mkF m 218 #[.val (.int p1), .val (.int p2), .val (.int p3), .val (.int p4), .val (.long q5), .second, .val (.int p6), .val (.int id1), .val (.int id2), .val (.int r1), .val (.int r2), .val (.int hd1), .val (.int hd2), .val (.int sd), .val (.ref b1), .val (.ref c23_xb), .val (.int (0 : Int32)), .unset] [(.int hd2), (.int ((own_put (own_put (fun _ => (0 : Int32)) (0 : Int32) hd1) (1 : Int32) hd2) (1 : Int32).toNatClampNeg))])) _
                              refine XS.icmpNo X68.here hx rfl (hb hby at_218) rfl (teq hc218_69).2 ?_
                              refine XS.iconst X68.here hx rfl (hb hby at_221) ?_
                              refine XS.goto X68.here hx rfl (pc0 := 222) (pc' := 226) rfl (hb hby at_222) (by decide) (by decide) ?_
                              refine XS.istore X68.here hx rfl (hb hby at_226) rfl (l' := #[.val (.int p1), .val (.int p2), .val (.int p3), .val (.int p4), .val (.long q5), .second, .val (.int p6), .val (.int id1), .val (.int id2), .val (.int r1), .val (.int r2), .val (.int hd1), .val (.int hd2), .val (.int sd), .val (.ref b1), .val (.ref c23_xb), .val (.int (0 : Int32)), .val (.int (1 : Int32))]) rfl ?_
                              show Steps p.tables e below (T68.setTop (mkF m 228 #[.val (.int p1), .val (.int p2), .val (.int p3), .val (.int p4), .val (.long q5), .second, .val (.int p6), .val (.int id1), .val (.int id2), .val (.int r1), .val (.int r2), .val (.int hd1), .val (.int hd2), .val (.int sd), .val (.ref b1), .val (.ref c23_xb), .val (.int (0 : Int32)), .val (.int (1 : Int32))] [])) _
                              refine XS.iload X68.here hx rfl (hb hby at_228) rfl ?_
                              refine XS.ifYes X68.here hx rfl (pc0 := 230) (pc' := 242) rfl (hb hby at_230) rfl ((if0 _ _).trans (teq ((by decide) : (0 : Int32) = (0 : Int32))).1) (by decide) (by decide) ?_
                              refine XS.iconst X68.here hx rfl (hb hby at_242) ?_
                              exact kt
                            show own_End p e below s (T68.setTop (mkF m 243 #[.val (.int p1), .val (.int p2), .val (.int p3), .val (.int p4), .val (.long q5), .second, .val (.int p6), .val (.int id1), .val (.int id2), .val (.int r1), .val (.int r2), .val (.int hd1), .val (.int hd2), .val (.int sd), .val (.ref b1), .val (.ref c23_xb), .val (.int (0 : Int32)), .val (.int (1 : Int32))] [(.int (0 : Int32))])) (Q0 Z p1 p2 p3 p4 q5 p6 h0 n0) room_1.cells room_1.slots
                            have hv : (own_law p1 p2 p3 p4 q5 p6) = (0 : Int32) := hj.trans (by simp only [own_law_85, if_pos hc136_31, if_neg hc146_33, if_pos hc186_63, if_pos hc196_65, if_pos hc207_67, if_pos hc218_69])
                            obtain ⟨fs, hr, hrun, hended, hW, hsame⟩ := X68.leave (v := some (.int (0 : Int32))) (fun h => by rw [Bd.returns] at h; cases h)
                            refine ⟨_, _, ?_, hrun, hended, _, _, rfl, ?_, ⟨_, rfl⟩, hW, hsame.mono (by decide) (by decide)⟩
                            · exact retN X68 hx (t := .boolean) Bd.returns (by simp) (hb hby at_243) hr
                            · show Q0 Z p1 p2 p3 p4 q5 p6 h0 n0 _ T68.heap _
                              rw [e68]
                              exact ⟨(congrArg (fun z => some (Value.int z)) hv.symm), N68⟩
                          · refine own_pre (A := T68.setTop (mkF m 243 #[.val (.int p1), .val (.int p2), .val (.int p3), .val (.int p4), .val (.long q5), .second, .val (.int p6), .val (.int id1), .val (.int id2), .val (.int r1), .val (.int r2), .val (.int hd1), .val (.int hd2), .val (.int sd), .val (.ref b1), .val (.ref c23_xb), .val (.int (0 : Int32)), .val (.int (0 : Int32))] [(.int (0 : Int32))])) (fun tt kt => ?_) ?_
                            · show Steps p.tables e below (T68.setTop (mkF m 218 #[.val (.int p1), .val (.int p2), .val (.int p3), .val (.int p4), .val (.long q5), .second, .val (.int p6), .val (.int id1), .val (.int id2), .val (.int r1), .val (.int r2), .val (.int hd1), .val (.int hd2), .val (.int sd), .val (.ref b1), .val (.ref c23_xb), .val (.int (0 : Int32)), .unset] [(.int hd2), (.int ((own_put (own_put (fun _ => (0 : Int32)) (0 : Int32) hd1) (1 : Int32) hd2) (1 : Int32).toNatClampNeg))])) _
                              refine XS.icmpYes X68.here hx rfl (pc0 := 218) (pc' := 225) rfl (hb hby at_218) rfl (feq hc218_69).2 (by decide) (by decide) ?_
                              refine XS.iconst X68.here hx rfl (hb hby at_225) ?_
                              refine XS.istore X68.here hx rfl (hb hby at_226) rfl (l' := #[.val (.int p1), .val (.int p2), .val (.int p3), .val (.int p4), .val (.long q5), .second, .val (.int p6), .val (.int id1), .val (.int id2), .val (.int r1), .val (.int r2), .val (.int hd1), .val (.int hd2), .val (.int sd), .val (.ref b1), .val (.ref c23_xb), .val (.int (0 : Int32)), .val (.int (0 : Int32))]) rfl ?_
                              refine XS.iload X68.here hx rfl (hb hby at_228) rfl ?_
                              show Steps p.tables e below (T68.setTop (mkF m 230 #[.val (.int p1), .val (.int p2), .val (.int p3), .val (.int p4), .val (.long q5), .second, .val (.int p6), .val (.int id1), .val (.int id2), .val (.int r1), .val (.int r2), .val (.int hd1), .val (.int hd2), .val (.int sd), .val (.ref b1), .val (.ref c23_xb), .val (.int (0 : Int32)), .val (.int (0 : Int32))] [(.int (0 : Int32))])) _
                              refine XS.ifYes X68.here hx rfl (pc0 := 230) (pc' := 242) rfl (hb hby at_230) rfl ((if0 _ _).trans (teq ((by decide) : (0 : Int32) = (0 : Int32))).1) (by decide) (by decide) ?_
                              refine XS.iconst X68.here hx rfl (hb hby at_242) ?_
                              exact kt
                            show own_End p e below s (T68.setTop (mkF m 243 #[.val (.int p1), .val (.int p2), .val (.int p3), .val (.int p4), .val (.long q5), .second, .val (.int p6), .val (.int id1), .val (.int id2), .val (.int r1), .val (.int r2), .val (.int hd1), .val (.int hd2), .val (.int sd), .val (.ref b1), .val (.ref c23_xb), .val (.int (0 : Int32)), .val (.int (0 : Int32))] [(.int (0 : Int32))])) (Q0 Z p1 p2 p3 p4 q5 p6 h0 n0) room_1.cells room_1.slots
                            have hv : (own_law p1 p2 p3 p4 q5 p6) = (0 : Int32) := hj.trans (by simp only [own_law_85, if_pos hc136_31, if_neg hc146_33, if_pos hc186_63, if_pos hc196_65, if_pos hc207_67, if_neg hc218_69])
                            obtain ⟨fs, hr, hrun, hended, hW, hsame⟩ := X68.leave (v := some (.int (0 : Int32))) (fun h => by rw [Bd.returns] at h; cases h)
                            refine ⟨_, _, ?_, hrun, hended, _, _, rfl, ?_, ⟨_, rfl⟩, hW, hsame.mono (by decide) (by decide)⟩
                            · exact retN X68 hx (t := .boolean) Bd.returns (by simp) (hb hby at_243) hr
                            · show Q0 Z p1 p2 p3 p4 q5 p6 h0 n0 _ T68.heap _
                              rw [e68]
                              exact ⟨(congrArg (fun z => some (Value.int z)) hv.symm), N68⟩
                        · refine own_pre (A := T66.setTop (mkF m 243 #[.val (.int p1), .val (.int p2), .val (.int p3), .val (.int p4), .val (.long q5), .second, .val (.int p6), .val (.int id1), .val (.int id2), .val (.int r1), .val (.int r2), .val (.int hd1), .val (.int hd2), .val (.int sd), .val (.ref b1), .val (.ref c23_xb), .val (.int (0 : Int32)), .val (.int (0 : Int32))] [(.int (0 : Int32))])) (fun tt kt => ?_) ?_
                          · show Steps p.tables e below (T66.setTop (mkF m 207 #[.val (.int p1), .val (.int p2), .val (.int p3), .val (.int p4), .val (.long q5), .second, .val (.int p6), .val (.int id1), .val (.int id2), .val (.int r1), .val (.int r2), .val (.int hd1), .val (.int hd2), .val (.int sd), .val (.ref b1), .val (.ref c23_xb), .val (.int (0 : Int32)), .unset] [(.int r2), (.int ((own_put (own_put (fun _ => (0 : Int32)) (0 : Int32) r1) (1 : Int32) r2) (1 : Int32).toNatClampNeg))])) _
                            refine XS.icmpYes X66.here hx rfl (pc0 := 207) (pc' := 225) rfl (hb hby at_207) rfl (feq hc207_67).2 (by decide) (by decide) ?_
                            refine XS.iconst X66.here hx rfl (hb hby at_225) ?_
                            refine XS.istore X66.here hx rfl (hb hby at_226) rfl (l' := #[.val (.int p1), .val (.int p2), .val (.int p3), .val (.int p4), .val (.long q5), .second, .val (.int p6), .val (.int id1), .val (.int id2), .val (.int r1), .val (.int r2), .val (.int hd1), .val (.int hd2), .val (.int sd), .val (.ref b1), .val (.ref c23_xb), .val (.int (0 : Int32)), .val (.int (0 : Int32))]) rfl ?_
                            refine XS.iload X66.here hx rfl (hb hby at_228) rfl ?_
                            show Steps p.tables e below (T66.setTop (mkF m 230 #[.val (.int p1), .val (.int p2), .val (.int p3), .val (.int p4), .val (.long q5), .second, .val (.int p6), .val (.int id1), .val (.int id2), .val (.int r1), .val (.int r2), .val (.int hd1), .val (.int hd2), .val (.int sd), .val (.ref b1), .val (.ref c23_xb), .val (.int (0 : Int32)), .val (.int (0 : Int32))] [(.int (0 : Int32))])) _
                            refine XS.ifYes X66.here hx rfl (pc0 := 230) (pc' := 242) rfl (hb hby at_230) rfl ((if0 _ _).trans (teq ((by decide) : (0 : Int32) = (0 : Int32))).1) (by decide) (by decide) ?_
                            refine XS.iconst X66.here hx rfl (hb hby at_242) ?_
                            exact kt
                          show own_End p e below s (T66.setTop (mkF m 243 #[.val (.int p1), .val (.int p2), .val (.int p3), .val (.int p4), .val (.long q5), .second, .val (.int p6), .val (.int id1), .val (.int id2), .val (.int r1), .val (.int r2), .val (.int hd1), .val (.int hd2), .val (.int sd), .val (.ref b1), .val (.ref c23_xb), .val (.int (0 : Int32)), .val (.int (0 : Int32))] [(.int (0 : Int32))])) (Q0 Z p1 p2 p3 p4 q5 p6 h0 n0) room_1.cells room_1.slots
                          have hv : (own_law p1 p2 p3 p4 q5 p6) = (0 : Int32) := hj.trans (by simp only [own_law_85, if_pos hc136_31, if_neg hc146_33, if_pos hc186_63, if_pos hc196_65, if_neg hc207_67])
                          obtain ⟨fs, hr, hrun, hended, hW, hsame⟩ := X66.leave (v := some (.int (0 : Int32))) (fun h => by rw [Bd.returns] at h; cases h)
                          refine ⟨_, _, ?_, hrun, hended, _, _, rfl, ?_, ⟨_, rfl⟩, hW, hsame.mono (by decide) (by decide)⟩
                          · exact retN X66 hx (t := .boolean) Bd.returns (by simp) (hb hby at_243) hr
                          · show Q0 Z p1 p2 p3 p4 q5 p6 h0 n0 _ T66.heap _
                            rw [e66]
                            exact ⟨(congrArg (fun z => some (Value.int z)) hv.symm), N66⟩
                      · refine own_pre (A := T64.setTop (mkF m 243 #[.val (.int p1), .val (.int p2), .val (.int p3), .val (.int p4), .val (.long q5), .second, .val (.int p6), .val (.int id1), .val (.int id2), .val (.int r1), .val (.int r2), .val (.int hd1), .val (.int hd2), .val (.int sd), .val (.ref b1), .val (.ref c23_xb), .val (.int (0 : Int32)), .val (.int (0 : Int32))] [(.int (0 : Int32))])) (fun tt kt => ?_) ?_
                        · show Steps p.tables e below (T64.setTop (mkF m 196 #[.val (.int p1), .val (.int p2), .val (.int p3), .val (.int p4), .val (.long q5), .second, .val (.int p6), .val (.int id1), .val (.int id2), .val (.int r1), .val (.int r2), .val (.int hd1), .val (.int hd2), .val (.int sd), .val (.ref b1), .val (.ref c23_xb), .val (.int (0 : Int32)), .unset] [(.int p4), (.int ((own_put (own_put (fun _ => (0 : Int32)) (0 : Int32) p3) (1 : Int32) p4) (1 : Int32).toNatClampNeg))])) _
                          refine XS.icmpYes X64.here hx rfl (pc0 := 196) (pc' := 225) rfl (hb hby at_196) rfl (feq hc196_65).2 (by decide) (by decide) ?_
                          refine XS.iconst X64.here hx rfl (hb hby at_225) ?_
                          refine XS.istore X64.here hx rfl (hb hby at_226) rfl (l' := #[.val (.int p1), .val (.int p2), .val (.int p3), .val (.int p4), .val (.long q5), .second, .val (.int p6), .val (.int id1), .val (.int id2), .val (.int r1), .val (.int r2), .val (.int hd1), .val (.int hd2), .val (.int sd), .val (.ref b1), .val (.ref c23_xb), .val (.int (0 : Int32)), .val (.int (0 : Int32))]) rfl ?_
                          refine XS.iload X64.here hx rfl (hb hby at_228) rfl ?_
                          show Steps p.tables e below (T64.setTop (mkF m 230 #[.val (.int p1), .val (.int p2), .val (.int p3), .val (.int p4), .val (.long q5), .second, .val (.int p6), .val (.int id1), .val (.int id2), .val (.int r1), .val (.int r2), .val (.int hd1), .val (.int hd2), .val (.int sd), .val (.ref b1), .val (.ref c23_xb), .val (.int (0 : Int32)), .val (.int (0 : Int32))] [(.int (0 : Int32))])) _
                          refine XS.ifYes X64.here hx rfl (pc0 := 230) (pc' := 242) rfl (hb hby at_230) rfl ((if0 _ _).trans (teq ((by decide) : (0 : Int32) = (0 : Int32))).1) (by decide) (by decide) ?_
                          refine XS.iconst X64.here hx rfl (hb hby at_242) ?_
                          exact kt
                        show own_End p e below s (T64.setTop (mkF m 243 #[.val (.int p1), .val (.int p2), .val (.int p3), .val (.int p4), .val (.long q5), .second, .val (.int p6), .val (.int id1), .val (.int id2), .val (.int r1), .val (.int r2), .val (.int hd1), .val (.int hd2), .val (.int sd), .val (.ref b1), .val (.ref c23_xb), .val (.int (0 : Int32)), .val (.int (0 : Int32))] [(.int (0 : Int32))])) (Q0 Z p1 p2 p3 p4 q5 p6 h0 n0) room_1.cells room_1.slots
                        have hv : (own_law p1 p2 p3 p4 q5 p6) = (0 : Int32) := hj.trans (by simp only [own_law_85, if_pos hc136_31, if_neg hc146_33, if_pos hc186_63, if_neg hc196_65])
                        obtain ⟨fs, hr, hrun, hended, hW, hsame⟩ := X64.leave (v := some (.int (0 : Int32))) (fun h => by rw [Bd.returns] at h; cases h)
                        refine ⟨_, _, ?_, hrun, hended, _, _, rfl, ?_, ⟨_, rfl⟩, hW, hsame.mono (by decide) (by decide)⟩
                        · exact retN X64 hx (t := .boolean) Bd.returns (by simp) (hb hby at_243) hr
                        · show Q0 Z p1 p2 p3 p4 q5 p6 h0 n0 _ T64.heap _
                          rw [e64]
                          exact ⟨(congrArg (fun z => some (Value.int z)) hv.symm), N64⟩
                    · refine own_pre (A := T62.setTop (mkF m 243 #[.val (.int p1), .val (.int p2), .val (.int p3), .val (.int p4), .val (.long q5), .second, .val (.int p6), .val (.int id1), .val (.int id2), .val (.int r1), .val (.int r2), .val (.int hd1), .val (.int hd2), .val (.int sd), .val (.ref b1), .val (.ref c23_xb), .val (.int (0 : Int32)), .val (.int (0 : Int32))] [(.int (0 : Int32))])) (fun tt kt => ?_) ?_
                      · show Steps p.tables e below (T62.setTop (mkF m 186 #[.val (.int p1), .val (.int p2), .val (.int p3), .val (.int p4), .val (.long q5), .second, .val (.int p6), .val (.int id1), .val (.int id2), .val (.int r1), .val (.int r2), .val (.int hd1), .val (.int hd2), .val (.int sd), .val (.ref b1), .val (.ref c23_xb), .val (.int (0 : Int32)), .unset] [(.int id2), (.int ((own_put (own_put (fun _ => (0 : Int32)) (0 : Int32) id1) (1 : Int32) id2) (1 : Int32).toNatClampNeg))])) _
                        refine XS.icmpYes X62.here hx rfl (pc0 := 186) (pc' := 225) rfl (hb hby at_186) rfl (feq hc186_63).2 (by decide) (by decide) ?_
                        refine XS.iconst X62.here hx rfl (hb hby at_225) ?_
                        refine XS.istore X62.here hx rfl (hb hby at_226) rfl (l' := #[.val (.int p1), .val (.int p2), .val (.int p3), .val (.int p4), .val (.long q5), .second, .val (.int p6), .val (.int id1), .val (.int id2), .val (.int r1), .val (.int r2), .val (.int hd1), .val (.int hd2), .val (.int sd), .val (.ref b1), .val (.ref c23_xb), .val (.int (0 : Int32)), .val (.int (0 : Int32))]) rfl ?_
                        refine XS.iload X62.here hx rfl (hb hby at_228) rfl ?_
                        show Steps p.tables e below (T62.setTop (mkF m 230 #[.val (.int p1), .val (.int p2), .val (.int p3), .val (.int p4), .val (.long q5), .second, .val (.int p6), .val (.int id1), .val (.int id2), .val (.int r1), .val (.int r2), .val (.int hd1), .val (.int hd2), .val (.int sd), .val (.ref b1), .val (.ref c23_xb), .val (.int (0 : Int32)), .val (.int (0 : Int32))] [(.int (0 : Int32))])) _
                        refine XS.ifYes X62.here hx rfl (pc0 := 230) (pc' := 242) rfl (hb hby at_230) rfl ((if0 _ _).trans (teq ((by decide) : (0 : Int32) = (0 : Int32))).1) (by decide) (by decide) ?_
                        refine XS.iconst X62.here hx rfl (hb hby at_242) ?_
                        exact kt
                      show own_End p e below s (T62.setTop (mkF m 243 #[.val (.int p1), .val (.int p2), .val (.int p3), .val (.int p4), .val (.long q5), .second, .val (.int p6), .val (.int id1), .val (.int id2), .val (.int r1), .val (.int r2), .val (.int hd1), .val (.int hd2), .val (.int sd), .val (.ref b1), .val (.ref c23_xb), .val (.int (0 : Int32)), .val (.int (0 : Int32))] [(.int (0 : Int32))])) (Q0 Z p1 p2 p3 p4 q5 p6 h0 n0) room_1.cells room_1.slots
                      have hv : (own_law p1 p2 p3 p4 q5 p6) = (0 : Int32) := hj.trans (by simp only [own_law_85, if_pos hc136_31, if_neg hc146_33, if_neg hc186_63])
                      obtain ⟨fs, hr, hrun, hended, hW, hsame⟩ := X62.leave (v := some (.int (0 : Int32))) (fun h => by rw [Bd.returns] at h; cases h)
                      refine ⟨_, _, ?_, hrun, hended, _, _, rfl, ?_, ⟨_, rfl⟩, hW, hsame.mono (by decide) (by decide)⟩
                      · exact retN X62 hx (t := .boolean) Bd.returns (by simp) (hb hby at_243) hr
                      · show Q0 Z p1 p2 p3 p4 q5 p6 h0 n0 _ T62.heap _
                        rw [e62]
                        exact ⟨(congrArg (fun z => some (Value.int z)) hv.symm), N62⟩
                · obtain ⟨cq70, kq70, q70a, q70b, q70c⟩ := isOf hZ e30 E_c23_xb_24
                  obtain ⟨_, _, ⟨T70, L70, k70, n70⟩, -, X70, ⟨Lc70, hQ70, l70, y70, z70⟩, st70⟩ := X30.virtualBack hx (y := (⟨"com/example/atoll/atoll/detect/Beacon", "id", "(I)I"⟩ : MethodName)) (z := (⟨"com/example/atoll/atoll/detect/Beacon", "id", "(I)I"⟩ : MethodName)) hown (mvT hZ (hw _ (List.mem_of_getElem? (i := 61) rfl))) (mvT hZ (hw _ (List.mem_of_getElem? (i := 62) rfl))) (notFace_of_selects (args := #[]) (mvT hZ (hw _ (List.mem_of_getElem? (i := 64) rfl)))) (mvT hZ (hw _ (List.mem_of_getElem? (i := 64) rfl))) (mvT hZ (hw _ (List.mem_of_getElem? (i := 63) rfl))) (by decide) (backOf (W := 0) (rm8 l Z a0 hw [] c23_xb (1 : Int32) sd c2_xi c2_xn c2_xr c2_xh (own_put (own_put (fun _ => (0 : Int32)) (0 : Int32) id1) (1 : Int32) id2) T23.heap n0 Z23 ⟨E_c23_xb_24, F_sender_c23_xb_25, F_ids_c23_xb_26, F_incarnations_c23_xb_27, F_rounds_c23_xb_28, F_heard_c23_xb_29⟩ fA_c2_xi_x23 ⟨by decide, by decide⟩) hZ (hw _ (List.mem_of_getElem? (i := 65) rfl)) (hw _ (List.mem_of_getElem? (i := 36) rfl)) (by decide) (by decide)) q70a q70c (g := (mkF m 181 #[.val (.int p1), .val (.int p2), .val (.int p3), .val (.int p4), .val (.long q5), .second, .val (.int p6), .val (.int id1), .val (.int id2), .val (.int r1), .val (.int r2), .val (.int hd1), .val (.int hd2), .val (.int sd), .val (.ref b1), .val (.ref c23_xb), .val (.int (0 : Int32)), .unset] [(.int (1 : Int32)), (.ref c23_xb)])) rfl (by rw [hml]; rfl) (Steps.refl _) (argsL := [(.int (1 : Int32))]) (rest := []) (lenOf pd_0_3 rfl) rfl (by show 2 * 0 + _ ≤ _; exact Nat.le_of_eq rfl) (hb hby at_181) (fun _ _ => ⟨rfl, e30, (by decide : 6 + 0 ≤ _), (by decide : 18 + 0 ≤ _)⟩)
                  dsimp only [Pt.U, Pt.locs, Pt.cells, Pt.slots] at X70 l70 y70 z70 st70 hQ70
                  subst l70 y70 z70
                  obtain ⟨rfl, N70q, e70⟩ := hQ70
                  have N70 := Fr.app N30 N70q
                  refine own_pre (A := T70.setTop (mkF m 186 #[.val (.int p1), .val (.int p2), .val (.int p3), .val (.int p4), .val (.long q5), .second, .val (.int p6), .val (.int id1), .val (.int id2), .val (.int r1), .val (.int r2), .val (.int hd1), .val (.int hd2), .val (.int sd), .val (.ref b1), .val (.ref c23_xb), .val (.int (0 : Int32)), .unset] [(.int id2), (.int ((own_put (own_put (fun _ => (0 : Int32)) (0 : Int32) id1) (1 : Int32) id2) (1 : Int32).toNatClampNeg))])) (fun tt kt => ?_) ?_
                  · show Steps p.tables e below (T30.setTop (mkF m 136 #[.val (.int p1), .val (.int p2), .val (.int p3), .val (.int p4), .val (.long q5), .second, .val (.int p6), .val (.int id1), .val (.int id2), .val (.int r1), .val (.int r2), .val (.int hd1), .val (.int hd2), .val (.int sd), .val (.ref b1), .val (.ref c23_xb), .unset, .unset] [(.int id1), (.int ((own_put (own_put (fun _ => (0 : Int32)) (0 : Int32) id1) (1 : Int32) id2) (0 : Int32).toNatClampNeg))])) _
                    refine XS.icmpYes X30.here hx rfl (pc0 := 136) (pc' := 175) rfl (hb hby at_136) rfl (feq hc136_31).2 (by decide) (by decide) ?_
                    refine XS.iconst X30.here hx rfl (hb hby at_175) ?_
                    refine XS.istore X30.here hx rfl (hb hby at_176) rfl (l' := #[.val (.int p1), .val (.int p2), .val (.int p3), .val (.int p4), .val (.long q5), .second, .val (.int p6), .val (.int id1), .val (.int id2), .val (.int r1), .val (.int r2), .val (.int hd1), .val (.int hd2), .val (.int sd), .val (.ref b1), .val (.ref c23_xb), .val (.int (0 : Int32)), .unset]) rfl ?_
                    refine XS.aload X30.here hx rfl (hb hby at_178) rfl rfl ?_
                    show Steps p.tables e below (T30.setTop (mkF m 180 #[.val (.int p1), .val (.int p2), .val (.int p3), .val (.int p4), .val (.long q5), .second, .val (.int p6), .val (.int id1), .val (.int id2), .val (.int r1), .val (.int r2), .val (.int hd1), .val (.int hd2), .val (.int sd), .val (.ref b1), .val (.ref c23_xb), .val (.int (0 : Int32)), .unset] [(.ref c23_xb)])) _
                    refine XS.iconst X30.here hx rfl (hb hby at_180) ?_
                    show Steps p.tables e below (T30.setTop (mkF m 181 #[.val (.int p1), .val (.int p2), .val (.int p3), .val (.int p4), .val (.long q5), .second, .val (.int p6), .val (.int id1), .val (.int id2), .val (.int r1), .val (.int r2), .val (.int hd1), .val (.int hd2), .val (.int sd), .val (.ref b1), .val (.ref c23_xb), .val (.int (0 : Int32)), .unset] [(.int (1 : Int32)), (.ref c23_xb)])) _
                    refine st70.trans ?_
                    show Steps p.tables e below (T70.setTop (mkF m 184 #[.val (.int p1), .val (.int p2), .val (.int p3), .val (.int p4), .val (.long q5), .second, .val (.int p6), .val (.int id1), .val (.int id2), .val (.int r1), .val (.int r2), .val (.int hd1), .val (.int hd2), .val (.int sd), .val (.ref b1), .val (.ref c23_xb), .val (.int (0 : Int32)), .unset] [(.int ((own_put (own_put (fun _ => (0 : Int32)) (0 : Int32) id1) (1 : Int32) id2) (1 : Int32).toNatClampNeg))])) _
                    refine XS.iload X70.here hx rfl (hb hby at_184) rfl ?_
                    exact kt
                  show own_End p e below s (T70.setTop (mkF m 186 #[.val (.int p1), .val (.int p2), .val (.int p3), .val (.int p4), .val (.long q5), .second, .val (.int p6), .val (.int id1), .val (.int id2), .val (.int r1), .val (.int r2), .val (.int hd1), .val (.int hd2), .val (.int sd), .val (.ref b1), .val (.ref c23_xb), .val (.int (0 : Int32)), .unset] [(.int id2), (.int ((own_put (own_put (fun _ => (0 : Int32)) (0 : Int32) id1) (1 : Int32) id2) (1 : Int32).toNatClampNeg))])) (Q0 Z p1 p2 p3 p4 q5 p6 h0 n0) room_1.cells room_1.slots
                  by_cases hc186_71 : ((own_put (own_put (fun _ => (0 : Int32)) (0 : Int32) id1) (1 : Int32) id2) (1 : Int32).toNatClampNeg) = id2
                  · obtain ⟨cq72, kq72, q72a, q72b, q72c⟩ := isOf hZ e70 E_c23_xb_24
                    obtain ⟨_, _, ⟨T72, L72, k72, n72⟩, -, X72, ⟨Lc72, hQ72, l72, y72, z72⟩, st72⟩ := X70.virtualBack hx (y := (⟨"com/example/atoll/atoll/detect/Beacon", "incarnation", "(I)I"⟩ : MethodName)) (z := (⟨"com/example/atoll/atoll/detect/Beacon", "incarnation", "(I)I"⟩ : MethodName)) hown (mvT hZ (hw _ (List.mem_of_getElem? (i := 66) rfl))) (mvT hZ (hw _ (List.mem_of_getElem? (i := 67) rfl))) (notFace_of_selects (args := #[]) (mvT hZ (hw _ (List.mem_of_getElem? (i := 69) rfl)))) (mvT hZ (hw _ (List.mem_of_getElem? (i := 69) rfl))) (mvT hZ (hw _ (List.mem_of_getElem? (i := 68) rfl))) (by decide) (backOf (W := 0) (rm9 l Z a0 hw [] c23_xb (1 : Int32) sd c2_xi c2_xn c2_xr c2_xh (own_put (own_put (fun _ => (0 : Int32)) (0 : Int32) p3) (1 : Int32) p4) T23.heap n0 Z23 ⟨E_c23_xb_24, F_sender_c23_xb_25, F_ids_c23_xb_26, F_incarnations_c23_xb_27, F_rounds_c23_xb_28, F_heard_c23_xb_29⟩ fA_c2_xn_x23 ⟨by decide, by decide⟩) hZ (hw _ (List.mem_of_getElem? (i := 70) rfl)) (hw _ (List.mem_of_getElem? (i := 36) rfl)) (by decide) (by decide)) q72a q72c (g := (mkF m 192 #[.val (.int p1), .val (.int p2), .val (.int p3), .val (.int p4), .val (.long q5), .second, .val (.int p6), .val (.int id1), .val (.int id2), .val (.int r1), .val (.int r2), .val (.int hd1), .val (.int hd2), .val (.int sd), .val (.ref b1), .val (.ref c23_xb), .val (.int (0 : Int32)), .unset] [(.int (1 : Int32)), (.ref c23_xb)])) rfl (by rw [hml]; rfl) (Steps.refl _) (argsL := [(.int (1 : Int32))]) (rest := []) (lenOf pd_0_3 rfl) rfl (by show 2 * 0 + _ ≤ _; exact Nat.le_of_eq rfl) (hb hby at_192) (fun _ _ => ⟨rfl, e70, (by decide : 6 + 0 ≤ _), (by decide : 18 + 0 ≤ _)⟩)
                    dsimp only [Pt.U, Pt.locs, Pt.cells, Pt.slots] at X72 l72 y72 z72 st72 hQ72
                    subst l72 y72 z72
                    obtain ⟨rfl, N72q, e72⟩ := hQ72
                    have N72 := Fr.app N70 N72q
                    refine own_pre (A := T72.setTop (mkF m 196 #[.val (.int p1), .val (.int p2), .val (.int p3), .val (.int p4), .val (.long q5), .second, .val (.int p6), .val (.int id1), .val (.int id2), .val (.int r1), .val (.int r2), .val (.int hd1), .val (.int hd2), .val (.int sd), .val (.ref b1), .val (.ref c23_xb), .val (.int (0 : Int32)), .unset] [(.int p4), (.int ((own_put (own_put (fun _ => (0 : Int32)) (0 : Int32) p3) (1 : Int32) p4) (1 : Int32).toNatClampNeg))])) (fun tt kt => ?_) ?_
                    · show Steps p.tables e below (T70.setTop (mkF m 186 #[.val (.int p1), .val (.int p2), .val (.int p3), .val (.int p4), .val (.long q5), .second, .val (.int p6), .val (.int id1), .val (.int id2), .val (.int r1), .val (.int r2), .val (.int hd1), .val (.int hd2), .val (.int sd), .val (.ref b1), .val (.ref c23_xb), .val (.int (0 : Int32)), .unset] [(.int id2), (.int ((own_put (own_put (fun _ => (0 : Int32)) (0 : Int32) id1) (1 : Int32) id2) (1 : Int32).toNatClampNeg))])) _
                      refine XS.icmpNo X70.here hx rfl (hb hby at_186) rfl (teq hc186_71).2 ?_
                      refine XS.aload X70.here hx rfl (hb hby at_189) rfl rfl ?_
                      refine XS.iconst X70.here hx rfl (hb hby at_191) ?_
                      show Steps p.tables e below (T70.setTop (mkF m 192 #[.val (.int p1), .val (.int p2), .val (.int p3), .val (.int p4), .val (.long q5), .second, .val (.int p6), .val (.int id1), .val (.int id2), .val (.int r1), .val (.int r2), .val (.int hd1), .val (.int hd2), .val (.int sd), .val (.ref b1), .val (.ref c23_xb), .val (.int (0 : Int32)), .unset] [(.int (1 : Int32)), (.ref c23_xb)])) _
                      refine st72.trans ?_
                      show Steps p.tables e below (T72.setTop (mkF m 195 #[.val (.int p1), .val (.int p2), .val (.int p3), .val (.int p4), .val (.long q5), .second, .val (.int p6), .val (.int id1), .val (.int id2), .val (.int r1), .val (.int r2), .val (.int hd1), .val (.int hd2), .val (.int sd), .val (.ref b1), .val (.ref c23_xb), .val (.int (0 : Int32)), .unset] [(.int ((own_put (own_put (fun _ => (0 : Int32)) (0 : Int32) p3) (1 : Int32) p4) (1 : Int32).toNatClampNeg))])) _
                      refine XS.iloadN X72.here hx rfl (hb hby at_195) rfl ?_
                      exact kt
                    show own_End p e below s (T72.setTop (mkF m 196 #[.val (.int p1), .val (.int p2), .val (.int p3), .val (.int p4), .val (.long q5), .second, .val (.int p6), .val (.int id1), .val (.int id2), .val (.int r1), .val (.int r2), .val (.int hd1), .val (.int hd2), .val (.int sd), .val (.ref b1), .val (.ref c23_xb), .val (.int (0 : Int32)), .unset] [(.int p4), (.int ((own_put (own_put (fun _ => (0 : Int32)) (0 : Int32) p3) (1 : Int32) p4) (1 : Int32).toNatClampNeg))])) (Q0 Z p1 p2 p3 p4 q5 p6 h0 n0) room_1.cells room_1.slots
                    by_cases hc196_73 : ((own_put (own_put (fun _ => (0 : Int32)) (0 : Int32) p3) (1 : Int32) p4) (1 : Int32).toNatClampNeg) = p4
                    · obtain ⟨cq74, kq74, q74a, q74b, q74c⟩ := isOf hZ e72 E_c23_xb_24
                      obtain ⟨_, _, ⟨T74, L74, k74, n74⟩, -, X74, ⟨Lc74, hQ74, l74, y74, z74⟩, st74⟩ := X72.virtualBack hx (y := (⟨"com/example/atoll/atoll/detect/Beacon", "round", "(I)I"⟩ : MethodName)) (z := (⟨"com/example/atoll/atoll/detect/Beacon", "round", "(I)I"⟩ : MethodName)) hown (mvT hZ (hw _ (List.mem_of_getElem? (i := 71) rfl))) (mvT hZ (hw _ (List.mem_of_getElem? (i := 72) rfl))) (notFace_of_selects (args := #[]) (mvT hZ (hw _ (List.mem_of_getElem? (i := 74) rfl)))) (mvT hZ (hw _ (List.mem_of_getElem? (i := 74) rfl))) (mvT hZ (hw _ (List.mem_of_getElem? (i := 73) rfl))) (by decide) (backOf (W := 0) (rm10 l Z a0 hw [] c23_xb (1 : Int32) sd c2_xi c2_xn c2_xr c2_xh (own_put (own_put (fun _ => (0 : Int32)) (0 : Int32) r1) (1 : Int32) r2) T23.heap n0 Z23 ⟨E_c23_xb_24, F_sender_c23_xb_25, F_ids_c23_xb_26, F_incarnations_c23_xb_27, F_rounds_c23_xb_28, F_heard_c23_xb_29⟩ fA_c2_xr_x23 ⟨by decide, by decide⟩) hZ (hw _ (List.mem_of_getElem? (i := 75) rfl)) (hw _ (List.mem_of_getElem? (i := 36) rfl)) (by decide) (by decide)) q74a q74c (g := (mkF m 202 #[.val (.int p1), .val (.int p2), .val (.int p3), .val (.int p4), .val (.long q5), .second, .val (.int p6), .val (.int id1), .val (.int id2), .val (.int r1), .val (.int r2), .val (.int hd1), .val (.int hd2), .val (.int sd), .val (.ref b1), .val (.ref c23_xb), .val (.int (0 : Int32)), .unset] [(.int (1 : Int32)), (.ref c23_xb)])) rfl (by rw [hml]; rfl) (Steps.refl _) (argsL := [(.int (1 : Int32))]) (rest := []) (lenOf pd_0_3 rfl) rfl (by show 2 * 0 + _ ≤ _; exact Nat.le_of_eq rfl) (hb hby at_202) (fun _ _ => ⟨rfl, e72, (by decide : 6 + 0 ≤ _), (by decide : 18 + 0 ≤ _)⟩)
                      dsimp only [Pt.U, Pt.locs, Pt.cells, Pt.slots] at X74 l74 y74 z74 st74 hQ74
                      subst l74 y74 z74
                      obtain ⟨rfl, N74q, e74⟩ := hQ74
                      have N74 := Fr.app N72 N74q
                      refine own_pre (A := T74.setTop (mkF m 207 #[.val (.int p1), .val (.int p2), .val (.int p3), .val (.int p4), .val (.long q5), .second, .val (.int p6), .val (.int id1), .val (.int id2), .val (.int r1), .val (.int r2), .val (.int hd1), .val (.int hd2), .val (.int sd), .val (.ref b1), .val (.ref c23_xb), .val (.int (0 : Int32)), .unset] [(.int r2), (.int ((own_put (own_put (fun _ => (0 : Int32)) (0 : Int32) r1) (1 : Int32) r2) (1 : Int32).toNatClampNeg))])) (fun tt kt => ?_) ?_
                      · show Steps p.tables e below (T72.setTop (mkF m 196 #[.val (.int p1), .val (.int p2), .val (.int p3), .val (.int p4), .val (.long q5), .second, .val (.int p6), .val (.int id1), .val (.int id2), .val (.int r1), .val (.int r2), .val (.int hd1), .val (.int hd2), .val (.int sd), .val (.ref b1), .val (.ref c23_xb), .val (.int (0 : Int32)), .unset] [(.int p4), (.int ((own_put (own_put (fun _ => (0 : Int32)) (0 : Int32) p3) (1 : Int32) p4) (1 : Int32).toNatClampNeg))])) _
                        refine XS.icmpNo X72.here hx rfl (hb hby at_196) rfl (teq hc196_73).2 ?_
                        refine XS.aload X72.here hx rfl (hb hby at_199) rfl rfl ?_
                        refine XS.iconst X72.here hx rfl (hb hby at_201) ?_
                        show Steps p.tables e below (T72.setTop (mkF m 202 #[.val (.int p1), .val (.int p2), .val (.int p3), .val (.int p4), .val (.long q5), .second, .val (.int p6), .val (.int id1), .val (.int id2), .val (.int r1), .val (.int r2), .val (.int hd1), .val (.int hd2), .val (.int sd), .val (.ref b1), .val (.ref c23_xb), .val (.int (0 : Int32)), .unset] [(.int (1 : Int32)), (.ref c23_xb)])) _
                        refine st74.trans ?_
                        show Steps p.tables e below (T74.setTop (mkF m 205 #[.val (.int p1), .val (.int p2), .val (.int p3), .val (.int p4), .val (.long q5), .second, .val (.int p6), .val (.int id1), .val (.int id2), .val (.int r1), .val (.int r2), .val (.int hd1), .val (.int hd2), .val (.int sd), .val (.ref b1), .val (.ref c23_xb), .val (.int (0 : Int32)), .unset] [(.int ((own_put (own_put (fun _ => (0 : Int32)) (0 : Int32) r1) (1 : Int32) r2) (1 : Int32).toNatClampNeg))])) _
                        refine XS.iload X74.here hx rfl (hb hby at_205) rfl ?_
                        exact kt
                      show own_End p e below s (T74.setTop (mkF m 207 #[.val (.int p1), .val (.int p2), .val (.int p3), .val (.int p4), .val (.long q5), .second, .val (.int p6), .val (.int id1), .val (.int id2), .val (.int r1), .val (.int r2), .val (.int hd1), .val (.int hd2), .val (.int sd), .val (.ref b1), .val (.ref c23_xb), .val (.int (0 : Int32)), .unset] [(.int r2), (.int ((own_put (own_put (fun _ => (0 : Int32)) (0 : Int32) r1) (1 : Int32) r2) (1 : Int32).toNatClampNeg))])) (Q0 Z p1 p2 p3 p4 q5 p6 h0 n0) room_1.cells room_1.slots
                      by_cases hc207_75 : ((own_put (own_put (fun _ => (0 : Int32)) (0 : Int32) r1) (1 : Int32) r2) (1 : Int32).toNatClampNeg) = r2
                      · obtain ⟨cq76, kq76, q76a, q76b, q76c⟩ := isOf hZ e74 E_c23_xb_24
                        obtain ⟨_, _, ⟨T76, L76, k76, n76⟩, -, X76, ⟨Lc76, hQ76, l76, y76, z76⟩, st76⟩ := X74.virtualBack hx (y := (⟨"com/example/atoll/atoll/detect/Beacon", "heard", "(I)I"⟩ : MethodName)) (z := (⟨"com/example/atoll/atoll/detect/Beacon", "heard", "(I)I"⟩ : MethodName)) hown (mvT hZ (hw _ (List.mem_of_getElem? (i := 76) rfl))) (mvT hZ (hw _ (List.mem_of_getElem? (i := 77) rfl))) (notFace_of_selects (args := #[]) (mvT hZ (hw _ (List.mem_of_getElem? (i := 79) rfl)))) (mvT hZ (hw _ (List.mem_of_getElem? (i := 79) rfl))) (mvT hZ (hw _ (List.mem_of_getElem? (i := 78) rfl))) (by decide) (backOf (W := 0) (rm11 l Z a0 hw [] c23_xb (1 : Int32) sd c2_xi c2_xn c2_xr c2_xh (own_put (own_put (fun _ => (0 : Int32)) (0 : Int32) hd1) (1 : Int32) hd2) T23.heap n0 Z23 ⟨E_c23_xb_24, F_sender_c23_xb_25, F_ids_c23_xb_26, F_incarnations_c23_xb_27, F_rounds_c23_xb_28, F_heard_c23_xb_29⟩ fA_c2_xh_x23 ⟨by decide, by decide⟩) hZ (hw _ (List.mem_of_getElem? (i := 80) rfl)) (hw _ (List.mem_of_getElem? (i := 36) rfl)) (by decide) (by decide)) q76a q76c (g := (mkF m 213 #[.val (.int p1), .val (.int p2), .val (.int p3), .val (.int p4), .val (.long q5), .second, .val (.int p6), .val (.int id1), .val (.int id2), .val (.int r1), .val (.int r2), .val (.int hd1), .val (.int hd2), .val (.int sd), .val (.ref b1), .val (.ref c23_xb), .val (.int (0 : Int32)), .unset] [(.int (1 : Int32)), (.ref c23_xb)])) rfl (by rw [hml]; rfl) (Steps.refl _) (argsL := [(.int (1 : Int32))]) (rest := []) (lenOf pd_0_3 rfl) rfl (by show 2 * 0 + _ ≤ _; exact Nat.le_of_eq rfl) (hb hby at_213) (fun _ _ => ⟨rfl, e74, (by decide : 6 + 0 ≤ _), (by decide : 18 + 0 ≤ _)⟩)
                        dsimp only [Pt.U, Pt.locs, Pt.cells, Pt.slots] at X76 l76 y76 z76 st76 hQ76
                        subst l76 y76 z76
                        obtain ⟨rfl, N76q, e76⟩ := hQ76
                        have N76 := Fr.app N74 N76q
                        refine own_pre (A := T76.setTop (mkF m 218 #[.val (.int p1), .val (.int p2), .val (.int p3), .val (.int p4), .val (.long q5), .second, .val (.int p6), .val (.int id1), .val (.int id2), .val (.int r1), .val (.int r2), .val (.int hd1), .val (.int hd2), .val (.int sd), .val (.ref b1), .val (.ref c23_xb), .val (.int (0 : Int32)), .unset] [(.int hd2), (.int ((own_put (own_put (fun _ => (0 : Int32)) (0 : Int32) hd1) (1 : Int32) hd2) (1 : Int32).toNatClampNeg))])) (fun tt kt => ?_) ?_
                        · show Steps p.tables e below (T74.setTop (mkF m 207 #[.val (.int p1), .val (.int p2), .val (.int p3), .val (.int p4), .val (.long q5), .second, .val (.int p6), .val (.int id1), .val (.int id2), .val (.int r1), .val (.int r2), .val (.int hd1), .val (.int hd2), .val (.int sd), .val (.ref b1), .val (.ref c23_xb), .val (.int (0 : Int32)), .unset] [(.int r2), (.int ((own_put (own_put (fun _ => (0 : Int32)) (0 : Int32) r1) (1 : Int32) r2) (1 : Int32).toNatClampNeg))])) _
                          refine XS.icmpNo X74.here hx rfl (hb hby at_207) rfl (teq hc207_75).2 ?_
                          refine XS.aload X74.here hx rfl (hb hby at_210) rfl rfl ?_
                          refine XS.iconst X74.here hx rfl (hb hby at_212) ?_
                          show Steps p.tables e below (T74.setTop (mkF m 213 #[.val (.int p1), .val (.int p2), .val (.int p3), .val (.int p4), .val (.long q5), .second, .val (.int p6), .val (.int id1), .val (.int id2), .val (.int r1), .val (.int r2), .val (.int hd1), .val (.int hd2), .val (.int sd), .val (.ref b1), .val (.ref c23_xb), .val (.int (0 : Int32)), .unset] [(.int (1 : Int32)), (.ref c23_xb)])) _
                          refine st76.trans ?_
                          show Steps p.tables e below (T76.setTop (mkF m 216 #[.val (.int p1), .val (.int p2), .val (.int p3), .val (.int p4), .val (.long q5), .second, .val (.int p6), .val (.int id1), .val (.int id2), .val (.int r1), .val (.int r2), .val (.int hd1), .val (.int hd2), .val (.int sd), .val (.ref b1), .val (.ref c23_xb), .val (.int (0 : Int32)), .unset] [(.int ((own_put (own_put (fun _ => (0 : Int32)) (0 : Int32) hd1) (1 : Int32) hd2) (1 : Int32).toNatClampNeg))])) _
                          refine XS.iload X76.here hx rfl (hb hby at_216) rfl ?_
                          exact kt
                        show own_End p e below s (T76.setTop (mkF m 218 #[.val (.int p1), .val (.int p2), .val (.int p3), .val (.int p4), .val (.long q5), .second, .val (.int p6), .val (.int id1), .val (.int id2), .val (.int r1), .val (.int r2), .val (.int hd1), .val (.int hd2), .val (.int sd), .val (.ref b1), .val (.ref c23_xb), .val (.int (0 : Int32)), .unset] [(.int hd2), (.int ((own_put (own_put (fun _ => (0 : Int32)) (0 : Int32) hd1) (1 : Int32) hd2) (1 : Int32).toNatClampNeg))])) (Q0 Z p1 p2 p3 p4 q5 p6 h0 n0) room_1.cells room_1.slots
                        by_cases hc218_77 : ((own_put (own_put (fun _ => (0 : Int32)) (0 : Int32) hd1) (1 : Int32) hd2) (1 : Int32).toNatClampNeg) = hd2
                        · refine own_pre (A := T76.setTop (mkF m 243 #[.val (.int p1), .val (.int p2), .val (.int p3), .val (.int p4), .val (.long q5), .second, .val (.int p6), .val (.int id1), .val (.int id2), .val (.int r1), .val (.int r2), .val (.int hd1), .val (.int hd2), .val (.int sd), .val (.ref b1), .val (.ref c23_xb), .val (.int (0 : Int32)), .val (.int (1 : Int32))] [(.int (0 : Int32))])) (fun tt kt => ?_) ?_
                          · show Steps p.tables e below (T76.setTop (mkF m 218 #[.val (.int p1), .val (.int p2), .val (.int p3), .val (.int p4), .val (.long q5), .second, .val (.int p6), .val (.int id1), .val (.int id2), .val (.int r1), .val (.int r2), .val (.int hd1), .val (.int hd2), .val (.int sd), .val (.ref b1), .val (.ref c23_xb), .val (.int (0 : Int32)), .unset] [(.int hd2), (.int ((own_put (own_put (fun _ => (0 : Int32)) (0 : Int32) hd1) (1 : Int32) hd2) (1 : Int32).toNatClampNeg))])) _
                            refine XS.icmpNo X76.here hx rfl (hb hby at_218) rfl (teq hc218_77).2 ?_
                            refine XS.iconst X76.here hx rfl (hb hby at_221) ?_
                            refine XS.goto X76.here hx rfl (pc0 := 222) (pc' := 226) rfl (hb hby at_222) (by decide) (by decide) ?_
                            refine XS.istore X76.here hx rfl (hb hby at_226) rfl (l' := #[.val (.int p1), .val (.int p2), .val (.int p3), .val (.int p4), .val (.long q5), .second, .val (.int p6), .val (.int id1), .val (.int id2), .val (.int r1), .val (.int r2), .val (.int hd1), .val (.int hd2), .val (.int sd), .val (.ref b1), .val (.ref c23_xb), .val (.int (0 : Int32)), .val (.int (1 : Int32))]) rfl ?_
                            show Steps p.tables e below (T76.setTop (mkF m 228 #[.val (.int p1), .val (.int p2), .val (.int p3), .val (.int p4), .val (.long q5), .second, .val (.int p6), .val (.int id1), .val (.int id2), .val (.int r1), .val (.int r2), .val (.int hd1), .val (.int hd2), .val (.int sd), .val (.ref b1), .val (.ref c23_xb), .val (.int (0 : Int32)), .val (.int (1 : Int32))] [])) _
                            refine XS.iload X76.here hx rfl (hb hby at_228) rfl ?_
                            refine XS.ifYes X76.here hx rfl (pc0 := 230) (pc' := 242) rfl (hb hby at_230) rfl ((if0 _ _).trans (teq ((by decide) : (0 : Int32) = (0 : Int32))).1) (by decide) (by decide) ?_
                            refine XS.iconst X76.here hx rfl (hb hby at_242) ?_
                            exact kt
                          show own_End p e below s (T76.setTop (mkF m 243 #[.val (.int p1), .val (.int p2), .val (.int p3), .val (.int p4), .val (.long q5), .second, .val (.int p6), .val (.int id1), .val (.int id2), .val (.int r1), .val (.int r2), .val (.int hd1), .val (.int hd2), .val (.int sd), .val (.ref b1), .val (.ref c23_xb), .val (.int (0 : Int32)), .val (.int (1 : Int32))] [(.int (0 : Int32))])) (Q0 Z p1 p2 p3 p4 q5 p6 h0 n0) room_1.cells room_1.slots
                          have hv : (own_law p1 p2 p3 p4 q5 p6) = (0 : Int32) := hj.trans (by simp only [own_law_85, if_neg hc136_31, if_pos hc186_71, if_pos hc196_73, if_pos hc207_75, if_pos hc218_77])
                          obtain ⟨fs, hr, hrun, hended, hW, hsame⟩ := X76.leave (v := some (.int (0 : Int32))) (fun h => by rw [Bd.returns] at h; cases h)
                          refine ⟨_, _, ?_, hrun, hended, _, _, rfl, ?_, ⟨_, rfl⟩, hW, hsame.mono (by decide) (by decide)⟩
                          · exact retN X76 hx (t := .boolean) Bd.returns (by simp) (hb hby at_243) hr
                          · show Q0 Z p1 p2 p3 p4 q5 p6 h0 n0 _ T76.heap _
                            rw [e76]
                            exact ⟨(congrArg (fun z => some (Value.int z)) hv.symm), N76⟩
                        · refine own_pre (A := T76.setTop (mkF m 243 #[.val (.int p1), .val (.int p2), .val (.int p3), .val (.int p4), .val (.long q5), .second, .val (.int p6), .val (.int id1), .val (.int id2), .val (.int r1), .val (.int r2), .val (.int hd1), .val (.int hd2), .val (.int sd), .val (.ref b1), .val (.ref c23_xb), .val (.int (0 : Int32)), .val (.int (0 : Int32))] [(.int (0 : Int32))])) (fun tt kt => ?_) ?_
                          · show Steps p.tables e below (T76.setTop (mkF m 218 #[.val (.int p1), .val (.int p2), .val (.int p3), .val (.int p4), .val (.long q5), .second, .val (.int p6), .val (.int id1), .val (.int id2), .val (.int r1), .val (.int r2), .val (.int hd1), .val (.int hd2), .val (.int sd), .val (.ref b1), .val (.ref c23_xb), .val (.int (0 : Int32)), .unset] [(.int hd2), (.int ((own_put (own_put (fun _ => (0 : Int32)) (0 : Int32) hd1) (1 : Int32) hd2) (1 : Int32).toNatClampNeg))])) _
                            refine XS.icmpYes X76.here hx rfl (pc0 := 218) (pc' := 225) rfl (hb hby at_218) rfl (feq hc218_77).2 (by decide) (by decide) ?_
                            refine XS.iconst X76.here hx rfl (hb hby at_225) ?_
                            refine XS.istore X76.here hx rfl (hb hby at_226) rfl (l' := #[.val (.int p1), .val (.int p2), .val (.int p3), .val (.int p4), .val (.long q5), .second, .val (.int p6), .val (.int id1), .val (.int id2), .val (.int r1), .val (.int r2), .val (.int hd1), .val (.int hd2), .val (.int sd), .val (.ref b1), .val (.ref c23_xb), .val (.int (0 : Int32)), .val (.int (0 : Int32))]) rfl ?_
                            refine XS.iload X76.here hx rfl (hb hby at_228) rfl ?_
                            show Steps p.tables e below (T76.setTop (mkF m 230 #[.val (.int p1), .val (.int p2), .val (.int p3), .val (.int p4), .val (.long q5), .second, .val (.int p6), .val (.int id1), .val (.int id2), .val (.int r1), .val (.int r2), .val (.int hd1), .val (.int hd2), .val (.int sd), .val (.ref b1), .val (.ref c23_xb), .val (.int (0 : Int32)), .val (.int (0 : Int32))] [(.int (0 : Int32))])) _
                            refine XS.ifYes X76.here hx rfl (pc0 := 230) (pc' := 242) rfl (hb hby at_230) rfl ((if0 _ _).trans (teq ((by decide) : (0 : Int32) = (0 : Int32))).1) (by decide) (by decide) ?_
                            refine XS.iconst X76.here hx rfl (hb hby at_242) ?_
                            exact kt
                          show own_End p e below s (T76.setTop (mkF m 243 #[.val (.int p1), .val (.int p2), .val (.int p3), .val (.int p4), .val (.long q5), .second, .val (.int p6), .val (.int id1), .val (.int id2), .val (.int r1), .val (.int r2), .val (.int hd1), .val (.int hd2), .val (.int sd), .val (.ref b1), .val (.ref c23_xb), .val (.int (0 : Int32)), .val (.int (0 : Int32))] [(.int (0 : Int32))])) (Q0 Z p1 p2 p3 p4 q5 p6 h0 n0) room_1.cells room_1.slots
                          have hv : (own_law p1 p2 p3 p4 q5 p6) = (0 : Int32) := hj.trans (by simp only [own_law_85, if_neg hc136_31, if_pos hc186_71, if_pos hc196_73, if_pos hc207_75, if_neg hc218_77])
                          obtain ⟨fs, hr, hrun, hended, hW, hsame⟩ := X76.leave (v := some (.int (0 : Int32))) (fun h => by rw [Bd.returns] at h; cases h)
                          refine ⟨_, _, ?_, hrun, hended, _, _, rfl, ?_, ⟨_, rfl⟩, hW, hsame.mono (by decide) (by decide)⟩
                          · exact retN X76 hx (t := .boolean) Bd.returns (by simp) (hb hby at_243) hr
                          · show Q0 Z p1 p2 p3 p4 q5 p6 h0 n0 _ T76.heap _
                            rw [e76]
                            exact ⟨(congrArg (fun z => some (Value.int z)) hv.symm), N76⟩
                      · refine own_pre (A := T74.setTop (mkF m 243 #[.val (.int p1), .val (.int p2), .val (.int p3), .val (.int p4), .val (.long q5), .second, .val (.int p6), .val (.int id1), .val (.int id2), .val (.int r1), .val (.int r2), .val (.int hd1), .val (.int hd2), .val (.int sd), .val (.ref b1), .val (.ref c23_xb), .val (.int (0 : Int32)), .val (.int (0 : Int32))] [(.int (0 : Int32))])) (fun tt kt => ?_) ?_
                        · show Steps p.tables e below (T74.setTop (mkF m 207 #[.val (.int p1), .val (.int p2), .val (.int p3), .val (.int p4), .val (.long q5), .second, .val (.int p6), .val (.int id1), .val (.int id2), .val (.int r1), .val (.int r2), .val (.int hd1), .val (.int hd2), .val (.int sd), .val (.ref b1), .val (.ref c23_xb), .val (.int (0 : Int32)), .unset] [(.int r2), (.int ((own_put (own_put (fun _ => (0 : Int32)) (0 : Int32) r1) (1 : Int32) r2) (1 : Int32).toNatClampNeg))])) _
                          refine XS.icmpYes X74.here hx rfl (pc0 := 207) (pc' := 225) rfl (hb hby at_207) rfl (feq hc207_75).2 (by decide) (by decide) ?_
                          refine XS.iconst X74.here hx rfl (hb hby at_225) ?_
                          refine XS.istore X74.here hx rfl (hb hby at_226) rfl (l' := #[.val (.int p1), .val (.int p2), .val (.int p3), .val (.int p4), .val (.long q5), .second, .val (.int p6), .val (.int id1), .val (.int id2), .val (.int r1), .val (.int r2), .val (.int hd1), .val (.int hd2), .val (.int sd), .val (.ref b1), .val (.ref c23_xb), .val (.int (0 : Int32)), .val (.int (0 : Int32))]) rfl ?_
                          refine XS.iload X74.here hx rfl (hb hby at_228) rfl ?_
                          show Steps p.tables e below (T74.setTop (mkF m 230 #[.val (.int p1), .val (.int p2), .val (.int p3), .val (.int p4), .val (.long q5), .second, .val (.int p6), .val (.int id1), .val (.int id2), .val (.int r1), .val (.int r2), .val (.int hd1), .val (.int hd2), .val (.int sd), .val (.ref b1), .val (.ref c23_xb), .val (.int (0 : Int32)), .val (.int (0 : Int32))] [(.int (0 : Int32))])) _
                          refine XS.ifYes X74.here hx rfl (pc0 := 230) (pc' := 242) rfl (hb hby at_230) rfl ((if0 _ _).trans (teq ((by decide) : (0 : Int32) = (0 : Int32))).1) (by decide) (by decide) ?_
                          refine XS.iconst X74.here hx rfl (hb hby at_242) ?_
                          exact kt
                        show own_End p e below s (T74.setTop (mkF m 243 #[.val (.int p1), .val (.int p2), .val (.int p3), .val (.int p4), .val (.long q5), .second, .val (.int p6), .val (.int id1), .val (.int id2), .val (.int r1), .val (.int r2), .val (.int hd1), .val (.int hd2), .val (.int sd), .val (.ref b1), .val (.ref c23_xb), .val (.int (0 : Int32)), .val (.int (0 : Int32))] [(.int (0 : Int32))])) (Q0 Z p1 p2 p3 p4 q5 p6 h0 n0) room_1.cells room_1.slots
                        have hv : (own_law p1 p2 p3 p4 q5 p6) = (0 : Int32) := hj.trans (by simp only [own_law_85, if_neg hc136_31, if_pos hc186_71, if_pos hc196_73, if_neg hc207_75])
                        obtain ⟨fs, hr, hrun, hended, hW, hsame⟩ := X74.leave (v := some (.int (0 : Int32))) (fun h => by rw [Bd.returns] at h; cases h)
                        refine ⟨_, _, ?_, hrun, hended, _, _, rfl, ?_, ⟨_, rfl⟩, hW, hsame.mono (by decide) (by decide)⟩
                        · exact retN X74 hx (t := .boolean) Bd.returns (by simp) (hb hby at_243) hr
                        · show Q0 Z p1 p2 p3 p4 q5 p6 h0 n0 _ T74.heap _
                          rw [e74]
                          exact ⟨(congrArg (fun z => some (Value.int z)) hv.symm), N74⟩
                    · refine own_pre (A := T72.setTop (mkF m 243 #[.val (.int p1), .val (.int p2), .val (.int p3), .val (.int p4), .val (.long q5), .second, .val (.int p6), .val (.int id1), .val (.int id2), .val (.int r1), .val (.int r2), .val (.int hd1), .val (.int hd2), .val (.int sd), .val (.ref b1), .val (.ref c23_xb), .val (.int (0 : Int32)), .val (.int (0 : Int32))] [(.int (0 : Int32))])) (fun tt kt => ?_) ?_
                      · show Steps p.tables e below (T72.setTop (mkF m 196 #[.val (.int p1), .val (.int p2), .val (.int p3), .val (.int p4), .val (.long q5), .second, .val (.int p6), .val (.int id1), .val (.int id2), .val (.int r1), .val (.int r2), .val (.int hd1), .val (.int hd2), .val (.int sd), .val (.ref b1), .val (.ref c23_xb), .val (.int (0 : Int32)), .unset] [(.int p4), (.int ((own_put (own_put (fun _ => (0 : Int32)) (0 : Int32) p3) (1 : Int32) p4) (1 : Int32).toNatClampNeg))])) _
                        refine XS.icmpYes X72.here hx rfl (pc0 := 196) (pc' := 225) rfl (hb hby at_196) rfl (feq hc196_73).2 (by decide) (by decide) ?_
                        refine XS.iconst X72.here hx rfl (hb hby at_225) ?_
                        refine XS.istore X72.here hx rfl (hb hby at_226) rfl (l' := #[.val (.int p1), .val (.int p2), .val (.int p3), .val (.int p4), .val (.long q5), .second, .val (.int p6), .val (.int id1), .val (.int id2), .val (.int r1), .val (.int r2), .val (.int hd1), .val (.int hd2), .val (.int sd), .val (.ref b1), .val (.ref c23_xb), .val (.int (0 : Int32)), .val (.int (0 : Int32))]) rfl ?_
                        refine XS.iload X72.here hx rfl (hb hby at_228) rfl ?_
                        show Steps p.tables e below (T72.setTop (mkF m 230 #[.val (.int p1), .val (.int p2), .val (.int p3), .val (.int p4), .val (.long q5), .second, .val (.int p6), .val (.int id1), .val (.int id2), .val (.int r1), .val (.int r2), .val (.int hd1), .val (.int hd2), .val (.int sd), .val (.ref b1), .val (.ref c23_xb), .val (.int (0 : Int32)), .val (.int (0 : Int32))] [(.int (0 : Int32))])) _
                        refine XS.ifYes X72.here hx rfl (pc0 := 230) (pc' := 242) rfl (hb hby at_230) rfl ((if0 _ _).trans (teq ((by decide) : (0 : Int32) = (0 : Int32))).1) (by decide) (by decide) ?_
                        refine XS.iconst X72.here hx rfl (hb hby at_242) ?_
                        exact kt
                      show own_End p e below s (T72.setTop (mkF m 243 #[.val (.int p1), .val (.int p2), .val (.int p3), .val (.int p4), .val (.long q5), .second, .val (.int p6), .val (.int id1), .val (.int id2), .val (.int r1), .val (.int r2), .val (.int hd1), .val (.int hd2), .val (.int sd), .val (.ref b1), .val (.ref c23_xb), .val (.int (0 : Int32)), .val (.int (0 : Int32))] [(.int (0 : Int32))])) (Q0 Z p1 p2 p3 p4 q5 p6 h0 n0) room_1.cells room_1.slots
                      have hv : (own_law p1 p2 p3 p4 q5 p6) = (0 : Int32) := hj.trans (by simp only [own_law_85, if_neg hc136_31, if_pos hc186_71, if_neg hc196_73])
                      obtain ⟨fs, hr, hrun, hended, hW, hsame⟩ := X72.leave (v := some (.int (0 : Int32))) (fun h => by rw [Bd.returns] at h; cases h)
                      refine ⟨_, _, ?_, hrun, hended, _, _, rfl, ?_, ⟨_, rfl⟩, hW, hsame.mono (by decide) (by decide)⟩
                      · exact retN X72 hx (t := .boolean) Bd.returns (by simp) (hb hby at_243) hr
                      · show Q0 Z p1 p2 p3 p4 q5 p6 h0 n0 _ T72.heap _
                        rw [e72]
                        exact ⟨(congrArg (fun z => some (Value.int z)) hv.symm), N72⟩
                  · refine own_pre (A := T70.setTop (mkF m 243 #[.val (.int p1), .val (.int p2), .val (.int p3), .val (.int p4), .val (.long q5), .second, .val (.int p6), .val (.int id1), .val (.int id2), .val (.int r1), .val (.int r2), .val (.int hd1), .val (.int hd2), .val (.int sd), .val (.ref b1), .val (.ref c23_xb), .val (.int (0 : Int32)), .val (.int (0 : Int32))] [(.int (0 : Int32))])) (fun tt kt => ?_) ?_
                    · show Steps p.tables e below (T70.setTop (mkF m 186 #[.val (.int p1), .val (.int p2), .val (.int p3), .val (.int p4), .val (.long q5), .second, .val (.int p6), .val (.int id1), .val (.int id2), .val (.int r1), .val (.int r2), .val (.int hd1), .val (.int hd2), .val (.int sd), .val (.ref b1), .val (.ref c23_xb), .val (.int (0 : Int32)), .unset] [(.int id2), (.int ((own_put (own_put (fun _ => (0 : Int32)) (0 : Int32) id1) (1 : Int32) id2) (1 : Int32).toNatClampNeg))])) _
                      refine XS.icmpYes X70.here hx rfl (pc0 := 186) (pc' := 225) rfl (hb hby at_186) rfl (feq hc186_71).2 (by decide) (by decide) ?_
                      refine XS.iconst X70.here hx rfl (hb hby at_225) ?_
                      refine XS.istore X70.here hx rfl (hb hby at_226) rfl (l' := #[.val (.int p1), .val (.int p2), .val (.int p3), .val (.int p4), .val (.long q5), .second, .val (.int p6), .val (.int id1), .val (.int id2), .val (.int r1), .val (.int r2), .val (.int hd1), .val (.int hd2), .val (.int sd), .val (.ref b1), .val (.ref c23_xb), .val (.int (0 : Int32)), .val (.int (0 : Int32))]) rfl ?_
                      refine XS.iload X70.here hx rfl (hb hby at_228) rfl ?_
                      show Steps p.tables e below (T70.setTop (mkF m 230 #[.val (.int p1), .val (.int p2), .val (.int p3), .val (.int p4), .val (.long q5), .second, .val (.int p6), .val (.int id1), .val (.int id2), .val (.int r1), .val (.int r2), .val (.int hd1), .val (.int hd2), .val (.int sd), .val (.ref b1), .val (.ref c23_xb), .val (.int (0 : Int32)), .val (.int (0 : Int32))] [(.int (0 : Int32))])) _
                      refine XS.ifYes X70.here hx rfl (pc0 := 230) (pc' := 242) rfl (hb hby at_230) rfl ((if0 _ _).trans (teq ((by decide) : (0 : Int32) = (0 : Int32))).1) (by decide) (by decide) ?_
                      refine XS.iconst X70.here hx rfl (hb hby at_242) ?_
                      exact kt
                    show own_End p e below s (T70.setTop (mkF m 243 #[.val (.int p1), .val (.int p2), .val (.int p3), .val (.int p4), .val (.long q5), .second, .val (.int p6), .val (.int id1), .val (.int id2), .val (.int r1), .val (.int r2), .val (.int hd1), .val (.int hd2), .val (.int sd), .val (.ref b1), .val (.ref c23_xb), .val (.int (0 : Int32)), .val (.int (0 : Int32))] [(.int (0 : Int32))])) (Q0 Z p1 p2 p3 p4 q5 p6 h0 n0) room_1.cells room_1.slots
                    have hv : (own_law p1 p2 p3 p4 q5 p6) = (0 : Int32) := hj.trans (by simp only [own_law_85, if_neg hc136_31, if_neg hc186_71])
                    obtain ⟨fs, hr, hrun, hended, hW, hsame⟩ := X70.leave (v := some (.int (0 : Int32))) (fun h => by rw [Bd.returns] at h; cases h)
                    refine ⟨_, _, ?_, hrun, hended, _, _, rfl, ?_, ⟨_, rfl⟩, hW, hsame.mono (by decide) (by decide)⟩
                    · exact retN X70 hx (t := .boolean) Bd.returns (by simp) (hb hby at_243) hr
                    · show Q0 Z p1 p2 p3 p4 q5 p6 h0 n0 _ T70.heap _
                      rw [e70]
                      exact ⟨(congrArg (fun z => some (Value.int z)) hv.symm), N70⟩
              exact j85 _ _ Xj76 ej76 Nj76 ((1 : Int32) + (p6 &&& (2147483646 : Int32))) (own_sd p6) (hj.trans (by simp only [own_law_76]))
            exact j76 _ _ Xj58 ej58 Nj58 ((1 : Int32) + (((((q5.toUInt64 >>> ((48 : Int32) &&& 0x3f).toInt64.toUInt64).toInt64) &&& (65535 : Int64)) - ((((q5.toUInt64 >>> ((48 : Int32) &&& 0x3f).toInt64.toUInt64).toInt64) &&& (65535 : Int64)) / (65535 : Int64)) * (65535 : Int64)).toInt32)) (own_h _) (hj.trans (by simp only [own_law_58]))
          exact j58 _ _ Xj40 ej40 Nj40 ((1 : Int32) + (((((q5.toUInt64 >>> ((32 : Int32) &&& 0x3f).toInt64.toUInt64).toInt64) &&& (65535 : Int64)) - ((((q5.toUInt64 >>> ((32 : Int32) &&& 0x3f).toInt64.toUInt64).toInt64) &&& (65535 : Int64)) / (65535 : Int64)) * (65535 : Int64)).toInt32)) (own_h _) (hj.trans (by simp only [own_law_40]))
        exact j40 _ _ Xj28 ej28 Nj28 ((((q5.toUInt64 >>> ((16 : Int32) &&& 0x3f).toInt64.toUInt64).toInt64) &&& (65535 : Int64)).toInt32) (own_r _) (hj.trans (by simp only [own_law_28]))
      exact j28 _ _ Xj19 ej19 Nj19 ((q5 &&& (65535 : Int64)).toInt32) (own_r q5) (hj.trans (by simp only [own_law_19]))
    exact j19 _ _ Xj8 ej8 Nj8 ((id1 + (1 : Int32)) + (p2 &&& (1073741822 : Int32))) (own_id2 p2 hi1 hi1b).1 (own_id2 p2 hi1 hi1b).2 (hj.trans (by simp only [own_law_8]))
  exact j8 _ _ X0 e0 N0 ((1 : Int32) + (p1 &&& (1073741823 : Int32))) (own_id1 p1).1 (own_id1 p1).2 (hj.trans (by simp only [own_law]))
theorem own_get0 (x y : Int32) : own_put (own_put (fun _ => (0 : Int32)) (0 : Int32) x) (1 : Int32) y (0 : Int32).toNatClampNeg = x := rfl
theorem own_get1 (x y : Int32) : own_put (own_put (fun _ => (0 : Int32)) (0 : Int32) x) (1 : Int32) y (1 : Int32).toNatClampNeg = y := rfl
theorem own_true (a b i1 i2 : Int32) (e : Int64) (s : Int32) : own_law a b i1 i2 e s = 1 := by
  simp only [own_law, own_law_8, own_law_19, own_law_28, own_law_40, own_law_58, own_law_76, own_law_85, own_get0, own_get1, if_true]
set_option maxRecDepth 65536 in
set_option maxHeartbeats 40000000 in
theorem comes_1 {Post : Tables → Env → Array Value → State → Outcome → State → Prop} (hpost : ∀ tb e args s v u, (limb_1_1.after args s (.returned v) u = true ∧ limb_1_2.after args s (.returned v) u = true ∧ True) → FrameEnd s (.returned v) u (Jvm.fieldLocs frame_1_writes args s ++ Jvm.arrayLocs frame_1_arrays args s ++ Jvm.staticLocs frame_1_statics s) 24 128 → Post tb e args s (.returned v) u) :
    ArmFor flags0 classFile x code maxLocals ret World_1 tables_1 room_1 Calls_1 rest_1 Pre_1 Post := by
  intro l hfl _ _ p e ha hc hk s m args below hf hA hF happ hP
  obtain ⟨hcalls, hrest, hpre⟩ := hP
  obtain ⟨-, -, -, hnamed, -, -, -, hat⟩ := (Spec.applies_iff hf).mp happ
  obtain ⟨hg, hn⟩ := and_e (Cond.before_iff.mp (show (Jvm.Cond.and given_1 narrow_1).before args s = true from hpre))
  obtain ⟨g1, g2⟩ := and_e hg
  obtain ⟨g3, g4⟩ := and_e g2
  obtain ⟨g5, g6⟩ := and_e g4
  obtain ⟨g7, g8⟩ := and_e g6
  obtain ⟨g9, g10⟩ := and_e g8
  obtain ⟨g11, g12⟩ := and_e g10
  obtain ⟨w0, w1, w2, w3, w4, w5, rfl⟩ : ∃ w0 w1 w2 w3 w4 w5 : Value, args = #[w0, w1, w2, w3, w4, w5] := by
    have hs : args.size = 6 := by simpa [Cond.value, given_1] using g1
    obtain ⟨L⟩ := args
    match L, hs with
    | [w0, w1, w2, w3, w4, w5], _ => exact ⟨w0, w1, w2, w3, w4, w5, rfl⟩
  have hw := fun d (hd : d ∈ tables_1) => atoms_spec (ws := Jvm.Cond.code x code maxLocals ret :: tables_1) hat d (List.mem_cons_of_mem _ hd)
  have hfit : Fit s := fun {y c} hc i hi => by
    obtain ⟨ha, rfl⟩ := Array.getElem?_eq_some_iff.mp hc
    have q := List.all_eq_true.mp ((Array.all_eq_true_iff_forall_mem.mp hF) _ (Array.getElem_mem ha)) i (List.mem_range.mpr hi)
    simpa [Array.getElem?_eq_getElem hi] using q
  obtain ⟨i0, ei0⟩ := is_v g3
  obtain rfl : w0 = (.int i0) := Option.some.inj ei0
  obtain ⟨i1, ei1⟩ := is_v g5
  obtain rfl : w1 = (.int i1) := Option.some.inj ei1
  obtain ⟨i2, ei2⟩ := is_v g7
  obtain rfl : w2 = (.int i2) := Option.some.inj ei2
  obtain ⟨i3, ei3⟩ := is_v g9
  obtain rfl : w3 = (.int i3) := Option.some.inj ei3
  obtain ⟨i4, ei4⟩ := isL_v g11
  obtain rfl : w4 = (.long i4) := Option.some.inj ei4
  obtain ⟨i5, ei5⟩ := is_v g12
  obtain rfl : w5 = (.int i5) := Option.some.inj ei5
  obtain ⟨n, o, h1, h2, h3, _, L, rfl, ⟨rfl, N⟩, hq⟩ := rm0 l s _ hw tables_1 i0 i1 i2 i3 i4 i5 s.heap s.heap.size (Nat.le_refl _)  p e ha hc hk s m _ below hf ((Spec.applies_iff_loose hf).mp happ).1 ⟨rfl, State.Warmed39.refl s, rfl⟩ trivial
  refine ⟨n, _, h1, h2, h3, hpost _ _ _ _ _ _ ⟨Cond.after_iff.mpr rfl, Cond.after_iff.mpr (eq_i res_at (Term.int_eval (1)) (congrArg Value.int (own_true i0 i1 i2 i3 i4 i5))), trivial⟩ ⟨hq.1, hq.2.1, (hq.2.2.sift fun y hy => Or.inr (N y hy)).mono (by decide) (by decide)⟩⟩
theorem main_1_1 : Claimed_1_1 := comes_1 fun _ _ _ _ _ _ h hF => ⟨h.1, hF⟩
theorem main_1_2 : Claimed_1_2 := comes_1 fun _ _ _ _ _ _ h hF => ⟨h.2.1, hF⟩
end Jvm.Pilot.@@N@@
namespace Jvm.Pilot.@@N@@
open Jvm Jvm.ClassFile Sem Op Lib Jvm.Free Jvm.Stand Jvm.Pilot.@@N@@.Jvm.D
/-! MADE BY PROGRAM (witnessworld.py) out of the Statement's table words and the real class files: 13 classes; the members and pool entries that the words name. The judged class is class 1, her method 1. -/
namespace start1
open Jvm.ClassFile
def u (s : String) : CpInfo := .utf8 (stringToUtf16 s)
/-- a pool by its gaps: so many unusable entries, then the entry; so many at the end -/
def gap : Nat → List CpInfo → List CpInfo
  | 0, r => r
  | n + 1, r => .unusable :: gap n r
def poolList (es : List (Nat × CpInfo)) (last : Nat) : List CpInfo := es.foldr (fun e r => gap e.1 (e.2 :: r)) (gap last [])
def pool (es : List (Nat × CpInfo)) (last : Nat) : Array CpInfo := ⟨poolList es last⟩
def fileOf (pool : Array CpInfo) (this : Nat) (attrs : Array Attribute := #[]) (ms : Array MethodInfo := #[]) (fl : Nat := 33) (sup : Nat := 0) (ifs : Array Nat := #[]) (fds : Array FieldInfo := #[]) : ClassFile where
  minorVersion := 0
  majorVersion := 65
  constantPool := pool
  accessFlags := fl
  thisClass := this
  superClass := sup
  interfaces := ifs
  fields := fds
  methods := ms
  attributes := attrs
def plain (name : String) (sup : Option ClassId) : Class where
  name := name
  kind := .ordinary
  loader := none
  accessFlags := 33
  super := sup
  interfaces := #[]
  cf := none
  fields := #[]
  methods := #[]
  instanceTypes := #[]
  staticTypes := #[]
  resolved := #[]
  callSites := []
  init := .initialized
  statics := none
  mirror := none

def pool0 : Array CpInfo := pool [(5, u "<init>"), (0, u "()V"), (1, .class_ 10), (1, u "java/lang/Object")] 113

def k0c0 : Code := { maxStack := 0, maxLocals := 1, code := object_method_1_code, exceptionTable := #[], attributes := #[] }
def k0m0 : Method := { name := "<init>", desc := "()V", sig := { parameters := [], returnType := none }, accessFlags := 1, code := some k0c0 }
/-- java/lang/Object -/
def k0 : Class := { plain "java/lang/Object" none with
  accessFlags := 33
  interfaces := #[]
  cf := some (fileOf pool0 8 #[] #[{ accessFlags := 1, nameIndex := 5, descriptorIndex := 6, attributes := #[] }] 33 0 #[] #[])
  fields := #[]
  methods := #[k0m0]
  instanceTypes := #[]
  staticTypes := #[]
  resolved := Array.replicate 124 none
  statics := none }

def pool1 : Array CpInfo := pool [(2, .class_ 4), (1, u "java/lang/Object"), (0, u "<init>"), (0, u "()V"), (0, .integer 1073741823), (0, .integer 1073741822), (0, .long 65535), (1, .integer 2147483646), (0, .class_ 13), (0, u "com/example/atoll/atoll/detect/Beacon$Builder"), (0, .methodref 12 15), (0, .nameAndType 5 16), (0, u "(I)V"), (0, .methodref 12 18), (0, .nameAndType 19 20), (0, u "add"), (0, u "(IIII)V"), (0, .methodref 12 22), (0, .nameAndType 23 24), (0, u "sentBy"), (0, u "(I)Lcom/example/atoll/atoll/detect/Beacon;"), (0, .methodref 26 27), (0, .class_ 28), (0, .nameAndType 29 30), (0, u "com/example/atoll/atoll/detect/Beacon"), (0, u "id"), (0, u "(I)I"), (0, .methodref 26 32), (0, .nameAndType 33 30), (0, u "incarnation"), (0, .methodref 26 35), (0, .nameAndType 36 30), (0, u "round"), (0, .methodref 26 38), (0, .nameAndType 39 30), (0, u "heard"), (0, .class_ 41), (0, u "com/example/atoll/atoll/detect/BuilderAddPinLaw"), (2, u "law"), (0, u "(IIIIJI)Z")] 5

def k1m0 : Method := { name := "<init>", desc := "()V", sig := { parameters := [], returnType := none }, accessFlags := 1, code := none }
def k1c1 : Code := { maxStack := 5, maxLocals := 18, code := code, exceptionTable := #[], attributes := #[] }
def k1m1 : Method := { name := "law", desc := "(IIIIJI)Z", sig := { parameters := [.int, .int, .int, .int, .long, .int], returnType := some .boolean }, accessFlags := 9, code := some k1c1 }
/-- com/example/atoll/atoll/detect/BuilderAddPinLaw -/
def k1 : Class := { plain "com/example/atoll/atoll/detect/BuilderAddPinLaw" (some 0) with
  accessFlags := 49
  interfaces := #[]
  cf := some (fileOf pool1 40 #[] #[{ accessFlags := 1, nameIndex := 5, descriptorIndex := 6, attributes := #[] }, { accessFlags := 9, nameIndex := 44, descriptorIndex := 45, attributes := #[] }] 49 2 #[] #[])
  fields := #[]
  methods := #[k1m0, k1m1]
  instanceTypes := #[]
  staticTypes := #[]
  resolved := Array.replicate 51 none
  statics := none }

def pool2 : Array CpInfo := pool [(1, .methodref 2 3), (0, .class_ 4), (0, .nameAndType 5 6), (0, u "java/lang/Object"), (0, u "<init>"), (0, u "()V"), (0, .fieldref 8 9), (0, .class_ 10), (0, .nameAndType 11 12), (0, u "com/example/atoll/atoll/detect/Beacon$Builder"), (0, u "ids"), (0, u "[I"), (0, .fieldref 8 14), (0, .nameAndType 15 12), (0, u "incarnations"), (0, .fieldref 8 17), (0, .nameAndType 18 12), (0, u "rounds"), (0, .fieldref 8 20), (0, .nameAndType 21 12), (0, u "heard"), (0, .fieldref 8 23), (0, .nameAndType 24 25), (0, u "count"), (0, u "I"), (0, .class_ 27), (0, u "com/example/atoll/atoll/detect/Beacon"), (0, .methodref 26 29), (0, .nameAndType 5 30), (0, u "(I[I[I[I[I)V"), (0, u "(I)V"), (2, u "add"), (0, u "(IIII)V"), (0, u "sentBy"), (0, u "(I)Lcom/example/atoll/atoll/detect/Beacon;")] 5

def k2c0 : Code := { maxStack := 2, maxLocals := 2, code := prog_10_method_1_code, exceptionTable := #[], attributes := #[] }
def k2m0 : Method := { name := "<init>", desc := "(I)V", sig := { parameters := [.int], returnType := none }, accessFlags := 0, code := some k2c0 }
def k2c1 : Code := { maxStack := 3, maxLocals := 5, code := prog_10_method_2_code, exceptionTable := #[], attributes := #[] }
def k2m1 : Method := { name := "add", desc := "(IIII)V", sig := { parameters := [.int, .int, .int, .int], returnType := none }, accessFlags := 0, code := some k2c1 }
def k2c2 : Code := { maxStack := 7, maxLocals := 2, code := prog_10_method_3_code, exceptionTable := #[], attributes := #[] }
def k2m2 : Method := { name := "sentBy", desc := "(I)Lcom/example/atoll/atoll/detect/Beacon;", sig := { parameters := [.int], returnType := some (.object "com/example/atoll/atoll/detect/Beacon") }, accessFlags := 0, code := some k2c2 }
/-- com/example/atoll/atoll/detect/Beacon$Builder -/
def k2 : Class := { plain "com/example/atoll/atoll/detect/Beacon$Builder" (some 0) with
  accessFlags := 48
  interfaces := #[]
  cf := some (fileOf pool2 8 #[.nestHost 26] #[{ accessFlags := 0, nameIndex := 5, descriptorIndex := 31, attributes := #[] }, { accessFlags := 0, nameIndex := 34, descriptorIndex := 35, attributes := #[] }, { accessFlags := 0, nameIndex := 36, descriptorIndex := 37, attributes := #[] }] 48 2 #[] #[{ accessFlags := 18, nameIndex := 11, descriptorIndex := 12, attributes := #[] }, { accessFlags := 18, nameIndex := 15, descriptorIndex := 12, attributes := #[] }, { accessFlags := 18, nameIndex := 18, descriptorIndex := 12, attributes := #[] }, { accessFlags := 18, nameIndex := 21, descriptorIndex := 12, attributes := #[] }, { accessFlags := 2, nameIndex := 24, descriptorIndex := 25, attributes := #[] }])
  fields := #[{ name := "ids", type := (.array .int), accessFlags := 18, slot := 0, constantValue := 0 }, { name := "incarnations", type := (.array .int), accessFlags := 18, slot := 1, constantValue := 0 }, { name := "rounds", type := (.array .int), accessFlags := 18, slot := 2, constantValue := 0 }, { name := "heard", type := (.array .int), accessFlags := 18, slot := 3, constantValue := 0 }, { name := "count", type := .int, accessFlags := 2, slot := 4, constantValue := 0 }]
  methods := #[k2m0, k2m1, k2m2]
  instanceTypes := #[(.array .int), (.array .int), (.array .int), (.array .int), .int]
  staticTypes := #[]
  resolved := Array.replicate 43 none
  statics := none }

def pool3 : Array CpInfo := pool [(1, .methodref 2 3), (0, .class_ 4), (0, .nameAndType 5 6), (0, u "java/lang/Object"), (0, u "<init>"), (0, u "()V"), (0, .fieldref 8 9), (0, .class_ 10), (0, .nameAndType 11 12), (0, u "com/example/atoll/atoll/detect/Beacon"), (0, u "sender"), (0, u "I"), (0, .fieldref 8 14), (0, .nameAndType 15 16), (0, u "ids"), (0, u "[I"), (0, .fieldref 8 18), (0, .nameAndType 19 16), (0, u "incarnations"), (0, .fieldref 8 21), (0, .nameAndType 22 16), (0, u "rounds"), (0, .fieldref 8 24), (0, .nameAndType 25 16), (0, u "heard"), (0, .methodref 27 28), (0, .class_ 29), (0, .nameAndType 30 31), (0, u "com/example/atoll/atoll/detect/Require"), (0, u "nodeId"), (0, u "(I)V"), (0, .methodref 33 34), (0, .class_ 35), (0, .nameAndType 36 37), (0, u "com/example/atoll/atoll/detect/Beacon$Origin"), (0, u "check"), (0, u "(III)V"), (45, u "id"), (2, u "incarnation"), (2, u "round"), (4, u "(I[I[I[I[I)V"), (0, .class_ 96), (0, u "com/example/atoll/atoll/detect/Beacon$Origins"), (12, u "MAX_ROUND"), (2, u "MAX_HEARD"), (11, u "(I)I"), (5, .class_ 131), (0, u "com/example/atoll/atoll/detect/Beacon$Builder")] 20

def k3c0 : Code := { maxStack := 5, maxLocals := 7, code := prog_9_method_1_code, exceptionTable := #[], attributes := #[] }
def k3m0 : Method := { name := "<init>", desc := "(I[I[I[I[I)V", sig := { parameters := [.int, (.array .int), (.array .int), (.array .int), (.array .int)], returnType := none }, accessFlags := 2, code := some k3c0 }
def k3c1 : Code := { maxStack := 2, maxLocals := 2, code := prog_9_method_7_code, exceptionTable := #[], attributes := #[] }
def k3m1 : Method := { name := "id", desc := "(I)I", sig := { parameters := [.int], returnType := some .int }, accessFlags := 0, code := some k3c1 }
def k3c2 : Code := { maxStack := 2, maxLocals := 2, code := prog_9_method_8_code, exceptionTable := #[], attributes := #[] }
def k3m2 : Method := { name := "incarnation", desc := "(I)I", sig := { parameters := [.int], returnType := some .int }, accessFlags := 0, code := some k3c2 }
def k3c3 : Code := { maxStack := 2, maxLocals := 2, code := prog_9_method_9_code, exceptionTable := #[], attributes := #[] }
def k3m3 : Method := { name := "round", desc := "(I)I", sig := { parameters := [.int], returnType := some .int }, accessFlags := 0, code := some k3c3 }
def k3c4 : Code := { maxStack := 2, maxLocals := 2, code := prog_9_method_10_code, exceptionTable := #[], attributes := #[] }
def k3m4 : Method := { name := "heard", desc := "(I)I", sig := { parameters := [.int], returnType := some .int }, accessFlags := 0, code := some k3c4 }
/-- com/example/atoll/atoll/detect/Beacon -/
def k3 : Class := { plain "com/example/atoll/atoll/detect/Beacon" (some 0) with
  accessFlags := 49
  interfaces := #[]
  cf := some (fileOf pool3 8 #[.nestMembers #[33, 130, 95]] #[{ accessFlags := 2, nameIndex := 5, descriptorIndex := 94, attributes := #[] }, { accessFlags := 0, nameIndex := 83, descriptorIndex := 124, attributes := #[] }, { accessFlags := 0, nameIndex := 86, descriptorIndex := 124, attributes := #[] }, { accessFlags := 0, nameIndex := 89, descriptorIndex := 124, attributes := #[] }, { accessFlags := 0, nameIndex := 25, descriptorIndex := 124, attributes := #[] }] 49 2 #[] #[{ accessFlags := 25, nameIndex := 109, descriptorIndex := 12, attributes := #[] }, { accessFlags := 25, nameIndex := 112, descriptorIndex := 12, attributes := #[] }, { accessFlags := 18, nameIndex := 11, descriptorIndex := 12, attributes := #[] }, { accessFlags := 18, nameIndex := 15, descriptorIndex := 16, attributes := #[] }, { accessFlags := 18, nameIndex := 19, descriptorIndex := 16, attributes := #[] }, { accessFlags := 18, nameIndex := 22, descriptorIndex := 16, attributes := #[] }, { accessFlags := 18, nameIndex := 25, descriptorIndex := 16, attributes := #[] }])
  fields := #[{ name := "MAX_ROUND", type := .int, accessFlags := 25, slot := 0, constantValue := 0 }, { name := "MAX_HEARD", type := .int, accessFlags := 25, slot := 1, constantValue := 0 }, { name := "sender", type := .int, accessFlags := 18, slot := 0, constantValue := 0 }, { name := "ids", type := (.array .int), accessFlags := 18, slot := 1, constantValue := 0 }, { name := "incarnations", type := (.array .int), accessFlags := 18, slot := 2, constantValue := 0 }, { name := "rounds", type := (.array .int), accessFlags := 18, slot := 3, constantValue := 0 }, { name := "heard", type := (.array .int), accessFlags := 18, slot := 4, constantValue := 0 }]
  methods := #[k3m0, k3m1, k3m2, k3m3, k3m4]
  instanceTypes := #[.int, (.array .int), (.array .int), (.array .int), (.array .int)]
  staticTypes := #[.int, .int]
  resolved := ((Array.replicate 152 none).setIfInBounds 32 (some (.method ⟨6, 0⟩))).setIfInBounds 33 (some (.cls 6))
  statics := none }

def pool4 : Array CpInfo := pool [(2, .class_ 4), (1, u "java/lang/Object"), (0, u "<init>"), (0, u "()V"), (19, .class_ 27), (0, u "com/example/atoll/atoll/detect/Require"), (2, u "nodeId"), (0, u "(I)V")] 26

def k4m0 : Method := { name := "<init>", desc := "()V", sig := { parameters := [], returnType := none }, accessFlags := 2, code := none }
def k4c1 : Code := { maxStack := 3, maxLocals := 1, code := prog_39_method_2_code, exceptionTable := #[], attributes := #[] }
def k4m1 : Method := { name := "nodeId", desc := "(I)V", sig := { parameters := [.int], returnType := none }, accessFlags := 9, code := some k4c1 }
/-- com/example/atoll/atoll/detect/Require -/
def k4 : Class := { plain "com/example/atoll/atoll/detect/Require" (some 0) with
  accessFlags := 49
  interfaces := #[]
  cf := some (fileOf pool4 26 #[] #[{ accessFlags := 2, nameIndex := 5, descriptorIndex := 6, attributes := #[] }, { accessFlags := 9, nameIndex := 30, descriptorIndex := 31, attributes := #[] }] 49 2 #[] #[])
  fields := #[]
  methods := #[k4m0, k4m1]
  instanceTypes := #[]
  staticTypes := #[]
  resolved := Array.replicate 58 none
  statics := none }

def pool5 : Array CpInfo := pool [(2, .class_ 4), (1, u "java/lang/Object"), (0, u "<init>"), (0, u "()V"), (0, .class_ 8), (0, u "java/lang/Record")] 13

def k5m0 : Method := { name := "<init>", desc := "()V", sig := { parameters := [], returnType := none }, accessFlags := 4, code := none }
/-- java/lang/Record -/
def k5 : Class := { plain "java/lang/Record" (some 0) with
  accessFlags := 1057
  interfaces := #[]
  cf := some (fileOf pool5 7 #[] #[{ accessFlags := 4, nameIndex := 5, descriptorIndex := 6, attributes := #[] }] 1057 2 #[] #[])
  fields := #[]
  methods := #[k5m0]
  instanceTypes := #[]
  staticTypes := #[]
  resolved := Array.replicate 22 none
  statics := none }

def pool6 : Array CpInfo := pool [(1, .class_ 2), (0, u "com/example/atoll/atoll/detect/Beacon"), (1, .class_ 6), (1, u "java/lang/Record"), (3, .class_ 12), (1, u "com/example/atoll/atoll/detect/Beacon$Origin"), (0, u "check"), (0, u "(III)V"), (2, u "id"), (0, u "I"), (2, u "incarnation"), (2, u "round"), (2, u "heard"), (0, .methodref 29 30), (0, .class_ 31), (0, .nameAndType 32 33), (0, u "com/example/atoll/atoll/detect/Require"), (0, u "nodeId"), (0, u "(I)V"), (0, .integer 65535)] 62

def k6c0 : Code := { maxStack := 4, maxLocals := 3, code := prog_11_method_2_code, exceptionTable := #[], attributes := #[] }
def k6m0 : Method := { name := "check", desc := "(III)V", sig := { parameters := [.int, .int, .int], returnType := none }, accessFlags := 10, code := some k6c0 }
/-- com/example/atoll/atoll/detect/Beacon$Origin -/
def k6 : Class := { plain "com/example/atoll/atoll/detect/Beacon$Origin" (some 5) with
  accessFlags := 49
  interfaces := #[]
  cf := some (fileOf pool6 10 #[.nestHost 1] #[{ accessFlags := 10, nameIndex := 13, descriptorIndex := 14, attributes := #[] }] 49 4 #[] #[{ accessFlags := 18, nameIndex := 17, descriptorIndex := 18, attributes := #[] }, { accessFlags := 18, nameIndex := 21, descriptorIndex := 18, attributes := #[] }, { accessFlags := 18, nameIndex := 24, descriptorIndex := 18, attributes := #[] }, { accessFlags := 18, nameIndex := 27, descriptorIndex := 18, attributes := #[] }])
  fields := #[{ name := "id", type := .int, accessFlags := 18, slot := 0, constantValue := 0 }, { name := "incarnation", type := .int, accessFlags := 18, slot := 1, constantValue := 0 }, { name := "round", type := .int, accessFlags := 18, slot := 2, constantValue := 0 }, { name := "heard", type := .int, accessFlags := 18, slot := 3, constantValue := 0 }]
  methods := #[k6m0]
  instanceTypes := #[.int, .int, .int, .int]
  staticTypes := #[]
  resolved := Array.replicate 97 none
  statics := none }

def pool7 : Array CpInfo := pool [(1, u "java/lang/Cloneable"), (0, .class_ 1), (0, u "java/lang/Object"), (0, .class_ 3)] 3

/-- java/lang/Cloneable -/
def k7 : Class := { plain "java/lang/Cloneable" (some 0) with
  accessFlags := 1537
  interfaces := #[]
  cf := some (fileOf pool7 2 #[] #[] 1537 4 #[] #[])
  fields := #[]
  methods := #[]
  instanceTypes := #[]
  staticTypes := #[]
  resolved := Array.replicate 8 none
  statics := none }

def pool8 : Array CpInfo := pool [(1, u "java/io/Serializable"), (0, .class_ 1), (0, u "java/lang/Object"), (0, .class_ 3)] 3

/-- java/io/Serializable -/
def k8 : Class := { plain "java/io/Serializable" (some 0) with
  accessFlags := 1537
  interfaces := #[]
  cf := some (fileOf pool8 2 #[] #[] 1537 4 #[] #[])
  fields := #[]
  methods := #[]
  instanceTypes := #[]
  staticTypes := #[]
  resolved := Array.replicate 8 none
  statics := none }

/-- the primitive byte -/
def k9 : Class := { plain "byte" none with kind := .primitive 'B', accessFlags := 0x411 }
/-- [B -/
def k10 : Class := { plain "[B" (some 0) with kind := .array 9 .byte, interfaces := #[7, 8], accessFlags := 1041 }

/-- the primitive int -/
def k11 : Class := { plain "int" none with kind := .primitive 'I', accessFlags := 0x411 }
/-- [I -/
def k12 : Class := { plain "[I" (some 0) with kind := .array 11 .int, interfaces := #[7, 8], accessFlags := 1041 }

def heap : Heap := #[]
def classes : Array Class := #[k0, k1, k2, k3, k4, k5, k6, k7, k8, k9, k10, k11, k12]
def interned : List (Array UInt16 × Addr) := []
def slotsUsed : Nat := 0
def theMethod : MethodId := ⟨1, 1⟩
def args0 : Array Value := #[.int 5, .int 9, .int 3, .int 9, .long 3, .int 7]
def aboutOver (below : List Frame) : State where
  vm := { classes := classes, interned := interned.toArray }
  heap := heap
  slotsUsed := slotsUsed
  threads := #[{ frames := .invoking theMethod args0 :: below }]
def below0 : List Frame := [.native { method := ⟨0, 0⟩, args := #[] }]
def about1 : State := aboutOver below0
def p0 : Program := .bare "" "" ""
def e0 : Env := launch0.env 0 0 0
theorem w_frames : about1.frames = Frame.invoking theMethod args0 :: below0 := rfl
set_option maxRecDepth 65536 in
theorem w_args : argsFit about1.vm theMethod args0 = true := by decide +kernel
set_option maxRecDepth 65536 in
theorem w_heap : heapFits about1 = true := by decide +kernel
set_option maxRecDepth 65536 in
theorem w_runnable : about1.curStatus? = some .runnable := by decide +kernel
set_option maxRecDepth 65536 in
theorem w_alone : about1.alone = true := by decide +kernel
set_option maxRecDepth 65536 in
theorem w_named : about1.methodNamed? x = some theMethod := by decide +kernel
set_option maxRecDepth 65536 in
theorem w_hears : about1.hears theMethod below0 = true := by decide +kernel
set_option maxRecDepth 65536 in
theorem w_ripe : about1.ripe theMethod args0 below0 = true := by decide +kernel
theorem w_running : about1.status = .running := rfl
set_option maxRecDepth 65536 in
theorem w_room : about1.hasRoom e0.platform room_1 = true :=
  launch0.hasRoom_least _ room_1 (by decide +kernel) (by decide +kernel) (by decide +kernel) (by decide +kernel) (by decide +kernel) (by decide +kernel)
theorem allAtoms_all (ts : List Jvm.Cond) (a : Array Jvm.Value) (st : Jvm.State) : (allAtoms ts).before a st = ts.all (fun c => c.before a st) := by
  induction ts with
  | nil => rfl
  | cons c t ih =>
    show (Jvm.Cond.and c (allAtoms t)).before a st = _
    rw [Jvm.Cond.before_and, ih, List.all_cons]
def words1 : List Jvm.Cond := Jvm.Cond.code x code maxLocals ret :: tables_1
/-- a 'code' word, met by the world's own term for the bytes: nothing is compared byte by byte -/
theorem code_word {y : MethodName} {bytes : ByteArray} {mx : Nat} {rt : Option FieldType} {a : Array Value} {s : State} {m : MethodId} {meth : Method} {c : Code} (h1 : s.methodNamed? y = some m) (h2 : s.vm.method? m = some meth) (h3 : meth.code = some c) (h4 : c.code = bytes)
    (h5 : (c.maxLocals == mx && c.exceptionTable.isEmpty && decide (c.maxStack ≤ mostOperands) && decide (meth.sig.returnType = rt) && !meth.locks && decide (parseMethodDescriptor y.desc = some meth.sig)) = true) : (Jvm.Cond.code y bytes mx rt).before a s = true := by
  simp only [Bool.and_eq_true, beq_iff_eq, Bool.not_eq_true', decide_eq_true_eq] at h5
  obtain ⟨⟨⟨⟨⟨g1, g2⟩, g3⟩, g4⟩, g5⟩, g6⟩ := h5
  simp [Cond.before, Cond.holds, Cond.value, h1, h2, h3, h4, g1, g2, g3, g4, g5, g6]
def isCode : Jvm.Cond → Bool
  | .code _ _ _ _ => true
  | _ => false
theorem all_split {L : List Jvm.Cond} {P : Jvm.Cond → Bool} (h1 : L.all (fun c => isCode c || P c) = true) (h2 : ∀ c ∈ L.filter isCode, P c = true) : L.all P = true := by
  refine List.all_eq_true.mpr fun c hc => ?_
  have h := List.all_eq_true.mp h1 c hc
  rcases Bool.eq_false_or_eq_true (isCode c) with hi | hi
  · exact h2 c (List.mem_filter.mpr ⟨hc, hi⟩)
  · simpa [hi] using h
set_option maxRecDepth 65536 in
theorem w_c0 : (Jvm.Cond.code x code maxLocals ret).before args0 about1 = true := code_word (m := ⟨1, 1⟩) (meth := k1m1) (c := k1c1) (by decide +kernel) rfl rfl rfl (by decide +kernel)
set_option maxRecDepth 65536 in
theorem w_c1 : (Jvm.Cond.code ({ cls := "com/example/atoll/atoll/detect/Beacon$Builder", name := "<init>", desc := "(I)V" } : Jvm.MethodName) prog_10_method_1_code (2 : Nat) (Option.none : Option Jvm.ClassFile.FieldType)).before args0 about1 = true := code_word (m := ⟨2, 0⟩) (meth := k2m0) (c := k2c0) (by decide +kernel) rfl rfl rfl (by decide +kernel)
set_option maxRecDepth 65536 in
theorem w_c2 : (Jvm.Cond.code ({ cls := "java/lang/Object", name := "<init>", desc := "()V" } : Jvm.MethodName) object_method_1_code (1 : Nat) (Option.none : Option Jvm.ClassFile.FieldType)).before args0 about1 = true := code_word (m := ⟨0, 0⟩) (meth := k0m0) (c := k0c0) (by decide +kernel) rfl rfl rfl (by decide +kernel)
set_option maxRecDepth 65536 in
theorem w_c3 : (Jvm.Cond.code ({ cls := "com/example/atoll/atoll/detect/Beacon$Builder", name := "add", desc := "(IIII)V" } : Jvm.MethodName) prog_10_method_2_code (5 : Nat) (Option.none : Option Jvm.ClassFile.FieldType)).before args0 about1 = true := code_word (m := ⟨2, 1⟩) (meth := k2m1) (c := k2c1) (by decide +kernel) rfl rfl rfl (by decide +kernel)
set_option maxRecDepth 65536 in
theorem w_c4 : (Jvm.Cond.code ({ cls := "com/example/atoll/atoll/detect/Beacon$Builder", name := "sentBy", desc := "(I)Lcom/example/atoll/atoll/detect/Beacon;" } : Jvm.MethodName) prog_10_method_3_code (2 : Nat) (Option.some (Jvm.ClassFile.FieldType.object "com/example/atoll/atoll/detect/Beacon"))).before args0 about1 = true := code_word (m := ⟨2, 2⟩) (meth := k2m2) (c := k2c2) (by decide +kernel) rfl rfl rfl (by decide +kernel)
set_option maxRecDepth 65536 in
theorem w_c5 : (Jvm.Cond.code ({ cls := "com/example/atoll/atoll/detect/Beacon", name := "<init>", desc := "(I[I[I[I[I)V" } : Jvm.MethodName) prog_9_method_1_code (7 : Nat) (Option.none : Option Jvm.ClassFile.FieldType)).before args0 about1 = true := code_word (m := ⟨3, 0⟩) (meth := k3m0) (c := k3c0) (by decide +kernel) rfl rfl rfl (by decide +kernel)
set_option maxRecDepth 65536 in
theorem w_c6 : (Jvm.Cond.code ({ cls := "com/example/atoll/atoll/detect/Require", name := "nodeId", desc := "(I)V" } : Jvm.MethodName) prog_39_method_2_code (1 : Nat) (Option.none : Option Jvm.ClassFile.FieldType)).before args0 about1 = true := code_word (m := ⟨4, 1⟩) (meth := k4m1) (c := k4c1) (by decide +kernel) rfl rfl rfl (by decide +kernel)
set_option maxRecDepth 65536 in
theorem w_c7 : (Jvm.Cond.code ({ cls := "com/example/atoll/atoll/detect/Beacon$Origin", name := "check", desc := "(III)V" } : Jvm.MethodName) prog_11_method_2_code (3 : Nat) (Option.none : Option Jvm.ClassFile.FieldType)).before args0 about1 = true := code_word (m := ⟨6, 0⟩) (meth := k6m0) (c := k6c0) (by decide +kernel) rfl rfl rfl (by decide +kernel)
set_option maxRecDepth 65536 in
theorem w_c8 : (Jvm.Cond.code ({ cls := "com/example/atoll/atoll/detect/Beacon", name := "id", desc := "(I)I" } : Jvm.MethodName) prog_9_method_7_code (2 : Nat) (Option.some Jvm.ClassFile.FieldType.int)).before args0 about1 = true := code_word (m := ⟨3, 1⟩) (meth := k3m1) (c := k3c1) (by decide +kernel) rfl rfl rfl (by decide +kernel)
set_option maxRecDepth 65536 in
theorem w_c9 : (Jvm.Cond.code ({ cls := "com/example/atoll/atoll/detect/Beacon", name := "incarnation", desc := "(I)I" } : Jvm.MethodName) prog_9_method_8_code (2 : Nat) (Option.some Jvm.ClassFile.FieldType.int)).before args0 about1 = true := code_word (m := ⟨3, 2⟩) (meth := k3m2) (c := k3c2) (by decide +kernel) rfl rfl rfl (by decide +kernel)
set_option maxRecDepth 65536 in
theorem w_c10 : (Jvm.Cond.code ({ cls := "com/example/atoll/atoll/detect/Beacon", name := "round", desc := "(I)I" } : Jvm.MethodName) prog_9_method_9_code (2 : Nat) (Option.some Jvm.ClassFile.FieldType.int)).before args0 about1 = true := code_word (m := ⟨3, 3⟩) (meth := k3m3) (c := k3c3) (by decide +kernel) rfl rfl rfl (by decide +kernel)
set_option maxRecDepth 65536 in
theorem w_c11 : (Jvm.Cond.code ({ cls := "com/example/atoll/atoll/detect/Beacon", name := "heard", desc := "(I)I" } : Jvm.MethodName) prog_9_method_10_code (2 : Nat) (Option.some Jvm.ClassFile.FieldType.int)).before args0 about1 = true := code_word (m := ⟨3, 4⟩) (meth := k3m4) (c := k3c4) (by decide +kernel) rfl rfl rfl (by decide +kernel)
def codes1 : List Jvm.Cond := [Jvm.Cond.code x code maxLocals ret, Jvm.Cond.code ({ cls := "com/example/atoll/atoll/detect/Beacon$Builder", name := "<init>", desc := "(I)V" } : Jvm.MethodName) prog_10_method_1_code (2 : Nat) (Option.none : Option Jvm.ClassFile.FieldType), Jvm.Cond.code ({ cls := "java/lang/Object", name := "<init>", desc := "()V" } : Jvm.MethodName) object_method_1_code (1 : Nat) (Option.none : Option Jvm.ClassFile.FieldType), Jvm.Cond.code ({ cls := "com/example/atoll/atoll/detect/Beacon$Builder", name := "add", desc := "(IIII)V" } : Jvm.MethodName) prog_10_method_2_code (5 : Nat) (Option.none : Option Jvm.ClassFile.FieldType), Jvm.Cond.code ({ cls := "com/example/atoll/atoll/detect/Beacon$Builder", name := "sentBy", desc := "(I)Lcom/example/atoll/atoll/detect/Beacon;" } : Jvm.MethodName) prog_10_method_3_code (2 : Nat) (Option.some (Jvm.ClassFile.FieldType.object "com/example/atoll/atoll/detect/Beacon")), Jvm.Cond.code ({ cls := "com/example/atoll/atoll/detect/Beacon", name := "<init>", desc := "(I[I[I[I[I)V" } : Jvm.MethodName) prog_9_method_1_code (7 : Nat) (Option.none : Option Jvm.ClassFile.FieldType), Jvm.Cond.code ({ cls := "com/example/atoll/atoll/detect/Require", name := "nodeId", desc := "(I)V" } : Jvm.MethodName) prog_39_method_2_code (1 : Nat) (Option.none : Option Jvm.ClassFile.FieldType), Jvm.Cond.code ({ cls := "com/example/atoll/atoll/detect/Beacon$Origin", name := "check", desc := "(III)V" } : Jvm.MethodName) prog_11_method_2_code (3 : Nat) (Option.none : Option Jvm.ClassFile.FieldType), Jvm.Cond.code ({ cls := "com/example/atoll/atoll/detect/Beacon", name := "id", desc := "(I)I" } : Jvm.MethodName) prog_9_method_7_code (2 : Nat) (Option.some Jvm.ClassFile.FieldType.int), Jvm.Cond.code ({ cls := "com/example/atoll/atoll/detect/Beacon", name := "incarnation", desc := "(I)I" } : Jvm.MethodName) prog_9_method_8_code (2 : Nat) (Option.some Jvm.ClassFile.FieldType.int), Jvm.Cond.code ({ cls := "com/example/atoll/atoll/detect/Beacon", name := "round", desc := "(I)I" } : Jvm.MethodName) prog_9_method_9_code (2 : Nat) (Option.some Jvm.ClassFile.FieldType.int), Jvm.Cond.code ({ cls := "com/example/atoll/atoll/detect/Beacon", name := "heard", desc := "(I)I" } : Jvm.MethodName) prog_9_method_10_code (2 : Nat) (Option.some Jvm.ClassFile.FieldType.int)]
set_option maxRecDepth 65536 in
theorem codes_eq : words1.filter isCode = codes1 := rfl
theorem w_codes : ∀ c ∈ words1.filter isCode, c.before args0 about1 = true := by
  rw [codes_eq]
  intro c hc
  simp only [codes1, List.mem_cons, List.not_mem_nil, or_false] at hc
  rcases hc with rfl | rfl | rfl | rfl | rfl | rfl | rfl | rfl | rfl | rfl | rfl | rfl
  · exact w_c0
  · exact w_c1
  · exact w_c2
  · exact w_c3
  · exact w_c4
  · exact w_c5
  · exact w_c6
  · exact w_c7
  · exact w_c8
  · exact w_c9
  · exact w_c10
  · exact w_c11
set_option maxRecDepth 65536 in
theorem w_t1 : (words1.take 24).all (fun c => isCode c || c.before args0 about1) = true := by decide +kernel
set_option maxRecDepth 65536 in
theorem w_t2 : ((words1.drop 24).take 24).all (fun c => isCode c || c.before args0 about1) = true := by decide +kernel
set_option maxRecDepth 65536 in
theorem w_t3 : (((words1.drop 24).drop 24).take 24).all (fun c => isCode c || c.before args0 about1) = true := by decide +kernel
set_option maxRecDepth 65536 in
theorem w_t4 : (((words1.drop 24).drop 24).drop 24).all (fun c => isCode c || c.before args0 about1) = true := by decide +kernel
theorem w_tables : (allAtoms (Jvm.Cond.code x code maxLocals ret :: tables_1)).before args0 about1 = true := by
  rw [allAtoms_all]
  show words1.all (fun c => c.before args0 about1) = true
  refine all_split ?_ w_codes
  rw [← List.take_append_drop 24 words1, List.all_append, w_t1, ← List.take_append_drop 24 (words1.drop 24), List.all_append, w_t2, ← List.take_append_drop 24 ((words1.drop 24).drop 24), List.all_append, w_t3, w_t4]
  rfl
set_option maxRecDepth 65536 in
theorem w_case : (Jvm.Cond.and given_1 narrow_1).before args0 about1 = true := by decide +kernel
theorem w_applies : (headSpec (Jvm.Cond.code x code maxLocals ret :: tables_1) room_1).applies x e0.platform about1 = true :=
  (Spec.applies_iff w_frames).mpr ⟨w_running, w_runnable, w_alone, w_named, w_hears, w_ripe, w_room, w_tables⟩
theorem atStart : AtStart classFile x code maxLocals ret World_1 tables_1 room_1 Calls_1 rest_1 Pre_1 launch0 p0 e0 about1 theMethod args0 below0 :=
  ⟨lists_1, trivial, launch0.admits_env _ _ _, launch0.least_env, fairChoices_fair.cas, fairChoices_fair.clock, w_frames, w_args, w_heap, w_applies, trivial, trivial, w_case⟩
end start1
theorem witness_1 : WitnessClaimed_1 := ⟨start1.p0, start1.e0, start1.about1, start1.theMethod, start1.args0, start1.below0, start1.atStart⟩
end Jvm.Pilot.@@N@@
