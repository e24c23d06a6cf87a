import JvmDerived
import JvmDerived.Pilot.@@N@@Statement
import JvmDerived.Pilot.@@N@@Code
set_option linter.unusedVariables false
set_option linter.unusedSimpArgs false
namespace Jvm.RoadKit
open Sem ClassFile Op Lib Jvm.Stand Jvm.Free Jvm.LawKit
section New
variable {p : Program} {l : Launch} {e : Env} {R : Room} {s : State} {m : MethodId} {args : Array Value} {below : List Frame} {meth : Method} {c : Code} {T : State} {locs : List Loc} {cells slots : Nat}
theorem retI (X : Stand p l e R s m args below meth c T locs cells slots) (hx : p.tables.exec = Jvm.exec) {pc : Nat} {Ls : Array Slot} {z : Int32} {rest : List Value} (hret : meth.sig.returnType = some .int) (hd : decode c.code pc = .ok (.ireturn, 1)) {fs : List Frame}
    (hl : ∀ (f : JFrame) (acts : List Action), f.method = m → f.locked = none → f.entered = [] → (doReturn e (T.setTop f) acts (some (.int z))).1 = T.setFrames fs) : Steps p.tables e below (T.setTop (mkF m pc Ls (.int z :: rest))) (T.setFrames fs) := by
  have hm' : T.vm.method? m = some meth := X.method'
  have hn : narrow .int (.int z) = .int z := rfl
  show Steps p.tables e below (T.setTop { method := m, pc := pc, locals := Ls, stack := _ :: rest, locked := none }) _
  jvm_step X.here [X.here.top, hx, hd, hm', hret, hn]
  first | (intro acts; rw [hl _ acts rfl rfl rfl]) | rw [hl _ _ rfl rfl rfl]
  exact Steps.refl _
end New
/-- the run from the state A ends as asked: what is left of the goal while one walks -/
def own_End (p : Program) (e : Env) (below : List Frame) (s A : State) (W : Option Value → Heap → List Loc → Prop) (k n : Nat) : Prop :=
  ∃ s₂ o, Steps p.tables e below A s₂ ∧ s₂.status = .running ∧ Ended s₂ below o ∧ ∃ v L, o = .returned v ∧ W v s₂.heap L ∧ FrameEnd s o s₂ L k n
theorem own_pre {p : Program} {e : Env} {below : List Frame} {s A B : State} {W : Option Value → Heap → List Loc → Prop} {k n : Nat} (f : ∀ t, Steps p.tables e below A t → Steps p.tables e below B t) (h : own_End p e below s A W k n) : own_End p e below s B W k n := by
  obtain ⟨s₂, o, h1, h2⟩ := h; exact ⟨s₂, o, f _ h1, h2⟩
end Jvm.RoadKit
namespace Jvm.RoadKit
open Sem ClassFile Op Lib Jvm.Stand Jvm.Free Jvm.LawKit
/-- an array of n places, the i-th of which holds f i -/
def own_Arr (Z : State) (h : Heap) (a : Addr) (ty : FieldType) (n : Int32) (f : Nat → Value) : Prop := ∃ c : Cell, Arr Z h a c ty ∧ c.slots.size = n.toNatClampNeg ∧ ¬ n < 0 ∧ ∀ i, i < n.toNatClampNeg → c.slots[i]? = some (f i)
section Arrays
variable {Z : State} {h h' : Heap} {a b : Addr} {ty : FieldType} {n j : Int32} {f f' : Nat → Value} {sl : Nat} {v : Value} {ws : List Addr}
theorem own_Arr.lt (F : own_Arr Z h a ty n f) : a < h.size := by obtain ⟨c, A, -⟩ := F; exact A.lt
theorem own_Arr.ext (F : own_Arr Z h a ty n f) (E : Ext h h') : own_Arr Z h' a ty n f := by obtain ⟨c, A, r⟩ := F; exact ⟨c, A.ext E, r⟩
theorem own_Arr.other (F : own_Arr Z h b ty n f) (W : Wr h h' a sl v) (q : b ≠ a) : own_Arr Z h' b ty n f := by obtain ⟨c, A, r⟩ := F; exact ⟨c, A.other W q, r⟩
theorem own_Arr.keep (F : own_Arr Z h a ty n f) (K : Keep h h' ws) (q : a ∉ ws) : own_Arr Z h' a ty n f := by obtain ⟨c, A, r⟩ := F; exact ⟨c, ⟨K.2.1 a c A.1 q, A.2⟩, r⟩
theorem own_Arr.new {k : ClassId} (A : Arr Z h a (newA k ty n) ty) (q : ¬ n < 0) (hf : ∀ i, f i = defaultValue ty) : own_Arr Z h a ty n f :=
  ⟨_, A, sz_new _ _ _, q, fun i hi => by rw [hf]; simp [newA, hi]⟩
theorem own_Arr.set {α : Type} (w : α → Value) {g g' : Nat → α} {x : α} {q : Nat} (F : own_Arr Z h a ty n (fun i => w (g i))) (W : Wr h h' a j.toNatClampNeg (w x)) (hj : j.toNatClampNeg = q) (hg : ∀ i, g' i = if i = q then x else g i) : own_Arr Z h' a ty n (fun i => w (g' i)) := by
  obtain ⟨c, A, r1, r2, r3⟩ := F
  subst hj
  refine ⟨_, A.same W, by rw [sz_set]; exact r1, r2, fun i hi => ?_⟩
  show _ = some (w (g' i))
  rw [hg]
  by_cases e : i = j.toNatClampNeg
  · subst e
    rw [if_pos rfl]; simp [Cell.setSlot, r1, hi]
  · rw [if_neg e]
    rw [← r3 i hi]; exact Array.getElem?_setIfInBounds_ne (Ne.symm e)
theorem own_Arr.congr {α : Type} (w : α → Value) {g g' : Nat → α} (F : own_Arr Z h a ty n (fun i => w (g i))) (hg : ∀ i, i < n.toNatClampNeg → g' i = g i) : own_Arr Z h a ty n (fun i => w (g' i)) := by
  obtain ⟨c, A, r1, r2, r3⟩ := F
  exact ⟨c, A, r1, r2, fun i hi => by show _ = some (w (g' i)); rw [hg i hi]; exact r3 i hi⟩
theorem own_at {c : Cell} (S : c.slots.size = n.toNatClampNeg) (G : ∀ i, i < n.toNatClampNeg → c.slots[i]? = some (f i)) (hj : ¬ (j < 0 ∨ c.slots.size ≤ j.toNatClampNeg)) : c.slots[j.toNatClampNeg]? = some (f j.toNatClampNeg) := G _ (by rw [← S]; exact Nat.lt_of_not_le fun y => hj (Or.inr y))
theorem own_nn {n : Int32} (h : ¬ n < 0) : 0 ≤ n.toInt ∧ n.toInt = n.toNatClampNeg := by
  have e := nat_of h
  exact ⟨by omega, e⟩
theorem own_Arr.nn (F : own_Arr Z h a ty n f) : 0 ≤ n.toInt ∧ n.toInt = n.toNatClampNeg := by obtain ⟨c, A, r1, r2, r3⟩ := F; exact own_nn r2
theorem own_ge0 {i : Int32} (h : 0 ≤ i.toInt) : ¬ i < 0 := fun q => by
  have := Int32.lt_iff_toInt_lt.mp q
  have z : (0 : Int32).toInt = 0 := by decide
  omega
theorem own_inb {i n : Int32} (h0 : 0 ≤ i.toInt) (h : i < n) : ¬ i < 0 ∧ i < n := ⟨own_ge0 h0, h⟩
theorem own_inb2 {i n : Int32} (h0 : 0 ≤ i.toInt) (h : i.toInt < n.toInt) : ¬ i < 0 ∧ i < n := ⟨own_ge0 h0, Int32.lt_iff_toInt_lt.mpr h⟩
theorem own_next {i n : Int32} (h0 : 0 ≤ i.toInt) (h : i < n) : (i + 1).toInt = i.toInt + 1 ∧ i.toInt < n.toInt := by
  have q := Int32.lt_iff_toInt_lt.mp h
  have a := c_iadd i 1
  have z : (1 : Int32).toInt = 1 := by decide
  have r1 := rng32 (i + 1)
  have r2 := rng32 n
  omega
end Arrays
end Jvm.RoadKit
namespace Jvm.RoadKit
open Sem ClassFile Op Lib Jvm.Stand Jvm.Free Jvm.LawKit
section Copy
variable {p : Program} {l : Launch} {e : Env} {R : Room} {s : State} {m : MethodId} {args : Array Value} {below : List Frame} {meth : Method} {c : Code} {T : State} {locs : List Loc} {cells slots : Nat} {Z : State} {h : Heap}
theorem own_Arr.arv {a : Addr} {ty : FieldType} {n : Int32} {f : Nat → Value} (F : own_Arr Z h a ty n f) (hf : ∀ i, fits ty (f i) = true) (dv : Value) (hd : fits ty dv = true) : ∃ k, Arv Z h a k ty n ((List.range n.toNatClampNeg).map f) dv := by
  obtain ⟨c, A, r1, r2, r3⟩ := F
  refine ⟨c.cls, c, A, rfl, r1, r2, fun i hi => ?_, fun i hi => ?_⟩
  · rw [r1] at hi
    rw [r3 i hi]
    simp [List.getD_eq_getElem?_getD, hi]
  · rw [r1] at hi
    simp [List.getD_eq_getElem?_getD, hi, hf]
theorem own_arv {a : Addr} {k : ClassId} {ty : FieldType} {n : Int32} {f : Nat → Value} {vs : List Value} {dv : Value} (F : Arv Z h a k ty n vs dv) (hf : ∀ i, i < n.toNatClampNeg → vs.getD i dv = f i) : own_Arr Z h a ty n f := by
  obtain ⟨c, A, -, r1, r2, H, -⟩ := F
  exact ⟨c, A, r1, r2, fun i hi => by rw [H i (by rw [r1]; exact hi), hf i hi]⟩
/-- System.arraycopy of nothing, within one array -/
theorem own_copy0 (X : Stand p l e R s m args below meth c T locs cells slots) (hx : p.tables.exec = Jvm.exec) (hZ : Z.Warmed39 s.vm) {a0 : Array Value} {own : String} {index : Nat} (hown : s.vm.findClass own = some m.cls)
    (w1 : (Cond.methodLink own index Jvm.Stand.acN).before a0 Z = true) (w2 : (Cond.native Jvm.Stand.acN).before a0 Z = true) (w3 : (Cond.static Jvm.Stand.acN).before a0 Z = true) (w4 : (Cond.initialized "java/lang/System").before a0 Z = true) (eT : T.heap = h)
    {a : Addr} {ty : FieldType} {n sp dp : Int32} {f : Nat → Value} (F : own_Arr Z h a ty n f) (hf : ∀ i, fits ty (f i) = true) (hr : refKind ty = false) (dv : Value) (hdv : fits ty dv = true)
    (h1 : ¬ sp < 0) (h2 : ¬ dp < 0) (h4 : sp.toNatClampNeg ≤ n.toNatClampNeg) (h5 : dp.toNatClampNeg ≤ n.toNatClampNeg) {n0 : Nat} (N : Fr n0 locs) (ge : n0 ≤ a)
    {g : JFrame} (hg : g.method = m) (hsize : g.locals.size = c.maxLocals) {rest : List Value} (hs : g.stack = .int (0 : Int32) :: .int dp :: .ref a :: .int sp :: .ref a :: rest) (hd : decode c.code g.pc = .ok (.invokestatic index, 3))
    (hfr : 1 ≤ R.frames) {W : Nat} (hW : 2 * g.monitorRoom + (rest.map fun v => v.category).sum ≤ W) (hlo : W + (nativeFrameWords "java/lang/System" "arraycopy" 5 + 11) ≤ R.locals) :
    ∃ T' h' L, Stand p l e R s m args below meth c T' L cells slots ∧ T'.heap = h' ∧ Fr n0 L ∧ Keep h h' [a] ∧ own_Arr Z h' a ty n f ∧
      ∀ target, Steps p.tables e below (T'.setTop { g with pc := g.pc + 3, stack := rest }) target → Steps p.tables e below (T.setTop g) target := by
  obtain ⟨k, A⟩ := F.arv hf dv hdv
  obtain ⟨T', h', L, X', e', N', K', A', st⟩ := cpA X hx hZ hown w1 w2 w3 w4 eT A A (us := []) (Or.inl ⟨rfl, hr⟩) h1 h2 (by decide : ¬ (0 : Int32) < 0) (by show _ + 0 ≤ _; exact h4) (by show _ + 0 ≤ _; exact h5) rfl (by show dp.toNatClampNeg + 0 ≤ _; simp; exact h5) N ge hg hsize hs hd hfr hW hlo
  refine ⟨T', h', L, X', e', N', K', own_arv A' fun i hi => ?_, st⟩
  have e1 : (0 : Int32).toNatClampNeg = 0 := by decide
  rw [e1, Nat.add_zero, List.append_nil, List.take_append_drop]
  simp [List.getD_eq_getElem?_getD, hi]
end Copy
end Jvm.RoadKit
namespace Jvm.RoadKit
open Sem ClassFile Op Lib Jvm.Stand Jvm.Free Jvm.LawKit
/-- a private method of a concrete class selects itself -/
theorem own_selPriv {Z s : State} {a0 args : Array Value} {y : MethodName} {n : Nat} (hZ : Z.Warmed39 s.vm) (wi : (Cond.instantiable y.cls n).before a0 Z = true) (w1 : (Cond.instanceMethod y).before a0 Z = true) (w2 : (Cond.privateMethod y).before a0 Z = true) (hy : y.cls ≠ "java/lang/invoke/MethodHandle" ∧ y.cls ≠ "java/lang/invoke/VarHandle") : (Cond.selects y.cls y y).before args s = true := by
  have wi' : (Cond.instantiable y.cls n).before args s = true := mvT hZ wi
  have w1' : (Cond.instanceMethod y).before args s = true := mvT hZ w1
  obtain ⟨c, k, h1, h2, h3, h4, -⟩ := Cond.instantiable_spec wi'
  exact selects_self_of_private h1 h2 (by cases hk : k.isInterface <;> simp_all) (Cond.privateMethod_at (mvP hZ w2 (args := #[]))) w1' hy
end Jvm.RoadKit
namespace Jvm.Pilot.@@N@@
open Jvm Jvm.ClassFile Sem Op Lib Jvm.Free Jvm.Stand Jvm.LawKit Jvm.RoadKit Bundle Jvm.Pilot.@@N@@.Jvm.D
def own_B0 (Z : State) (h : Heap) (a : Addr) (v4 : Int32) : Prop := Exa Z h a "com/example/atoll/atoll/detect/Beacon$Builder" ∧ Fld Z h a "com/example/atoll/atoll/detect/Beacon$Builder" "ids" "[I" .null ∧ Fld Z h a "com/example/atoll/atoll/detect/Beacon$Builder" "incarnations" "[I" .null ∧ Fld Z h a "com/example/atoll/atoll/detect/Beacon$Builder" "rounds" "[I" .null ∧ Fld Z h a "com/example/atoll/atoll/detect/Beacon$Builder" "heard" "[I" .null ∧ Fld Z h a "com/example/atoll/atoll/detect/Beacon$Builder" "count" "I" (.int v4)
def own_B (Z : State) (h : Heap) (a : Addr) (v0 : Addr) (v1 : Addr) (v2 : Addr) (v3 : Addr) (v4 : Int32) : Prop := Exa Z h a "com/example/atoll/atoll/detect/Beacon$Builder" ∧ Fld Z h a "com/example/atoll/atoll/detect/Beacon$Builder" "ids" "[I" (.ref v0) ∧ Fld Z h a "com/example/atoll/atoll/detect/Beacon$Builder" "incarnations" "[I" (.ref v1) ∧ Fld Z h a "com/example/atoll/atoll/detect/Beacon$Builder" "rounds" "[I" (.ref v2) ∧ Fld Z h a "com/example/atoll/atoll/detect/Beacon$Builder" "heard" "[I" (.ref v3) ∧ Fld Z h a "com/example/atoll/atoll/detect/Beacon$Builder" "count" "I" (.int v4)
def own_H0 (Z : State) (h : Heap) (a : Addr) (v4 : Int32) : Prop := Exa Z h a "com/example/atoll/atoll/detect/HeldOrigins" ∧ Fld Z h a "com/example/atoll/atoll/detect/HeldOrigins" "ids" "[I" .null ∧ Fld Z h a "com/example/atoll/atoll/detect/HeldOrigins" "newest" "[J" .null ∧ Fld Z h a "com/example/atoll/atoll/detect/HeldOrigins" "state" "[J" .null ∧ Fld Z h a "com/example/atoll/atoll/detect/HeldOrigins" "mismatches" "[B" .null ∧ Fld Z h a "com/example/atoll/atoll/detect/HeldOrigins" "size" "I" (.int v4)
def own_H (Z : State) (h : Heap) (a : Addr) (v0 : Addr) (v1 : Addr) (v2 : Addr) (v3 : Addr) (v4 : Int32) : Prop := Exa Z h a "com/example/atoll/atoll/detect/HeldOrigins" ∧ Fld Z h a "com/example/atoll/atoll/detect/HeldOrigins" "ids" "[I" (.ref v0) ∧ Fld Z h a "com/example/atoll/atoll/detect/HeldOrigins" "newest" "[J" (.ref v1) ∧ Fld Z h a "com/example/atoll/atoll/detect/HeldOrigins" "state" "[J" (.ref v2) ∧ Fld Z h a "com/example/atoll/atoll/detect/HeldOrigins" "mismatches" "[B" (.ref v3) ∧ Fld Z h a "com/example/atoll/atoll/detect/HeldOrigins" "size" "I" (.int v4)
def own_put (g : Nat → Int32) (j x : Int32) : Nat → Int32 := fun i => if i = j.toNatClampNeg then x else g i
def own_putJ (g : Nat → Int64) (j : Int32) (x : Int64) : Nat → Int64 := fun i => if i = j.toNatClampNeg then x else g i
def own_set (g : Nat → Int64) (j m b : Int32) : Nat → Int64 := own_putJ g j (if b = (0 : Int32) then ((g j.toNatClampNeg) &&& ((m ^^^ (-1 : Int32)).toInt64)) else ((g j.toNatClampNeg) ||| (m.toInt64)))
theorem own_le16 {x : Int32} (h : x.toInt ≤ 16) : x.toNatClampNeg ≤ (16 : Int32).toNatClampNeg := by
  show x.toInt.toNat ≤ 16
  omega
theorem own_fitb (g : Nat → Int32) {j : Int32} (h : ∀ i, fits .byte (.int (g i)) = true) : ∀ i, fits .byte (.int (own_put g j (0 : Int32) i)) = true := fun i => by
  unfold own_put
  by_cases q : i = j.toNatClampNeg
  · rw [if_pos q]; rfl
  · rw [if_neg q]; exact h i
theorem own_pos (x : Int32) : (x &&& (1 : Int32)) = 0 ∨ (x &&& (1 : Int32)) = 1 := and_one x
theorem d1_0 : decode prog_25_method_1_code 0 = .ok (.aload_n 0, 1) := by decide +kernel
theorem d1_1 : decode prog_25_method_1_code 1 = .ok (.invokespecial 1, 3) := by decide +kernel
theorem d1_4 : decode prog_25_method_1_code 4 = .ok (.aload_n 0, 1) := by decide +kernel
theorem d1_5 : decode prog_25_method_1_code 5 = .ok (.bipush 16, 2) := by decide +kernel
theorem d1_7 : decode prog_25_method_1_code 7 = .ok (.newarray .int, 2) := by decide +kernel
theorem d1_9 : decode prog_25_method_1_code 9 = .ok (.putfield 9, 3) := by decide +kernel
theorem d1_12 : decode prog_25_method_1_code 12 = .ok (.aload_n 0, 1) := by decide +kernel
theorem d1_13 : decode prog_25_method_1_code 13 = .ok (.bipush 16, 2) := by decide +kernel
theorem d1_15 : decode prog_25_method_1_code 15 = .ok (.newarray .long, 2) := by decide +kernel
theorem d1_17 : decode prog_25_method_1_code 17 = .ok (.putfield 13, 3) := by decide +kernel
theorem d1_20 : decode prog_25_method_1_code 20 = .ok (.aload_n 0, 1) := by decide +kernel
theorem d1_21 : decode prog_25_method_1_code 21 = .ok (.bipush 16, 2) := by decide +kernel
theorem d1_23 : decode prog_25_method_1_code 23 = .ok (.newarray .long, 2) := by decide +kernel
theorem d1_25 : decode prog_25_method_1_code 25 = .ok (.putfield 17, 3) := by decide +kernel
theorem d1_28 : decode prog_25_method_1_code 28 = .ok (.aload_n 0, 1) := by decide +kernel
theorem d1_29 : decode prog_25_method_1_code 29 = .ok (.bipush 16, 2) := by decide +kernel
theorem d1_31 : decode prog_25_method_1_code 31 = .ok (.newarray .byte, 2) := by decide +kernel
theorem d1_33 : decode prog_25_method_1_code 33 = .ok (.putfield 20, 3) := by decide +kernel
theorem d1_36 : decode prog_25_method_1_code 36 = .ok (.return_, 1) := by decide +kernel
theorem pn_1 : plainName "com/example/atoll/atoll/detect/HeldOrigins" = true := by first | (simp [plainName, overriddenIn]; done) | decide +kernel
theorem ef_1 (m : MethodId) (x0 : Addr) : entryFrame m #[(.ref x0)] 1 = mkF m 0 #[.val (.ref x0)] [] := by first | (simp [entryFrame, mkF, argsToLocals, Value.category]; done) | rfl
def Q1 (Z : State) (a1 : Addr) (vz : Int32) (h0 : Heap) (n0 : Nat) (v : Option Value) (h : Heap) (L : List Loc) : Prop := v = none ∧ Fr n0 L ∧ (∃ xi : Addr, ∃ xn : Addr, ∃ xs : Addr, ∃ xm : Addr, Keep h0 h [a1] ∧ own_H Z h a1 xi xn xs xm vz ∧ h0.size ≤ xi ∧ own_Arr Z h xi .int (16 : Int32) (fun i => Value.int ((fun _ => (0 : Int32)) i)) ∧ h0.size ≤ xn ∧ own_Arr Z h xn .long (16 : Int32) (fun i => Value.long ((fun _ => (0 : Int64)) i)) ∧ h0.size ≤ xs ∧ own_Arr Z h xs .long (16 : Int32) (fun i => Value.long ((fun _ => (0 : Int64)) i)) ∧ h0.size ≤ xm ∧ own_Arr Z h xm .byte (16 : Int32) (fun i => Value.int ((fun _ => (0 : Int32)) i)) ∧ xi ≠ xn ∧ xi ≠ xs ∧ xi ≠ xm ∧ xn ≠ xs ∧ xn ≠ xm ∧ xs ≠ xm)
set_option maxRecDepth 65536 in
set_option maxHeartbeats 40000000 in
theorem rm1 (l : Launch) (Z : State) (a0 : Array Value) (hw : ∀ d ∈ tables_1, d.before a0 Z = true) (ws : List Jvm.Cond) (a1 : Addr) (vz : Int32) (h0 : Heap) (n0 : Nat) (Z0 : n0 ≤ h0.size) (O_a1 : own_H0 Z h0 a1 vz) (g_a1 : n0 ≤ a1) :
    MetFree l (⟨"com/example/atoll/atoll/detect/HeldOrigins", "<init>", "()V"⟩ : MethodName) (head1 (Jvm.Cond.code (⟨"com/example/atoll/atoll/detect/HeldOrigins", "<init>", "()V"⟩ : MethodName) prog_25_method_1_code 1 none :: ws) ({ frames := 1, cells := 4, slots := 64, locals := 12 } : Room)) (fun a U => a = #[(.ref a1)] ∧ Z.Warmed39 U.vm ∧ U.heap = h0) (fun _ _ _ _ _ => True) (fun _ U o U' => ∃ v L, o = .returned v ∧ Q1 Z a1 vz h0 n0 v U'.heap L ∧ FrameEnd U o U' L ({ frames := 1, cells := 4, slots := 64, locals := 12 } : Room).cells ({ frames := 1, cells := 4, slots := 64, locals := 12 } : Room).slots) := by
  refine MetFree.of_bodySF (plainFor_of_name pn_1) hisR ?_
  intro p e s m args below meth c s₁ Bd hml0 hP hK
  obtain ⟨rfl, hZ, hh⟩ := hP
  have hx := Bd.exec
  have hby := Bd.bytes
  have hml : c.maxLocals = 1 := hml0
  have hown : s.vm.findClass "com/example/atoll/atoll/detect/HeldOrigins" = some m.cls := findClass_of_methodNamed Bd.named
  have hnm := (name_of_methodNamed Bd.named Bd.method).1
  have X0 : Stand p l e ({ frames := 1, cells := 4, slots := 64, locals := 12 } : Room) s m #[(.ref a1)] below meth c s₁ [] 0 0 := Stand.of_body Bd
  have e0 : s₁.heap = h0 := by rw [← hh, Bd.state]; rfl
  have N0 := Fr.nil n0
  show own_End p e below s (s₁.setTop (entryFrame m #[(.ref a1)] 1)) (Q1 Z a1 vz h0 n0) ({ frames := 1, cells := 4, slots := 64, locals := 12 } : Room).cells ({ frames := 1, cells := 4, slots := 64, locals := 12 } : Room).slots
  obtain ⟨E_a1_1, F_ids_a1_2, F_newest_a1_3, F_state_a1_4, F_mismatches_a1_5, F_size_a1_6⟩ := O_a1
  refine own_pre (A := s₁.setTop (mkF m 0 #[.val (.ref a1)] [])) (fun tt kt => castTop (ef_1 m a1) kt) ?_
  show own_End p e below s (s₁.setTop (mkF m 0 #[.val (.ref a1)] [])) (Q1 Z a1 vz h0 n0) ({ frames := 1, cells := 4, slots := 64, locals := 12 } : Room).cells ({ frames := 1, cells := 4, slots := 64, locals := 12 } : Room).slots
  obtain ⟨T7, X7, e7, st7⟩ := initO X0 hx hZ hown (hw _ (List.mem_of_getElem? (i := 8) rfl)) (hw _ (List.mem_of_getElem? (i := 9) rfl)) (hw _ (List.mem_of_getElem? (i := 10) rfl)) e0 (g := (mkF m 1 #[.val (.ref a1)] [(.ref a1)])) rfl (by rw [hml]; rfl) rfl (hb hby d1_1) (by decide) (W := 0) (by show 2 * 0 + _ ≤ _; exact Nat.le_of_eq rfl) (by decide)
  obtain ⟨T8, h8, k8, X8, e8, E8, A8, st8⟩ := newP X7 hx hZ (hw _ (List.mem_of_getElem? (i := 11) rfl)) e7 (g := (mkF m 7 #[.val (.ref a1)] [(.int (16 : Int32)), (.ref a1)])) rfl (hb hby d1_7) rfl (by decide) (cap := 16) (by decide) (by decide) (by decide) (by decide)
  obtain ⟨b8, g8⟩ : ∃ z, z = h0.size := ⟨_, rfl⟩
  rw [← g8] at A8 st8
  have ne_a1_b8 : a1 ≠ b8 := Nat.ne_of_lt (Nat.lt_of_lt_of_le E_a1_1.lt (Nat.le_of_eq g8.symm))
  have g_b8 : n0 ≤ b8 := Nat.le_trans Z0 (Nat.le_of_eq g8.symm)
  have sz_b8 : h0.size ≤ b8 := Nat.le_trans (show Keep h0 h0 [a1] from (Keep.refl h0 _)).1 (Nat.le_of_eq g8.symm)
  have fE_a1_x8 := (E_a1_1.ext E8)
  have fF_a1_ids_x8 := (F_ids_a1_2.ext E8)
  have fF_a1_newest_x8 := (F_newest_a1_3.ext E8)
  have fF_a1_state_x8 := (F_state_a1_4.ext E8)
  have fF_a1_mismatches_x8 := (F_mismatches_a1_5.ext E8)
  have fF_a1_size_x8 := (F_size_a1_6.ext E8)
  have K8 : Keep h0 h8 [a1] := Keep.ext (Keep.refl h0 _) E8
  have Z8 : n0 ≤ h8.size := Nat.le_trans Z0 E8.1
  have V8 : own_Arr Z h8 b8 .int (16 : Int32) (fun i => Value.int ((fun _ => (0 : Int32)) i)) := own_Arr.new A8 (by decide) (fun _ => rfl)
  obtain ⟨T9, h9, X9, e9, W9, st9⟩ := putF X8 hx hZ hown (host := "") (Or.inl (hw _ (List.mem_of_getElem? (i := 12) rfl))) Via.refl e8 fF_a1_ids_x8 fE_a1_x8 (Or.inl (hw _ (List.mem_of_getElem? (i := 13) rfl))) (hw _ (List.mem_of_getElem? (i := 3) rfl)) (ty := (.array .int)) (by decide) rfl rfl (g := (mkF m 9 #[.val (.ref a1)] [(.ref b8), (.ref a1)])) rfl rfl (hb hby d1_9)
  have Fw9 := Fld.same W9 fF_a1_ids_x8
  have fE_a1_x9 := (fE_a1_x8.wr W9)
  have fF_a1_newest_x9 := (Fld.other W9 fF_a1_newest_x8 (Or.inr (slot_ne (Or.inl (hw _ (List.mem_of_getElem? (i := 16) rfl))) (Or.inl (hw _ (List.mem_of_getElem? (i := 13) rfl))) (by decide) (t := (.array .long)) (t' := (.array .int)) (by decide) (by decide))))
  have fF_a1_state_x9 := (Fld.other W9 fF_a1_state_x8 (Or.inr (slot_ne (Or.inl (hw _ (List.mem_of_getElem? (i := 18) rfl))) (Or.inl (hw _ (List.mem_of_getElem? (i := 13) rfl))) (by decide) (t := (.array .long)) (t' := (.array .int)) (by decide) (by decide))))
  have fF_a1_mismatches_x9 := (Fld.other W9 fF_a1_mismatches_x8 (Or.inr (slot_ne (Or.inl (hw _ (List.mem_of_getElem? (i := 21) rfl))) (Or.inl (hw _ (List.mem_of_getElem? (i := 13) rfl))) (by decide) (t := (.array .byte)) (t' := (.array .int)) (by decide) (by decide))))
  have fF_a1_size_x9 := (Fld.other W9 fF_a1_size_x8 (Or.inr (slot_ne (Or.inl (hw _ (List.mem_of_getElem? (i := 43) rfl))) (Or.inl (hw _ (List.mem_of_getElem? (i := 13) rfl))) (by decide) (t := .int) (t' := (.array .int)) (by decide) (by decide))))
  have fA_b8_x9 := (V8.other W9 (Ne.symm ne_a1_b8))
  have N9 := Fr.snoc X9 N0 g_a1
  have K9 : Keep h0 h9 [a1] := Keep.wr K8 W9 (Or.inl (List.mem_of_getElem? (i := 0) rfl))
  have Z9 : n0 ≤ h9.size := Nat.le_trans Z8 (Nat.le_of_eq W9.size.symm)
  obtain ⟨T10, h10, k10, X10, e10, E10, A10, st10⟩ := newP X9 hx hZ (hw _ (List.mem_of_getElem? (i := 14) rfl)) e9 (g := (mkF m 15 #[.val (.ref a1)] [(.int (16 : Int32)), (.ref a1)])) rfl (hb hby d1_15) rfl (by decide) (cap := 16) (by decide) (by decide) (by decide) (by decide)
  obtain ⟨b10, g10⟩ : ∃ z, z = h9.size := ⟨_, rfl⟩
  rw [← g10] at A10 st10
  have ne_b8_b10 : b8 ≠ b10 := Nat.ne_of_lt (Nat.lt_of_lt_of_le fA_b8_x9.lt (Nat.le_of_eq g10.symm))
  have ne_a1_b10 : a1 ≠ b10 := Nat.ne_of_lt (Nat.lt_of_lt_of_le fE_a1_x9.lt (Nat.le_of_eq g10.symm))
  have g_b10 : n0 ≤ b10 := Nat.le_trans Z9 (Nat.le_of_eq g10.symm)
  have sz_b10 : h0.size ≤ b10 := Nat.le_trans (show Keep h0 h9 [a1] from K9).1 (Nat.le_of_eq g10.symm)
  have fE_a1_x10 := (fE_a1_x9.ext E10)
  have fF_a1_ids_x10 := (Fw9.ext E10)
  have fF_a1_newest_x10 := (fF_a1_newest_x9.ext E10)
  have fF_a1_state_x10 := (fF_a1_state_x9.ext E10)
  have fF_a1_mismatches_x10 := (fF_a1_mismatches_x9.ext E10)
  have fF_a1_size_x10 := (fF_a1_size_x9.ext E10)
  have fA_b8_x10 := (fA_b8_x9.ext E10)
  have K10 : Keep h0 h10 [a1] := Keep.ext K9 E10
  have Z10 : n0 ≤ h10.size := Nat.le_trans Z9 E10.1
  have V10 : own_Arr Z h10 b10 .long (16 : Int32) (fun i => Value.long ((fun _ => (0 : Int64)) i)) := own_Arr.new A10 (by decide) (fun _ => rfl)
  obtain ⟨T11, h11, X11, e11, W11, st11⟩ := putF X10 hx hZ hown (host := "") (Or.inl (hw _ (List.mem_of_getElem? (i := 15) rfl))) Via.refl e10 fF_a1_newest_x10 fE_a1_x10 (Or.inl (hw _ (List.mem_of_getElem? (i := 16) rfl))) (hw _ (List.mem_of_getElem? (i := 3) rfl)) (ty := (.array .long)) (by decide) rfl rfl (g := (mkF m 17 #[.val (.ref a1)] [(.ref b10), (.ref a1)])) rfl rfl (hb hby d1_17)
  have Fw11 := Fld.same W11 fF_a1_newest_x10
  have fE_a1_x11 := (fE_a1_x10.wr W11)
  have fF_a1_ids_x11 := (Fld.other W11 fF_a1_ids_x10 (Or.inr (slot_ne (Or.inl (hw _ (List.mem_of_getElem? (i := 13) rfl))) (Or.inl (hw _ (List.mem_of_getElem? (i := 16) rfl))) (by decide) (t := (.array .int)) (t' := (.array .long)) (by decide) (by decide))))
  have fF_a1_state_x11 := (Fld.other W11 fF_a1_state_x10 (Or.inr (slot_ne (Or.inl (hw _ (List.mem_of_getElem? (i := 18) rfl))) (Or.inl (hw _ (List.mem_of_getElem? (i := 16) rfl))) (by decide) (t := (.array .long)) (t' := (.array .long)) (by decide) (by decide))))
  have fF_a1_mismatches_x11 := (Fld.other W11 fF_a1_mismatches_x10 (Or.inr (slot_ne (Or.inl (hw _ (List.mem_of_getElem? (i := 21) rfl))) (Or.inl (hw _ (List.mem_of_getElem? (i := 16) rfl))) (by decide) (t := (.array .byte)) (t' := (.array .long)) (by decide) (by decide))))
  have fF_a1_size_x11 := (Fld.other W11 fF_a1_size_x10 (Or.inr (slot_ne (Or.inl (hw _ (List.mem_of_getElem? (i := 43) rfl))) (Or.inl (hw _ (List.mem_of_getElem? (i := 16) rfl))) (by decide) (t := .int) (t' := (.array .long)) (by decide) (by decide))))
  have fA_b8_x11 := (fA_b8_x10.other W11 (Ne.symm ne_a1_b8))
  have fA_b10_x11 := (V10.other W11 (Ne.symm ne_a1_b10))
  have N11 := Fr.snoc X11 N9 g_a1
  have K11 : Keep h0 h11 [a1] := Keep.wr K10 W11 (Or.inl (List.mem_of_getElem? (i := 0) rfl))
  have Z11 : n0 ≤ h11.size := Nat.le_trans Z10 (Nat.le_of_eq W11.size.symm)
  obtain ⟨T12, h12, k12, X12, e12, E12, A12, st12⟩ := newP X11 hx hZ (hw _ (List.mem_of_getElem? (i := 14) rfl)) e11 (g := (mkF m 23 #[.val (.ref a1)] [(.int (16 : Int32)), (.ref a1)])) rfl (hb hby d1_23) rfl (by decide) (cap := 16) (by decide) (by decide) (by decide) (by decide)
  obtain ⟨b12, g12⟩ : ∃ z, z = h11.size := ⟨_, rfl⟩
  rw [← g12] at A12 st12
  have ne_b10_b12 : b10 ≠ b12 := Nat.ne_of_lt (Nat.lt_of_lt_of_le fA_b10_x11.lt (Nat.le_of_eq g12.symm))
  have ne_b8_b12 : b8 ≠ b12 := Nat.ne_of_lt (Nat.lt_of_lt_of_le fA_b8_x11.lt (Nat.le_of_eq g12.symm))
  have ne_a1_b12 : a1 ≠ b12 := Nat.ne_of_lt (Nat.lt_of_lt_of_le fE_a1_x11.lt (Nat.le_of_eq g12.symm))
  have g_b12 : n0 ≤ b12 := Nat.le_trans Z11 (Nat.le_of_eq g12.symm)
  have sz_b12 : h0.size ≤ b12 := Nat.le_trans (show Keep h0 h11 [a1] from K11).1 (Nat.le_of_eq g12.symm)
  have fE_a1_x12 := (fE_a1_x11.ext E12)
  have fF_a1_ids_x12 := (fF_a1_ids_x11.ext E12)
  have fF_a1_newest_x12 := (Fw11.ext E12)
  have fF_a1_state_x12 := (fF_a1_state_x11.ext E12)
  have fF_a1_mismatches_x12 := (fF_a1_mismatches_x11.ext E12)
  have fF_a1_size_x12 := (fF_a1_size_x11.ext E12)
  have fA_b8_x12 := (fA_b8_x11.ext E12)
  have fA_b10_x12 := (fA_b10_x11.ext E12)
  have K12 : Keep h0 h12 [a1] := Keep.ext K11 E12
  have Z12 : n0 ≤ h12.size := Nat.le_trans Z11 E12.1
  have V12 : own_Arr Z h12 b12 .long (16 : Int32) (fun i => Value.long ((fun _ => (0 : Int64)) i)) := own_Arr.new A12 (by decide) (fun _ => rfl)
  obtain ⟨T13, h13, X13, e13, W13, st13⟩ := putF X12 hx hZ hown (host := "") (Or.inl (hw _ (List.mem_of_getElem? (i := 17) rfl))) Via.refl e12 fF_a1_state_x12 fE_a1_x12 (Or.inl (hw _ (List.mem_of_getElem? (i := 18) rfl))) (hw _ (List.mem_of_getElem? (i := 3) rfl)) (ty := (.array .long)) (by decide) rfl rfl (g := (mkF m 25 #[.val (.ref a1)] [(.ref b12), (.ref a1)])) rfl rfl (hb hby d1_25)
  have Fw13 := Fld.same W13 fF_a1_state_x12
  have fE_a1_x13 := (fE_a1_x12.wr W13)
  have fF_a1_ids_x13 := (Fld.other W13 fF_a1_ids_x12 (Or.inr (slot_ne (Or.inl (hw _ (List.mem_of_getElem? (i := 13) rfl))) (Or.inl (hw _ (List.mem_of_getElem? (i := 18) rfl))) (by decide) (t := (.array .int)) (t' := (.array .long)) (by decide) (by decide))))
  have fF_a1_newest_x13 := (Fld.other W13 fF_a1_newest_x12 (Or.inr (slot_ne (Or.inl (hw _ (List.mem_of_getElem? (i := 16) rfl))) (Or.inl (hw _ (List.mem_of_getElem? (i := 18) rfl))) (by decide) (t := (.array .long)) (t' := (.array .long)) (by decide) (by decide))))
  have fF_a1_mismatches_x13 := (Fld.other W13 fF_a1_mismatches_x12 (Or.inr (slot_ne (Or.inl (hw _ (List.mem_of_getElem? (i := 21) rfl))) (Or.inl (hw _ (List.mem_of_getElem? (i := 18) rfl))) (by decide) (t := (.array .byte)) (t' := (.array .long)) (by decide) (by decide))))
  have fF_a1_size_x13 := (Fld.other W13 fF_a1_size_x12 (Or.inr (slot_ne (Or.inl (hw _ (List.mem_of_getElem? (i := 43) rfl))) (Or.inl (hw _ (List.mem_of_getElem? (i := 18) rfl))) (by decide) (t := .int) (t' := (.array .long)) (by decide) (by decide))))
  have fA_b8_x13 := (fA_b8_x12.other W13 (Ne.symm ne_a1_b8))
  have fA_b10_x13 := (fA_b10_x12.other W13 (Ne.symm ne_a1_b10))
  have fA_b12_x13 := (V12.other W13 (Ne.symm ne_a1_b12))
  have N13 := Fr.snoc X13 N11 g_a1
  have K13 : Keep h0 h13 [a1] := Keep.wr K12 W13 (Or.inl (List.mem_of_getElem? (i := 0) rfl))
  have Z13 : n0 ≤ h13.size := Nat.le_trans Z12 (Nat.le_of_eq W13.size.symm)
  obtain ⟨T14, h14, k14, X14, e14, E14, A14, st14⟩ := newP X13 hx hZ (hw _ (List.mem_of_getElem? (i := 19) rfl)) e13 (g := (mkF m 31 #[.val (.ref a1)] [(.int (16 : Int32)), (.ref a1)])) rfl (hb hby d1_31) rfl (by decide) (cap := 16) (by decide) (by decide) (by decide) (by decide)
  obtain ⟨b14, g14⟩ : ∃ z, z = h13.size := ⟨_, rfl⟩
  rw [← g14] at A14 st14
  have ne_b10_b14 : b10 ≠ b14 := Nat.ne_of_lt (Nat.lt_of_lt_of_le fA_b10_x13.lt (Nat.le_of_eq g14.symm))
  have ne_b12_b14 : b12 ≠ b14 := Nat.ne_of_lt (Nat.lt_of_lt_of_le fA_b12_x13.lt (Nat.le_of_eq g14.symm))
  have ne_b8_b14 : b8 ≠ b14 := Nat.ne_of_lt (Nat.lt_of_lt_of_le fA_b8_x13.lt (Nat.le_of_eq g14.symm))
  have ne_a1_b14 : a1 ≠ b14 := Nat.ne_of_lt (Nat.lt_of_lt_of_le fE_a1_x13.lt (Nat.le_of_eq g14.symm))
  have g_b14 : n0 ≤ b14 := Nat.le_trans Z13 (Nat.le_of_eq g14.symm)
  have sz_b14 : h0.size ≤ b14 := Nat.le_trans (show Keep h0 h13 [a1] from K13).1 (Nat.le_of_eq g14.symm)
  have fE_a1_x14 := (fE_a1_x13.ext E14)
  have fF_a1_ids_x14 := (fF_a1_ids_x13.ext E14)
  have fF_a1_newest_x14 := (fF_a1_newest_x13.ext E14)
  have fF_a1_state_x14 := (Fw13.ext E14)
  have fF_a1_mismatches_x14 := (fF_a1_mismatches_x13.ext E14)
  have fF_a1_size_x14 := (fF_a1_size_x13.ext E14)
  have fA_b8_x14 := (fA_b8_x13.ext E14)
  have fA_b10_x14 := (fA_b10_x13.ext E14)
  have fA_b12_x14 := (fA_b12_x13.ext E14)
  have K14 : Keep h0 h14 [a1] := Keep.ext K13 E14
  have Z14 : n0 ≤ h14.size := Nat.le_trans Z13 E14.1
  have V14 : own_Arr Z h14 b14 .byte (16 : Int32) (fun i => Value.int ((fun _ => (0 : Int32)) i)) := own_Arr.new A14 (by decide) (fun _ => rfl)
  obtain ⟨T15, h15, X15, e15, W15, st15⟩ := putF X14 hx hZ hown (host := "") (Or.inl (hw _ (List.mem_of_getElem? (i := 20) rfl))) Via.refl e14 fF_a1_mismatches_x14 fE_a1_x14 (Or.inl (hw _ (List.mem_of_getElem? (i := 21) rfl))) (hw _ (List.mem_of_getElem? (i := 3) rfl)) (ty := (.array .byte)) (by decide) rfl rfl (g := (mkF m 33 #[.val (.ref a1)] [(.ref b14), (.ref a1)])) rfl rfl (hb hby d1_33)
  have Fw15 := Fld.same W15 fF_a1_mismatches_x14
  have fE_a1_x15 := (fE_a1_x14.wr W15)
  have fF_a1_ids_x15 := (Fld.other W15 fF_a1_ids_x14 (Or.inr (slot_ne (Or.inl (hw _ (List.mem_of_getElem? (i := 13) rfl))) (Or.inl (hw _ (List.mem_of_getElem? (i := 21) rfl))) (by decide) (t := (.array .int)) (t' := (.array .byte)) (by decide) (by decide))))
  have fF_a1_newest_x15 := (Fld.other W15 fF_a1_newest_x14 (Or.inr (slot_ne (Or.inl (hw _ (List.mem_of_getElem? (i := 16) rfl))) (Or.inl (hw _ (List.mem_of_getElem? (i := 21) rfl))) (by decide) (t := (.array .long)) (t' := (.array .byte)) (by decide) (by decide))))
  have fF_a1_state_x15 := (Fld.other W15 fF_a1_state_x14 (Or.inr (slot_ne (Or.inl (hw _ (List.mem_of_getElem? (i := 18) rfl))) (Or.inl (hw _ (List.mem_of_getElem? (i := 21) rfl))) (by decide) (t := (.array .long)) (t' := (.array .byte)) (by decide) (by decide))))
  have fF_a1_size_x15 := (Fld.other W15 fF_a1_size_x14 (Or.inr (slot_ne (Or.inl (hw _ (List.mem_of_getElem? (i := 43) rfl))) (Or.inl (hw _ (List.mem_of_getElem? (i := 21) rfl))) (by decide) (t := .int) (t' := (.array .byte)) (by decide) (by decide))))
  have fA_b8_x15 := (fA_b8_x14.other W15 (Ne.symm ne_a1_b8))
  have fA_b10_x15 := (fA_b10_x14.other W15 (Ne.symm ne_a1_b10))
  have fA_b12_x15 := (fA_b12_x14.other W15 (Ne.symm ne_a1_b12))
  have fA_b14_x15 := (V14.other W15 (Ne.symm ne_a1_b14))
  have N15 := Fr.snoc X15 N13 g_a1
  have K15 : Keep h0 h15 [a1] := Keep.wr K14 W15 (Or.inl (List.mem_of_getElem? (i := 0) rfl))
  have Z15 : n0 ≤ h15.size := Nat.le_trans Z14 (Nat.le_of_eq W15.size.symm)
  refine own_pre (A := T15.setTop (mkF m 36 #[.val (.ref a1)] [])) (fun tt kt => ?_) ?_
  · show Steps p.tables e below (s₁.setTop (mkF m 0 #[.val (.ref a1)] [])) _
    refine XS.aloadN X0.here hx rfl (hb hby d1_0) rfl rfl ?_
    show Steps p.tables e below (s₁.setTop (mkF m 1 #[.val (.ref a1)] [(.ref a1)])) _
    refine st7 _ ?_
    show Steps p.tables e below (T7.setTop (mkF m 4 #[.val (.ref a1)] [])) _
    refine XS.aloadN X7.here hx rfl (hb hby d1_4) rfl rfl ?_
    refine XS.bipush X7.here hx rfl (hb hby d1_5) ?_
    show Steps p.tables e below (T7.setTop (mkF m 7 #[.val (.ref a1)] [(.int (16 : Int32)), (.ref a1)])) _
    refine st8 _ ?_
    show Steps p.tables e below (T8.setTop (mkF m 9 #[.val (.ref a1)] [(.ref b8), (.ref a1)])) _
    refine st9 _ ?_
    show Steps p.tables e below (T9.setTop (mkF m 12 #[.val (.ref a1)] [])) _
    refine XS.aloadN X9.here hx rfl (hb hby d1_12) rfl rfl ?_
    refine XS.bipush X9.here hx rfl (hb hby d1_13) ?_
    show Steps p.tables e below (T9.setTop (mkF m 15 #[.val (.ref a1)] [(.int (16 : Int32)), (.ref a1)])) _
    refine st10 _ ?_
    show Steps p.tables e below (T10.setTop (mkF m 17 #[.val (.ref a1)] [(.ref b10), (.ref a1)])) _
    refine st11 _ ?_
    show Steps p.tables e below (T11.setTop (mkF m 20 #[.val (.ref a1)] [])) _
    refine XS.aloadN X11.here hx rfl (hb hby d1_20) rfl rfl ?_
    refine XS.bipush X11.here hx rfl (hb hby d1_21) ?_
    show Steps p.tables e below (T11.setTop (mkF m 23 #[.val (.ref a1)] [(.int (16 : Int32)), (.ref a1)])) _
    refine st12 _ ?_
    show Steps p.tables e below (T12.setTop (mkF m 25 #[.val (.ref a1)] [(.ref b12), (.ref a1)])) _
    refine st13 _ ?_
    show Steps p.tables e below (T13.setTop (mkF m 28 #[.val (.ref a1)] [])) _
    refine XS.aloadN X13.here hx rfl (hb hby d1_28) rfl rfl ?_
    refine XS.bipush X13.here hx rfl (hb hby d1_29) ?_
    show Steps p.tables e below (T13.setTop (mkF m 31 #[.val (.ref a1)] [(.int (16 : Int32)), (.ref a1)])) _
    refine st14 _ ?_
    show Steps p.tables e below (T14.setTop (mkF m 33 #[.val (.ref a1)] [(.ref b14), (.ref a1)])) _
    refine st15 _ ?_
    exact kt
  show own_End p e below s (T15.setTop (mkF m 36 #[.val (.ref a1)] [])) (Q1 Z a1 vz h0 n0) ({ frames := 1, cells := 4, slots := 64, locals := 12 } : Room).cells ({ frames := 1, cells := 4, slots := 64, locals := 12 } : Room).slots
  obtain ⟨fs, hr, hrun, hended, hW, hsame⟩ := X15.leave (v := none) (fun _ => rfl)
  refine ⟨_, _, ?_, hrun, hended, _, _, rfl, ?_, ⟨_, rfl⟩, hW, hsame.mono (by decide) (by decide)⟩
  · exact X15.returnOut hx Bd.returns (hb hby d1_36) hr
  · show Q1 Z a1 vz h0 n0 _ T15.heap _
    rw [e15]
    exact ⟨rfl, N15, b8, b10, b12, b14, K15, ⟨fE_a1_x15, fF_a1_ids_x15, fF_a1_newest_x15, fF_a1_state_x15, Fw15, fF_a1_size_x15⟩, sz_b8, fA_b8_x15, sz_b10, fA_b10_x15, sz_b12, fA_b12_x15, sz_b14, fA_b14_x15, ne_b8_b10, ne_b8_b12, ne_b8_b14, ne_b10_b12, ne_b10_b14, ne_b12_b14⟩
theorem d3_0 : decode prog_10_method_1_code 0 = .ok (.aload_n 0, 1) := by decide +kernel
theorem d3_1 : decode prog_10_method_1_code 1 = .ok (.invokespecial 1, 3) := by decide +kernel
theorem d3_4 : decode prog_10_method_1_code 4 = .ok (.aload_n 0, 1) := by decide +kernel
theorem d3_5 : decode prog_10_method_1_code 5 = .ok (.iload_n 1, 1) := by decide +kernel
theorem d3_6 : decode prog_10_method_1_code 6 = .ok (.newarray .int, 2) := by decide +kernel
theorem d3_8 : decode prog_10_method_1_code 8 = .ok (.putfield 7, 3) := by decide +kernel
theorem d3_11 : decode prog_10_method_1_code 11 = .ok (.aload_n 0, 1) := by decide +kernel
theorem d3_12 : decode prog_10_method_1_code 12 = .ok (.iload_n 1, 1) := by decide +kernel
theorem d3_13 : decode prog_10_method_1_code 13 = .ok (.newarray .int, 2) := by decide +kernel
theorem d3_15 : decode prog_10_method_1_code 15 = .ok (.putfield 13, 3) := by decide +kernel
theorem d3_18 : decode prog_10_method_1_code 18 = .ok (.aload_n 0, 1) := by decide +kernel
theorem d3_19 : decode prog_10_method_1_code 19 = .ok (.iload_n 1, 1) := by decide +kernel
theorem d3_20 : decode prog_10_method_1_code 20 = .ok (.newarray .int, 2) := by decide +kernel
theorem d3_22 : decode prog_10_method_1_code 22 = .ok (.putfield 16, 3) := by decide +kernel
theorem d3_25 : decode prog_10_method_1_code 25 = .ok (.aload_n 0, 1) := by decide +kernel
theorem d3_26 : decode prog_10_method_1_code 26 = .ok (.iload_n 1, 1) := by decide +kernel
theorem d3_27 : decode prog_10_method_1_code 27 = .ok (.newarray .int, 2) := by decide +kernel
theorem d3_29 : decode prog_10_method_1_code 29 = .ok (.putfield 19, 3) := by decide +kernel
theorem d3_32 : decode prog_10_method_1_code 32 = .ok (.return_, 1) := by decide +kernel
theorem pn_3 : plainName "com/example/atoll/atoll/detect/Beacon$Builder" = true := by first | (simp [plainName, overriddenIn]; done) | decide +kernel
theorem ef_3 (m : MethodId) (x0 : Addr) (x1 : Int32) : entryFrame m #[(.ref x0), (.int x1)] 2 = mkF m 0 #[.val (.ref x0), .val (.int x1)] [] := by first | (simp [entryFrame, mkF, argsToLocals, Value.category]; done) | rfl
def Q3 (Z : State) (a1 : Addr) (vc : Int32) (h0 : Heap) (n0 : Nat) (v : Option Value) (h : Heap) (L : List Loc) : Prop := v = none ∧ Fr n0 L ∧ (∃ xi : Addr, ∃ xn : Addr, ∃ xr : Addr, ∃ xh : Addr, Keep h0 h [a1] ∧ own_B Z h a1 xi xn xr xh vc ∧ h0.size ≤ xi ∧ own_Arr Z h xi .int (2 : Int32) (fun i => Value.int ((fun _ => (0 : Int32)) i)) ∧ h0.size ≤ xn ∧ own_Arr Z h xn .int (2 : Int32) (fun i => Value.int ((fun _ => (0 : Int32)) i)) ∧ h0.size ≤ xr ∧ own_Arr Z h xr .int (2 : Int32) (fun i => Value.int ((fun _ => (0 : Int32)) i)) ∧ h0.size ≤ xh ∧ own_Arr Z h xh .int (2 : Int32) (fun i => Value.int ((fun _ => (0 : Int32)) i)) ∧ xi ≠ xn ∧ xi ≠ xr ∧ xi ≠ xh ∧ xn ≠ xr ∧ xn ≠ xh ∧ xr ≠ xh)
set_option maxRecDepth 65536 in
set_option maxHeartbeats 40000000 in
theorem rm3 (l : Launch) (Z : State) (a0 : Array Value) (hw : ∀ d ∈ tables_1, d.before a0 Z = true) (ws : List Jvm.Cond) (a1 : Addr) (vc : Int32) (h0 : Heap) (n0 : Nat) (Z0 : n0 ≤ h0.size) (O_a1 : own_B0 Z h0 a1 vc) (g_a1 : n0 ≤ a1) :
    MetFree l (⟨"com/example/atoll/atoll/detect/Beacon$Builder", "<init>", "(I)V"⟩ : MethodName) (head1 (Jvm.Cond.code (⟨"com/example/atoll/atoll/detect/Beacon$Builder", "<init>", "(I)V"⟩ : MethodName) prog_10_method_1_code 2 none :: ws) ({ frames := 1, cells := 4, slots := 8, locals := 12 } : Room)) (fun a U => a = #[(.ref a1), (.int (2 : Int32))] ∧ Z.Warmed39 U.vm ∧ U.heap = h0) (fun _ _ _ _ _ => True) (fun _ U o U' => ∃ v L, o = .returned v ∧ Q3 Z a1 vc h0 n0 v U'.heap L ∧ FrameEnd U o U' L ({ frames := 1, cells := 4, slots := 8, locals := 12 } : Room).cells ({ frames := 1, cells := 4, slots := 8, locals := 12 } : Room).slots) := by
  refine MetFree.of_bodySF (plainFor_of_name pn_3) hisR ?_
  intro p e s m args below meth c s₁ Bd hml0 hP hK
  obtain ⟨rfl, hZ, hh⟩ := hP
  have hx := Bd.exec
  have hby := Bd.bytes
  have hml : c.maxLocals = 2 := hml0
  have hown : s.vm.findClass "com/example/atoll/atoll/detect/Beacon$Builder" = some m.cls := findClass_of_methodNamed Bd.named
  have hnm := (name_of_methodNamed Bd.named Bd.method).1
  have X0 : Stand p l e ({ frames := 1, cells := 4, slots := 8, locals := 12 } : Room) s m #[(.ref a1), (.int (2 : Int32))] below meth c s₁ [] 0 0 := Stand.of_body Bd
  have e0 : s₁.heap = h0 := by rw [← hh, Bd.state]; rfl
  have N0 := Fr.nil n0
  show own_End p e below s (s₁.setTop (entryFrame m #[(.ref a1), (.int (2 : Int32))] 2)) (Q3 Z a1 vc h0 n0) ({ frames := 1, cells := 4, slots := 8, locals := 12 } : Room).cells ({ frames := 1, cells := 4, slots := 8, locals := 12 } : Room).slots
  obtain ⟨E_a1_1, F_ids_a1_2, F_incarnations_a1_3, F_rounds_a1_4, F_heard_a1_5, F_count_a1_6⟩ := O_a1
  refine own_pre (A := s₁.setTop (mkF m 0 #[.val (.ref a1), .val (.int (2 : Int32))] [])) (fun tt kt => castTop (ef_3 m a1 (2 : Int32)) kt) ?_
  show own_End p e below s (s₁.setTop (mkF m 0 #[.val (.ref a1), .val (.int (2 : Int32))] [])) (Q3 Z a1 vc h0 n0) ({ frames := 1, cells := 4, slots := 8, locals := 12 } : Room).cells ({ frames := 1, cells := 4, slots := 8, locals := 12 } : Room).slots
  obtain ⟨T7, X7, e7, st7⟩ := initO X0 hx hZ hown (hw _ (List.mem_of_getElem? (i := 28) rfl)) (hw _ (List.mem_of_getElem? (i := 9) rfl)) (hw _ (List.mem_of_getElem? (i := 10) rfl)) e0 (g := (mkF m 1 #[.val (.ref a1), .val (.int (2 : Int32))] [(.ref a1)])) rfl (by rw [hml]; rfl) rfl (hb hby d3_1) (by decide) (W := 0) (by show 2 * 0 + _ ≤ _; exact Nat.le_of_eq rfl) (by decide)
  obtain ⟨T8, h8, k8, X8, e8, E8, A8, st8⟩ := newP X7 hx hZ (hw _ (List.mem_of_getElem? (i := 11) rfl)) e7 (g := (mkF m 6 #[.val (.ref a1), .val (.int (2 : Int32))] [(.int (2 : Int32)), (.ref a1)])) rfl (hb hby d3_6) rfl (by decide) (cap := 2) (by decide) (by decide) (by decide) (by decide)
  obtain ⟨b8, g8⟩ : ∃ z, z = h0.size := ⟨_, rfl⟩
  rw [← g8] at A8 st8
  have ne_a1_b8 : a1 ≠ b8 := Nat.ne_of_lt (Nat.lt_of_lt_of_le E_a1_1.lt (Nat.le_of_eq g8.symm))
  have g_b8 : n0 ≤ b8 := Nat.le_trans Z0 (Nat.le_of_eq g8.symm)
  have sz_b8 : h0.size ≤ b8 := Nat.le_trans (show Keep h0 h0 [a1] from (Keep.refl h0 _)).1 (Nat.le_of_eq g8.symm)
  have fE_a1_x8 := (E_a1_1.ext E8)
  have fF_a1_ids_x8 := (F_ids_a1_2.ext E8)
  have fF_a1_incarnations_x8 := (F_incarnations_a1_3.ext E8)
  have fF_a1_rounds_x8 := (F_rounds_a1_4.ext E8)
  have fF_a1_heard_x8 := (F_heard_a1_5.ext E8)
  have fF_a1_count_x8 := (F_count_a1_6.ext E8)
  have K8 : Keep h0 h8 [a1] := Keep.ext (Keep.refl h0 _) E8
  have Z8 : n0 ≤ h8.size := Nat.le_trans Z0 E8.1
  have V8 : own_Arr Z h8 b8 .int (2 : Int32) (fun i => Value.int ((fun _ => (0 : Int32)) i)) := own_Arr.new A8 (by decide) (fun _ => rfl)
  obtain ⟨T9, h9, X9, e9, W9, st9⟩ := putF X8 hx hZ hown (host := "") (Or.inl (hw _ (List.mem_of_getElem? (i := 29) rfl))) Via.refl e8 fF_a1_ids_x8 fE_a1_x8 (Or.inr ⟨(hw _ (List.mem_of_getElem? (i := 30) rfl)), rfl, hnm⟩) (hw _ (List.mem_of_getElem? (i := 23) rfl)) (ty := (.array .int)) (by decide) rfl rfl (g := (mkF m 8 #[.val (.ref a1), .val (.int (2 : Int32))] [(.ref b8), (.ref a1)])) rfl rfl (hb hby d3_8)
  have Fw9 := Fld.same W9 fF_a1_ids_x8
  have fE_a1_x9 := (fE_a1_x8.wr W9)
  have fF_a1_incarnations_x9 := (Fld.other W9 fF_a1_incarnations_x8 (Or.inr (slot_ne (Or.inr (hw _ (List.mem_of_getElem? (i := 32) rfl))) (Or.inr (hw _ (List.mem_of_getElem? (i := 30) rfl))) (by decide) (t := (.array .int)) (t' := (.array .int)) (by decide) (by decide))))
  have fF_a1_rounds_x9 := (Fld.other W9 fF_a1_rounds_x8 (Or.inr (slot_ne (Or.inr (hw _ (List.mem_of_getElem? (i := 34) rfl))) (Or.inr (hw _ (List.mem_of_getElem? (i := 30) rfl))) (by decide) (t := (.array .int)) (t' := (.array .int)) (by decide) (by decide))))
  have fF_a1_heard_x9 := (Fld.other W9 fF_a1_heard_x8 (Or.inr (slot_ne (Or.inr (hw _ (List.mem_of_getElem? (i := 36) rfl))) (Or.inr (hw _ (List.mem_of_getElem? (i := 30) rfl))) (by decide) (t := (.array .int)) (t' := (.array .int)) (by decide) (by decide))))
  have fF_a1_count_x9 := (Fld.other W9 fF_a1_count_x8 (Or.inr (slot_ne (Or.inl (hw _ (List.mem_of_getElem? (i := 149) rfl))) (Or.inr (hw _ (List.mem_of_getElem? (i := 30) rfl))) (by decide) (t := .int) (t' := (.array .int)) (by decide) (by decide))))
  have fA_b8_x9 := (V8.other W9 (Ne.symm ne_a1_b8))
  have N9 := Fr.snoc X9 N0 g_a1
  have K9 : Keep h0 h9 [a1] := Keep.wr K8 W9 (Or.inl (List.mem_of_getElem? (i := 0) rfl))
  have Z9 : n0 ≤ h9.size := Nat.le_trans Z8 (Nat.le_of_eq W9.size.symm)
  obtain ⟨T10, h10, k10, X10, e10, E10, A10, st10⟩ := newP X9 hx hZ (hw _ (List.mem_of_getElem? (i := 11) rfl)) e9 (g := (mkF m 13 #[.val (.ref a1), .val (.int (2 : Int32))] [(.int (2 : Int32)), (.ref a1)])) rfl (hb hby d3_13) rfl (by decide) (cap := 2) (by decide) (by decide) (by decide) (by decide)
  obtain ⟨b10, g10⟩ : ∃ z, z = h9.size := ⟨_, rfl⟩
  rw [← g10] at A10 st10
  have ne_b8_b10 : b8 ≠ b10 := Nat.ne_of_lt (Nat.lt_of_lt_of_le fA_b8_x9.lt (Nat.le_of_eq g10.symm))
  have ne_a1_b10 : a1 ≠ b10 := Nat.ne_of_lt (Nat.lt_of_lt_of_le fE_a1_x9.lt (Nat.le_of_eq g10.symm))
  have g_b10 : n0 ≤ b10 := Nat.le_trans Z9 (Nat.le_of_eq g10.symm)
  have sz_b10 : h0.size ≤ b10 := Nat.le_trans (show Keep h0 h9 [a1] from K9).1 (Nat.le_of_eq g10.symm)
  have fE_a1_x10 := (fE_a1_x9.ext E10)
  have fF_a1_ids_x10 := (Fw9.ext E10)
  have fF_a1_incarnations_x10 := (fF_a1_incarnations_x9.ext E10)
  have fF_a1_rounds_x10 := (fF_a1_rounds_x9.ext E10)
  have fF_a1_heard_x10 := (fF_a1_heard_x9.ext E10)
  have fF_a1_count_x10 := (fF_a1_count_x9.ext E10)
  have fA_b8_x10 := (fA_b8_x9.ext E10)
  have K10 : Keep h0 h10 [a1] := Keep.ext K9 E10
  have Z10 : n0 ≤ h10.size := Nat.le_trans Z9 E10.1
  have V10 : own_Arr Z h10 b10 .int (2 : Int32) (fun i => Value.int ((fun _ => (0 : Int32)) i)) := own_Arr.new A10 (by decide) (fun _ => rfl)
  obtain ⟨T11, h11, X11, e11, W11, st11⟩ := putF X10 hx hZ hown (host := "") (Or.inl (hw _ (List.mem_of_getElem? (i := 31) rfl))) Via.refl e10 fF_a1_incarnations_x10 fE_a1_x10 (Or.inr ⟨(hw _ (List.mem_of_getElem? (i := 32) rfl)), rfl, hnm⟩) (hw _ (List.mem_of_getElem? (i := 23) rfl)) (ty := (.array .int)) (by decide) rfl rfl (g := (mkF m 15 #[.val (.ref a1), .val (.int (2 : Int32))] [(.ref b10), (.ref a1)])) rfl rfl (hb hby d3_15)
  have Fw11 := Fld.same W11 fF_a1_incarnations_x10
  have fE_a1_x11 := (fE_a1_x10.wr W11)
  have fF_a1_ids_x11 := (Fld.other W11 fF_a1_ids_x10 (Or.inr (slot_ne (Or.inr (hw _ (List.mem_of_getElem? (i := 30) rfl))) (Or.inr (hw _ (List.mem_of_getElem? (i := 32) rfl))) (by decide) (t := (.array .int)) (t' := (.array .int)) (by decide) (by decide))))
  have fF_a1_rounds_x11 := (Fld.other W11 fF_a1_rounds_x10 (Or.inr (slot_ne (Or.inr (hw _ (List.mem_of_getElem? (i := 34) rfl))) (Or.inr (hw _ (List.mem_of_getElem? (i := 32) rfl))) (by decide) (t := (.array .int)) (t' := (.array .int)) (by decide) (by decide))))
  have fF_a1_heard_x11 := (Fld.other W11 fF_a1_heard_x10 (Or.inr (slot_ne (Or.inr (hw _ (List.mem_of_getElem? (i := 36) rfl))) (Or.inr (hw _ (List.mem_of_getElem? (i := 32) rfl))) (by decide) (t := (.array .int)) (t' := (.array .int)) (by decide) (by decide))))
  have fF_a1_count_x11 := (Fld.other W11 fF_a1_count_x10 (Or.inr (slot_ne (Or.inl (hw _ (List.mem_of_getElem? (i := 149) rfl))) (Or.inr (hw _ (List.mem_of_getElem? (i := 32) rfl))) (by decide) (t := .int) (t' := (.array .int)) (by decide) (by decide))))
  have fA_b8_x11 := (fA_b8_x10.other W11 (Ne.symm ne_a1_b8))
  have fA_b10_x11 := (V10.other W11 (Ne.symm ne_a1_b10))
  have N11 := Fr.snoc X11 N9 g_a1
  have K11 : Keep h0 h11 [a1] := Keep.wr K10 W11 (Or.inl (List.mem_of_getElem? (i := 0) rfl))
  have Z11 : n0 ≤ h11.size := Nat.le_trans Z10 (Nat.le_of_eq W11.size.symm)
  obtain ⟨T12, h12, k12, X12, e12, E12, A12, st12⟩ := newP X11 hx hZ (hw _ (List.mem_of_getElem? (i := 11) rfl)) e11 (g := (mkF m 20 #[.val (.ref a1), .val (.int (2 : Int32))] [(.int (2 : Int32)), (.ref a1)])) rfl (hb hby d3_20) rfl (by decide) (cap := 2) (by decide) (by decide) (by decide) (by decide)
  obtain ⟨b12, g12⟩ : ∃ z, z = h11.size := ⟨_, rfl⟩
  rw [← g12] at A12 st12
  have ne_b10_b12 : b10 ≠ b12 := Nat.ne_of_lt (Nat.lt_of_lt_of_le fA_b10_x11.lt (Nat.le_of_eq g12.symm))
  have ne_b8_b12 : b8 ≠ b12 := Nat.ne_of_lt (Nat.lt_of_lt_of_le fA_b8_x11.lt (Nat.le_of_eq g12.symm))
  have ne_a1_b12 : a1 ≠ b12 := Nat.ne_of_lt (Nat.lt_of_lt_of_le fE_a1_x11.lt (Nat.le_of_eq g12.symm))
  have g_b12 : n0 ≤ b12 := Nat.le_trans Z11 (Nat.le_of_eq g12.symm)
  have sz_b12 : h0.size ≤ b12 := Nat.le_trans (show Keep h0 h11 [a1] from K11).1 (Nat.le_of_eq g12.symm)
  have fE_a1_x12 := (fE_a1_x11.ext E12)
  have fF_a1_ids_x12 := (fF_a1_ids_x11.ext E12)
  have fF_a1_incarnations_x12 := (Fw11.ext E12)
  have fF_a1_rounds_x12 := (fF_a1_rounds_x11.ext E12)
  have fF_a1_heard_x12 := (fF_a1_heard_x11.ext E12)
  have fF_a1_count_x12 := (fF_a1_count_x11.ext E12)
  have fA_b8_x12 := (fA_b8_x11.ext E12)
  have fA_b10_x12 := (fA_b10_x11.ext E12)
  have K12 : Keep h0 h12 [a1] := Keep.ext K11 E12
  have Z12 : n0 ≤ h12.size := Nat.le_trans Z11 E12.1
  have V12 : own_Arr Z h12 b12 .int (2 : Int32) (fun i => Value.int ((fun _ => (0 : Int32)) i)) := own_Arr.new A12 (by decide) (fun _ => rfl)
  obtain ⟨T13, h13, X13, e13, W13, st13⟩ := putF X12 hx hZ hown (host := "") (Or.inl (hw _ (List.mem_of_getElem? (i := 33) rfl))) Via.refl e12 fF_a1_rounds_x12 fE_a1_x12 (Or.inr ⟨(hw _ (List.mem_of_getElem? (i := 34) rfl)), rfl, hnm⟩) (hw _ (List.mem_of_getElem? (i := 23) rfl)) (ty := (.array .int)) (by decide) rfl rfl (g := (mkF m 22 #[.val (.ref a1), .val (.int (2 : Int32))] [(.ref b12), (.ref a1)])) rfl rfl (hb hby d3_22)
  have Fw13 := Fld.same W13 fF_a1_rounds_x12
  have fE_a1_x13 := (fE_a1_x12.wr W13)
  have fF_a1_ids_x13 := (Fld.other W13 fF_a1_ids_x12 (Or.inr (slot_ne (Or.inr (hw _ (List.mem_of_getElem? (i := 30) rfl))) (Or.inr (hw _ (List.mem_of_getElem? (i := 34) rfl))) (by decide) (t := (.array .int)) (t' := (.array .int)) (by decide) (by decide))))
  have fF_a1_incarnations_x13 := (Fld.other W13 fF_a1_incarnations_x12 (Or.inr (slot_ne (Or.inr (hw _ (List.mem_of_getElem? (i := 32) rfl))) (Or.inr (hw _ (List.mem_of_getElem? (i := 34) rfl))) (by decide) (t := (.array .int)) (t' := (.array .int)) (by decide) (by decide))))
  have fF_a1_heard_x13 := (Fld.other W13 fF_a1_heard_x12 (Or.inr (slot_ne (Or.inr (hw _ (List.mem_of_getElem? (i := 36) rfl))) (Or.inr (hw _ (List.mem_of_getElem? (i := 34) rfl))) (by decide) (t := (.array .int)) (t' := (.array .int)) (by decide) (by decide))))
  have fF_a1_count_x13 := (Fld.other W13 fF_a1_count_x12 (Or.inr (slot_ne (Or.inl (hw _ (List.mem_of_getElem? (i := 149) rfl))) (Or.inr (hw _ (List.mem_of_getElem? (i := 34) rfl))) (by decide) (t := .int) (t' := (.array .int)) (by decide) (by decide))))
  have fA_b8_x13 := (fA_b8_x12.other W13 (Ne.symm ne_a1_b8))
  have fA_b10_x13 := (fA_b10_x12.other W13 (Ne.symm ne_a1_b10))
  have fA_b12_x13 := (V12.other W13 (Ne.symm ne_a1_b12))
  have N13 := Fr.snoc X13 N11 g_a1
  have K13 : Keep h0 h13 [a1] := Keep.wr K12 W13 (Or.inl (List.mem_of_getElem? (i := 0) rfl))
  have Z13 : n0 ≤ h13.size := Nat.le_trans Z12 (Nat.le_of_eq W13.size.symm)
  obtain ⟨T14, h14, k14, X14, e14, E14, A14, st14⟩ := newP X13 hx hZ (hw _ (List.mem_of_getElem? (i := 11) rfl)) e13 (g := (mkF m 27 #[.val (.ref a1), .val (.int (2 : Int32))] [(.int (2 : Int32)), (.ref a1)])) rfl (hb hby d3_27) rfl (by decide) (cap := 2) (by decide) (by decide) (by decide) (by decide)
  obtain ⟨b14, g14⟩ : ∃ z, z = h13.size := ⟨_, rfl⟩
  rw [← g14] at A14 st14
  have ne_b10_b14 : b10 ≠ b14 := Nat.ne_of_lt (Nat.lt_of_lt_of_le fA_b10_x13.lt (Nat.le_of_eq g14.symm))
  have ne_b12_b14 : b12 ≠ b14 := Nat.ne_of_lt (Nat.lt_of_lt_of_le fA_b12_x13.lt (Nat.le_of_eq g14.symm))
  have ne_b8_b14 : b8 ≠ b14 := Nat.ne_of_lt (Nat.lt_of_lt_of_le fA_b8_x13.lt (Nat.le_of_eq g14.symm))
  have ne_a1_b14 : a1 ≠ b14 := Nat.ne_of_lt (Nat.lt_of_lt_of_le fE_a1_x13.lt (Nat.le_of_eq g14.symm))
  have g_b14 : n0 ≤ b14 := Nat.le_trans Z13 (Nat.le_of_eq g14.symm)
  have sz_b14 : h0.size ≤ b14 := Nat.le_trans (show Keep h0 h13 [a1] from K13).1 (Nat.le_of_eq g14.symm)
  have fE_a1_x14 := (fE_a1_x13.ext E14)
  have fF_a1_ids_x14 := (fF_a1_ids_x13.ext E14)
  have fF_a1_incarnations_x14 := (fF_a1_incarnations_x13.ext E14)
  have fF_a1_rounds_x14 := (Fw13.ext E14)
  have fF_a1_heard_x14 := (fF_a1_heard_x13.ext E14)
  have fF_a1_count_x14 := (fF_a1_count_x13.ext E14)
  have fA_b8_x14 := (fA_b8_x13.ext E14)
  have fA_b10_x14 := (fA_b10_x13.ext E14)
  have fA_b12_x14 := (fA_b12_x13.ext E14)
  have K14 : Keep h0 h14 [a1] := Keep.ext K13 E14
  have Z14 : n0 ≤ h14.size := Nat.le_trans Z13 E14.1
  have V14 : own_Arr Z h14 b14 .int (2 : Int32) (fun i => Value.int ((fun _ => (0 : Int32)) i)) := own_Arr.new A14 (by decide) (fun _ => rfl)
  obtain ⟨T15, h15, X15, e15, W15, st15⟩ := putF X14 hx hZ hown (host := "") (Or.inl (hw _ (List.mem_of_getElem? (i := 35) rfl))) Via.refl e14 fF_a1_heard_x14 fE_a1_x14 (Or.inr ⟨(hw _ (List.mem_of_getElem? (i := 36) rfl)), rfl, hnm⟩) (hw _ (List.mem_of_getElem? (i := 23) rfl)) (ty := (.array .int)) (by decide) rfl rfl (g := (mkF m 29 #[.val (.ref a1), .val (.int (2 : Int32))] [(.ref b14), (.ref a1)])) rfl rfl (hb hby d3_29)
  have Fw15 := Fld.same W15 fF_a1_heard_x14
  have fE_a1_x15 := (fE_a1_x14.wr W15)
  have fF_a1_ids_x15 := (Fld.other W15 fF_a1_ids_x14 (Or.inr (slot_ne (Or.inr (hw _ (List.mem_of_getElem? (i := 30) rfl))) (Or.inr (hw _ (List.mem_of_getElem? (i := 36) rfl))) (by decide) (t := (.array .int)) (t' := (.array .int)) (by decide) (by decide))))
  have fF_a1_incarnations_x15 := (Fld.other W15 fF_a1_incarnations_x14 (Or.inr (slot_ne (Or.inr (hw _ (List.mem_of_getElem? (i := 32) rfl))) (Or.inr (hw _ (List.mem_of_getElem? (i := 36) rfl))) (by decide) (t := (.array .int)) (t' := (.array .int)) (by decide) (by decide))))
  have fF_a1_rounds_x15 := (Fld.other W15 fF_a1_rounds_x14 (Or.inr (slot_ne (Or.inr (hw _ (List.mem_of_getElem? (i := 34) rfl))) (Or.inr (hw _ (List.mem_of_getElem? (i := 36) rfl))) (by decide) (t := (.array .int)) (t' := (.array .int)) (by decide) (by decide))))
  have fF_a1_count_x15 := (Fld.other W15 fF_a1_count_x14 (Or.inr (slot_ne (Or.inl (hw _ (List.mem_of_getElem? (i := 149) rfl))) (Or.inr (hw _ (List.mem_of_getElem? (i := 36) rfl))) (by decide) (t := .int) (t' := (.array .int)) (by decide) (by decide))))
  have fA_b8_x15 := (fA_b8_x14.other W15 (Ne.symm ne_a1_b8))
  have fA_b10_x15 := (fA_b10_x14.other W15 (Ne.symm ne_a1_b10))
  have fA_b12_x15 := (fA_b12_x14.other W15 (Ne.symm ne_a1_b12))
  have fA_b14_x15 := (V14.other W15 (Ne.symm ne_a1_b14))
  have N15 := Fr.snoc X15 N13 g_a1
  have K15 : Keep h0 h15 [a1] := Keep.wr K14 W15 (Or.inl (List.mem_of_getElem? (i := 0) rfl))
  have Z15 : n0 ≤ h15.size := Nat.le_trans Z14 (Nat.le_of_eq W15.size.symm)
  refine own_pre (A := T15.setTop (mkF m 32 #[.val (.ref a1), .val (.int (2 : Int32))] [])) (fun tt kt => ?_) ?_
  · show Steps p.tables e below (s₁.setTop (mkF m 0 #[.val (.ref a1), .val (.int (2 : Int32))] [])) _
    refine XS.aloadN X0.here hx rfl (hb hby d3_0) rfl rfl ?_
    show Steps p.tables e below (s₁.setTop (mkF m 1 #[.val (.ref a1), .val (.int (2 : Int32))] [(.ref a1)])) _
    refine st7 _ ?_
    show Steps p.tables e below (T7.setTop (mkF m 4 #[.val (.ref a1), .val (.int (2 : Int32))] [])) _
    refine XS.aloadN X7.here hx rfl (hb hby d3_4) rfl rfl ?_
    refine XS.iloadN X7.here hx rfl (hb hby d3_5) rfl ?_
    show Steps p.tables e below (T7.setTop (mkF m 6 #[.val (.ref a1), .val (.int (2 : Int32))] [(.int (2 : Int32)), (.ref a1)])) _
    refine st8 _ ?_
    show Steps p.tables e below (T8.setTop (mkF m 8 #[.val (.ref a1), .val (.int (2 : Int32))] [(.ref b8), (.ref a1)])) _
    refine st9 _ ?_
    show Steps p.tables e below (T9.setTop (mkF m 11 #[.val (.ref a1), .val (.int (2 : Int32))] [])) _
    refine XS.aloadN X9.here hx rfl (hb hby d3_11) rfl rfl ?_
    refine XS.iloadN X9.here hx rfl (hb hby d3_12) rfl ?_
    show Steps p.tables e below (T9.setTop (mkF m 13 #[.val (.ref a1), .val (.int (2 : Int32))] [(.int (2 : Int32)), (.ref a1)])) _
    refine st10 _ ?_
    show Steps p.tables e below (T10.setTop (mkF m 15 #[.val (.ref a1), .val (.int (2 : Int32))] [(.ref b10), (.ref a1)])) _
    refine st11 _ ?_
    show Steps p.tables e below (T11.setTop (mkF m 18 #[.val (.ref a1), .val (.int (2 : Int32))] [])) _
    refine XS.aloadN X11.here hx rfl (hb hby d3_18) rfl rfl ?_
    refine XS.iloadN X11.here hx rfl (hb hby d3_19) rfl ?_
    show Steps p.tables e below (T11.setTop (mkF m 20 #[.val (.ref a1), .val (.int (2 : Int32))] [(.int (2 : Int32)), (.ref a1)])) _
    refine st12 _ ?_
    show Steps p.tables e below (T12.setTop (mkF m 22 #[.val (.ref a1), .val (.int (2 : Int32))] [(.ref b12), (.ref a1)])) _
    refine st13 _ ?_
    show Steps p.tables e below (T13.setTop (mkF m 25 #[.val (.ref a1), .val (.int (2 : Int32))] [])) _
    refine XS.aloadN X13.here hx rfl (hb hby d3_25) rfl rfl ?_
    refine XS.iloadN X13.here hx rfl (hb hby d3_26) rfl ?_
    show Steps p.tables e below (T13.setTop (mkF m 27 #[.val (.ref a1), .val (.int (2 : Int32))] [(.int (2 : Int32)), (.ref a1)])) _
    refine st14 _ ?_
    show Steps p.tables e below (T14.setTop (mkF m 29 #[.val (.ref a1), .val (.int (2 : Int32))] [(.ref b14), (.ref a1)])) _
    refine st15 _ ?_
    exact kt
  show own_End p e below s (T15.setTop (mkF m 32 #[.val (.ref a1), .val (.int (2 : Int32))] [])) (Q3 Z a1 vc h0 n0) ({ frames := 1, cells := 4, slots := 8, locals := 12 } : Room).cells ({ frames := 1, cells := 4, slots := 8, locals := 12 } : Room).slots
  obtain ⟨fs, hr, hrun, hended, hW, hsame⟩ := X15.leave (v := none) (fun _ => rfl)
  refine ⟨_, _, ?_, hrun, hended, _, _, rfl, ?_, ⟨_, rfl⟩, hW, hsame.mono (by decide) (by decide)⟩
  · exact X15.returnOut hx Bd.returns (hb hby d3_32) hr
  · show Q3 Z a1 vc h0 n0 _ T15.heap _
    rw [e15]
    exact ⟨rfl, N15, b8, b10, b12, b14, K15, ⟨fE_a1_x15, fF_a1_ids_x15, fF_a1_incarnations_x15, fF_a1_rounds_x15, Fw15, fF_a1_count_x15⟩, sz_b8, fA_b8_x15, sz_b10, fA_b10_x15, sz_b12, fA_b12_x15, sz_b14, fA_b14_x15, ne_b8_b10, ne_b8_b12, ne_b8_b14, ne_b10_b12, ne_b10_b14, ne_b12_b14⟩
theorem d5_0 : decode prog_25_method_31_code 0 = .ok (.aload_n 0, 1) := by decide +kernel
theorem d5_1 : decode prog_25_method_31_code 1 = .ok (.getfield 9, 3) := by decide +kernel
theorem d5_4 : decode prog_25_method_31_code 4 = .ok (.iload_n 1, 1) := by decide +kernel
theorem d5_5 : decode prog_25_method_31_code 5 = .ok (.aload_n 0, 1) := by decide +kernel
theorem d5_6 : decode prog_25_method_31_code 6 = .ok (.getfield 9, 3) := by decide +kernel
theorem d5_9 : decode prog_25_method_31_code 9 = .ok (.iload_n 2, 1) := by decide +kernel
theorem d5_10 : decode prog_25_method_31_code 10 = .ok (.iload_n 3, 1) := by decide +kernel
theorem d5_11 : decode prog_25_method_31_code 11 = .ok (.invokestatic 123, 3) := by decide +kernel
theorem d5_14 : decode prog_25_method_31_code 14 = .ok (.aload_n 0, 1) := by decide +kernel
theorem d5_15 : decode prog_25_method_31_code 15 = .ok (.getfield 13, 3) := by decide +kernel
theorem d5_18 : decode prog_25_method_31_code 18 = .ok (.iload_n 1, 1) := by decide +kernel
theorem d5_19 : decode prog_25_method_31_code 19 = .ok (.aload_n 0, 1) := by decide +kernel
theorem d5_20 : decode prog_25_method_31_code 20 = .ok (.getfield 13, 3) := by decide +kernel
theorem d5_23 : decode prog_25_method_31_code 23 = .ok (.iload_n 2, 1) := by decide +kernel
theorem d5_24 : decode prog_25_method_31_code 24 = .ok (.iload_n 3, 1) := by decide +kernel
theorem d5_25 : decode prog_25_method_31_code 25 = .ok (.invokestatic 123, 3) := by decide +kernel
theorem d5_28 : decode prog_25_method_31_code 28 = .ok (.aload_n 0, 1) := by decide +kernel
theorem d5_29 : decode prog_25_method_31_code 29 = .ok (.getfield 17, 3) := by decide +kernel
theorem d5_32 : decode prog_25_method_31_code 32 = .ok (.iload_n 1, 1) := by decide +kernel
theorem d5_33 : decode prog_25_method_31_code 33 = .ok (.aload_n 0, 1) := by decide +kernel
theorem d5_34 : decode prog_25_method_31_code 34 = .ok (.getfield 17, 3) := by decide +kernel
theorem d5_37 : decode prog_25_method_31_code 37 = .ok (.iload_n 2, 1) := by decide +kernel
theorem d5_38 : decode prog_25_method_31_code 38 = .ok (.iload_n 3, 1) := by decide +kernel
theorem d5_39 : decode prog_25_method_31_code 39 = .ok (.invokestatic 123, 3) := by decide +kernel
theorem d5_42 : decode prog_25_method_31_code 42 = .ok (.aload_n 0, 1) := by decide +kernel
theorem d5_43 : decode prog_25_method_31_code 43 = .ok (.getfield 20, 3) := by decide +kernel
theorem d5_46 : decode prog_25_method_31_code 46 = .ok (.iload_n 1, 1) := by decide +kernel
theorem d5_47 : decode prog_25_method_31_code 47 = .ok (.aload_n 0, 1) := by decide +kernel
theorem d5_48 : decode prog_25_method_31_code 48 = .ok (.getfield 20, 3) := by decide +kernel
theorem d5_51 : decode prog_25_method_31_code 51 = .ok (.iload_n 2, 1) := by decide +kernel
theorem d5_52 : decode prog_25_method_31_code 52 = .ok (.iload_n 3, 1) := by decide +kernel
theorem d5_53 : decode prog_25_method_31_code 53 = .ok (.invokestatic 123, 3) := by decide +kernel
theorem d5_56 : decode prog_25_method_31_code 56 = .ok (.return_, 1) := by decide +kernel
theorem pn_5 : plainName "com/example/atoll/atoll/detect/HeldOrigins" = true := by first | (simp [plainName, overriddenIn]; done) | decide +kernel
theorem ef_5 (m : MethodId) (x0 : Addr) (x1 : Int32) (x2 : Int32) (x3 : Int32) : entryFrame m #[(.ref x0), (.int x1), (.int x2), (.int x3)] 4 = mkF m 0 #[.val (.ref x0), .val (.int x1), .val (.int x2), .val (.int x3)] [] := by first | (simp [entryFrame, mkF, argsToLocals, Value.category]; done) | rfl
def Q5 (Z : State) (a1 : Addr) (p2 : Int32) (p3 : Int32) (vi : Addr) (vn : Addr) (vs : Addr) (vm : Addr) (vz : Int32) (gi : Nat → Int32) (gn : Nat → Int64) (gs : Nat → Int64) (gm : Nat → Int32) (h0 : Heap) (n0 : Nat) (v : Option Value) (h : Heap) (L : List Loc) : Prop := v = none ∧ Fr n0 L ∧ Keep h0 h [vi, vn, vs, vm] ∧ own_Arr Z h vi .int (16 : Int32) (fun i => Value.int (gi i)) ∧ own_Arr Z h vn .long (16 : Int32) (fun i => Value.long (gn i)) ∧ own_Arr Z h vs .long (16 : Int32) (fun i => Value.long (gs i)) ∧ own_Arr Z h vm .byte (16 : Int32) (fun i => Value.int (gm i))
set_option maxRecDepth 65536 in
set_option maxHeartbeats 40000000 in
theorem rm5 (l : Launch) (Z : State) (a0 : Array Value) (hw : ∀ d ∈ tables_1, d.before a0 Z = true) (ws : List Jvm.Cond) (a1 : Addr) (p2 : Int32) (p3 : Int32) (vi : Addr) (vn : Addr) (vs : Addr) (vm : Addr) (vz : Int32) (gi : Nat → Int32) (gn : Nat → Int64) (gs : Nat → Int64) (gm : Nat → Int32) (h0 : Heap) (n0 : Nat) (Z0 : n0 ≤ h0.size) (O_a1 : own_H Z h0 a1 vi vn vs vm vz) (V_vi : own_Arr Z h0 vi .int (16 : Int32) (fun i => Value.int (gi i))) (V_vn : own_Arr Z h0 vn .long (16 : Int32) (fun i => Value.long (gn i))) (V_vs : own_Arr Z h0 vs .long (16 : Int32) (fun i => Value.long (gs i))) (V_vm : own_Arr Z h0 vm .byte (16 : Int32) (fun i => Value.int (gm i))) (ne_a1_vi : a1 ≠ vi) (ne_a1_vn : a1 ≠ vn) (ne_a1_vs : a1 ≠ vs) (ne_a1_vm : a1 ≠ vm) (ne_vi_vn : vi ≠ vn) (ne_vi_vs : vi ≠ vs) (ne_vi_vm : vi ≠ vm) (ne_vn_vs : vn ≠ vs) (ne_vn_vm : vn ≠ vm) (ne_vs_vm : vs ≠ vm) (g_vi : n0 ≤ vi) (g_vn : n0 ≤ vn) (g_vs : n0 ≤ vs) (g_vm : n0 ≤ vm) (h20 : 0 ≤ p2.toInt) (h21 : p2.toInt ≤ 16) (h30 : 0 ≤ p3.toInt) (h31 : p3.toInt ≤ 16) (hfb : ∀ i, fits .byte (.int (gm i)) = true) :
    MetFree l (⟨"com/example/atoll/atoll/detect/HeldOrigins", "move", "(III)V"⟩ : MethodName) (head1 (Jvm.Cond.code (⟨"com/example/atoll/atoll/detect/HeldOrigins", "move", "(III)V"⟩ : MethodName) prog_25_method_31_code 4 none :: ws) ({ frames := 1, cells := 0, slots := 0, locals := 18 } : Room)) (fun a U => a = #[(.ref a1), (.int p2), (.int p3), (.int (0 : Int32))] ∧ Z.Warmed39 U.vm ∧ U.heap = h0) (fun _ _ _ _ _ => True) (fun _ U o U' => ∃ v L, o = .returned v ∧ Q5 Z a1 p2 p3 vi vn vs vm vz gi gn gs gm h0 n0 v U'.heap L ∧ FrameEnd U o U' L ({ frames := 1, cells := 0, slots := 0, locals := 18 } : Room).cells ({ frames := 1, cells := 0, slots := 0, locals := 18 } : Room).slots) := by
  refine MetFree.of_bodySF (plainFor_of_name pn_5) hisR ?_
  intro p e s m args below meth c s₁ Bd hml0 hP hK
  obtain ⟨rfl, hZ, hh⟩ := hP
  have hx := Bd.exec
  have hby := Bd.bytes
  have hml : c.maxLocals = 4 := hml0
  have hown : s.vm.findClass "com/example/atoll/atoll/detect/HeldOrigins" = some m.cls := findClass_of_methodNamed Bd.named
  have hnm := (name_of_methodNamed Bd.named Bd.method).1
  have X0 : Stand p l e ({ frames := 1, cells := 0, slots := 0, locals := 18 } : Room) s m #[(.ref a1), (.int p2), (.int p3), (.int (0 : Int32))] below meth c s₁ [] 0 0 := Stand.of_body Bd
  have e0 : s₁.heap = h0 := by rw [← hh, Bd.state]; rfl
  have N0 := Fr.nil n0
  show own_End p e below s (s₁.setTop (entryFrame m #[(.ref a1), (.int p2), (.int p3), (.int (0 : Int32))] 4)) (Q5 Z a1 p2 p3 vi vn vs vm vz gi gn gs gm h0 n0) ({ frames := 1, cells := 0, slots := 0, locals := 18 } : Room).cells ({ frames := 1, cells := 0, slots := 0, locals := 18 } : Room).slots
  obtain ⟨E_a1_1, F_ids_a1_2, F_newest_a1_3, F_state_a1_4, F_mismatches_a1_5, F_size_a1_6⟩ := O_a1
  refine own_pre (A := s₁.setTop (mkF m 0 #[.val (.ref a1), .val (.int p2), .val (.int p3), .val (.int (0 : Int32))] [])) (fun tt kt => castTop (ef_5 m a1 p2 p3 (0 : Int32)) kt) ?_
  show own_End p e below s (s₁.setTop (mkF m 0 #[.val (.ref a1), .val (.int p2), .val (.int p3), .val (.int (0 : Int32))] [])) (Q5 Z a1 p2 p3 vi vn vs vm vz gi gn gs gm h0 n0) ({ frames := 1, cells := 0, slots := 0, locals := 18 } : Room).cells ({ frames := 1, cells := 0, slots := 0, locals := 18 } : Room).slots
  obtain ⟨T7, X7, e7, st7⟩ := getF X0 hx hZ hown (host := "") (Or.inl (hw _ (List.mem_of_getElem? (i := 12) rfl))) Via.refl e0 F_ids_a1_2 (g := (mkF m 1 #[.val (.ref a1), .val (.int p2), .val (.int p3), .val (.int (0 : Int32))] [(.ref a1)])) rfl rfl (hb hby d5_1)
  obtain ⟨T8, X8, e8, st8⟩ := getF X7 hx hZ hown (host := "") (Or.inl (hw _ (List.mem_of_getElem? (i := 12) rfl))) Via.refl e7 F_ids_a1_2 (g := (mkF m 6 #[.val (.ref a1), .val (.int p2), .val (.int p3), .val (.int (0 : Int32))] [(.ref a1), (.int p2), (.ref vi)])) rfl rfl (hb hby d5_6)
  obtain ⟨T9, h9, L9, X9, e9, N9, Kq9, V9, st9⟩ := own_copy0 X8 hx hZ hown (hw _ (List.mem_of_getElem? (i := 48) rfl)) (hw _ (List.mem_of_getElem? (i := 51) rfl)) (hw _ (List.mem_of_getElem? (i := 49) rfl)) (hw _ (List.mem_of_getElem? (i := 50) rfl)) e8 V_vi (fun _ => rfl) rfl (.int 0) rfl (own_ge0 h20) (own_ge0 h30) (own_le16 h21) (own_le16 h31) N0 g_vi (g := (mkF m 11 #[.val (.ref a1), .val (.int p2), .val (.int p3), .val (.int (0 : Int32))] [(.int (0 : Int32)), (.int p3), (.ref vi), (.int p2), (.ref vi)])) rfl (by rw [hml]; rfl) rfl (hb hby d5_11) (by decide) (W := 0) (by show 2 * 0 + _ ≤ _; exact Nat.le_of_eq rfl) (by decide)
  have fE_a1_x9 := (E_a1_1.keep Kq9)
  have fF_a1_ids_x9 := (F_ids_a1_2.keep Kq9 (ninS ne_a1_vi nin0))
  have fF_a1_newest_x9 := (F_newest_a1_3.keep Kq9 (ninS ne_a1_vi nin0))
  have fF_a1_state_x9 := (F_state_a1_4.keep Kq9 (ninS ne_a1_vi nin0))
  have fF_a1_mismatches_x9 := (F_mismatches_a1_5.keep Kq9 (ninS ne_a1_vi nin0))
  have fF_a1_size_x9 := (F_size_a1_6.keep Kq9 (ninS ne_a1_vi nin0))
  have fA_vn_x9 := (V_vn.keep Kq9 (ninS (Ne.symm ne_vi_vn) nin0))
  have fA_vs_x9 := (V_vs.keep Kq9 (ninS (Ne.symm ne_vi_vs) nin0))
  have fA_vm_x9 := (V_vm.keep Kq9 (ninS (Ne.symm ne_vi_vm) nin0))
  have K9 : Keep h0 h9 [vi, vn, vs, vm] := Keep.trans (Keep.refl h0 _) Kq9 (allS (Or.inl (List.mem_of_getElem? (i := 0) rfl)) all0)
  have Z9 : n0 ≤ h9.size := Nat.le_trans Z0 Kq9.1
  obtain ⟨T10, X10, e10, st10⟩ := getF X9 hx hZ hown (host := "") (Or.inl (hw _ (List.mem_of_getElem? (i := 15) rfl))) Via.refl e9 fF_a1_newest_x9 (g := (mkF m 15 #[.val (.ref a1), .val (.int p2), .val (.int p3), .val (.int (0 : Int32))] [(.ref a1)])) rfl rfl (hb hby d5_15)
  obtain ⟨T11, X11, e11, st11⟩ := getF X10 hx hZ hown (host := "") (Or.inl (hw _ (List.mem_of_getElem? (i := 15) rfl))) Via.refl e10 fF_a1_newest_x9 (g := (mkF m 20 #[.val (.ref a1), .val (.int p2), .val (.int p3), .val (.int (0 : Int32))] [(.ref a1), (.int p2), (.ref vn)])) rfl rfl (hb hby d5_20)
  obtain ⟨T12, h12, L12, X12, e12, N12, Kq12, V12, st12⟩ := own_copy0 X11 hx hZ hown (hw _ (List.mem_of_getElem? (i := 48) rfl)) (hw _ (List.mem_of_getElem? (i := 51) rfl)) (hw _ (List.mem_of_getElem? (i := 49) rfl)) (hw _ (List.mem_of_getElem? (i := 50) rfl)) e11 fA_vn_x9 (fun _ => rfl) rfl (.long 0) rfl (own_ge0 h20) (own_ge0 h30) (own_le16 h21) (own_le16 h31) N9 g_vn (g := (mkF m 25 #[.val (.ref a1), .val (.int p2), .val (.int p3), .val (.int (0 : Int32))] [(.int (0 : Int32)), (.int p3), (.ref vn), (.int p2), (.ref vn)])) rfl (by rw [hml]; rfl) rfl (hb hby d5_25) (by decide) (W := 0) (by show 2 * 0 + _ ≤ _; exact Nat.le_of_eq rfl) (by decide)
  have fE_a1_x12 := (fE_a1_x9.keep Kq12)
  have fF_a1_ids_x12 := (fF_a1_ids_x9.keep Kq12 (ninS ne_a1_vn nin0))
  have fF_a1_newest_x12 := (fF_a1_newest_x9.keep Kq12 (ninS ne_a1_vn nin0))
  have fF_a1_state_x12 := (fF_a1_state_x9.keep Kq12 (ninS ne_a1_vn nin0))
  have fF_a1_mismatches_x12 := (fF_a1_mismatches_x9.keep Kq12 (ninS ne_a1_vn nin0))
  have fF_a1_size_x12 := (fF_a1_size_x9.keep Kq12 (ninS ne_a1_vn nin0))
  have fA_vs_x12 := (fA_vs_x9.keep Kq12 (ninS (Ne.symm ne_vn_vs) nin0))
  have fA_vm_x12 := (fA_vm_x9.keep Kq12 (ninS (Ne.symm ne_vn_vm) nin0))
  have fA_vi_x12 := (V9.keep Kq12 (ninS ne_vi_vn nin0))
  have K12 : Keep h0 h12 [vi, vn, vs, vm] := Keep.trans K9 Kq12 (allS (Or.inl (List.mem_of_getElem? (i := 1) rfl)) all0)
  have Z12 : n0 ≤ h12.size := Nat.le_trans Z9 Kq12.1
  obtain ⟨T13, X13, e13, st13⟩ := getF X12 hx hZ hown (host := "") (Or.inl (hw _ (List.mem_of_getElem? (i := 17) rfl))) Via.refl e12 fF_a1_state_x12 (g := (mkF m 29 #[.val (.ref a1), .val (.int p2), .val (.int p3), .val (.int (0 : Int32))] [(.ref a1)])) rfl rfl (hb hby d5_29)
  obtain ⟨T14, X14, e14, st14⟩ := getF X13 hx hZ hown (host := "") (Or.inl (hw _ (List.mem_of_getElem? (i := 17) rfl))) Via.refl e13 fF_a1_state_x12 (g := (mkF m 34 #[.val (.ref a1), .val (.int p2), .val (.int p3), .val (.int (0 : Int32))] [(.ref a1), (.int p2), (.ref vs)])) rfl rfl (hb hby d5_34)
  obtain ⟨T15, h15, L15, X15, e15, N15, Kq15, V15, st15⟩ := own_copy0 X14 hx hZ hown (hw _ (List.mem_of_getElem? (i := 48) rfl)) (hw _ (List.mem_of_getElem? (i := 51) rfl)) (hw _ (List.mem_of_getElem? (i := 49) rfl)) (hw _ (List.mem_of_getElem? (i := 50) rfl)) e14 fA_vs_x12 (fun _ => rfl) rfl (.long 0) rfl (own_ge0 h20) (own_ge0 h30) (own_le16 h21) (own_le16 h31) N12 g_vs (g := (mkF m 39 #[.val (.ref a1), .val (.int p2), .val (.int p3), .val (.int (0 : Int32))] [(.int (0 : Int32)), (.int p3), (.ref vs), (.int p2), (.ref vs)])) rfl (by rw [hml]; rfl) rfl (hb hby d5_39) (by decide) (W := 0) (by show 2 * 0 + _ ≤ _; exact Nat.le_of_eq rfl) (by decide)
  have fE_a1_x15 := (fE_a1_x12.keep Kq15)
  have fF_a1_ids_x15 := (fF_a1_ids_x12.keep Kq15 (ninS ne_a1_vs nin0))
  have fF_a1_newest_x15 := (fF_a1_newest_x12.keep Kq15 (ninS ne_a1_vs nin0))
  have fF_a1_state_x15 := (fF_a1_state_x12.keep Kq15 (ninS ne_a1_vs nin0))
  have fF_a1_mismatches_x15 := (fF_a1_mismatches_x12.keep Kq15 (ninS ne_a1_vs nin0))
  have fF_a1_size_x15 := (fF_a1_size_x12.keep Kq15 (ninS ne_a1_vs nin0))
  have fA_vm_x15 := (fA_vm_x12.keep Kq15 (ninS (Ne.symm ne_vs_vm) nin0))
  have fA_vi_x15 := (fA_vi_x12.keep Kq15 (ninS ne_vi_vs nin0))
  have fA_vn_x15 := (V12.keep Kq15 (ninS ne_vn_vs nin0))
  have K15 : Keep h0 h15 [vi, vn, vs, vm] := Keep.trans K12 Kq15 (allS (Or.inl (List.mem_of_getElem? (i := 2) rfl)) all0)
  have Z15 : n0 ≤ h15.size := Nat.le_trans Z12 Kq15.1
  obtain ⟨T16, X16, e16, st16⟩ := getF X15 hx hZ hown (host := "") (Or.inl (hw _ (List.mem_of_getElem? (i := 20) rfl))) Via.refl e15 fF_a1_mismatches_x15 (g := (mkF m 43 #[.val (.ref a1), .val (.int p2), .val (.int p3), .val (.int (0 : Int32))] [(.ref a1)])) rfl rfl (hb hby d5_43)
  obtain ⟨T17, X17, e17, st17⟩ := getF X16 hx hZ hown (host := "") (Or.inl (hw _ (List.mem_of_getElem? (i := 20) rfl))) Via.refl e16 fF_a1_mismatches_x15 (g := (mkF m 48 #[.val (.ref a1), .val (.int p2), .val (.int p3), .val (.int (0 : Int32))] [(.ref a1), (.int p2), (.ref vm)])) rfl rfl (hb hby d5_48)
  obtain ⟨T18, h18, L18, X18, e18, N18, Kq18, V18, st18⟩ := own_copy0 X17 hx hZ hown (hw _ (List.mem_of_getElem? (i := 48) rfl)) (hw _ (List.mem_of_getElem? (i := 51) rfl)) (hw _ (List.mem_of_getElem? (i := 49) rfl)) (hw _ (List.mem_of_getElem? (i := 50) rfl)) e17 fA_vm_x15 hfb rfl (.int 0) rfl (own_ge0 h20) (own_ge0 h30) (own_le16 h21) (own_le16 h31) N15 g_vm (g := (mkF m 53 #[.val (.ref a1), .val (.int p2), .val (.int p3), .val (.int (0 : Int32))] [(.int (0 : Int32)), (.int p3), (.ref vm), (.int p2), (.ref vm)])) rfl (by rw [hml]; rfl) rfl (hb hby d5_53) (by decide) (W := 0) (by show 2 * 0 + _ ≤ _; exact Nat.le_of_eq rfl) (by decide)
  have fE_a1_x18 := (fE_a1_x15.keep Kq18)
  have fF_a1_ids_x18 := (fF_a1_ids_x15.keep Kq18 (ninS ne_a1_vm nin0))
  have fF_a1_newest_x18 := (fF_a1_newest_x15.keep Kq18 (ninS ne_a1_vm nin0))
  have fF_a1_state_x18 := (fF_a1_state_x15.keep Kq18 (ninS ne_a1_vm nin0))
  have fF_a1_mismatches_x18 := (fF_a1_mismatches_x15.keep Kq18 (ninS ne_a1_vm nin0))
  have fF_a1_size_x18 := (fF_a1_size_x15.keep Kq18 (ninS ne_a1_vm nin0))
  have fA_vi_x18 := (fA_vi_x15.keep Kq18 (ninS ne_vi_vm nin0))
  have fA_vn_x18 := (fA_vn_x15.keep Kq18 (ninS ne_vn_vm nin0))
  have fA_vs_x18 := (V15.keep Kq18 (ninS ne_vs_vm nin0))
  have K18 : Keep h0 h18 [vi, vn, vs, vm] := Keep.trans K15 Kq18 (allS (Or.inl (List.mem_of_getElem? (i := 3) rfl)) all0)
  have Z18 : n0 ≤ h18.size := Nat.le_trans Z15 Kq18.1
  refine own_pre (A := T18.setTop (mkF m 56 #[.val (.ref a1), .val (.int p2), .val (.int p3), .val (.int (0 : Int32))] [])) (fun tt kt => ?_) ?_
  · show Steps p.tables e below (s₁.setTop (mkF m 0 #[.val (.ref a1), .val (.int p2), .val (.int p3), .val (.int (0 : Int32))] [])) _
    refine XS.aloadN X0.here hx rfl (hb hby d5_0) rfl rfl ?_
    show Steps p.tables e below (s₁.setTop (mkF m 1 #[.val (.ref a1), .val (.int p2), .val (.int p3), .val (.int (0 : Int32))] [(.ref a1)])) _
    refine st7 _ ?_
    show Steps p.tables e below (T7.setTop (mkF m 4 #[.val (.ref a1), .val (.int p2), .val (.int p3), .val (.int (0 : Int32))] [(.ref vi)])) _
    refine XS.iloadN X7.here hx rfl (hb hby d5_4) rfl ?_
    refine XS.aloadN X7.here hx rfl (hb hby d5_5) rfl rfl ?_
    show Steps p.tables e below (T7.setTop (mkF m 6 #[.val (.ref a1), .val (.int p2), .val (.int p3), .val (.int (0 : Int32))] [(.ref a1), (.int p2), (.ref vi)])) _
    refine st8 _ ?_
    show Steps p.tables e below (T8.setTop (mkF m 9 #[.val (.ref a1), .val (.int p2), .val (.int p3), .val (.int (0 : Int32))] [(.ref vi), (.int p2), (.ref vi)])) _
    refine XS.iloadN X8.here hx rfl (hb hby d5_9) rfl ?_
    refine XS.iloadN X8.here hx rfl (hb hby d5_10) rfl ?_
    show Steps p.tables e below (T8.setTop (mkF m 11 #[.val (.ref a1), .val (.int p2), .val (.int p3), .val (.int (0 : Int32))] [(.int (0 : Int32)), (.int p3), (.ref vi), (.int p2), (.ref vi)])) _
    refine st9 _ ?_
    show Steps p.tables e below (T9.setTop (mkF m 14 #[.val (.ref a1), .val (.int p2), .val (.int p3), .val (.int (0 : Int32))] [])) _
    refine XS.aloadN X9.here hx rfl (hb hby d5_14) rfl rfl ?_
    show Steps p.tables e below (T9.setTop (mkF m 15 #[.val (.ref a1), .val (.int p2), .val (.int p3), .val (.int (0 : Int32))] [(.ref a1)])) _
    refine st10 _ ?_
    show Steps p.tables e below (T10.setTop (mkF m 18 #[.val (.ref a1), .val (.int p2), .val (.int p3), .val (.int (0 : Int32))] [(.ref vn)])) _
    refine XS.iloadN X10.here hx rfl (hb hby d5_18) rfl ?_
    refine XS.aloadN X10.here hx rfl (hb hby d5_19) rfl rfl ?_
    show Steps p.tables e below (T10.setTop (mkF m 20 #[.val (.ref a1), .val (.int p2), .val (.int p3), .val (.int (0 : Int32))] [(.ref a1), (.int p2), (.ref vn)])) _
    refine st11 _ ?_
    show Steps p.tables e below (T11.setTop (mkF m 23 #[.val (.ref a1), .val (.int p2), .val (.int p3), .val (.int (0 : Int32))] [(.ref vn), (.int p2), (.ref vn)])) _
    refine XS.iloadN X11.here hx rfl (hb hby d5_23) rfl ?_
    refine XS.iloadN X11.here hx rfl (hb hby d5_24) rfl ?_
    show Steps p.tables e below (T11.setTop (mkF m 25 #[.val (.ref a1), .val (.int p2), .val (.int p3), .val (.int (0 : Int32))] [(.int (0 : Int32)), (.int p3), (.ref vn), (.int p2), (.ref vn)])) _
    refine st12 _ ?_
    show Steps p.tables e below (T12.setTop (mkF m 28 #[.val (.ref a1), .val (.int p2), .val (.int p3), .val (.int (0 : Int32))] [])) _
    refine XS.aloadN X12.here hx rfl (hb hby d5_28) rfl rfl ?_
    show Steps p.tables e below (T12.setTop (mkF m 29 #[.val (.ref a1), .val (.int p2), .val (.int p3), .val (.int (0 : Int32))] [(.ref a1)])) _
    refine st13 _ ?_
    show Steps p.tables e below (T13.setTop (mkF m 32 #[.val (.ref a1), .val (.int p2), .val (.int p3), .val (.int (0 : Int32))] [(.ref vs)])) _
    refine XS.iloadN X13.here hx rfl (hb hby d5_32) rfl ?_
    refine XS.aloadN X13.here hx rfl (hb hby d5_33) rfl rfl ?_
    show Steps p.tables e below (T13.setTop (mkF m 34 #[.val (.ref a1), .val (.int p2), .val (.int p3), .val (.int (0 : Int32))] [(.ref a1), (.int p2), (.ref vs)])) _
    refine st14 _ ?_
    show Steps p.tables e below (T14.setTop (mkF m 37 #[.val (.ref a1), .val (.int p2), .val (.int p3), .val (.int (0 : Int32))] [(.ref vs), (.int p2), (.ref vs)])) _
    refine XS.iloadN X14.here hx rfl (hb hby d5_37) rfl ?_
    refine XS.iloadN X14.here hx rfl (hb hby d5_38) rfl ?_
    show Steps p.tables e below (T14.setTop (mkF m 39 #[.val (.ref a1), .val (.int p2), .val (.int p3), .val (.int (0 : Int32))] [(.int (0 : Int32)), (.int p3), (.ref vs), (.int p2), (.ref vs)])) _
    refine st15 _ ?_
    show Steps p.tables e below (T15.setTop (mkF m 42 #[.val (.ref a1), .val (.int p2), .val (.int p3), .val (.int (0 : Int32))] [])) _
    refine XS.aloadN X15.here hx rfl (hb hby d5_42) rfl rfl ?_
    show Steps p.tables e below (T15.setTop (mkF m 43 #[.val (.ref a1), .val (.int p2), .val (.int p3), .val (.int (0 : Int32))] [(.ref a1)])) _
    refine st16 _ ?_
    show Steps p.tables e below (T16.setTop (mkF m 46 #[.val (.ref a1), .val (.int p2), .val (.int p3), .val (.int (0 : Int32))] [(.ref vm)])) _
    refine XS.iloadN X16.here hx rfl (hb hby d5_46) rfl ?_
    refine XS.aloadN X16.here hx rfl (hb hby d5_47) rfl rfl ?_
    show Steps p.tables e below (T16.setTop (mkF m 48 #[.val (.ref a1), .val (.int p2), .val (.int p3), .val (.int (0 : Int32))] [(.ref a1), (.int p2), (.ref vm)])) _
    refine st17 _ ?_
    show Steps p.tables e below (T17.setTop (mkF m 51 #[.val (.ref a1), .val (.int p2), .val (.int p3), .val (.int (0 : Int32))] [(.ref vm), (.int p2), (.ref vm)])) _
    refine XS.iloadN X17.here hx rfl (hb hby d5_51) rfl ?_
    refine XS.iloadN X17.here hx rfl (hb hby d5_52) rfl ?_
    show Steps p.tables e below (T17.setTop (mkF m 53 #[.val (.ref a1), .val (.int p2), .val (.int p3), .val (.int (0 : Int32))] [(.int (0 : Int32)), (.int p3), (.ref vm), (.int p2), (.ref vm)])) _
    refine st18 _ ?_
    exact kt
  show own_End p e below s (T18.setTop (mkF m 56 #[.val (.ref a1), .val (.int p2), .val (.int p3), .val (.int (0 : Int32))] [])) (Q5 Z a1 p2 p3 vi vn vs vm vz gi gn gs gm h0 n0) ({ frames := 1, cells := 0, slots := 0, locals := 18 } : Room).cells ({ frames := 1, cells := 0, slots := 0, locals := 18 } : Room).slots
  obtain ⟨fs, hr, hrun, hended, hW, hsame⟩ := X18.leave (v := none) (fun _ => rfl)
  refine ⟨_, _, ?_, hrun, hended, _, _, rfl, ?_, ⟨_, rfl⟩, hW, hsame.mono (by decide) (by decide)⟩
  · exact X18.returnOut hx Bd.returns (hb hby d5_56) hr
  · show Q5 Z a1 p2 p3 vi vn vs vm vz gi gn gs gm h0 n0 _ T18.heap _
    rw [e18]
    exact ⟨rfl, N18, K18, fA_vi_x18, fA_vn_x18, fA_vs_x18, V18⟩
theorem d4k0_0 : decode prog_25_method_6_code 0 = .ok (.aload_n 0, 1) := by decide +kernel
theorem d4k0_1 : decode prog_25_method_6_code 1 = .ok (.getfield 24, 3) := by decide +kernel
theorem d4k0_4 : decode prog_25_method_6_code 4 = .ok (.aload_n 0, 1) := by decide +kernel
theorem d4k0_5 : decode prog_25_method_6_code 5 = .ok (.getfield 9, 3) := by decide +kernel
theorem d4k0_8 : decode prog_25_method_6_code 8 = .ok (.arraylength, 1) := by decide +kernel
theorem d4k0_9 : decode prog_25_method_6_code 9 = .ok (.if_icmp .ne 58, 3) := by decide +kernel
theorem d4k0_67 : decode prog_25_method_6_code 67 = .ok (.aload_n 0, 1) := by decide +kernel
theorem d4k0_68 : decode prog_25_method_6_code 68 = .ok (.iload_n 1, 1) := by decide +kernel
theorem d4k0_69 : decode prog_25_method_6_code 69 = .ok (.iload_n 1, 1) := by decide +kernel
theorem d4k0_70 : decode prog_25_method_6_code 70 = .ok (.iconst 1, 1) := by decide +kernel
theorem d4k0_71 : decode prog_25_method_6_code 71 = .ok (.iadd, 1) := by decide +kernel
theorem d4k0_72 : decode prog_25_method_6_code 72 = .ok (.aload_n 0, 1) := by decide +kernel
theorem d4k0_73 : decode prog_25_method_6_code 73 = .ok (.getfield 24, 3) := by decide +kernel
theorem d4k0_76 : decode prog_25_method_6_code 76 = .ok (.iload_n 1, 1) := by decide +kernel
theorem d4k0_77 : decode prog_25_method_6_code 77 = .ok (.isub, 1) := by decide +kernel
theorem d4k0_78 : decode prog_25_method_6_code 78 = .ok (.invokevirtual 58, 3) := by decide +kernel
theorem d4k0_81 : decode prog_25_method_6_code 81 = .ok (.aload_n 0, 1) := by decide +kernel
theorem d4k0_82 : decode prog_25_method_6_code 82 = .ok (.dup, 1) := by decide +kernel
theorem d4k0_83 : decode prog_25_method_6_code 83 = .ok (.getfield 24, 3) := by decide +kernel
theorem d4k0_86 : decode prog_25_method_6_code 86 = .ok (.iconst 1, 1) := by decide +kernel
theorem d4k0_87 : decode prog_25_method_6_code 87 = .ok (.iadd, 1) := by decide +kernel
theorem d4k0_88 : decode prog_25_method_6_code 88 = .ok (.putfield 24, 3) := by decide +kernel
theorem d4k0_91 : decode prog_25_method_6_code 91 = .ok (.aload_n 0, 1) := by decide +kernel
theorem d4k0_92 : decode prog_25_method_6_code 92 = .ok (.getfield 9, 3) := by decide +kernel
theorem d4k0_95 : decode prog_25_method_6_code 95 = .ok (.iload_n 1, 1) := by decide +kernel
theorem d4k0_96 : decode prog_25_method_6_code 96 = .ok (.iload_n 2, 1) := by decide +kernel
theorem d4k0_97 : decode prog_25_method_6_code 97 = .ok (.iastore, 1) := by decide +kernel
theorem d4k0_98 : decode prog_25_method_6_code 98 = .ok (.aload_n 0, 1) := by decide +kernel
theorem d4k0_99 : decode prog_25_method_6_code 99 = .ok (.getfield 13, 3) := by decide +kernel
theorem d4k0_102 : decode prog_25_method_6_code 102 = .ok (.iload_n 1, 1) := by decide +kernel
theorem d4k0_103 : decode prog_25_method_6_code 103 = .ok (.lconst 0, 1) := by decide +kernel
theorem d4k0_104 : decode prog_25_method_6_code 104 = .ok (.lastore, 1) := by decide +kernel
theorem d4k0_105 : decode prog_25_method_6_code 105 = .ok (.aload_n 0, 1) := by decide +kernel
theorem d4k0_106 : decode prog_25_method_6_code 106 = .ok (.getfield 17, 3) := by decide +kernel
theorem d4k0_109 : decode prog_25_method_6_code 109 = .ok (.iload_n 1, 1) := by decide +kernel
theorem d4k0_110 : decode prog_25_method_6_code 110 = .ok (.lconst 0, 1) := by decide +kernel
theorem d4k0_111 : decode prog_25_method_6_code 111 = .ok (.lastore, 1) := by decide +kernel
theorem d4k0_112 : decode prog_25_method_6_code 112 = .ok (.aload_n 0, 1) := by decide +kernel
theorem d4k0_113 : decode prog_25_method_6_code 113 = .ok (.getfield 20, 3) := by decide +kernel
theorem d4k0_116 : decode prog_25_method_6_code 116 = .ok (.iload_n 1, 1) := by decide +kernel
theorem d4k0_117 : decode prog_25_method_6_code 117 = .ok (.iconst 0, 1) := by decide +kernel
theorem d4k0_118 : decode prog_25_method_6_code 118 = .ok (.bastore, 1) := by decide +kernel
theorem d4k0_119 : decode prog_25_method_6_code 119 = .ok (.return_, 1) := by decide +kernel
theorem pn_4k0 : plainName "com/example/atoll/atoll/detect/HeldOrigins" = true := by first | (simp [plainName, overriddenIn]; done) | decide +kernel
theorem pd_4k0_0 : parseMethodDescriptor "(III)V" = some ⟨[.int, .int, .int], none⟩ := by decide +kernel
theorem ef_4k0 (m : MethodId) (x0 : Addr) (x1 : Int32) (x2 : Int32) : entryFrame m #[(.ref x0), (.int x1), (.int x2)] 4 = mkF m 0 #[.val (.ref x0), .val (.int x1), .val (.int x2), .unset] [] := by first | (simp [entryFrame, mkF, argsToLocals, Value.category]; done) | rfl
def Q4k0 (Z : State) (a1 : Addr) (p3 : Int32) (vi : Addr) (vn : Addr) (vs : Addr) (vm : Addr) (gi : Nat → Int32) (gn : Nat → Int64) (gs : Nat → Int64) (gm : Nat → Int32) (h0 : Heap) (n0 : Nat) (v : Option Value) (h : Heap) (L : List Loc) : Prop := v = none ∧ Fr n0 L ∧ Keep h0 h [a1, vi, vn, vs, vm] ∧ own_H Z h a1 vi vn vs vm (1 : Int32) ∧ own_Arr Z h vi .int (16 : Int32) (fun i => Value.int ((own_put gi (0 : Int32) p3) i)) ∧ own_Arr Z h vn .long (16 : Int32) (fun i => Value.long ((own_putJ gn (0 : Int32) (0 : Int64)) i)) ∧ own_Arr Z h vs .long (16 : Int32) (fun i => Value.long ((own_putJ gs (0 : Int32) (0 : Int64)) i)) ∧ own_Arr Z h vm .byte (16 : Int32) (fun i => Value.int ((own_put gm (0 : Int32) (0 : Int32)) i))
set_option maxRecDepth 65536 in
set_option maxHeartbeats 40000000 in
theorem rm4k0 (l : Launch) (Z : State) (a0 : Array Value) (hw : ∀ d ∈ tables_1, d.before a0 Z = true) (ws : List Jvm.Cond) (a1 : Addr) (p3 : Int32) (vi : Addr) (vn : Addr) (vs : Addr) (vm : Addr) (gi : Nat → Int32) (gn : Nat → Int64) (gs : Nat → Int64) (gm : Nat → Int32) (h0 : Heap) (n0 : Nat) (Z0 : n0 ≤ h0.size) (O_a1 : own_H Z h0 a1 vi vn vs vm (0 : Int32)) (V_vi : own_Arr Z h0 vi .int (16 : Int32) (fun i => Value.int (gi i))) (V_vn : own_Arr Z h0 vn .long (16 : Int32) (fun i => Value.long (gn i))) (V_vs : own_Arr Z h0 vs .long (16 : Int32) (fun i => Value.long (gs i))) (V_vm : own_Arr Z h0 vm .byte (16 : Int32) (fun i => Value.int (gm i))) (ne_a1_vi : a1 ≠ vi) (ne_a1_vn : a1 ≠ vn) (ne_a1_vs : a1 ≠ vs) (ne_a1_vm : a1 ≠ vm) (ne_vi_vn : vi ≠ vn) (ne_vi_vs : vi ≠ vs) (ne_vi_vm : vi ≠ vm) (ne_vn_vs : vn ≠ vs) (ne_vn_vm : vn ≠ vm) (ne_vs_vm : vs ≠ vm) (g_a1 : n0 ≤ a1) (g_vi : n0 ≤ vi) (g_vn : n0 ≤ vn) (g_vs : n0 ≤ vs) (g_vm : n0 ≤ vm) (hfb : ∀ i, fits .byte (.int (gm i)) = true) :
    MetFree l (⟨"com/example/atoll/atoll/detect/HeldOrigins", "add", "(II)V"⟩ : MethodName) (head1 (Jvm.Cond.code (⟨"com/example/atoll/atoll/detect/HeldOrigins", "add", "(II)V"⟩ : MethodName) prog_25_method_6_code 4 none :: ws) ({ frames := 2, cells := 0, slots := 0, locals := 33 } : Room)) (fun a U => a = #[(.ref a1), (.int (0 : Int32)), (.int p3)] ∧ Z.Warmed39 U.vm ∧ U.heap = h0) (fun _ _ _ _ _ => True) (fun _ U o U' => ∃ v L, o = .returned v ∧ Q4k0 Z a1 p3 vi vn vs vm gi gn gs gm h0 n0 v U'.heap L ∧ FrameEnd U o U' L ({ frames := 2, cells := 0, slots := 0, locals := 33 } : Room).cells ({ frames := 2, cells := 0, slots := 0, locals := 33 } : Room).slots) := by
  refine MetFree.of_bodySF (plainFor_of_name pn_4k0) hisR ?_
  intro p e s m args below meth c s₁ Bd hml0 hP hK
  obtain ⟨rfl, hZ, hh⟩ := hP
  have hx := Bd.exec
  have hby := Bd.bytes
  have hml : c.maxLocals = 4 := hml0
  have hown : s.vm.findClass "com/example/atoll/atoll/detect/HeldOrigins" = some m.cls := findClass_of_methodNamed Bd.named
  have hnm := (name_of_methodNamed Bd.named Bd.method).1
  have X0 : Stand p l e ({ frames := 2, cells := 0, slots := 0, locals := 33 } : Room) s m #[(.ref a1), (.int (0 : Int32)), (.int p3)] below meth c s₁ [] 0 0 := Stand.of_body Bd
  have e0 : s₁.heap = h0 := by rw [← hh, Bd.state]; rfl
  have N0 := Fr.nil n0
  show own_End p e below s (s₁.setTop (entryFrame m #[(.ref a1), (.int (0 : Int32)), (.int p3)] 4)) (Q4k0 Z a1 p3 vi vn vs vm gi gn gs gm h0 n0) ({ frames := 2, cells := 0, slots := 0, locals := 33 } : Room).cells ({ frames := 2, cells := 0, slots := 0, locals := 33 } : Room).slots
  obtain ⟨E_a1_1, F_ids_a1_2, F_newest_a1_3, F_state_a1_4, F_mismatches_a1_5, F_size_a1_6⟩ := O_a1
  refine own_pre (A := s₁.setTop (mkF m 0 #[.val (.ref a1), .val (.int (0 : Int32)), .val (.int p3), .unset] [])) (fun tt kt => castTop (ef_4k0 m a1 (0 : Int32) p3) kt) ?_
  show own_End p e below s (s₁.setTop (mkF m 0 #[.val (.ref a1), .val (.int (0 : Int32)), .val (.int p3), .unset] [])) (Q4k0 Z a1 p3 vi vn vs vm gi gn gs gm h0 n0) ({ frames := 2, cells := 0, slots := 0, locals := 33 } : Room).cells ({ frames := 2, cells := 0, slots := 0, locals := 33 } : Room).slots
  obtain ⟨T7, X7, e7, st7⟩ := getF X0 hx hZ hown (host := "") (Or.inl (hw _ (List.mem_of_getElem? (i := 42) rfl))) Via.refl e0 F_size_a1_6 (g := (mkF m 1 #[.val (.ref a1), .val (.int (0 : Int32)), .val (.int p3), .unset] [(.ref a1)])) rfl rfl (hb hby d4k0_1)
  obtain ⟨T8, X8, e8, st8⟩ := getF X7 hx hZ hown (host := "") (Or.inl (hw _ (List.mem_of_getElem? (i := 12) rfl))) Via.refl e7 F_ids_a1_2 (g := (mkF m 5 #[.val (.ref a1), .val (.int (0 : Int32)), .val (.int p3), .unset] [(.ref a1), (.int (0 : Int32))])) rfl rfl (hb hby d4k0_5)
  obtain ⟨cl9, Ar9, S9, Nn9, G9⟩ := id V_vi
  obtain ⟨T10, X10, e10, st10⟩ := getF X8 hx hZ hown (host := "") (Or.inl (hw _ (List.mem_of_getElem? (i := 42) rfl))) Via.refl e8 F_size_a1_6 (g := (mkF m 73 #[.val (.ref a1), .val (.int (0 : Int32)), .val (.int p3), .unset] [(.ref a1), (.int (1 : Int32)), (.int (0 : Int32)), (.ref a1)])) rfl rfl (hb hby d4k0_73)
  obtain ⟨cq11, q11, q11'⟩ := (E_a1_1).cell
  obtain ⟨_, _, ⟨T11, L11, k11, n11⟩, -, X11, ⟨Lc11, hQ11, l11, y11, z11⟩, st11⟩ := X10.privateBack hx (y := (⟨"com/example/atoll/atoll/detect/HeldOrigins", "move", "(III)V"⟩ : MethodName)) hown (mvT hZ (hw _ (List.mem_of_getElem? (i := 44) rfl))) (mvT hZ (hw _ (List.mem_of_getElem? (i := 45) rfl))) (own_selPriv hZ (hw _ (List.mem_of_getElem? (i := 3) rfl)) (hw _ (List.mem_of_getElem? (i := 45) rfl)) (hw _ (List.mem_of_getElem? (i := 46) rfl)) (by decide)) (Cond.privateMethod_at (mvP hZ (hw _ (List.mem_of_getElem? (i := 46) rfl)) (args := #[]))) (mvT hZ (hw _ (List.mem_of_getElem? (i := 47) rfl))) (by decide) (backOf (W := 0) (rm5 l Z a0 hw [] a1 (0 : Int32) (1 : Int32) vi vn vs vm (0 : Int32) gi gn gs gm h0 n0 Z0 ⟨E_a1_1, F_ids_a1_2, F_newest_a1_3, F_state_a1_4, F_mismatches_a1_5, F_size_a1_6⟩ V_vi V_vn V_vs V_vm ne_a1_vi ne_a1_vn ne_a1_vs ne_a1_vm ne_vi_vn ne_vi_vs ne_vi_vm ne_vn_vs ne_vn_vm ne_vs_vm g_vi g_vn g_vs g_vm (by decide) (by decide) (by decide) (by decide) hfb) hZ (hw _ (List.mem_of_getElem? (i := 47) rfl)) (hw _ (List.mem_of_getElem? (i := 4) rfl)) (by decide) (by decide)) (g := (mkF m 78 #[.val (.ref a1), .val (.int (0 : Int32)), .val (.int p3), .unset] [(.int (0 : Int32)), (.int (1 : Int32)), (.int (0 : Int32)), (.ref a1)])) rfl (by rw [hml]; rfl) (Steps.refl _) (a := a1) (by rw [e10]; exact q11) q11' (argsL := [(.int (0 : Int32)), (.int (1 : Int32)), (.int (0 : Int32))]) (rest := []) (lenOf pd_4k0_0 rfl) rfl (by show 2 * 0 + _ ≤ _; exact Nat.le_of_eq rfl) (hb hby d4k0_78) (fun _ _ => ⟨rfl, e10, (by decide : 0 + 0 ≤ _), (by decide : 0 + 0 ≤ _)⟩)
  dsimp only [Pt.U, Pt.locs, Pt.cells, Pt.slots] at X11 l11 y11 z11 st11 hQ11
  subst l11 y11 z11
  obtain ⟨rfl, N11q, Kq11, V11_0, V11_1, V11_2, V11_3⟩ := hQ11
  have N11 := Fr.app N0 N11q
  have fE_a1_x11 := (E_a1_1.keep Kq11)
  have fF_a1_ids_x11 := (F_ids_a1_2.keep Kq11 (ninS ne_a1_vi (ninS ne_a1_vn (ninS ne_a1_vs (ninS ne_a1_vm nin0)))))
  have fF_a1_newest_x11 := (F_newest_a1_3.keep Kq11 (ninS ne_a1_vi (ninS ne_a1_vn (ninS ne_a1_vs (ninS ne_a1_vm nin0)))))
  have fF_a1_state_x11 := (F_state_a1_4.keep Kq11 (ninS ne_a1_vi (ninS ne_a1_vn (ninS ne_a1_vs (ninS ne_a1_vm nin0)))))
  have fF_a1_mismatches_x11 := (F_mismatches_a1_5.keep Kq11 (ninS ne_a1_vi (ninS ne_a1_vn (ninS ne_a1_vs (ninS ne_a1_vm nin0)))))
  have fF_a1_size_x11 := (F_size_a1_6.keep Kq11 (ninS ne_a1_vi (ninS ne_a1_vn (ninS ne_a1_vs (ninS ne_a1_vm nin0)))))
  have K11 : Keep h0 T11.heap [a1, vi, vn, vs, vm] := Keep.trans (Keep.refl h0 _) Kq11 (allS (Or.inl (List.mem_of_getElem? (i := 1) rfl)) (allS (Or.inl (List.mem_of_getElem? (i := 2) rfl)) (allS (Or.inl (List.mem_of_getElem? (i := 3) rfl)) (allS (Or.inl (List.mem_of_getElem? (i := 4) rfl)) all0))))
  have Z11 : n0 ≤ T11.heap.size := Nat.le_trans Z0 Kq11.1
  obtain ⟨T12, X12, e12, st12⟩ := getF X11 hx hZ hown (host := "") (Or.inl (hw _ (List.mem_of_getElem? (i := 42) rfl))) Via.refl rfl fF_a1_size_x11 (g := (mkF m 83 #[.val (.ref a1), .val (.int (0 : Int32)), .val (.int p3), .unset] [(.ref a1), (.ref a1)])) rfl rfl (hb hby d4k0_83)
  obtain ⟨T13, h13, X13, e13, W13, st13⟩ := putF X12 hx hZ hown (host := "") (Or.inl (hw _ (List.mem_of_getElem? (i := 42) rfl))) Via.refl e12 fF_a1_size_x11 fE_a1_x11 (Or.inl (hw _ (List.mem_of_getElem? (i := 43) rfl))) (hw _ (List.mem_of_getElem? (i := 3) rfl)) (ty := .int) (by decide) rfl rfl (g := (mkF m 88 #[.val (.ref a1), .val (.int (0 : Int32)), .val (.int p3), .unset] [(.int (1 : Int32)), (.ref a1)])) rfl rfl (hb hby d4k0_88)
  have Fw13 := Fld.same W13 fF_a1_size_x11
  have fE_a1_x13 := (fE_a1_x11.wr W13)
  have fF_a1_ids_x13 := (Fld.other W13 fF_a1_ids_x11 (Or.inr (slot_ne (Or.inl (hw _ (List.mem_of_getElem? (i := 13) rfl))) (Or.inl (hw _ (List.mem_of_getElem? (i := 43) rfl))) (by decide) (t := (.array .int)) (t' := .int) (by decide) (by decide))))
  have fF_a1_newest_x13 := (Fld.other W13 fF_a1_newest_x11 (Or.inr (slot_ne (Or.inl (hw _ (List.mem_of_getElem? (i := 16) rfl))) (Or.inl (hw _ (List.mem_of_getElem? (i := 43) rfl))) (by decide) (t := (.array .long)) (t' := .int) (by decide) (by decide))))
  have fF_a1_state_x13 := (Fld.other W13 fF_a1_state_x11 (Or.inr (slot_ne (Or.inl (hw _ (List.mem_of_getElem? (i := 18) rfl))) (Or.inl (hw _ (List.mem_of_getElem? (i := 43) rfl))) (by decide) (t := (.array .long)) (t' := .int) (by decide) (by decide))))
  have fF_a1_mismatches_x13 := (Fld.other W13 fF_a1_mismatches_x11 (Or.inr (slot_ne (Or.inl (hw _ (List.mem_of_getElem? (i := 21) rfl))) (Or.inl (hw _ (List.mem_of_getElem? (i := 43) rfl))) (by decide) (t := (.array .byte)) (t' := .int) (by decide) (by decide))))
  have fA_vi_x13 := (V11_0.other W13 (Ne.symm ne_a1_vi))
  have fA_vn_x13 := (V11_1.other W13 (Ne.symm ne_a1_vn))
  have fA_vs_x13 := (V11_2.other W13 (Ne.symm ne_a1_vs))
  have fA_vm_x13 := (V11_3.other W13 (Ne.symm ne_a1_vm))
  have N13 := Fr.snoc X13 N11 g_a1
  have K13 : Keep h0 h13 [a1, vi, vn, vs, vm] := Keep.wr K11 W13 (Or.inl (List.mem_of_getElem? (i := 0) rfl))
  have Z13 : n0 ≤ h13.size := Nat.le_trans Z11 (Nat.le_of_eq W13.size.symm)
  obtain ⟨T14, X14, e14, st14⟩ := getF X13 hx hZ hown (host := "") (Or.inl (hw _ (List.mem_of_getElem? (i := 12) rfl))) Via.refl e13 fF_a1_ids_x13 (g := (mkF m 92 #[.val (.ref a1), .val (.int (0 : Int32)), .val (.int p3), .unset] [(.ref a1)])) rfl rfl (hb hby d4k0_92)
  obtain ⟨cl15, Ar15, S15, Nn15, G15⟩ := id fA_vi_x13
  have hin15 : ¬ ((0 : Int32) < 0 ∨ cl15.slots.size ≤ (0 : Int32).toNatClampNeg) := inb_of S15 (⟨by decide, by decide⟩ : ¬ (0 : Int32) < 0 ∧ (0 : Int32) < (16 : Int32))
  obtain ⟨T16, h16, X16, e16, W16, st16⟩ := stI X14 hx hZ e14 Ar15 (j := (0 : Int32)) hin15 (g := (mkF m 97 #[.val (.ref a1), .val (.int (0 : Int32)), .val (.int p3), .unset] [(.int p3), (.int (0 : Int32)), (.ref vi)])) rfl rfl (hb hby d4k0_97)
  have fE_a1_x16 := (fE_a1_x13.wr W16)
  have fF_a1_ids_x16 := (Fld.other W16 fF_a1_ids_x13 (Or.inl ne_a1_vi))
  have fF_a1_newest_x16 := (Fld.other W16 fF_a1_newest_x13 (Or.inl ne_a1_vi))
  have fF_a1_state_x16 := (Fld.other W16 fF_a1_state_x13 (Or.inl ne_a1_vi))
  have fF_a1_mismatches_x16 := (Fld.other W16 fF_a1_mismatches_x13 (Or.inl ne_a1_vi))
  have fF_a1_size_x16 := (Fld.other W16 Fw13 (Or.inl ne_a1_vi))
  have fA_vn_x16 := (fA_vn_x13.other W16 (Ne.symm ne_vi_vn))
  have fA_vs_x16 := (fA_vs_x13.other W16 (Ne.symm ne_vi_vs))
  have fA_vm_x16 := (fA_vm_x13.other W16 (Ne.symm ne_vi_vm))
  have V16 : own_Arr Z h16 vi .int (16 : Int32) (fun i => Value.int ((own_put gi (0 : Int32) p3) i)) := own_Arr.set (w := Value.int) (g := gi) (x := p3) fA_vi_x13 W16 rfl (fun i => rfl)
  have N16 := Fr.snoc X16 N13 g_vi
  have K16 : Keep h0 h16 [a1, vi, vn, vs, vm] := Keep.wr K13 W16 (Or.inl (List.mem_of_getElem? (i := 1) rfl))
  have Z16 : n0 ≤ h16.size := Nat.le_trans Z13 (Nat.le_of_eq W16.size.symm)
  obtain ⟨T17, X17, e17, st17⟩ := getF X16 hx hZ hown (host := "") (Or.inl (hw _ (List.mem_of_getElem? (i := 15) rfl))) Via.refl e16 fF_a1_newest_x16 (g := (mkF m 99 #[.val (.ref a1), .val (.int (0 : Int32)), .val (.int p3), .unset] [(.ref a1)])) rfl rfl (hb hby d4k0_99)
  obtain ⟨cl18, Ar18, S18, Nn18, G18⟩ := id fA_vn_x16
  have hin18 : ¬ ((0 : Int32) < 0 ∨ cl18.slots.size ≤ (0 : Int32).toNatClampNeg) := inb_of S18 (⟨by decide, by decide⟩ : ¬ (0 : Int32) < 0 ∧ (0 : Int32) < (16 : Int32))
  obtain ⟨T19, h19, X19, e19, W19, st19⟩ := stJ X17 hx hZ e17 Ar18 (j := (0 : Int32)) hin18 (g := (mkF m 104 #[.val (.ref a1), .val (.int (0 : Int32)), .val (.int p3), .unset] [(.long (0 : Int64)), (.int (0 : Int32)), (.ref vn)])) rfl rfl (hb hby d4k0_104)
  have fE_a1_x19 := (fE_a1_x16.wr W19)
  have fF_a1_ids_x19 := (Fld.other W19 fF_a1_ids_x16 (Or.inl ne_a1_vn))
  have fF_a1_newest_x19 := (Fld.other W19 fF_a1_newest_x16 (Or.inl ne_a1_vn))
  have fF_a1_state_x19 := (Fld.other W19 fF_a1_state_x16 (Or.inl ne_a1_vn))
  have fF_a1_mismatches_x19 := (Fld.other W19 fF_a1_mismatches_x16 (Or.inl ne_a1_vn))
  have fF_a1_size_x19 := (Fld.other W19 fF_a1_size_x16 (Or.inl ne_a1_vn))
  have fA_vi_x19 := (V16.other W19 ne_vi_vn)
  have fA_vs_x19 := (fA_vs_x16.other W19 (Ne.symm ne_vn_vs))
  have fA_vm_x19 := (fA_vm_x16.other W19 (Ne.symm ne_vn_vm))
  have V19 : own_Arr Z h19 vn .long (16 : Int32) (fun i => Value.long ((own_putJ gn (0 : Int32) (0 : Int64)) i)) := own_Arr.set (w := Value.long) (g := gn) (x := (0 : Int64)) fA_vn_x16 W19 rfl (fun i => rfl)
  have N19 := Fr.snoc X19 N16 g_vn
  have K19 : Keep h0 h19 [a1, vi, vn, vs, vm] := Keep.wr K16 W19 (Or.inl (List.mem_of_getElem? (i := 2) rfl))
  have Z19 : n0 ≤ h19.size := Nat.le_trans Z16 (Nat.le_of_eq W19.size.symm)
  obtain ⟨T20, X20, e20, st20⟩ := getF X19 hx hZ hown (host := "") (Or.inl (hw _ (List.mem_of_getElem? (i := 17) rfl))) Via.refl e19 fF_a1_state_x19 (g := (mkF m 106 #[.val (.ref a1), .val (.int (0 : Int32)), .val (.int p3), .unset] [(.ref a1)])) rfl rfl (hb hby d4k0_106)
  obtain ⟨cl21, Ar21, S21, Nn21, G21⟩ := id fA_vs_x19
  have hin21 : ¬ ((0 : Int32) < 0 ∨ cl21.slots.size ≤ (0 : Int32).toNatClampNeg) := inb_of S21 (⟨by decide, by decide⟩ : ¬ (0 : Int32) < 0 ∧ (0 : Int32) < (16 : Int32))
  obtain ⟨T22, h22, X22, e22, W22, st22⟩ := stJ X20 hx hZ e20 Ar21 (j := (0 : Int32)) hin21 (g := (mkF m 111 #[.val (.ref a1), .val (.int (0 : Int32)), .val (.int p3), .unset] [(.long (0 : Int64)), (.int (0 : Int32)), (.ref vs)])) rfl rfl (hb hby d4k0_111)
  have fE_a1_x22 := (fE_a1_x19.wr W22)
  have fF_a1_ids_x22 := (Fld.other W22 fF_a1_ids_x19 (Or.inl ne_a1_vs))
  have fF_a1_newest_x22 := (Fld.other W22 fF_a1_newest_x19 (Or.inl ne_a1_vs))
  have fF_a1_state_x22 := (Fld.other W22 fF_a1_state_x19 (Or.inl ne_a1_vs))
  have fF_a1_mismatches_x22 := (Fld.other W22 fF_a1_mismatches_x19 (Or.inl ne_a1_vs))
  have fF_a1_size_x22 := (Fld.other W22 fF_a1_size_x19 (Or.inl ne_a1_vs))
  have fA_vi_x22 := (fA_vi_x19.other W22 ne_vi_vs)
  have fA_vn_x22 := (V19.other W22 ne_vn_vs)
  have fA_vm_x22 := (fA_vm_x19.other W22 (Ne.symm ne_vs_vm))
  have V22 : own_Arr Z h22 vs .long (16 : Int32) (fun i => Value.long ((own_putJ gs (0 : Int32) (0 : Int64)) i)) := own_Arr.set (w := Value.long) (g := gs) (x := (0 : Int64)) fA_vs_x19 W22 rfl (fun i => rfl)
  have N22 := Fr.snoc X22 N19 g_vs
  have K22 : Keep h0 h22 [a1, vi, vn, vs, vm] := Keep.wr K19 W22 (Or.inl (List.mem_of_getElem? (i := 3) rfl))
  have Z22 : n0 ≤ h22.size := Nat.le_trans Z19 (Nat.le_of_eq W22.size.symm)
  obtain ⟨T23, X23, e23, st23⟩ := getF X22 hx hZ hown (host := "") (Or.inl (hw _ (List.mem_of_getElem? (i := 20) rfl))) Via.refl e22 fF_a1_mismatches_x22 (g := (mkF m 113 #[.val (.ref a1), .val (.int (0 : Int32)), .val (.int p3), .unset] [(.ref a1)])) rfl rfl (hb hby d4k0_113)
  obtain ⟨cl24, Ar24, S24, Nn24, G24⟩ := id fA_vm_x22
  have hin24 : ¬ ((0 : Int32) < 0 ∨ cl24.slots.size ≤ (0 : Int32).toNatClampNeg) := inb_of S24 (⟨by decide, by decide⟩ : ¬ (0 : Int32) < 0 ∧ (0 : Int32) < (16 : Int32))
  obtain ⟨T25, h25, X25, e25, W25, st25⟩ := stB X23 hx hZ e23 Ar24 (j := (0 : Int32)) hin24 (g := (mkF m 118 #[.val (.ref a1), .val (.int (0 : Int32)), .val (.int p3), .unset] [(.int (0 : Int32)), (.int (0 : Int32)), (.ref vm)])) rfl rfl (hb hby d4k0_118)
  have fE_a1_x25 := (fE_a1_x22.wr W25)
  have fF_a1_ids_x25 := (Fld.other W25 fF_a1_ids_x22 (Or.inl ne_a1_vm))
  have fF_a1_newest_x25 := (Fld.other W25 fF_a1_newest_x22 (Or.inl ne_a1_vm))
  have fF_a1_state_x25 := (Fld.other W25 fF_a1_state_x22 (Or.inl ne_a1_vm))
  have fF_a1_mismatches_x25 := (Fld.other W25 fF_a1_mismatches_x22 (Or.inl ne_a1_vm))
  have fF_a1_size_x25 := (Fld.other W25 fF_a1_size_x22 (Or.inl ne_a1_vm))
  have fA_vi_x25 := (fA_vi_x22.other W25 ne_vi_vm)
  have fA_vn_x25 := (fA_vn_x22.other W25 ne_vn_vm)
  have fA_vs_x25 := (V22.other W25 ne_vs_vm)
  have V25 : own_Arr Z h25 vm .byte (16 : Int32) (fun i => Value.int ((own_put gm (0 : Int32) (0 : Int32)) i)) := own_Arr.set (w := Value.int) (g := gm) (x := (0 : Int32)) fA_vm_x22 W25 rfl (fun i => rfl)
  have N25 := Fr.snoc X25 N22 g_vm
  have K25 : Keep h0 h25 [a1, vi, vn, vs, vm] := Keep.wr K22 W25 (Or.inl (List.mem_of_getElem? (i := 4) rfl))
  have Z25 : n0 ≤ h25.size := Nat.le_trans Z22 (Nat.le_of_eq W25.size.symm)
  refine own_pre (A := T25.setTop (mkF m 119 #[.val (.ref a1), .val (.int (0 : Int32)), .val (.int p3), .unset] [])) (fun tt kt => ?_) ?_
  · show Steps p.tables e below (s₁.setTop (mkF m 0 #[.val (.ref a1), .val (.int (0 : Int32)), .val (.int p3), .unset] [])) _
    refine XS.aloadN X0.here hx rfl (hb hby d4k0_0) rfl rfl ?_
    show Steps p.tables e below (s₁.setTop (mkF m 1 #[.val (.ref a1), .val (.int (0 : Int32)), .val (.int p3), .unset] [(.ref a1)])) _
    refine st7 _ ?_
    show Steps p.tables e below (T7.setTop (mkF m 4 #[.val (.ref a1), .val (.int (0 : Int32)), .val (.int p3), .unset] [(.int (0 : Int32))])) _
    refine XS.aloadN X7.here hx rfl (hb hby d4k0_4) rfl rfl ?_
    show Steps p.tables e below (T7.setTop (mkF m 5 #[.val (.ref a1), .val (.int (0 : Int32)), .val (.int p3), .unset] [(.ref a1), (.int (0 : Int32))])) _
    refine st8 _ ?_
    show Steps p.tables e below (T8.setTop (mkF m 8 #[.val (.ref a1), .val (.int (0 : Int32)), .val (.int p3), .unset] [(.ref vi), (.int (0 : Int32))])) _
    refine X8.arraylength hx (by rw [e8]; exact Ar9.1) (State.isArrayOf_alike hZ.alike Ar9.2.1) (g := (mkF m 8 #[.val (.ref a1), .val (.int (0 : Int32)), .val (.int p3), .unset] [(.ref vi), (.int (0 : Int32))])) rfl rfl (hb hby d4k0_8) _ ?_
    rw [len_of S9 Nn9]
    show Steps p.tables e below (T8.setTop (mkF m 9 #[.val (.ref a1), .val (.int (0 : Int32)), .val (.int p3), .unset] [(.int (16 : Int32)), (.int (0 : Int32))])) _
    refine XS.icmpYes X8.here hx rfl (pc0 := 9) (pc' := 67) rfl (hb hby d4k0_9) rfl (feq ((by decide) : ¬ ((0 : Int32) = (16 : Int32)))).2 (by decide) (by decide) ?_
    refine XS.aloadN X8.here hx rfl (hb hby d4k0_67) rfl rfl ?_
    refine XS.iloadN X8.here hx rfl (hb hby d4k0_68) rfl ?_
    refine XS.iloadN X8.here hx rfl (hb hby d4k0_69) rfl ?_
    show Steps p.tables e below (T8.setTop (mkF m 70 #[.val (.ref a1), .val (.int (0 : Int32)), .val (.int p3), .unset] [(.int (0 : Int32)), (.int (0 : Int32)), (.ref a1)])) _
    refine XS.iconst X8.here hx rfl (hb hby d4k0_70) ?_
    refine XS.iadd X8.here hx rfl (hb hby d4k0_71) rfl ?_
    refine XS.aloadN X8.here hx rfl (hb hby d4k0_72) rfl rfl ?_
    show Steps p.tables e below (T8.setTop (mkF m 73 #[.val (.ref a1), .val (.int (0 : Int32)), .val (.int p3), .unset] [(.ref a1), (.int (1 : Int32)), (.int (0 : Int32)), (.ref a1)])) _
    refine st10 _ ?_
    show Steps p.tables e below (T10.setTop (mkF m 76 #[.val (.ref a1), .val (.int (0 : Int32)), .val (.int p3), .unset] [(.int (0 : Int32)), (.int (1 : Int32)), (.int (0 : Int32)), (.ref a1)])) _
    refine XS.iloadN X10.here hx rfl (hb hby d4k0_76) rfl ?_
    refine XS.isub X10.here hx rfl (hb hby d4k0_77) rfl ?_
    show Steps p.tables e below (T10.setTop (mkF m 78 #[.val (.ref a1), .val (.int (0 : Int32)), .val (.int p3), .unset] [(.int (0 : Int32)), (.int (1 : Int32)), (.int (0 : Int32)), (.ref a1)])) _
    refine st11.trans ?_
    show Steps p.tables e below (T11.setTop (mkF m 81 #[.val (.ref a1), .val (.int (0 : Int32)), .val (.int p3), .unset] [])) _
    refine XS.aloadN X11.here hx rfl (hb hby d4k0_81) rfl rfl ?_
    refine XS.dup X11.here hx rfl (hb hby d4k0_82) rfl rfl ?_
    show Steps p.tables e below (T11.setTop (mkF m 83 #[.val (.ref a1), .val (.int (0 : Int32)), .val (.int p3), .unset] [(.ref a1), (.ref a1)])) _
    refine st12 _ ?_
    show Steps p.tables e below (T12.setTop (mkF m 86 #[.val (.ref a1), .val (.int (0 : Int32)), .val (.int p3), .unset] [(.int (0 : Int32)), (.ref a1)])) _
    refine XS.iconst X12.here hx rfl (hb hby d4k0_86) ?_
    refine XS.iadd X12.here hx rfl (hb hby d4k0_87) rfl ?_
    show Steps p.tables e below (T12.setTop (mkF m 88 #[.val (.ref a1), .val (.int (0 : Int32)), .val (.int p3), .unset] [(.int (1 : Int32)), (.ref a1)])) _
    refine st13 _ ?_
    show Steps p.tables e below (T13.setTop (mkF m 91 #[.val (.ref a1), .val (.int (0 : Int32)), .val (.int p3), .unset] [])) _
    refine XS.aloadN X13.here hx rfl (hb hby d4k0_91) rfl rfl ?_
    show Steps p.tables e below (T13.setTop (mkF m 92 #[.val (.ref a1), .val (.int (0 : Int32)), .val (.int p3), .unset] [(.ref a1)])) _
    refine st14 _ ?_
    show Steps p.tables e below (T14.setTop (mkF m 95 #[.val (.ref a1), .val (.int (0 : Int32)), .val (.int p3), .unset] [(.ref vi)])) _
    refine XS.iloadN X14.here hx rfl (hb hby d4k0_95) rfl ?_
    refine XS.iloadN X14.here hx rfl (hb hby d4k0_96) rfl ?_
    show Steps p.tables e below (T14.setTop (mkF m 97 #[.val (.ref a1), .val (.int (0 : Int32)), .val (.int p3), .unset] [(.int p3), (.int (0 : Int32)), (.ref vi)])) _
    refine st16 _ ?_
    show Steps p.tables e below (T16.setTop (mkF m 98 #[.val (.ref a1), .val (.int (0 : Int32)), .val (.int p3), .unset] [])) _
    refine XS.aloadN X16.here hx rfl (hb hby d4k0_98) rfl rfl ?_
    show Steps p.tables e below (T16.setTop (mkF m 99 #[.val (.ref a1), .val (.int (0 : Int32)), .val (.int p3), .unset] [(.ref a1)])) _
    refine st17 _ ?_
    show Steps p.tables e below (T17.setTop (mkF m 102 #[.val (.ref a1), .val (.int (0 : Int32)), .val (.int p3), .unset] [(.ref vn)])) _
    refine XS.iloadN X17.here hx rfl (hb hby d4k0_102) rfl ?_
    refine XS.lconst X17.here hx rfl (hb hby d4k0_103) ?_
    show Steps p.tables e below (T17.setTop (mkF m 104 #[.val (.ref a1), .val (.int (0 : Int32)), .val (.int p3), .unset] [(.long (0 : Int64)), (.int (0 : Int32)), (.ref vn)])) _
    refine st19 _ ?_
    show Steps p.tables e below (T19.setTop (mkF m 105 #[.val (.ref a1), .val (.int (0 : Int32)), .val (.int p3), .unset] [])) _
    refine XS.aloadN X19.here hx rfl (hb hby d4k0_105) rfl rfl ?_
    show Steps p.tables e below (T19.setTop (mkF m 106 #[.val (.ref a1), .val (.int (0 : Int32)), .val (.int p3), .unset] [(.ref a1)])) _
    refine st20 _ ?_
    show Steps p.tables e below (T20.setTop (mkF m 109 #[.val (.ref a1), .val (.int (0 : Int32)), .val (.int p3), .unset] [(.ref vs)])) _
    refine XS.iloadN X20.here hx rfl (hb hby d4k0_109) rfl ?_
    refine XS.lconst X20.here hx rfl (hb hby d4k0_110) ?_
    show Steps p.tables e below (T20.setTop (mkF m 111 #[.val (.ref a1), .val (.int (0 : Int32)), .val (.int p3), .unset] [(.long (0 : Int64)), (.int (0 : Int32)), (.ref vs)])) _
    refine st22 _ ?_
    show Steps p.tables e below (T22.setTop (mkF m 112 #[.val (.ref a1), .val (.int (0 : Int32)), .val (.int p3), .unset] [])) _
    refine XS.aloadN X22.here hx rfl (hb hby d4k0_112) rfl rfl ?_
    show Steps p.tables e below (T22.setTop (mkF m 113 #[.val (.ref a1), .val (.int (0 : Int32)), .val (.int p3), .unset] [(.ref a1)])) _
    refine st23 _ ?_
    show Steps p.tables e below (T23.setTop (mkF m 116 #[.val (.ref a1), .val (.int (0 : Int32)), .val (.int p3), .unset] [(.ref vm)])) _
    refine XS.iloadN X23.here hx rfl (hb hby d4k0_116) rfl ?_
    refine XS.iconst X23.here hx rfl (hb hby d4k0_117) ?_
    show Steps p.tables e below (T23.setTop (mkF m 118 #[.val (.ref a1), .val (.int (0 : Int32)), .val (.int p3), .unset] [(.int (0 : Int32)), (.int (0 : Int32)), (.ref vm)])) _
    refine st25 _ ?_
    exact kt
  show own_End p e below s (T25.setTop (mkF m 119 #[.val (.ref a1), .val (.int (0 : Int32)), .val (.int p3), .unset] [])) (Q4k0 Z a1 p3 vi vn vs vm gi gn gs gm h0 n0) ({ frames := 2, cells := 0, slots := 0, locals := 33 } : Room).cells ({ frames := 2, cells := 0, slots := 0, locals := 33 } : Room).slots
  obtain ⟨fs, hr, hrun, hended, hW, hsame⟩ := X25.leave (v := none) (fun _ => rfl)
  refine ⟨_, _, ?_, hrun, hended, _, _, rfl, ?_, ⟨_, rfl⟩, hW, hsame.mono (by decide) (by decide)⟩
  · exact X25.returnOut hx Bd.returns (hb hby d4k0_119) hr
  · show Q4k0 Z a1 p3 vi vn vs vm gi gn gs gm h0 n0 _ T25.heap _
    rw [e25]
    exact ⟨rfl, N25, K25, ⟨fE_a1_x25, fF_a1_ids_x25, fF_a1_newest_x25, fF_a1_state_x25, fF_a1_mismatches_x25, fF_a1_size_x25⟩, fA_vi_x25, fA_vn_x25, fA_vs_x25, V25⟩
theorem d4k1_0 : decode prog_25_method_6_code 0 = .ok (.aload_n 0, 1) := by decide +kernel
theorem d4k1_1 : decode prog_25_method_6_code 1 = .ok (.getfield 24, 3) := by decide +kernel
theorem d4k1_4 : decode prog_25_method_6_code 4 = .ok (.aload_n 0, 1) := by decide +kernel
theorem d4k1_5 : decode prog_25_method_6_code 5 = .ok (.getfield 9, 3) := by decide +kernel
theorem d4k1_8 : decode prog_25_method_6_code 8 = .ok (.arraylength, 1) := by decide +kernel
theorem d4k1_9 : decode prog_25_method_6_code 9 = .ok (.if_icmp .ne 58, 3) := by decide +kernel
theorem d4k1_67 : decode prog_25_method_6_code 67 = .ok (.aload_n 0, 1) := by decide +kernel
theorem d4k1_68 : decode prog_25_method_6_code 68 = .ok (.iload_n 1, 1) := by decide +kernel
theorem d4k1_69 : decode prog_25_method_6_code 69 = .ok (.iload_n 1, 1) := by decide +kernel
theorem d4k1_70 : decode prog_25_method_6_code 70 = .ok (.iconst 1, 1) := by decide +kernel
theorem d4k1_71 : decode prog_25_method_6_code 71 = .ok (.iadd, 1) := by decide +kernel
theorem d4k1_72 : decode prog_25_method_6_code 72 = .ok (.aload_n 0, 1) := by decide +kernel
theorem d4k1_73 : decode prog_25_method_6_code 73 = .ok (.getfield 24, 3) := by decide +kernel
theorem d4k1_76 : decode prog_25_method_6_code 76 = .ok (.iload_n 1, 1) := by decide +kernel
theorem d4k1_77 : decode prog_25_method_6_code 77 = .ok (.isub, 1) := by decide +kernel
theorem d4k1_78 : decode prog_25_method_6_code 78 = .ok (.invokevirtual 58, 3) := by decide +kernel
theorem d4k1_81 : decode prog_25_method_6_code 81 = .ok (.aload_n 0, 1) := by decide +kernel
theorem d4k1_82 : decode prog_25_method_6_code 82 = .ok (.dup, 1) := by decide +kernel
theorem d4k1_83 : decode prog_25_method_6_code 83 = .ok (.getfield 24, 3) := by decide +kernel
theorem d4k1_86 : decode prog_25_method_6_code 86 = .ok (.iconst 1, 1) := by decide +kernel
theorem d4k1_87 : decode prog_25_method_6_code 87 = .ok (.iadd, 1) := by decide +kernel
theorem d4k1_88 : decode prog_25_method_6_code 88 = .ok (.putfield 24, 3) := by decide +kernel
theorem d4k1_91 : decode prog_25_method_6_code 91 = .ok (.aload_n 0, 1) := by decide +kernel
theorem d4k1_92 : decode prog_25_method_6_code 92 = .ok (.getfield 9, 3) := by decide +kernel
theorem d4k1_95 : decode prog_25_method_6_code 95 = .ok (.iload_n 1, 1) := by decide +kernel
theorem d4k1_96 : decode prog_25_method_6_code 96 = .ok (.iload_n 2, 1) := by decide +kernel
theorem d4k1_97 : decode prog_25_method_6_code 97 = .ok (.iastore, 1) := by decide +kernel
theorem d4k1_98 : decode prog_25_method_6_code 98 = .ok (.aload_n 0, 1) := by decide +kernel
theorem d4k1_99 : decode prog_25_method_6_code 99 = .ok (.getfield 13, 3) := by decide +kernel
theorem d4k1_102 : decode prog_25_method_6_code 102 = .ok (.iload_n 1, 1) := by decide +kernel
theorem d4k1_103 : decode prog_25_method_6_code 103 = .ok (.lconst 0, 1) := by decide +kernel
theorem d4k1_104 : decode prog_25_method_6_code 104 = .ok (.lastore, 1) := by decide +kernel
theorem d4k1_105 : decode prog_25_method_6_code 105 = .ok (.aload_n 0, 1) := by decide +kernel
theorem d4k1_106 : decode prog_25_method_6_code 106 = .ok (.getfield 17, 3) := by decide +kernel
theorem d4k1_109 : decode prog_25_method_6_code 109 = .ok (.iload_n 1, 1) := by decide +kernel
theorem d4k1_110 : decode prog_25_method_6_code 110 = .ok (.lconst 0, 1) := by decide +kernel
theorem d4k1_111 : decode prog_25_method_6_code 111 = .ok (.lastore, 1) := by decide +kernel
theorem d4k1_112 : decode prog_25_method_6_code 112 = .ok (.aload_n 0, 1) := by decide +kernel
theorem d4k1_113 : decode prog_25_method_6_code 113 = .ok (.getfield 20, 3) := by decide +kernel
theorem d4k1_116 : decode prog_25_method_6_code 116 = .ok (.iload_n 1, 1) := by decide +kernel
theorem d4k1_117 : decode prog_25_method_6_code 117 = .ok (.iconst 0, 1) := by decide +kernel
theorem d4k1_118 : decode prog_25_method_6_code 118 = .ok (.bastore, 1) := by decide +kernel
theorem d4k1_119 : decode prog_25_method_6_code 119 = .ok (.return_, 1) := by decide +kernel
theorem pn_4k1 : plainName "com/example/atoll/atoll/detect/HeldOrigins" = true := by first | (simp [plainName, overriddenIn]; done) | decide +kernel
theorem pd_4k1_0 : parseMethodDescriptor "(III)V" = some ⟨[.int, .int, .int], none⟩ := by decide +kernel
theorem ef_4k1 (m : MethodId) (x0 : Addr) (x1 : Int32) (x2 : Int32) : entryFrame m #[(.ref x0), (.int x1), (.int x2)] 4 = mkF m 0 #[.val (.ref x0), .val (.int x1), .val (.int x2), .unset] [] := by first | (simp [entryFrame, mkF, argsToLocals, Value.category]; done) | rfl
def Q4k1 (Z : State) (a1 : Addr) (p3 : Int32) (vi : Addr) (vn : Addr) (vs : Addr) (vm : Addr) (gi : Nat → Int32) (gn : Nat → Int64) (gs : Nat → Int64) (gm : Nat → Int32) (h0 : Heap) (n0 : Nat) (v : Option Value) (h : Heap) (L : List Loc) : Prop := v = none ∧ Fr n0 L ∧ Keep h0 h [a1, vi, vn, vs, vm] ∧ own_H Z h a1 vi vn vs vm (2 : Int32) ∧ own_Arr Z h vi .int (16 : Int32) (fun i => Value.int ((own_put gi (1 : Int32) p3) i)) ∧ own_Arr Z h vn .long (16 : Int32) (fun i => Value.long ((own_putJ gn (1 : Int32) (0 : Int64)) i)) ∧ own_Arr Z h vs .long (16 : Int32) (fun i => Value.long ((own_putJ gs (1 : Int32) (0 : Int64)) i)) ∧ own_Arr Z h vm .byte (16 : Int32) (fun i => Value.int ((own_put gm (1 : Int32) (0 : Int32)) i))
set_option maxRecDepth 65536 in
set_option maxHeartbeats 40000000 in
theorem rm4k1 (l : Launch) (Z : State) (a0 : Array Value) (hw : ∀ d ∈ tables_1, d.before a0 Z = true) (ws : List Jvm.Cond) (a1 : Addr) (p3 : Int32) (vi : Addr) (vn : Addr) (vs : Addr) (vm : Addr) (gi : Nat → Int32) (gn : Nat → Int64) (gs : Nat → Int64) (gm : Nat → Int32) (h0 : Heap) (n0 : Nat) (Z0 : n0 ≤ h0.size) (O_a1 : own_H Z h0 a1 vi vn vs vm (1 : Int32)) (V_vi : own_Arr Z h0 vi .int (16 : Int32) (fun i => Value.int (gi i))) (V_vn : own_Arr Z h0 vn .long (16 : Int32) (fun i => Value.long (gn i))) (V_vs : own_Arr Z h0 vs .long (16 : Int32) (fun i => Value.long (gs i))) (V_vm : own_Arr Z h0 vm .byte (16 : Int32) (fun i => Value.int (gm i))) (ne_a1_vi : a1 ≠ vi) (ne_a1_vn : a1 ≠ vn) (ne_a1_vs : a1 ≠ vs) (ne_a1_vm : a1 ≠ vm) (ne_vi_vn : vi ≠ vn) (ne_vi_vs : vi ≠ vs) (ne_vi_vm : vi ≠ vm) (ne_vn_vs : vn ≠ vs) (ne_vn_vm : vn ≠ vm) (ne_vs_vm : vs ≠ vm) (g_a1 : n0 ≤ a1) (g_vi : n0 ≤ vi) (g_vn : n0 ≤ vn) (g_vs : n0 ≤ vs) (g_vm : n0 ≤ vm) (hfb : ∀ i, fits .byte (.int (gm i)) = true) :
    MetFree l (⟨"com/example/atoll/atoll/detect/HeldOrigins", "add", "(II)V"⟩ : MethodName) (head1 (Jvm.Cond.code (⟨"com/example/atoll/atoll/detect/HeldOrigins", "add", "(II)V"⟩ : MethodName) prog_25_method_6_code 4 none :: ws) ({ frames := 2, cells := 0, slots := 0, locals := 33 } : Room)) (fun a U => a = #[(.ref a1), (.int (1 : Int32)), (.int p3)] ∧ Z.Warmed39 U.vm ∧ U.heap = h0) (fun _ _ _ _ _ => True) (fun _ U o U' => ∃ v L, o = .returned v ∧ Q4k1 Z a1 p3 vi vn vs vm gi gn gs gm h0 n0 v U'.heap L ∧ FrameEnd U o U' L ({ frames := 2, cells := 0, slots := 0, locals := 33 } : Room).cells ({ frames := 2, cells := 0, slots := 0, locals := 33 } : Room).slots) := by
  refine MetFree.of_bodySF (plainFor_of_name pn_4k1) hisR ?_
  intro p e s m args below meth c s₁ Bd hml0 hP hK
  obtain ⟨rfl, hZ, hh⟩ := hP
  have hx := Bd.exec
  have hby := Bd.bytes
  have hml : c.maxLocals = 4 := hml0
  have hown : s.vm.findClass "com/example/atoll/atoll/detect/HeldOrigins" = some m.cls := findClass_of_methodNamed Bd.named
  have hnm := (name_of_methodNamed Bd.named Bd.method).1
  have X0 : Stand p l e ({ frames := 2, cells := 0, slots := 0, locals := 33 } : Room) s m #[(.ref a1), (.int (1 : Int32)), (.int p3)] below meth c s₁ [] 0 0 := Stand.of_body Bd
  have e0 : s₁.heap = h0 := by rw [← hh, Bd.state]; rfl
  have N0 := Fr.nil n0
  show own_End p e below s (s₁.setTop (entryFrame m #[(.ref a1), (.int (1 : Int32)), (.int p3)] 4)) (Q4k1 Z a1 p3 vi vn vs vm gi gn gs gm h0 n0) ({ frames := 2, cells := 0, slots := 0, locals := 33 } : Room).cells ({ frames := 2, cells := 0, slots := 0, locals := 33 } : Room).slots
  obtain ⟨E_a1_1, F_ids_a1_2, F_newest_a1_3, F_state_a1_4, F_mismatches_a1_5, F_size_a1_6⟩ := O_a1
  refine own_pre (A := s₁.setTop (mkF m 0 #[.val (.ref a1), .val (.int (1 : Int32)), .val (.int p3), .unset] [])) (fun tt kt => castTop (ef_4k1 m a1 (1 : Int32) p3) kt) ?_
  show own_End p e below s (s₁.setTop (mkF m 0 #[.val (.ref a1), .val (.int (1 : Int32)), .val (.int p3), .unset] [])) (Q4k1 Z a1 p3 vi vn vs vm gi gn gs gm h0 n0) ({ frames := 2, cells := 0, slots := 0, locals := 33 } : Room).cells ({ frames := 2, cells := 0, slots := 0, locals := 33 } : Room).slots
  obtain ⟨T7, X7, e7, st7⟩ := getF X0 hx hZ hown (host := "") (Or.inl (hw _ (List.mem_of_getElem? (i := 42) rfl))) Via.refl e0 F_size_a1_6 (g := (mkF m 1 #[.val (.ref a1), .val (.int (1 : Int32)), .val (.int p3), .unset] [(.ref a1)])) rfl rfl (hb hby d4k1_1)
  obtain ⟨T8, X8, e8, st8⟩ := getF X7 hx hZ hown (host := "") (Or.inl (hw _ (List.mem_of_getElem? (i := 12) rfl))) Via.refl e7 F_ids_a1_2 (g := (mkF m 5 #[.val (.ref a1), .val (.int (1 : Int32)), .val (.int p3), .unset] [(.ref a1), (.int (1 : Int32))])) rfl rfl (hb hby d4k1_5)
  obtain ⟨cl9, Ar9, S9, Nn9, G9⟩ := id V_vi
  obtain ⟨T10, X10, e10, st10⟩ := getF X8 hx hZ hown (host := "") (Or.inl (hw _ (List.mem_of_getElem? (i := 42) rfl))) Via.refl e8 F_size_a1_6 (g := (mkF m 73 #[.val (.ref a1), .val (.int (1 : Int32)), .val (.int p3), .unset] [(.ref a1), (.int (2 : Int32)), (.int (1 : Int32)), (.ref a1)])) rfl rfl (hb hby d4k1_73)
  obtain ⟨cq11, q11, q11'⟩ := (E_a1_1).cell
  obtain ⟨_, _, ⟨T11, L11, k11, n11⟩, -, X11, ⟨Lc11, hQ11, l11, y11, z11⟩, st11⟩ := X10.privateBack hx (y := (⟨"com/example/atoll/atoll/detect/HeldOrigins", "move", "(III)V"⟩ : MethodName)) hown (mvT hZ (hw _ (List.mem_of_getElem? (i := 44) rfl))) (mvT hZ (hw _ (List.mem_of_getElem? (i := 45) rfl))) (own_selPriv hZ (hw _ (List.mem_of_getElem? (i := 3) rfl)) (hw _ (List.mem_of_getElem? (i := 45) rfl)) (hw _ (List.mem_of_getElem? (i := 46) rfl)) (by decide)) (Cond.privateMethod_at (mvP hZ (hw _ (List.mem_of_getElem? (i := 46) rfl)) (args := #[]))) (mvT hZ (hw _ (List.mem_of_getElem? (i := 47) rfl))) (by decide) (backOf (W := 0) (rm5 l Z a0 hw [] a1 (1 : Int32) (2 : Int32) vi vn vs vm (1 : Int32) gi gn gs gm h0 n0 Z0 ⟨E_a1_1, F_ids_a1_2, F_newest_a1_3, F_state_a1_4, F_mismatches_a1_5, F_size_a1_6⟩ V_vi V_vn V_vs V_vm ne_a1_vi ne_a1_vn ne_a1_vs ne_a1_vm ne_vi_vn ne_vi_vs ne_vi_vm ne_vn_vs ne_vn_vm ne_vs_vm g_vi g_vn g_vs g_vm (by decide) (by decide) (by decide) (by decide) hfb) hZ (hw _ (List.mem_of_getElem? (i := 47) rfl)) (hw _ (List.mem_of_getElem? (i := 4) rfl)) (by decide) (by decide)) (g := (mkF m 78 #[.val (.ref a1), .val (.int (1 : Int32)), .val (.int p3), .unset] [(.int (0 : Int32)), (.int (2 : Int32)), (.int (1 : Int32)), (.ref a1)])) rfl (by rw [hml]; rfl) (Steps.refl _) (a := a1) (by rw [e10]; exact q11) q11' (argsL := [(.int (1 : Int32)), (.int (2 : Int32)), (.int (0 : Int32))]) (rest := []) (lenOf pd_4k1_0 rfl) rfl (by show 2 * 0 + _ ≤ _; exact Nat.le_of_eq rfl) (hb hby d4k1_78) (fun _ _ => ⟨rfl, e10, (by decide : 0 + 0 ≤ _), (by decide : 0 + 0 ≤ _)⟩)
  dsimp only [Pt.U, Pt.locs, Pt.cells, Pt.slots] at X11 l11 y11 z11 st11 hQ11
  subst l11 y11 z11
  obtain ⟨rfl, N11q, Kq11, V11_0, V11_1, V11_2, V11_3⟩ := hQ11
  have N11 := Fr.app N0 N11q
  have fE_a1_x11 := (E_a1_1.keep Kq11)
  have fF_a1_ids_x11 := (F_ids_a1_2.keep Kq11 (ninS ne_a1_vi (ninS ne_a1_vn (ninS ne_a1_vs (ninS ne_a1_vm nin0)))))
  have fF_a1_newest_x11 := (F_newest_a1_3.keep Kq11 (ninS ne_a1_vi (ninS ne_a1_vn (ninS ne_a1_vs (ninS ne_a1_vm nin0)))))
  have fF_a1_state_x11 := (F_state_a1_4.keep Kq11 (ninS ne_a1_vi (ninS ne_a1_vn (ninS ne_a1_vs (ninS ne_a1_vm nin0)))))
  have fF_a1_mismatches_x11 := (F_mismatches_a1_5.keep Kq11 (ninS ne_a1_vi (ninS ne_a1_vn (ninS ne_a1_vs (ninS ne_a1_vm nin0)))))
  have fF_a1_size_x11 := (F_size_a1_6.keep Kq11 (ninS ne_a1_vi (ninS ne_a1_vn (ninS ne_a1_vs (ninS ne_a1_vm nin0)))))
  have K11 : Keep h0 T11.heap [a1, vi, vn, vs, vm] := Keep.trans (Keep.refl h0 _) Kq11 (allS (Or.inl (List.mem_of_getElem? (i := 1) rfl)) (allS (Or.inl (List.mem_of_getElem? (i := 2) rfl)) (allS (Or.inl (List.mem_of_getElem? (i := 3) rfl)) (allS (Or.inl (List.mem_of_getElem? (i := 4) rfl)) all0))))
  have Z11 : n0 ≤ T11.heap.size := Nat.le_trans Z0 Kq11.1
  obtain ⟨T12, X12, e12, st12⟩ := getF X11 hx hZ hown (host := "") (Or.inl (hw _ (List.mem_of_getElem? (i := 42) rfl))) Via.refl rfl fF_a1_size_x11 (g := (mkF m 83 #[.val (.ref a1), .val (.int (1 : Int32)), .val (.int p3), .unset] [(.ref a1), (.ref a1)])) rfl rfl (hb hby d4k1_83)
  obtain ⟨T13, h13, X13, e13, W13, st13⟩ := putF X12 hx hZ hown (host := "") (Or.inl (hw _ (List.mem_of_getElem? (i := 42) rfl))) Via.refl e12 fF_a1_size_x11 fE_a1_x11 (Or.inl (hw _ (List.mem_of_getElem? (i := 43) rfl))) (hw _ (List.mem_of_getElem? (i := 3) rfl)) (ty := .int) (by decide) rfl rfl (g := (mkF m 88 #[.val (.ref a1), .val (.int (1 : Int32)), .val (.int p3), .unset] [(.int (2 : Int32)), (.ref a1)])) rfl rfl (hb hby d4k1_88)
  have Fw13 := Fld.same W13 fF_a1_size_x11
  have fE_a1_x13 := (fE_a1_x11.wr W13)
  have fF_a1_ids_x13 := (Fld.other W13 fF_a1_ids_x11 (Or.inr (slot_ne (Or.inl (hw _ (List.mem_of_getElem? (i := 13) rfl))) (Or.inl (hw _ (List.mem_of_getElem? (i := 43) rfl))) (by decide) (t := (.array .int)) (t' := .int) (by decide) (by decide))))
  have fF_a1_newest_x13 := (Fld.other W13 fF_a1_newest_x11 (Or.inr (slot_ne (Or.inl (hw _ (List.mem_of_getElem? (i := 16) rfl))) (Or.inl (hw _ (List.mem_of_getElem? (i := 43) rfl))) (by decide) (t := (.array .long)) (t' := .int) (by decide) (by decide))))
  have fF_a1_state_x13 := (Fld.other W13 fF_a1_state_x11 (Or.inr (slot_ne (Or.inl (hw _ (List.mem_of_getElem? (i := 18) rfl))) (Or.inl (hw _ (List.mem_of_getElem? (i := 43) rfl))) (by decide) (t := (.array .long)) (t' := .int) (by decide) (by decide))))
  have fF_a1_mismatches_x13 := (Fld.other W13 fF_a1_mismatches_x11 (Or.inr (slot_ne (Or.inl (hw _ (List.mem_of_getElem? (i := 21) rfl))) (Or.inl (hw _ (List.mem_of_getElem? (i := 43) rfl))) (by decide) (t := (.array .byte)) (t' := .int) (by decide) (by decide))))
  have fA_vi_x13 := (V11_0.other W13 (Ne.symm ne_a1_vi))
  have fA_vn_x13 := (V11_1.other W13 (Ne.symm ne_a1_vn))
  have fA_vs_x13 := (V11_2.other W13 (Ne.symm ne_a1_vs))
  have fA_vm_x13 := (V11_3.other W13 (Ne.symm ne_a1_vm))
  have N13 := Fr.snoc X13 N11 g_a1
  have K13 : Keep h0 h13 [a1, vi, vn, vs, vm] := Keep.wr K11 W13 (Or.inl (List.mem_of_getElem? (i := 0) rfl))
  have Z13 : n0 ≤ h13.size := Nat.le_trans Z11 (Nat.le_of_eq W13.size.symm)
  obtain ⟨T14, X14, e14, st14⟩ := getF X13 hx hZ hown (host := "") (Or.inl (hw _ (List.mem_of_getElem? (i := 12) rfl))) Via.refl e13 fF_a1_ids_x13 (g := (mkF m 92 #[.val (.ref a1), .val (.int (1 : Int32)), .val (.int p3), .unset] [(.ref a1)])) rfl rfl (hb hby d4k1_92)
  obtain ⟨cl15, Ar15, S15, Nn15, G15⟩ := id fA_vi_x13
  have hin15 : ¬ ((1 : Int32) < 0 ∨ cl15.slots.size ≤ (1 : Int32).toNatClampNeg) := inb_of S15 (⟨by decide, by decide⟩ : ¬ (1 : Int32) < 0 ∧ (1 : Int32) < (16 : Int32))
  obtain ⟨T16, h16, X16, e16, W16, st16⟩ := stI X14 hx hZ e14 Ar15 (j := (1 : Int32)) hin15 (g := (mkF m 97 #[.val (.ref a1), .val (.int (1 : Int32)), .val (.int p3), .unset] [(.int p3), (.int (1 : Int32)), (.ref vi)])) rfl rfl (hb hby d4k1_97)
  have fE_a1_x16 := (fE_a1_x13.wr W16)
  have fF_a1_ids_x16 := (Fld.other W16 fF_a1_ids_x13 (Or.inl ne_a1_vi))
  have fF_a1_newest_x16 := (Fld.other W16 fF_a1_newest_x13 (Or.inl ne_a1_vi))
  have fF_a1_state_x16 := (Fld.other W16 fF_a1_state_x13 (Or.inl ne_a1_vi))
  have fF_a1_mismatches_x16 := (Fld.other W16 fF_a1_mismatches_x13 (Or.inl ne_a1_vi))
  have fF_a1_size_x16 := (Fld.other W16 Fw13 (Or.inl ne_a1_vi))
  have fA_vn_x16 := (fA_vn_x13.other W16 (Ne.symm ne_vi_vn))
  have fA_vs_x16 := (fA_vs_x13.other W16 (Ne.symm ne_vi_vs))
  have fA_vm_x16 := (fA_vm_x13.other W16 (Ne.symm ne_vi_vm))
  have V16 : own_Arr Z h16 vi .int (16 : Int32) (fun i => Value.int ((own_put gi (1 : Int32) p3) i)) := own_Arr.set (w := Value.int) (g := gi) (x := p3) fA_vi_x13 W16 rfl (fun i => rfl)
  have N16 := Fr.snoc X16 N13 g_vi
  have K16 : Keep h0 h16 [a1, vi, vn, vs, vm] := Keep.wr K13 W16 (Or.inl (List.mem_of_getElem? (i := 1) rfl))
  have Z16 : n0 ≤ h16.size := Nat.le_trans Z13 (Nat.le_of_eq W16.size.symm)
  obtain ⟨T17, X17, e17, st17⟩ := getF X16 hx hZ hown (host := "") (Or.inl (hw _ (List.mem_of_getElem? (i := 15) rfl))) Via.refl e16 fF_a1_newest_x16 (g := (mkF m 99 #[.val (.ref a1), .val (.int (1 : Int32)), .val (.int p3), .unset] [(.ref a1)])) rfl rfl (hb hby d4k1_99)
  obtain ⟨cl18, Ar18, S18, Nn18, G18⟩ := id fA_vn_x16
  have hin18 : ¬ ((1 : Int32) < 0 ∨ cl18.slots.size ≤ (1 : Int32).toNatClampNeg) := inb_of S18 (⟨by decide, by decide⟩ : ¬ (1 : Int32) < 0 ∧ (1 : Int32) < (16 : Int32))
  obtain ⟨T19, h19, X19, e19, W19, st19⟩ := stJ X17 hx hZ e17 Ar18 (j := (1 : Int32)) hin18 (g := (mkF m 104 #[.val (.ref a1), .val (.int (1 : Int32)), .val (.int p3), .unset] [(.long (0 : Int64)), (.int (1 : Int32)), (.ref vn)])) rfl rfl (hb hby d4k1_104)
  have fE_a1_x19 := (fE_a1_x16.wr W19)
  have fF_a1_ids_x19 := (Fld.other W19 fF_a1_ids_x16 (Or.inl ne_a1_vn))
  have fF_a1_newest_x19 := (Fld.other W19 fF_a1_newest_x16 (Or.inl ne_a1_vn))
  have fF_a1_state_x19 := (Fld.other W19 fF_a1_state_x16 (Or.inl ne_a1_vn))
  have fF_a1_mismatches_x19 := (Fld.other W19 fF_a1_mismatches_x16 (Or.inl ne_a1_vn))
  have fF_a1_size_x19 := (Fld.other W19 fF_a1_size_x16 (Or.inl ne_a1_vn))
  have fA_vi_x19 := (V16.other W19 ne_vi_vn)
  have fA_vs_x19 := (fA_vs_x16.other W19 (Ne.symm ne_vn_vs))
  have fA_vm_x19 := (fA_vm_x16.other W19 (Ne.symm ne_vn_vm))
  have V19 : own_Arr Z h19 vn .long (16 : Int32) (fun i => Value.long ((own_putJ gn (1 : Int32) (0 : Int64)) i)) := own_Arr.set (w := Value.long) (g := gn) (x := (0 : Int64)) fA_vn_x16 W19 rfl (fun i => rfl)
  have N19 := Fr.snoc X19 N16 g_vn
  have K19 : Keep h0 h19 [a1, vi, vn, vs, vm] := Keep.wr K16 W19 (Or.inl (List.mem_of_getElem? (i := 2) rfl))
  have Z19 : n0 ≤ h19.size := Nat.le_trans Z16 (Nat.le_of_eq W19.size.symm)
  obtain ⟨T20, X20, e20, st20⟩ := getF X19 hx hZ hown (host := "") (Or.inl (hw _ (List.mem_of_getElem? (i := 17) rfl))) Via.refl e19 fF_a1_state_x19 (g := (mkF m 106 #[.val (.ref a1), .val (.int (1 : Int32)), .val (.int p3), .unset] [(.ref a1)])) rfl rfl (hb hby d4k1_106)
  obtain ⟨cl21, Ar21, S21, Nn21, G21⟩ := id fA_vs_x19
  have hin21 : ¬ ((1 : Int32) < 0 ∨ cl21.slots.size ≤ (1 : Int32).toNatClampNeg) := inb_of S21 (⟨by decide, by decide⟩ : ¬ (1 : Int32) < 0 ∧ (1 : Int32) < (16 : Int32))
  obtain ⟨T22, h22, X22, e22, W22, st22⟩ := stJ X20 hx hZ e20 Ar21 (j := (1 : Int32)) hin21 (g := (mkF m 111 #[.val (.ref a1), .val (.int (1 : Int32)), .val (.int p3), .unset] [(.long (0 : Int64)), (.int (1 : Int32)), (.ref vs)])) rfl rfl (hb hby d4k1_111)
  have fE_a1_x22 := (fE_a1_x19.wr W22)
  have fF_a1_ids_x22 := (Fld.other W22 fF_a1_ids_x19 (Or.inl ne_a1_vs))
  have fF_a1_newest_x22 := (Fld.other W22 fF_a1_newest_x19 (Or.inl ne_a1_vs))
  have fF_a1_state_x22 := (Fld.other W22 fF_a1_state_x19 (Or.inl ne_a1_vs))
  have fF_a1_mismatches_x22 := (Fld.other W22 fF_a1_mismatches_x19 (Or.inl ne_a1_vs))
  have fF_a1_size_x22 := (Fld.other W22 fF_a1_size_x19 (Or.inl ne_a1_vs))
  have fA_vi_x22 := (fA_vi_x19.other W22 ne_vi_vs)
  have fA_vn_x22 := (V19.other W22 ne_vn_vs)
  have fA_vm_x22 := (fA_vm_x19.other W22 (Ne.symm ne_vs_vm))
  have V22 : own_Arr Z h22 vs .long (16 : Int32) (fun i => Value.long ((own_putJ gs (1 : Int32) (0 : Int64)) i)) := own_Arr.set (w := Value.long) (g := gs) (x := (0 : Int64)) fA_vs_x19 W22 rfl (fun i => rfl)
  have N22 := Fr.snoc X22 N19 g_vs
  have K22 : Keep h0 h22 [a1, vi, vn, vs, vm] := Keep.wr K19 W22 (Or.inl (List.mem_of_getElem? (i := 3) rfl))
  have Z22 : n0 ≤ h22.size := Nat.le_trans Z19 (Nat.le_of_eq W22.size.symm)
  obtain ⟨T23, X23, e23, st23⟩ := getF X22 hx hZ hown (host := "") (Or.inl (hw _ (List.mem_of_getElem? (i := 20) rfl))) Via.refl e22 fF_a1_mismatches_x22 (g := (mkF m 113 #[.val (.ref a1), .val (.int (1 : Int32)), .val (.int p3), .unset] [(.ref a1)])) rfl rfl (hb hby d4k1_113)
  obtain ⟨cl24, Ar24, S24, Nn24, G24⟩ := id fA_vm_x22
  have hin24 : ¬ ((1 : Int32) < 0 ∨ cl24.slots.size ≤ (1 : Int32).toNatClampNeg) := inb_of S24 (⟨by decide, by decide⟩ : ¬ (1 : Int32) < 0 ∧ (1 : Int32) < (16 : Int32))
  obtain ⟨T25, h25, X25, e25, W25, st25⟩ := stB X23 hx hZ e23 Ar24 (j := (1 : Int32)) hin24 (g := (mkF m 118 #[.val (.ref a1), .val (.int (1 : Int32)), .val (.int p3), .unset] [(.int (0 : Int32)), (.int (1 : Int32)), (.ref vm)])) rfl rfl (hb hby d4k1_118)
  have fE_a1_x25 := (fE_a1_x22.wr W25)
  have fF_a1_ids_x25 := (Fld.other W25 fF_a1_ids_x22 (Or.inl ne_a1_vm))
  have fF_a1_newest_x25 := (Fld.other W25 fF_a1_newest_x22 (Or.inl ne_a1_vm))
  have fF_a1_state_x25 := (Fld.other W25 fF_a1_state_x22 (Or.inl ne_a1_vm))
  have fF_a1_mismatches_x25 := (Fld.other W25 fF_a1_mismatches_x22 (Or.inl ne_a1_vm))
  have fF_a1_size_x25 := (Fld.other W25 fF_a1_size_x22 (Or.inl ne_a1_vm))
  have fA_vi_x25 := (fA_vi_x22.other W25 ne_vi_vm)
  have fA_vn_x25 := (fA_vn_x22.other W25 ne_vn_vm)
  have fA_vs_x25 := (V22.other W25 ne_vs_vm)
  have V25 : own_Arr Z h25 vm .byte (16 : Int32) (fun i => Value.int ((own_put gm (1 : Int32) (0 : Int32)) i)) := own_Arr.set (w := Value.int) (g := gm) (x := (0 : Int32)) fA_vm_x22 W25 rfl (fun i => rfl)
  have N25 := Fr.snoc X25 N22 g_vm
  have K25 : Keep h0 h25 [a1, vi, vn, vs, vm] := Keep.wr K22 W25 (Or.inl (List.mem_of_getElem? (i := 4) rfl))
  have Z25 : n0 ≤ h25.size := Nat.le_trans Z22 (Nat.le_of_eq W25.size.symm)
  refine own_pre (A := T25.setTop (mkF m 119 #[.val (.ref a1), .val (.int (1 : Int32)), .val (.int p3), .unset] [])) (fun tt kt => ?_) ?_
  · show Steps p.tables e below (s₁.setTop (mkF m 0 #[.val (.ref a1), .val (.int (1 : Int32)), .val (.int p3), .unset] [])) _
    refine XS.aloadN X0.here hx rfl (hb hby d4k1_0) rfl rfl ?_
    show Steps p.tables e below (s₁.setTop (mkF m 1 #[.val (.ref a1), .val (.int (1 : Int32)), .val (.int p3), .unset] [(.ref a1)])) _
    refine st7 _ ?_
    show Steps p.tables e below (T7.setTop (mkF m 4 #[.val (.ref a1), .val (.int (1 : Int32)), .val (.int p3), .unset] [(.int (1 : Int32))])) _
    refine XS.aloadN X7.here hx rfl (hb hby d4k1_4) rfl rfl ?_
    show Steps p.tables e below (T7.setTop (mkF m 5 #[.val (.ref a1), .val (.int (1 : Int32)), .val (.int p3), .unset] [(.ref a1), (.int (1 : Int32))])) _
    refine st8 _ ?_
    show Steps p.tables e below (T8.setTop (mkF m 8 #[.val (.ref a1), .val (.int (1 : Int32)), .val (.int p3), .unset] [(.ref vi), (.int (1 : Int32))])) _
    refine X8.arraylength hx (by rw [e8]; exact Ar9.1) (State.isArrayOf_alike hZ.alike Ar9.2.1) (g := (mkF m 8 #[.val (.ref a1), .val (.int (1 : Int32)), .val (.int p3), .unset] [(.ref vi), (.int (1 : Int32))])) rfl rfl (hb hby d4k1_8) _ ?_
    rw [len_of S9 Nn9]
    show Steps p.tables e below (T8.setTop (mkF m 9 #[.val (.ref a1), .val (.int (1 : Int32)), .val (.int p3), .unset] [(.int (16 : Int32)), (.int (1 : Int32))])) _
    refine XS.icmpYes X8.here hx rfl (pc0 := 9) (pc' := 67) rfl (hb hby d4k1_9) rfl (feq ((by decide) : ¬ ((1 : Int32) = (16 : Int32)))).2 (by decide) (by decide) ?_
    refine XS.aloadN X8.here hx rfl (hb hby d4k1_67) rfl rfl ?_
    refine XS.iloadN X8.here hx rfl (hb hby d4k1_68) rfl ?_
    refine XS.iloadN X8.here hx rfl (hb hby d4k1_69) rfl ?_
    show Steps p.tables e below (T8.setTop (mkF m 70 #[.val (.ref a1), .val (.int (1 : Int32)), .val (.int p3), .unset] [(.int (1 : Int32)), (.int (1 : Int32)), (.ref a1)])) _
    refine XS.iconst X8.here hx rfl (hb hby d4k1_70) ?_
    refine XS.iadd X8.here hx rfl (hb hby d4k1_71) rfl ?_
    refine XS.aloadN X8.here hx rfl (hb hby d4k1_72) rfl rfl ?_
    show Steps p.tables e below (T8.setTop (mkF m 73 #[.val (.ref a1), .val (.int (1 : Int32)), .val (.int p3), .unset] [(.ref a1), (.int (2 : Int32)), (.int (1 : Int32)), (.ref a1)])) _
    refine st10 _ ?_
    show Steps p.tables e below (T10.setTop (mkF m 76 #[.val (.ref a1), .val (.int (1 : Int32)), .val (.int p3), .unset] [(.int (1 : Int32)), (.int (2 : Int32)), (.int (1 : Int32)), (.ref a1)])) _
    refine XS.iloadN X10.here hx rfl (hb hby d4k1_76) rfl ?_
    refine XS.isub X10.here hx rfl (hb hby d4k1_77) rfl ?_
    show Steps p.tables e below (T10.setTop (mkF m 78 #[.val (.ref a1), .val (.int (1 : Int32)), .val (.int p3), .unset] [(.int (0 : Int32)), (.int (2 : Int32)), (.int (1 : Int32)), (.ref a1)])) _
    refine st11.trans ?_
    show Steps p.tables e below (T11.setTop (mkF m 81 #[.val (.ref a1), .val (.int (1 : Int32)), .val (.int p3), .unset] [])) _
    refine XS.aloadN X11.here hx rfl (hb hby d4k1_81) rfl rfl ?_
    refine XS.dup X11.here hx rfl (hb hby d4k1_82) rfl rfl ?_
    show Steps p.tables e below (T11.setTop (mkF m 83 #[.val (.ref a1), .val (.int (1 : Int32)), .val (.int p3), .unset] [(.ref a1), (.ref a1)])) _
    refine st12 _ ?_
    show Steps p.tables e below (T12.setTop (mkF m 86 #[.val (.ref a1), .val (.int (1 : Int32)), .val (.int p3), .unset] [(.int (1 : Int32)), (.ref a1)])) _
    refine XS.iconst X12.here hx rfl (hb hby d4k1_86) ?_
    refine XS.iadd X12.here hx rfl (hb hby d4k1_87) rfl ?_
    show Steps p.tables e below (T12.setTop (mkF m 88 #[.val (.ref a1), .val (.int (1 : Int32)), .val (.int p3), .unset] [(.int (2 : Int32)), (.ref a1)])) _
    refine st13 _ ?_
    show Steps p.tables e below (T13.setTop (mkF m 91 #[.val (.ref a1), .val (.int (1 : Int32)), .val (.int p3), .unset] [])) _
    refine XS.aloadN X13.here hx rfl (hb hby d4k1_91) rfl rfl ?_
    show Steps p.tables e below (T13.setTop (mkF m 92 #[.val (.ref a1), .val (.int (1 : Int32)), .val (.int p3), .unset] [(.ref a1)])) _
    refine st14 _ ?_
    show Steps p.tables e below (T14.setTop (mkF m 95 #[.val (.ref a1), .val (.int (1 : Int32)), .val (.int p3), .unset] [(.ref vi)])) _
    refine XS.iloadN X14.here hx rfl (hb hby d4k1_95) rfl ?_
    refine XS.iloadN X14.here hx rfl (hb hby d4k1_96) rfl ?_
    show Steps p.tables e below (T14.setTop (mkF m 97 #[.val (.ref a1), .val (.int (1 : Int32)), .val (.int p3), .unset] [(.int p3), (.int (1 : Int32)), (.ref vi)])) _
    refine st16 _ ?_
    show Steps p.tables e below (T16.setTop (mkF m 98 #[.val (.ref a1), .val (.int (1 : Int32)), .val (.int p3), .unset] [])) _
    refine XS.aloadN X16.here hx rfl (hb hby d4k1_98) rfl rfl ?_
    show Steps p.tables e below (T16.setTop (mkF m 99 #[.val (.ref a1), .val (.int (1 : Int32)), .val (.int p3), .unset] [(.ref a1)])) _
    refine st17 _ ?_
    show Steps p.tables e below (T17.setTop (mkF m 102 #[.val (.ref a1), .val (.int (1 : Int32)), .val (.int p3), .unset] [(.ref vn)])) _
    refine XS.iloadN X17.here hx rfl (hb hby d4k1_102) rfl ?_
    refine XS.lconst X17.here hx rfl (hb hby d4k1_103) ?_
    show Steps p.tables e below (T17.setTop (mkF m 104 #[.val (.ref a1), .val (.int (1 : Int32)), .val (.int p3), .unset] [(.long (0 : Int64)), (.int (1 : Int32)), (.ref vn)])) _
    refine st19 _ ?_
    show Steps p.tables e below (T19.setTop (mkF m 105 #[.val (.ref a1), .val (.int (1 : Int32)), .val (.int p3), .unset] [])) _
    refine XS.aloadN X19.here hx rfl (hb hby d4k1_105) rfl rfl ?_
    show Steps p.tables e below (T19.setTop (mkF m 106 #[.val (.ref a1), .val (.int (1 : Int32)), .val (.int p3), .unset] [(.ref a1)])) _
    refine st20 _ ?_
    show Steps p.tables e below (T20.setTop (mkF m 109 #[.val (.ref a1), .val (.int (1 : Int32)), .val (.int p3), .unset] [(.ref vs)])) _
    refine XS.iloadN X20.here hx rfl (hb hby d4k1_109) rfl ?_
    refine XS.lconst X20.here hx rfl (hb hby d4k1_110) ?_
    show Steps p.tables e below (T20.setTop (mkF m 111 #[.val (.ref a1), .val (.int (1 : Int32)), .val (.int p3), .unset] [(.long (0 : Int64)), (.int (1 : Int32)), (.ref vs)])) _
    refine st22 _ ?_
    show Steps p.tables e below (T22.setTop (mkF m 112 #[.val (.ref a1), .val (.int (1 : Int32)), .val (.int p3), .unset] [])) _
    refine XS.aloadN X22.here hx rfl (hb hby d4k1_112) rfl rfl ?_
    show Steps p.tables e below (T22.setTop (mkF m 113 #[.val (.ref a1), .val (.int (1 : Int32)), .val (.int p3), .unset] [(.ref a1)])) _
    refine st23 _ ?_
    show Steps p.tables e below (T23.setTop (mkF m 116 #[.val (.ref a1), .val (.int (1 : Int32)), .val (.int p3), .unset] [(.ref vm)])) _
    refine XS.iloadN X23.here hx rfl (hb hby d4k1_116) rfl ?_
    refine XS.iconst X23.here hx rfl (hb hby d4k1_117) ?_
    show Steps p.tables e below (T23.setTop (mkF m 118 #[.val (.ref a1), .val (.int (1 : Int32)), .val (.int p3), .unset] [(.int (0 : Int32)), (.int (1 : Int32)), (.ref vm)])) _
    refine st25 _ ?_
    exact kt
  show own_End p e below s (T25.setTop (mkF m 119 #[.val (.ref a1), .val (.int (1 : Int32)), .val (.int p3), .unset] [])) (Q4k1 Z a1 p3 vi vn vs vm gi gn gs gm h0 n0) ({ frames := 2, cells := 0, slots := 0, locals := 33 } : Room).cells ({ frames := 2, cells := 0, slots := 0, locals := 33 } : Room).slots
  obtain ⟨fs, hr, hrun, hended, hW, hsame⟩ := X25.leave (v := none) (fun _ => rfl)
  refine ⟨_, _, ?_, hrun, hended, _, _, rfl, ?_, ⟨_, rfl⟩, hW, hsame.mono (by decide) (by decide)⟩
  · exact X25.returnOut hx Bd.returns (hb hby d4k1_119) hr
  · show Q4k1 Z a1 p3 vi vn vs vm gi gn gs gm h0 n0 _ T25.heap _
    rw [e25]
    exact ⟨rfl, N25, K25, ⟨fE_a1_x25, fF_a1_ids_x25, fF_a1_newest_x25, fF_a1_state_x25, fF_a1_mismatches_x25, fF_a1_size_x25⟩, fA_vi_x25, fA_vn_x25, fA_vs_x25, V25⟩
theorem d6_0 : decode prog_25_method_18_code 0 = .ok (.aload_n 0, 1) := by decide +kernel
theorem d6_1 : decode prog_25_method_18_code 1 = .ok (.getfield 13, 3) := by decide +kernel
theorem d6_4 : decode prog_25_method_18_code 4 = .ok (.iload_n 1, 1) := by decide +kernel
theorem d6_5 : decode prog_25_method_18_code 5 = .ok (.iload_n 2, 1) := by decide +kernel
theorem d6_6 : decode prog_25_method_18_code 6 = .ok (.i2l, 1) := by decide +kernel
theorem d6_7 : decode prog_25_method_18_code 7 = .ok (.bipush 32, 2) := by decide +kernel
theorem d6_9 : decode prog_25_method_18_code 9 = .ok (.lshl, 1) := by decide +kernel
theorem d6_10 : decode prog_25_method_18_code 10 = .ok (.iload_n 3, 1) := by decide +kernel
theorem d6_11 : decode prog_25_method_18_code 11 = .ok (.i2l, 1) := by decide +kernel
theorem d6_12 : decode prog_25_method_18_code 12 = .ok (.bipush 16, 2) := by decide +kernel
theorem d6_14 : decode prog_25_method_18_code 14 = .ok (.lshl, 1) := by decide +kernel
theorem d6_15 : decode prog_25_method_18_code 15 = .ok (.lor, 1) := by decide +kernel
theorem d6_16 : decode prog_25_method_18_code 16 = .ok (.iload 4, 2) := by decide +kernel
theorem d6_18 : decode prog_25_method_18_code 18 = .ok (.i2l, 1) := by decide +kernel
theorem d6_19 : decode prog_25_method_18_code 19 = .ok (.lor, 1) := by decide +kernel
theorem d6_20 : decode prog_25_method_18_code 20 = .ok (.lastore, 1) := by decide +kernel
theorem d6_21 : decode prog_25_method_18_code 21 = .ok (.aload_n 0, 1) := by decide +kernel
theorem d6_22 : decode prog_25_method_18_code 22 = .ok (.getfield 17, 3) := by decide +kernel
theorem d6_25 : decode prog_25_method_18_code 25 = .ok (.iload_n 1, 1) := by decide +kernel
theorem d6_26 : decode prog_25_method_18_code 26 = .ok (.lload 5, 2) := by decide +kernel
theorem d6_28 : decode prog_25_method_18_code 28 = .ok (.iconst 4, 1) := by decide +kernel
theorem d6_29 : decode prog_25_method_18_code 29 = .ok (.lshl, 1) := by decide +kernel
theorem d6_30 : decode prog_25_method_18_code 30 = .ok (.aload_n 0, 1) := by decide +kernel
theorem d6_31 : decode prog_25_method_18_code 31 = .ok (.getfield 17, 3) := by decide +kernel
theorem d6_34 : decode prog_25_method_18_code 34 = .ok (.iload_n 1, 1) := by decide +kernel
theorem d6_35 : decode prog_25_method_18_code 35 = .ok (.laload, 1) := by decide +kernel
theorem d6_36 : decode prog_25_method_18_code 36 = .ok (.ldc2_w 117, 3) := by decide +kernel
theorem d6_39 : decode prog_25_method_18_code 39 = .ok (.land, 1) := by decide +kernel
theorem d6_40 : decode prog_25_method_18_code 40 = .ok (.lor, 1) := by decide +kernel
theorem d6_41 : decode prog_25_method_18_code 41 = .ok (.lastore, 1) := by decide +kernel
theorem d6_42 : decode prog_25_method_18_code 42 = .ok (.return_, 1) := by decide +kernel
theorem pn_6 : plainName "com/example/atoll/atoll/detect/HeldOrigins" = true := by first | (simp [plainName, overriddenIn]; done) | decide +kernel
theorem ef_6 (m : MethodId) (x0 : Addr) (x1 : Int32) (x2 : Int32) (x3 : Int32) (x4 : Int32) (x5 : Int64) : entryFrame m #[(.ref x0), (.int x1), (.int x2), (.int x3), (.int x4), (.long x5)] 7 = mkF m 0 #[.val (.ref x0), .val (.int x1), .val (.int x2), .val (.int x3), .val (.int x4), .val (.long x5), .second] [] := by first | (simp [entryFrame, mkF, argsToLocals, Value.category]; done) | rfl
def Q6 (Z : State) (a1 : Addr) (p2 : Int32) (p3 : Int32) (p4 : Int32) (p5 : Int32) (q6 : Int64) (vi : Addr) (vn : Addr) (vs : Addr) (vm : Addr) (vz : Int32) (gn : Nat → Int64) (gs : Nat → Int64) (h0 : Heap) (n0 : Nat) (v : Option Value) (h : Heap) (L : List Loc) : Prop := v = none ∧ Fr n0 L ∧ Keep h0 h [vn, vs] ∧ own_Arr Z h vn .long (16 : Int32) (fun i => Value.long ((own_putJ gn p2 ((((p3.toInt64) <<< ((32 : Int32) &&& 0x3f).toInt64) ||| ((p4.toInt64) <<< ((16 : Int32) &&& 0x3f).toInt64)) ||| (p5.toInt64))) i)) ∧ own_Arr Z h vs .long (16 : Int32) (fun i => Value.long ((own_putJ gs p2 ((q6 <<< ((4 : Int32) &&& 0x3f).toInt64) ||| ((gs p2.toNatClampNeg) &&& (15 : Int64)))) i))
set_option maxRecDepth 65536 in
set_option maxHeartbeats 40000000 in
theorem rm6 (l : Launch) (Z : State) (a0 : Array Value) (hw : ∀ d ∈ tables_1, d.before a0 Z = true) (ws : List Jvm.Cond) (a1 : Addr) (p2 : Int32) (p3 : Int32) (p4 : Int32) (p5 : Int32) (q6 : Int64) (vi : Addr) (vn : Addr) (vs : Addr) (vm : Addr) (vz : Int32) (gn : Nat → Int64) (gs : Nat → Int64) (h0 : Heap) (n0 : Nat) (Z0 : n0 ≤ h0.size) (O_a1 : own_H Z h0 a1 vi vn vs vm vz) (V_vn : own_Arr Z h0 vn .long (16 : Int32) (fun i => Value.long (gn i))) (V_vs : own_Arr Z h0 vs .long (16 : Int32) (fun i => Value.long (gs i))) (ne_a1_vn : a1 ≠ vn) (ne_a1_vs : a1 ≠ vs) (ne_vn_vs : vn ≠ vs) (g_vn : n0 ≤ vn) (g_vs : n0 ≤ vs) (hp0 : 0 ≤ p2.toInt) (hp1 : p2.toInt < (16 : Int32).toInt) :
    MetFree l (⟨"com/example/atoll/atoll/detect/HeldOrigins", "setNews", "(IIIIJ)V"⟩ : MethodName) (head1 (Jvm.Cond.code (⟨"com/example/atoll/atoll/detect/HeldOrigins", "setNews", "(IIIIJ)V"⟩ : MethodName) prog_25_method_18_code 7 none :: ws) ({ frames := 0, cells := 0, slots := 0, locals := 0 } : Room)) (fun a U => a = #[(.ref a1), (.int p2), (.int p3), (.int p4), (.int p5), (.long q6)] ∧ Z.Warmed39 U.vm ∧ U.heap = h0) (fun _ _ _ _ _ => True) (fun _ U o U' => ∃ v L, o = .returned v ∧ Q6 Z a1 p2 p3 p4 p5 q6 vi vn vs vm vz gn gs h0 n0 v U'.heap L ∧ FrameEnd U o U' L ({ frames := 0, cells := 0, slots := 0, locals := 0 } : Room).cells ({ frames := 0, cells := 0, slots := 0, locals := 0 } : Room).slots) := by
  refine MetFree.of_bodySF (plainFor_of_name pn_6) hisR ?_
  intro p e s m args below meth c s₁ Bd hml0 hP hK
  obtain ⟨rfl, hZ, hh⟩ := hP
  have hx := Bd.exec
  have hby := Bd.bytes
  have hml : c.maxLocals = 7 := hml0
  have hown : s.vm.findClass "com/example/atoll/atoll/detect/HeldOrigins" = some m.cls := findClass_of_methodNamed Bd.named
  have hnm := (name_of_methodNamed Bd.named Bd.method).1
  have X0 : Stand p l e ({ frames := 0, cells := 0, slots := 0, locals := 0 } : Room) s m #[(.ref a1), (.int p2), (.int p3), (.int p4), (.int p5), (.long q6)] below meth c s₁ [] 0 0 := Stand.of_body Bd
  have e0 : s₁.heap = h0 := by rw [← hh, Bd.state]; rfl
  have N0 := Fr.nil n0
  show own_End p e below s (s₁.setTop (entryFrame m #[(.ref a1), (.int p2), (.int p3), (.int p4), (.int p5), (.long q6)] 7)) (Q6 Z a1 p2 p3 p4 p5 q6 vi vn vs vm vz gn gs h0 n0) ({ frames := 0, cells := 0, slots := 0, locals := 0 } : Room).cells ({ frames := 0, cells := 0, slots := 0, locals := 0 } : Room).slots
  obtain ⟨E_a1_1, F_ids_a1_2, F_newest_a1_3, F_state_a1_4, F_mismatches_a1_5, F_size_a1_6⟩ := O_a1
  refine own_pre (A := s₁.setTop (mkF m 0 #[.val (.ref a1), .val (.int p2), .val (.int p3), .val (.int p4), .val (.int p5), .val (.long q6), .second] [])) (fun tt kt => castTop (ef_6 m a1 p2 p3 p4 p5 q6) kt) ?_
  show own_End p e below s (s₁.setTop (mkF m 0 #[.val (.ref a1), .val (.int p2), .val (.int p3), .val (.int p4), .val (.int p5), .val (.long q6), .second] [])) (Q6 Z a1 p2 p3 p4 p5 q6 vi vn vs vm vz gn gs h0 n0) ({ frames := 0, cells := 0, slots := 0, locals := 0 } : Room).cells ({ frames := 0, cells := 0, slots := 0, locals := 0 } : Room).slots
  obtain ⟨T7, X7, e7, st7⟩ := getF X0 hx hZ hown (host := "") (Or.inl (hw _ (List.mem_of_getElem? (i := 15) rfl))) Via.refl e0 F_newest_a1_3 (g := (mkF m 1 #[.val (.ref a1), .val (.int p2), .val (.int p3), .val (.int p4), .val (.int p5), .val (.long q6), .second] [(.ref a1)])) rfl rfl (hb hby d6_1)
  obtain ⟨cl8, Ar8, S8, Nn8, G8⟩ := id V_vn
  have hin8 : ¬ (p2 < 0 ∨ cl8.slots.size ≤ p2.toNatClampNeg) := inb_of S8 (own_inb2 hp0 hp1 : ¬ p2 < 0 ∧ p2 < (16 : Int32))
  obtain ⟨T9, h9, X9, e9, W9, st9⟩ := stJ X7 hx hZ e7 Ar8 (j := p2) hin8 (g := (mkF m 20 #[.val (.ref a1), .val (.int p2), .val (.int p3), .val (.int p4), .val (.int p5), .val (.long q6), .second] [(.long ((((p3.toInt64) <<< ((32 : Int32) &&& 0x3f).toInt64) ||| ((p4.toInt64) <<< ((16 : Int32) &&& 0x3f).toInt64)) ||| (p5.toInt64))), (.int p2), (.ref vn)])) rfl rfl (hb hby d6_20)
  have fE_a1_x9 := (E_a1_1.wr W9)
  have fF_a1_ids_x9 := (Fld.other W9 F_ids_a1_2 (Or.inl ne_a1_vn))
  have fF_a1_newest_x9 := (Fld.other W9 F_newest_a1_3 (Or.inl ne_a1_vn))
  have fF_a1_state_x9 := (Fld.other W9 F_state_a1_4 (Or.inl ne_a1_vn))
  have fF_a1_mismatches_x9 := (Fld.other W9 F_mismatches_a1_5 (Or.inl ne_a1_vn))
  have fF_a1_size_x9 := (Fld.other W9 F_size_a1_6 (Or.inl ne_a1_vn))
  have fA_vs_x9 := (V_vs.other W9 (Ne.symm ne_vn_vs))
  have V9 : own_Arr Z h9 vn .long (16 : Int32) (fun i => Value.long ((own_putJ gn p2 ((((p3.toInt64) <<< ((32 : Int32) &&& 0x3f).toInt64) ||| ((p4.toInt64) <<< ((16 : Int32) &&& 0x3f).toInt64)) ||| (p5.toInt64))) i)) := own_Arr.set (w := Value.long) (g := gn) (x := ((((p3.toInt64) <<< ((32 : Int32) &&& 0x3f).toInt64) ||| ((p4.toInt64) <<< ((16 : Int32) &&& 0x3f).toInt64)) ||| (p5.toInt64))) V_vn W9 rfl (fun i => rfl)
  have N9 := Fr.snoc X9 N0 g_vn
  have K9 : Keep h0 h9 [vn, vs] := Keep.wr (Keep.refl h0 _) W9 (Or.inl (List.mem_of_getElem? (i := 0) rfl))
  have Z9 : n0 ≤ h9.size := Nat.le_trans Z0 (Nat.le_of_eq W9.size.symm)
  obtain ⟨T10, X10, e10, st10⟩ := getF X9 hx hZ hown (host := "") (Or.inl (hw _ (List.mem_of_getElem? (i := 17) rfl))) Via.refl e9 fF_a1_state_x9 (g := (mkF m 22 #[.val (.ref a1), .val (.int p2), .val (.int p3), .val (.int p4), .val (.int p5), .val (.long q6), .second] [(.ref a1)])) rfl rfl (hb hby d6_22)
  obtain ⟨T11, X11, e11, st11⟩ := getF X10 hx hZ hown (host := "") (Or.inl (hw _ (List.mem_of_getElem? (i := 17) rfl))) Via.refl e10 fF_a1_state_x9 (g := (mkF m 31 #[.val (.ref a1), .val (.int p2), .val (.int p3), .val (.int p4), .val (.int p5), .val (.long q6), .second] [(.ref a1), (.long (q6 <<< ((4 : Int32) &&& 0x3f).toInt64)), (.int p2), (.ref vs)])) rfl rfl (hb hby d6_31)
  obtain ⟨cl12, Ar12, S12, Nn12, G12⟩ := id fA_vs_x9
  have hin12 : ¬ (p2 < 0 ∨ cl12.slots.size ≤ p2.toNatClampNeg) := inb_of S12 (own_inb2 hp0 hp1 : ¬ p2 < 0 ∧ p2 < (16 : Int32))
  have hat12 : cl12.slots[p2.toNatClampNeg]? = some (.long (gs p2.toNatClampNeg)) := own_at S12 G12 hin12
  obtain ⟨cl13, Ar13, S13, Nn13, G13⟩ := id fA_vs_x9
  have hin13 : ¬ (p2 < 0 ∨ cl13.slots.size ≤ p2.toNatClampNeg) := inb_of S13 (own_inb2 hp0 hp1 : ¬ p2 < 0 ∧ p2 < (16 : Int32))
  obtain ⟨T14, h14, X14, e14, W14, st14⟩ := stJ X11 hx hZ e11 Ar13 (j := p2) hin13 (g := (mkF m 41 #[.val (.ref a1), .val (.int p2), .val (.int p3), .val (.int p4), .val (.int p5), .val (.long q6), .second] [(.long ((q6 <<< ((4 : Int32) &&& 0x3f).toInt64) ||| ((gs p2.toNatClampNeg) &&& (15 : Int64)))), (.int p2), (.ref vs)])) rfl rfl (hb hby d6_41)
  have fE_a1_x14 := (fE_a1_x9.wr W14)
  have fF_a1_ids_x14 := (Fld.other W14 fF_a1_ids_x9 (Or.inl ne_a1_vs))
  have fF_a1_newest_x14 := (Fld.other W14 fF_a1_newest_x9 (Or.inl ne_a1_vs))
  have fF_a1_state_x14 := (Fld.other W14 fF_a1_state_x9 (Or.inl ne_a1_vs))
  have fF_a1_mismatches_x14 := (Fld.other W14 fF_a1_mismatches_x9 (Or.inl ne_a1_vs))
  have fF_a1_size_x14 := (Fld.other W14 fF_a1_size_x9 (Or.inl ne_a1_vs))
  have fA_vn_x14 := (V9.other W14 ne_vn_vs)
  have V14 : own_Arr Z h14 vs .long (16 : Int32) (fun i => Value.long ((own_putJ gs p2 ((q6 <<< ((4 : Int32) &&& 0x3f).toInt64) ||| ((gs p2.toNatClampNeg) &&& (15 : Int64)))) i)) := own_Arr.set (w := Value.long) (g := gs) (x := ((q6 <<< ((4 : Int32) &&& 0x3f).toInt64) ||| ((gs p2.toNatClampNeg) &&& (15 : Int64)))) fA_vs_x9 W14 rfl (fun i => rfl)
  have N14 := Fr.snoc X14 N9 g_vs
  have K14 : Keep h0 h14 [vn, vs] := Keep.wr K9 W14 (Or.inl (List.mem_of_getElem? (i := 1) rfl))
  have Z14 : n0 ≤ h14.size := Nat.le_trans Z9 (Nat.le_of_eq W14.size.symm)
  refine own_pre (A := T14.setTop (mkF m 42 #[.val (.ref a1), .val (.int p2), .val (.int p3), .val (.int p4), .val (.int p5), .val (.long q6), .second] [])) (fun tt kt => ?_) ?_
  · show Steps p.tables e below (s₁.setTop (mkF m 0 #[.val (.ref a1), .val (.int p2), .val (.int p3), .val (.int p4), .val (.int p5), .val (.long q6), .second] [])) _
    refine XS.aloadN X0.here hx rfl (hb hby d6_0) rfl rfl ?_
    show Steps p.tables e below (s₁.setTop (mkF m 1 #[.val (.ref a1), .val (.int p2), .val (.int p3), .val (.int p4), .val (.int p5), .val (.long q6), .second] [(.ref a1)])) _
    refine st7 _ ?_
    show Steps p.tables e below (T7.setTop (mkF m 4 #[.val (.ref a1), .val (.int p2), .val (.int p3), .val (.int p4), .val (.int p5), .val (.long q6), .second] [(.ref vn)])) _
    refine XS.iloadN X7.here hx rfl (hb hby d6_4) rfl ?_
    refine XS.iloadN X7.here hx rfl (hb hby d6_5) rfl ?_
    refine XS.i2l X7.here hx rfl (hb hby d6_6) rfl ?_
    refine XS.bipush X7.here hx rfl (hb hby d6_7) ?_
    show Steps p.tables e below (T7.setTop (mkF m 9 #[.val (.ref a1), .val (.int p2), .val (.int p3), .val (.int p4), .val (.int p5), .val (.long q6), .second] [(.int (32 : Int32)), (.long (p3.toInt64)), (.int p2), (.ref vn)])) _
    refine XS.lshl X7.here hx rfl (hb hby d6_9) rfl ?_
    refine XS.iloadN X7.here hx rfl (hb hby d6_10) rfl ?_
    refine XS.i2l X7.here hx rfl (hb hby d6_11) rfl ?_
    refine XS.bipush X7.here hx rfl (hb hby d6_12) ?_
    show Steps p.tables e below (T7.setTop (mkF m 14 #[.val (.ref a1), .val (.int p2), .val (.int p3), .val (.int p4), .val (.int p5), .val (.long q6), .second] [(.int (16 : Int32)), (.long (p4.toInt64)), (.long ((p3.toInt64) <<< ((32 : Int32) &&& 0x3f).toInt64)), (.int p2), (.ref vn)])) _
    refine XS.lshl X7.here hx rfl (hb hby d6_14) rfl ?_
    refine XS.lor X7.here hx rfl (hb hby d6_15) rfl ?_
    refine XS.iload X7.here hx rfl (hb hby d6_16) rfl ?_
    refine XS.i2l X7.here hx rfl (hb hby d6_18) rfl ?_
    show Steps p.tables e below (T7.setTop (mkF m 19 #[.val (.ref a1), .val (.int p2), .val (.int p3), .val (.int p4), .val (.int p5), .val (.long q6), .second] [(.long (p5.toInt64)), (.long (((p3.toInt64) <<< ((32 : Int32) &&& 0x3f).toInt64) ||| ((p4.toInt64) <<< ((16 : Int32) &&& 0x3f).toInt64))), (.int p2), (.ref vn)])) _
    refine XS.lor X7.here hx rfl (hb hby d6_19) rfl ?_
    show Steps p.tables e below (T7.setTop (mkF m 20 #[.val (.ref a1), .val (.int p2), .val (.int p3), .val (.int p4), .val (.int p5), .val (.long q6), .second] [(.long ((((p3.toInt64) <<< ((32 : Int32) &&& 0x3f).toInt64) ||| ((p4.toInt64) <<< ((16 : Int32) &&& 0x3f).toInt64)) ||| (p5.toInt64))), (.int p2), (.ref vn)])) _
    refine st9 _ ?_
    show Steps p.tables e below (T9.setTop (mkF m 21 #[.val (.ref a1), .val (.int p2), .val (.int p3), .val (.int p4), .val (.int p5), .val (.long q6), .second] [])) _
    refine XS.aloadN X9.here hx rfl (hb hby d6_21) rfl rfl ?_
    show Steps p.tables e below (T9.setTop (mkF m 22 #[.val (.ref a1), .val (.int p2), .val (.int p3), .val (.int p4), .val (.int p5), .val (.long q6), .second] [(.ref a1)])) _
    refine st10 _ ?_
    show Steps p.tables e below (T10.setTop (mkF m 25 #[.val (.ref a1), .val (.int p2), .val (.int p3), .val (.int p4), .val (.int p5), .val (.long q6), .second] [(.ref vs)])) _
    refine XS.iloadN X10.here hx rfl (hb hby d6_25) rfl ?_
    refine XS.lload X10.here hx rfl (hb hby d6_26) rfl ?_
    refine XS.iconst X10.here hx rfl (hb hby d6_28) ?_
    refine XS.lshl X10.here hx rfl (hb hby d6_29) rfl ?_
    show Steps p.tables e below (T10.setTop (mkF m 30 #[.val (.ref a1), .val (.int p2), .val (.int p3), .val (.int p4), .val (.int p5), .val (.long q6), .second] [(.long (q6 <<< ((4 : Int32) &&& 0x3f).toInt64)), (.int p2), (.ref vs)])) _
    refine XS.aloadN X10.here hx rfl (hb hby d6_30) rfl rfl ?_
    show Steps p.tables e below (T10.setTop (mkF m 31 #[.val (.ref a1), .val (.int p2), .val (.int p3), .val (.int p4), .val (.int p5), .val (.long q6), .second] [(.ref a1), (.long (q6 <<< ((4 : Int32) &&& 0x3f).toInt64)), (.int p2), (.ref vs)])) _
    refine st11 _ ?_
    show Steps p.tables e below (T11.setTop (mkF m 34 #[.val (.ref a1), .val (.int p2), .val (.int p3), .val (.int p4), .val (.int p5), .val (.long q6), .second] [(.ref vs), (.long (q6 <<< ((4 : Int32) &&& 0x3f).toInt64)), (.int p2), (.ref vs)])) _
    refine XS.iloadN X11.here hx rfl (hb hby d6_34) rfl ?_
    show Steps p.tables e below (T11.setTop (mkF m 35 #[.val (.ref a1), .val (.int p2), .val (.int p3), .val (.int p4), .val (.int p5), .val (.long q6), .second] [(.int p2), (.ref vs), (.long (q6 <<< ((4 : Int32) &&& 0x3f).toInt64)), (.int p2), (.ref vs)])) _
    refine X11.laload hx (j := p2) (v := (.long (gs p2.toNatClampNeg))) (by rw [e11]; exact Ar12.1) (State.isArrayOf_alike hZ.alike Ar12.2.1) Ar12.2.2 hin12 hat12 (g := (mkF m 35 #[.val (.ref a1), .val (.int p2), .val (.int p3), .val (.int p4), .val (.int p5), .val (.long q6), .second] [(.int p2), (.ref vs), (.long (q6 <<< ((4 : Int32) &&& 0x3f).toInt64)), (.int p2), (.ref vs)])) rfl rfl (hb hby d6_35) _ ?_
    show Steps p.tables e below (T11.setTop (mkF m 36 #[.val (.ref a1), .val (.int p2), .val (.int p3), .val (.int p4), .val (.int p5), .val (.long q6), .second] [(.long (gs p2.toNatClampNeg)), (.long (q6 <<< ((4 : Int32) &&& 0x3f).toInt64)), (.int p2), (.ref vs)])) _
    refine X11.ldc2Long hx hown (mvT hZ (hw _ (List.mem_of_getElem? (i := 57) rfl))) (g := (mkF m 36 #[.val (.ref a1), .val (.int p2), .val (.int p3), .val (.int p4), .val (.int p5), .val (.long q6), .second] [(.long (gs p2.toNatClampNeg)), (.long (q6 <<< ((4 : Int32) &&& 0x3f).toInt64)), (.int p2), (.ref vs)])) rfl (hb hby d6_36) _ ?_
    show Steps p.tables e below (T11.setTop (mkF m 39 #[.val (.ref a1), .val (.int p2), .val (.int p3), .val (.int p4), .val (.int p5), .val (.long q6), .second] [(.long (15 : Int64)), (.long (gs p2.toNatClampNeg)), (.long (q6 <<< ((4 : Int32) &&& 0x3f).toInt64)), (.int p2), (.ref vs)])) _
    refine XS.land X11.here hx rfl (hb hby d6_39) rfl ?_
    refine XS.lor X11.here hx rfl (hb hby d6_40) rfl ?_
    show Steps p.tables e below (T11.setTop (mkF m 41 #[.val (.ref a1), .val (.int p2), .val (.int p3), .val (.int p4), .val (.int p5), .val (.long q6), .second] [(.long ((q6 <<< ((4 : Int32) &&& 0x3f).toInt64) ||| ((gs p2.toNatClampNeg) &&& (15 : Int64)))), (.int p2), (.ref vs)])) _
    refine st14 _ ?_
    exact kt
  show own_End p e below s (T14.setTop (mkF m 42 #[.val (.ref a1), .val (.int p2), .val (.int p3), .val (.int p4), .val (.int p5), .val (.long q6), .second] [])) (Q6 Z a1 p2 p3 p4 p5 q6 vi vn vs vm vz gn gs h0 n0) ({ frames := 0, cells := 0, slots := 0, locals := 0 } : Room).cells ({ frames := 0, cells := 0, slots := 0, locals := 0 } : Room).slots
  obtain ⟨fs, hr, hrun, hended, hW, hsame⟩ := X14.leave (v := none) (fun _ => rfl)
  refine ⟨_, _, ?_, hrun, hended, _, _, rfl, ?_, ⟨_, rfl⟩, hW, hsame.mono (by decide) (by decide)⟩
  · exact X14.returnOut hx Bd.returns (hb hby d6_42) hr
  · show Q6 Z a1 p2 p3 p4 p5 q6 vi vn vs vm vz gn gs h0 n0 _ T14.heap _
    rw [e14]
    exact ⟨rfl, N14, K14, fA_vn_x14, V14⟩
theorem d8_0 : decode prog_25_method_30_code 0 = .ok (.aload_n 0, 1) := by decide +kernel
theorem d8_1 : decode prog_25_method_30_code 1 = .ok (.getfield 17, 3) := by decide +kernel
theorem d8_4 : decode prog_25_method_30_code 4 = .ok (.iload_n 1, 1) := by decide +kernel
theorem d8_5 : decode prog_25_method_30_code 5 = .ok (.iload_n 3, 1) := by decide +kernel
theorem d8_6 : decode prog_25_method_30_code 6 = .ok (.ifCond .eq 15, 3) := by decide +kernel
theorem d8_9 : decode prog_25_method_30_code 9 = .ok (.aload_n 0, 1) := by decide +kernel
theorem d8_10 : decode prog_25_method_30_code 10 = .ok (.getfield 17, 3) := by decide +kernel
theorem d8_13 : decode prog_25_method_30_code 13 = .ok (.iload_n 1, 1) := by decide +kernel
theorem d8_14 : decode prog_25_method_30_code 14 = .ok (.laload, 1) := by decide +kernel
theorem d8_15 : decode prog_25_method_30_code 15 = .ok (.iload_n 2, 1) := by decide +kernel
theorem d8_16 : decode prog_25_method_30_code 16 = .ok (.i2l, 1) := by decide +kernel
theorem d8_17 : decode prog_25_method_30_code 17 = .ok (.lor, 1) := by decide +kernel
theorem d8_18 : decode prog_25_method_30_code 18 = .ok (.goto 14, 3) := by decide +kernel
theorem d8_21 : decode prog_25_method_30_code 21 = .ok (.aload_n 0, 1) := by decide +kernel
theorem d8_22 : decode prog_25_method_30_code 22 = .ok (.getfield 17, 3) := by decide +kernel
theorem d8_25 : decode prog_25_method_30_code 25 = .ok (.iload_n 1, 1) := by decide +kernel
theorem d8_26 : decode prog_25_method_30_code 26 = .ok (.laload, 1) := by decide +kernel
theorem d8_27 : decode prog_25_method_30_code 27 = .ok (.iload_n 2, 1) := by decide +kernel
theorem d8_28 : decode prog_25_method_30_code 28 = .ok (.iconst (-1), 1) := by decide +kernel
theorem d8_29 : decode prog_25_method_30_code 29 = .ok (.ixor, 1) := by decide +kernel
theorem d8_30 : decode prog_25_method_30_code 30 = .ok (.i2l, 1) := by decide +kernel
theorem d8_31 : decode prog_25_method_30_code 31 = .ok (.land, 1) := by decide +kernel
theorem d8_32 : decode prog_25_method_30_code 32 = .ok (.lastore, 1) := by decide +kernel
theorem d8_33 : decode prog_25_method_30_code 33 = .ok (.return_, 1) := by decide +kernel
theorem pn_8 : plainName "com/example/atoll/atoll/detect/HeldOrigins" = true := by first | (simp [plainName, overriddenIn]; done) | decide +kernel
theorem ef_8 (m : MethodId) (x0 : Addr) (x1 : Int32) (x2 : Int32) (x3 : Int32) : entryFrame m #[(.ref x0), (.int x1), (.int x2), (.int x3)] 4 = mkF m 0 #[.val (.ref x0), .val (.int x1), .val (.int x2), .val (.int x3)] [] := by first | (simp [entryFrame, mkF, argsToLocals, Value.category]; done) | rfl
def Q8 (Z : State) (a1 : Addr) (p2 : Int32) (p3 : Int32) (p4 : Int32) (vi : Addr) (vn : Addr) (vs : Addr) (vm : Addr) (vz : Int32) (gs : Nat → Int64) (h0 : Heap) (n0 : Nat) (v : Option Value) (h : Heap) (L : List Loc) : Prop := v = none ∧ Fr n0 L ∧ Keep h0 h [vs] ∧ own_Arr Z h vs .long (16 : Int32) (fun i => Value.long ((own_set gs p2 p3 p4) i))
set_option maxRecDepth 65536 in
set_option maxHeartbeats 40000000 in
theorem rm8 (l : Launch) (Z : State) (a0 : Array Value) (hw : ∀ d ∈ tables_1, d.before a0 Z = true) (ws : List Jvm.Cond) (a1 : Addr) (p2 : Int32) (p3 : Int32) (p4 : Int32) (vi : Addr) (vn : Addr) (vs : Addr) (vm : Addr) (vz : Int32) (gs : Nat → Int64) (h0 : Heap) (n0 : Nat) (Z0 : n0 ≤ h0.size) (O_a1 : own_H Z h0 a1 vi vn vs vm vz) (V_vs : own_Arr Z h0 vs .long (16 : Int32) (fun i => Value.long (gs i))) (ne_a1_vs : a1 ≠ vs) (g_vs : n0 ≤ vs) (hp0 : 0 ≤ p2.toInt) (hp1 : p2.toInt < (16 : Int32).toInt) :
    MetFree l (⟨"com/example/atoll/atoll/detect/HeldOrigins", "set", "(IIZ)V"⟩ : MethodName) (head1 (Jvm.Cond.code (⟨"com/example/atoll/atoll/detect/HeldOrigins", "set", "(IIZ)V"⟩ : MethodName) prog_25_method_30_code 4 none :: ws) ({ frames := 0, cells := 0, slots := 0, locals := 0 } : Room)) (fun a U => a = #[(.ref a1), (.int p2), (.int p3), (.int p4)] ∧ Z.Warmed39 U.vm ∧ U.heap = h0) (fun _ _ _ _ _ => True) (fun _ U o U' => ∃ v L, o = .returned v ∧ Q8 Z a1 p2 p3 p4 vi vn vs vm vz gs h0 n0 v U'.heap L ∧ FrameEnd U o U' L ({ frames := 0, cells := 0, slots := 0, locals := 0 } : Room).cells ({ frames := 0, cells := 0, slots := 0, locals := 0 } : Room).slots) := by
  refine MetFree.of_bodySF (plainFor_of_name pn_8) hisR ?_
  intro p e s m args below meth c s₁ Bd hml0 hP hK
  obtain ⟨rfl, hZ, hh⟩ := hP
  have hx := Bd.exec
  have hby := Bd.bytes
  have hml : c.maxLocals = 4 := hml0
  have hown : s.vm.findClass "com/example/atoll/atoll/detect/HeldOrigins" = some m.cls := findClass_of_methodNamed Bd.named
  have hnm := (name_of_methodNamed Bd.named Bd.method).1
  have X0 : Stand p l e ({ frames := 0, cells := 0, slots := 0, locals := 0 } : Room) s m #[(.ref a1), (.int p2), (.int p3), (.int p4)] below meth c s₁ [] 0 0 := Stand.of_body Bd
  have e0 : s₁.heap = h0 := by rw [← hh, Bd.state]; rfl
  have N0 := Fr.nil n0
  show own_End p e below s (s₁.setTop (entryFrame m #[(.ref a1), (.int p2), (.int p3), (.int p4)] 4)) (Q8 Z a1 p2 p3 p4 vi vn vs vm vz gs h0 n0) ({ frames := 0, cells := 0, slots := 0, locals := 0 } : Room).cells ({ frames := 0, cells := 0, slots := 0, locals := 0 } : Room).slots
  obtain ⟨E_a1_1, F_ids_a1_2, F_newest_a1_3, F_state_a1_4, F_mismatches_a1_5, F_size_a1_6⟩ := O_a1
  refine own_pre (A := s₁.setTop (mkF m 0 #[.val (.ref a1), .val (.int p2), .val (.int p3), .val (.int p4)] [])) (fun tt kt => castTop (ef_8 m a1 p2 p3 p4) kt) ?_
  show own_End p e below s (s₁.setTop (mkF m 0 #[.val (.ref a1), .val (.int p2), .val (.int p3), .val (.int p4)] [])) (Q8 Z a1 p2 p3 p4 vi vn vs vm vz gs h0 n0) ({ frames := 0, cells := 0, slots := 0, locals := 0 } : Room).cells ({ frames := 0, cells := 0, slots := 0, locals := 0 } : Room).slots
  obtain ⟨T7, X7, e7, st7⟩ := getF X0 hx hZ hown (host := "") (Or.inl (hw _ (List.mem_of_getElem? (i := 17) rfl))) Via.refl e0 F_state_a1_4 (g := (mkF m 1 #[.val (.ref a1), .val (.int p2), .val (.int p3), .val (.int p4)] [(.ref a1)])) rfl rfl (hb hby d8_1)
  refine own_pre (A := T7.setTop (mkF m 6 #[.val (.ref a1), .val (.int p2), .val (.int p3), .val (.int p4)] [(.int p4), (.int p2), (.ref vs)])) (fun tt kt => ?_) ?_
  · show Steps p.tables e below (s₁.setTop (mkF m 0 #[.val (.ref a1), .val (.int p2), .val (.int p3), .val (.int p4)] [])) _
    refine XS.aloadN X0.here hx rfl (hb hby d8_0) rfl rfl ?_
    show Steps p.tables e below (s₁.setTop (mkF m 1 #[.val (.ref a1), .val (.int p2), .val (.int p3), .val (.int p4)] [(.ref a1)])) _
    refine st7 _ ?_
    show Steps p.tables e below (T7.setTop (mkF m 4 #[.val (.ref a1), .val (.int p2), .val (.int p3), .val (.int p4)] [(.ref vs)])) _
    refine XS.iloadN X7.here hx rfl (hb hby d8_4) rfl ?_
    refine XS.iloadN X7.here hx rfl (hb hby d8_5) rfl ?_
    exact kt
  show own_End p e below s (T7.setTop (mkF m 6 #[.val (.ref a1), .val (.int p2), .val (.int p3), .val (.int p4)] [(.int p4), (.int p2), (.ref vs)])) (Q8 Z a1 p2 p3 p4 vi vn vs vm vz gs h0 n0) ({ frames := 0, cells := 0, slots := 0, locals := 0 } : Room).cells ({ frames := 0, cells := 0, slots := 0, locals := 0 } : Room).slots
  by_cases hc6_8 : p4 = (0 : Int32)
  · obtain ⟨T9, X9, e9, st9⟩ := getF X7 hx hZ hown (host := "") (Or.inl (hw _ (List.mem_of_getElem? (i := 17) rfl))) Via.refl e7 F_state_a1_4 (g := (mkF m 22 #[.val (.ref a1), .val (.int p2), .val (.int p3), .val (.int p4)] [(.ref a1), (.int p2), (.ref vs)])) rfl rfl (hb hby d8_22)
    obtain ⟨cl10, Ar10, S10, Nn10, G10⟩ := id V_vs
    have hin10 : ¬ (p2 < 0 ∨ cl10.slots.size ≤ p2.toNatClampNeg) := inb_of S10 (own_inb2 hp0 hp1 : ¬ p2 < 0 ∧ p2 < (16 : Int32))
    have hat10 : cl10.slots[p2.toNatClampNeg]? = some (.long (gs p2.toNatClampNeg)) := own_at S10 G10 hin10
    obtain ⟨cl11, Ar11, S11, Nn11, G11⟩ := id V_vs
    have hin11 : ¬ (p2 < 0 ∨ cl11.slots.size ≤ p2.toNatClampNeg) := inb_of S11 (own_inb2 hp0 hp1 : ¬ p2 < 0 ∧ p2 < (16 : Int32))
    obtain ⟨T12, h12, X12, e12, W12, st12⟩ := stJ X9 hx hZ e9 Ar11 (j := p2) hin11 (g := (mkF m 32 #[.val (.ref a1), .val (.int p2), .val (.int p3), .val (.int p4)] [(.long ((gs p2.toNatClampNeg) &&& ((p3 ^^^ (-1 : Int32)).toInt64))), (.int p2), (.ref vs)])) rfl rfl (hb hby d8_32)
    have fE_a1_x12 := (E_a1_1.wr W12)
    have fF_a1_ids_x12 := (Fld.other W12 F_ids_a1_2 (Or.inl ne_a1_vs))
    have fF_a1_newest_x12 := (Fld.other W12 F_newest_a1_3 (Or.inl ne_a1_vs))
    have fF_a1_state_x12 := (Fld.other W12 F_state_a1_4 (Or.inl ne_a1_vs))
    have fF_a1_mismatches_x12 := (Fld.other W12 F_mismatches_a1_5 (Or.inl ne_a1_vs))
    have fF_a1_size_x12 := (Fld.other W12 F_size_a1_6 (Or.inl ne_a1_vs))
    have V12 : own_Arr Z h12 vs .long (16 : Int32) (fun i => Value.long ((own_putJ gs p2 ((gs p2.toNatClampNeg) &&& ((p3 ^^^ (-1 : Int32)).toInt64))) i)) := own_Arr.set (w := Value.long) (g := gs) (x := ((gs p2.toNatClampNeg) &&& ((p3 ^^^ (-1 : Int32)).toInt64))) V_vs W12 rfl (fun i => rfl)
    have N12 := Fr.snoc X12 N0 g_vs
    have K12 : Keep h0 h12 [vs] := Keep.wr (Keep.refl h0 _) W12 (Or.inl (List.mem_of_getElem? (i := 0) rfl))
    have Z12 : n0 ≤ h12.size := Nat.le_trans Z0 (Nat.le_of_eq W12.size.symm)
    refine own_pre (A := T12.setTop (mkF m 33 #[.val (.ref a1), .val (.int p2), .val (.int p3), .val (.int p4)] [])) (fun tt kt => ?_) ?_
    · show Steps p.tables e below (T7.setTop (mkF m 6 #[.val (.ref a1), .val (.int p2), .val (.int p3), .val (.int p4)] [(.int p4), (.int p2), (.ref vs)])) _
      refine XS.ifYes X7.here hx rfl (pc0 := 6) (pc' := 21) rfl (hb hby d8_6) rfl ((if0 _ _).trans (teq hc6_8).1) (by decide) (by decide) ?_
      refine XS.aloadN X7.here hx rfl (hb hby d8_21) rfl rfl ?_
      show Steps p.tables e below (T7.setTop (mkF m 22 #[.val (.ref a1), .val (.int p2), .val (.int p3), .val (.int p4)] [(.ref a1), (.int p2), (.ref vs)])) _
      refine st9 _ ?_
      show Steps p.tables e below (T9.setTop (mkF m 25 #[.val (.ref a1), .val (.int p2), .val (.int p3), .val (.int p4)] [(.ref vs), (.int p2), (.ref vs)])) _
      refine XS.iloadN X9.here hx rfl (hb hby d8_25) rfl ?_
      show Steps p.tables e below (T9.setTop (mkF m 26 #[.val (.ref a1), .val (.int p2), .val (.int p3), .val (.int p4)] [(.int p2), (.ref vs), (.int p2), (.ref vs)])) _
      refine X9.laload hx (j := p2) (v := (.long (gs p2.toNatClampNeg))) (by rw [e9]; exact Ar10.1) (State.isArrayOf_alike hZ.alike Ar10.2.1) Ar10.2.2 hin10 hat10 (g := (mkF m 26 #[.val (.ref a1), .val (.int p2), .val (.int p3), .val (.int p4)] [(.int p2), (.ref vs), (.int p2), (.ref vs)])) rfl rfl (hb hby d8_26) _ ?_
      show Steps p.tables e below (T9.setTop (mkF m 27 #[.val (.ref a1), .val (.int p2), .val (.int p3), .val (.int p4)] [(.long (gs p2.toNatClampNeg)), (.int p2), (.ref vs)])) _
      refine XS.iloadN X9.here hx rfl (hb hby d8_27) rfl ?_
      refine XS.iconst X9.here hx rfl (hb hby d8_28) ?_
      refine XS.ixor X9.here hx rfl (hb hby d8_29) rfl ?_
      refine XS.i2l X9.here hx rfl (hb hby d8_30) rfl ?_
      show Steps p.tables e below (T9.setTop (mkF m 31 #[.val (.ref a1), .val (.int p2), .val (.int p3), .val (.int p4)] [(.long ((p3 ^^^ (-1 : Int32)).toInt64)), (.long (gs p2.toNatClampNeg)), (.int p2), (.ref vs)])) _
      refine XS.land X9.here hx rfl (hb hby d8_31) rfl ?_
      show Steps p.tables e below (T9.setTop (mkF m 32 #[.val (.ref a1), .val (.int p2), .val (.int p3), .val (.int p4)] [(.long ((gs p2.toNatClampNeg) &&& ((p3 ^^^ (-1 : Int32)).toInt64))), (.int p2), (.ref vs)])) _
      refine st12 _ ?_
      exact kt
    show own_End p e below s (T12.setTop (mkF m 33 #[.val (.ref a1), .val (.int p2), .val (.int p3), .val (.int p4)] [])) (Q8 Z a1 p2 p3 p4 vi vn vs vm vz gs h0 n0) ({ frames := 0, cells := 0, slots := 0, locals := 0 } : Room).cells ({ frames := 0, cells := 0, slots := 0, locals := 0 } : Room).slots
    obtain ⟨fs, hr, hrun, hended, hW, hsame⟩ := X12.leave (v := none) (fun _ => rfl)
    refine ⟨_, _, ?_, hrun, hended, _, _, rfl, ?_, ⟨_, rfl⟩, hW, hsame.mono (by decide) (by decide)⟩
    · exact X12.returnOut hx Bd.returns (hb hby d8_33) hr
    · show Q8 Z a1 p2 p3 p4 vi vn vs vm vz gs h0 n0 _ T12.heap _
      rw [e12]
      exact ⟨rfl, N12, K12, (own_Arr.congr (w := Value.long) V12 (fun i _ => by simp only [own_set, own_putJ, if_pos hc6_8]))⟩
  · obtain ⟨T13, X13, e13, st13⟩ := getF X7 hx hZ hown (host := "") (Or.inl (hw _ (List.mem_of_getElem? (i := 17) rfl))) Via.refl e7 F_state_a1_4 (g := (mkF m 10 #[.val (.ref a1), .val (.int p2), .val (.int p3), .val (.int p4)] [(.ref a1), (.int p2), (.ref vs)])) rfl rfl (hb hby d8_10)
    obtain ⟨cl14, Ar14, S14, Nn14, G14⟩ := id V_vs
    have hin14 : ¬ (p2 < 0 ∨ cl14.slots.size ≤ p2.toNatClampNeg) := inb_of S14 (own_inb2 hp0 hp1 : ¬ p2 < 0 ∧ p2 < (16 : Int32))
    have hat14 : cl14.slots[p2.toNatClampNeg]? = some (.long (gs p2.toNatClampNeg)) := own_at S14 G14 hin14
    obtain ⟨cl15, Ar15, S15, Nn15, G15⟩ := id V_vs
    have hin15 : ¬ (p2 < 0 ∨ cl15.slots.size ≤ p2.toNatClampNeg) := inb_of S15 (own_inb2 hp0 hp1 : ¬ p2 < 0 ∧ p2 < (16 : Int32))
    obtain ⟨T16, h16, X16, e16, W16, st16⟩ := stJ X13 hx hZ e13 Ar15 (j := p2) hin15 (g := (mkF m 32 #[.val (.ref a1), .val (.int p2), .val (.int p3), .val (.int p4)] [(.long ((gs p2.toNatClampNeg) ||| (p3.toInt64))), (.int p2), (.ref vs)])) rfl rfl (hb hby d8_32)
    have fE_a1_x16 := (E_a1_1.wr W16)
    have fF_a1_ids_x16 := (Fld.other W16 F_ids_a1_2 (Or.inl ne_a1_vs))
    have fF_a1_newest_x16 := (Fld.other W16 F_newest_a1_3 (Or.inl ne_a1_vs))
    have fF_a1_state_x16 := (Fld.other W16 F_state_a1_4 (Or.inl ne_a1_vs))
    have fF_a1_mismatches_x16 := (Fld.other W16 F_mismatches_a1_5 (Or.inl ne_a1_vs))
    have fF_a1_size_x16 := (Fld.other W16 F_size_a1_6 (Or.inl ne_a1_vs))
    have V16 : own_Arr Z h16 vs .long (16 : Int32) (fun i => Value.long ((own_putJ gs p2 ((gs p2.toNatClampNeg) ||| (p3.toInt64))) i)) := own_Arr.set (w := Value.long) (g := gs) (x := ((gs p2.toNatClampNeg) ||| (p3.toInt64))) V_vs W16 rfl (fun i => rfl)
    have N16 := Fr.snoc X16 N0 g_vs
    have K16 : Keep h0 h16 [vs] := Keep.wr (Keep.refl h0 _) W16 (Or.inl (List.mem_of_getElem? (i := 0) rfl))
    have Z16 : n0 ≤ h16.size := Nat.le_trans Z0 (Nat.le_of_eq W16.size.symm)
    refine own_pre (A := T16.setTop (mkF m 33 #[.val (.ref a1), .val (.int p2), .val (.int p3), .val (.int p4)] [])) (fun tt kt => ?_) ?_
    · show Steps p.tables e below (T7.setTop (mkF m 6 #[.val (.ref a1), .val (.int p2), .val (.int p3), .val (.int p4)] [(.int p4), (.int p2), (.ref vs)])) _
      refine XS.ifNo X7.here hx rfl (hb hby d8_6) rfl ((if0 _ _).trans (feq hc6_8).1) ?_
      refine XS.aloadN X7.here hx rfl (hb hby d8_9) rfl rfl ?_
      show Steps p.tables e below (T7.setTop (mkF m 10 #[.val (.ref a1), .val (.int p2), .val (.int p3), .val (.int p4)] [(.ref a1), (.int p2), (.ref vs)])) _
      refine st13 _ ?_
      show Steps p.tables e below (T13.setTop (mkF m 13 #[.val (.ref a1), .val (.int p2), .val (.int p3), .val (.int p4)] [(.ref vs), (.int p2), (.ref vs)])) _
      refine XS.iloadN X13.here hx rfl (hb hby d8_13) rfl ?_
      show Steps p.tables e below (T13.setTop (mkF m 14 #[.val (.ref a1), .val (.int p2), .val (.int p3), .val (.int p4)] [(.int p2), (.ref vs), (.int p2), (.ref vs)])) _
      refine X13.laload hx (j := p2) (v := (.long (gs p2.toNatClampNeg))) (by rw [e13]; exact Ar14.1) (State.isArrayOf_alike hZ.alike Ar14.2.1) Ar14.2.2 hin14 hat14 (g := (mkF m 14 #[.val (.ref a1), .val (.int p2), .val (.int p3), .val (.int p4)] [(.int p2), (.ref vs), (.int p2), (.ref vs)])) rfl rfl (hb hby d8_14) _ ?_
      show Steps p.tables e below (T13.setTop (mkF m 15 #[.val (.ref a1), .val (.int p2), .val (.int p3), .val (.int p4)] [(.long (gs p2.toNatClampNeg)), (.int p2), (.ref vs)])) _
      refine XS.iloadN X13.here hx rfl (hb hby d8_15) rfl ?_
      refine XS.i2l X13.here hx rfl (hb hby d8_16) rfl ?_
      refine XS.lor X13.here hx rfl (hb hby d8_17) rfl ?_
      refine XS.goto X13.here hx rfl (pc0 := 18) (pc' := 32) rfl (hb hby d8_18) (by decide) (by decide) ?_
      show Steps p.tables e below (T13.setTop (mkF m 32 #[.val (.ref a1), .val (.int p2), .val (.int p3), .val (.int p4)] [(.long ((gs p2.toNatClampNeg) ||| (p3.toInt64))), (.int p2), (.ref vs)])) _
      refine st16 _ ?_
      exact kt
    show own_End p e below s (T16.setTop (mkF m 33 #[.val (.ref a1), .val (.int p2), .val (.int p3), .val (.int p4)] [])) (Q8 Z a1 p2 p3 p4 vi vn vs vm vz gs h0 n0) ({ frames := 0, cells := 0, slots := 0, locals := 0 } : Room).cells ({ frames := 0, cells := 0, slots := 0, locals := 0 } : Room).slots
    obtain ⟨fs, hr, hrun, hended, hW, hsame⟩ := X16.leave (v := none) (fun _ => rfl)
    refine ⟨_, _, ?_, hrun, hended, _, _, rfl, ?_, ⟨_, rfl⟩, hW, hsame.mono (by decide) (by decide)⟩
    · exact X16.returnOut hx Bd.returns (hb hby d8_33) hr
    · show Q8 Z a1 p2 p3 p4 vi vn vs vm vz gs h0 n0 _ T16.heap _
      rw [e16]
      exact ⟨rfl, N16, K16, (own_Arr.congr (w := Value.long) V16 (fun i _ => by simp only [own_set, own_putJ, if_neg hc6_8]))⟩
theorem d7_0 : decode prog_25_method_26_code 0 = .ok (.aload_n 0, 1) := by decide +kernel
theorem d7_1 : decode prog_25_method_26_code 1 = .ok (.iload_n 1, 1) := by decide +kernel
theorem d7_2 : decode prog_25_method_26_code 2 = .ok (.iconst 4, 1) := by decide +kernel
theorem d7_3 : decode prog_25_method_26_code 3 = .ok (.iload_n 2, 1) := by decide +kernel
theorem d7_4 : decode prog_25_method_26_code 4 = .ok (.invokevirtual 119, 3) := by decide +kernel
theorem d7_7 : decode prog_25_method_26_code 7 = .ok (.return_, 1) := by decide +kernel
theorem pn_7 : plainName "com/example/atoll/atoll/detect/HeldOrigins" = true := by first | (simp [plainName, overriddenIn]; done) | decide +kernel
theorem pd_7_0 : parseMethodDescriptor "(IIZ)V" = some ⟨[.int, .int, .boolean], none⟩ := by decide +kernel
theorem ef_7 (m : MethodId) (x0 : Addr) (x1 : Int32) (x2 : Int32) : entryFrame m #[(.ref x0), (.int x1), (.int x2)] 3 = mkF m 0 #[.val (.ref x0), .val (.int x1), .val (.int x2)] [] := by first | (simp [entryFrame, mkF, argsToLocals, Value.category]; done) | rfl
def Q7 (Z : State) (a1 : Addr) (p2 : Int32) (p3 : Int32) (vi : Addr) (vn : Addr) (vs : Addr) (vm : Addr) (vz : Int32) (gs : Nat → Int64) (h0 : Heap) (n0 : Nat) (v : Option Value) (h : Heap) (L : List Loc) : Prop := v = none ∧ Fr n0 L ∧ Keep h0 h [vs] ∧ own_Arr Z h vs .long (16 : Int32) (fun i => Value.long ((own_set gs p2 (4 : Int32) p3) i))
set_option maxRecDepth 65536 in
set_option maxHeartbeats 40000000 in
theorem rm7 (l : Launch) (Z : State) (a0 : Array Value) (hw : ∀ d ∈ tables_1, d.before a0 Z = true) (ws : List Jvm.Cond) (a1 : Addr) (p2 : Int32) (p3 : Int32) (vi : Addr) (vn : Addr) (vs : Addr) (vm : Addr) (vz : Int32) (gs : Nat → Int64) (h0 : Heap) (n0 : Nat) (Z0 : n0 ≤ h0.size) (O_a1 : own_H Z h0 a1 vi vn vs vm vz) (V_vs : own_Arr Z h0 vs .long (16 : Int32) (fun i => Value.long (gs i))) (ne_a1_vs : a1 ≠ vs) (g_vs : n0 ≤ vs) (hp0 : 0 ≤ p2.toInt) (hp1 : p2.toInt < (16 : Int32).toInt) :
    MetFree l (⟨"com/example/atoll/atoll/detect/HeldOrigins", "setQueued", "(IZ)V"⟩ : MethodName) (head1 (Jvm.Cond.code (⟨"com/example/atoll/atoll/detect/HeldOrigins", "setQueued", "(IZ)V"⟩ : MethodName) prog_25_method_26_code 3 none :: ws) ({ frames := 1, cells := 0, slots := 0, locals := 15 } : Room)) (fun a U => a = #[(.ref a1), (.int p2), (.int p3)] ∧ Z.Warmed39 U.vm ∧ U.heap = h0) (fun _ _ _ _ _ => True) (fun _ U o U' => ∃ v L, o = .returned v ∧ Q7 Z a1 p2 p3 vi vn vs vm vz gs h0 n0 v U'.heap L ∧ FrameEnd U o U' L ({ frames := 1, cells := 0, slots := 0, locals := 15 } : Room).cells ({ frames := 1, cells := 0, slots := 0, locals := 15 } : Room).slots) := by
  refine MetFree.of_bodySF (plainFor_of_name pn_7) hisR ?_
  intro p e s m args below meth c s₁ Bd hml0 hP hK
  obtain ⟨rfl, hZ, hh⟩ := hP
  have hx := Bd.exec
  have hby := Bd.bytes
  have hml : c.maxLocals = 3 := hml0
  have hown : s.vm.findClass "com/example/atoll/atoll/detect/HeldOrigins" = some m.cls := findClass_of_methodNamed Bd.named
  have hnm := (name_of_methodNamed Bd.named Bd.method).1
  have X0 : Stand p l e ({ frames := 1, cells := 0, slots := 0, locals := 15 } : Room) s m #[(.ref a1), (.int p2), (.int p3)] below meth c s₁ [] 0 0 := Stand.of_body Bd
  have e0 : s₁.heap = h0 := by rw [← hh, Bd.state]; rfl
  have N0 := Fr.nil n0
  show own_End p e below s (s₁.setTop (entryFrame m #[(.ref a1), (.int p2), (.int p3)] 3)) (Q7 Z a1 p2 p3 vi vn vs vm vz gs h0 n0) ({ frames := 1, cells := 0, slots := 0, locals := 15 } : Room).cells ({ frames := 1, cells := 0, slots := 0, locals := 15 } : Room).slots
  obtain ⟨E_a1_1, F_ids_a1_2, F_newest_a1_3, F_state_a1_4, F_mismatches_a1_5, F_size_a1_6⟩ := O_a1
  refine own_pre (A := s₁.setTop (mkF m 0 #[.val (.ref a1), .val (.int p2), .val (.int p3)] [])) (fun tt kt => castTop (ef_7 m a1 p2 p3) kt) ?_
  show own_End p e below s (s₁.setTop (mkF m 0 #[.val (.ref a1), .val (.int p2), .val (.int p3)] [])) (Q7 Z a1 p2 p3 vi vn vs vm vz gs h0 n0) ({ frames := 1, cells := 0, slots := 0, locals := 15 } : Room).cells ({ frames := 1, cells := 0, slots := 0, locals := 15 } : Room).slots
  obtain ⟨cq7, q7, q7'⟩ := (E_a1_1).cell
  obtain ⟨_, _, ⟨T7, L7, k7, n7⟩, -, X7, ⟨Lc7, hQ7, l7, y7, z7⟩, st7⟩ := X0.privateBack hx (y := (⟨"com/example/atoll/atoll/detect/HeldOrigins", "set", "(IIZ)V"⟩ : MethodName)) hown (mvT hZ (hw _ (List.mem_of_getElem? (i := 63) rfl))) (mvT hZ (hw _ (List.mem_of_getElem? (i := 64) rfl))) (own_selPriv hZ (hw _ (List.mem_of_getElem? (i := 3) rfl)) (hw _ (List.mem_of_getElem? (i := 64) rfl)) (hw _ (List.mem_of_getElem? (i := 65) rfl)) (by decide)) (Cond.privateMethod_at (mvP hZ (hw _ (List.mem_of_getElem? (i := 65) rfl)) (args := #[]))) (mvT hZ (hw _ (List.mem_of_getElem? (i := 66) rfl))) (by decide) (backOf (W := 0) (rm8 l Z a0 hw [] a1 p2 (4 : Int32) p3 vi vn vs vm vz gs h0 n0 Z0 ⟨E_a1_1, F_ids_a1_2, F_newest_a1_3, F_state_a1_4, F_mismatches_a1_5, F_size_a1_6⟩ V_vs ne_a1_vs g_vs hp0 hp1) hZ (hw _ (List.mem_of_getElem? (i := 66) rfl)) (hw _ (List.mem_of_getElem? (i := 4) rfl)) (by decide) (by decide)) (g := (mkF m 4 #[.val (.ref a1), .val (.int p2), .val (.int p3)] [(.int p3), (.int (4 : Int32)), (.int p2), (.ref a1)])) rfl (by rw [hml]; rfl) (Steps.refl _) (a := a1) (by rw [e0]; exact q7) q7' (argsL := [(.int p2), (.int (4 : Int32)), (.int p3)]) (rest := []) (lenOf pd_7_0 rfl) rfl (by show 2 * 0 + _ ≤ _; exact Nat.le_of_eq rfl) (hb hby d7_4) (fun _ _ => ⟨rfl, e0, (by decide : 0 + 0 ≤ _), (by decide : 0 + 0 ≤ _)⟩)
  dsimp only [Pt.U, Pt.locs, Pt.cells, Pt.slots] at X7 l7 y7 z7 st7 hQ7
  subst l7 y7 z7
  obtain ⟨rfl, N7q, Kq7, V7_0⟩ := hQ7
  have N7 := Fr.app N0 N7q
  have fE_a1_x7 := (E_a1_1.keep Kq7)
  have fF_a1_ids_x7 := (F_ids_a1_2.keep Kq7 (ninS ne_a1_vs nin0))
  have fF_a1_newest_x7 := (F_newest_a1_3.keep Kq7 (ninS ne_a1_vs nin0))
  have fF_a1_state_x7 := (F_state_a1_4.keep Kq7 (ninS ne_a1_vs nin0))
  have fF_a1_mismatches_x7 := (F_mismatches_a1_5.keep Kq7 (ninS ne_a1_vs nin0))
  have fF_a1_size_x7 := (F_size_a1_6.keep Kq7 (ninS ne_a1_vs nin0))
  have K7 : Keep h0 T7.heap [vs] := Keep.trans (Keep.refl h0 _) Kq7 (allS (Or.inl (List.mem_of_getElem? (i := 0) rfl)) all0)
  have Z7 : n0 ≤ T7.heap.size := Nat.le_trans Z0 Kq7.1
  refine own_pre (A := T7.setTop (mkF m 7 #[.val (.ref a1), .val (.int p2), .val (.int p3)] [])) (fun tt kt => ?_) ?_
  · show Steps p.tables e below (s₁.setTop (mkF m 0 #[.val (.ref a1), .val (.int p2), .val (.int p3)] [])) _
    refine XS.aloadN X0.here hx rfl (hb hby d7_0) rfl rfl ?_
    refine XS.iloadN X0.here hx rfl (hb hby d7_1) rfl ?_
    refine XS.iconst X0.here hx rfl (hb hby d7_2) ?_
    refine XS.iloadN X0.here hx rfl (hb hby d7_3) rfl ?_
    show Steps p.tables e below (s₁.setTop (mkF m 4 #[.val (.ref a1), .val (.int p2), .val (.int p3)] [(.int p3), (.int (4 : Int32)), (.int p2), (.ref a1)])) _
    refine st7.trans ?_
    exact kt
  show own_End p e below s (T7.setTop (mkF m 7 #[.val (.ref a1), .val (.int p2), .val (.int p3)] [])) (Q7 Z a1 p2 p3 vi vn vs vm vz gs h0 n0) ({ frames := 1, cells := 0, slots := 0, locals := 15 } : Room).cells ({ frames := 1, cells := 0, slots := 0, locals := 15 } : Room).slots
  obtain ⟨fs, hr, hrun, hended, hW, hsame⟩ := X7.leave (v := none) (fun _ => rfl)
  refine ⟨_, _, ?_, hrun, hended, _, _, rfl, ?_, ⟨_, rfl⟩, hW, hsame.mono (by decide) (by decide)⟩
  · exact X7.returnOut hx Bd.returns (hb hby d7_7) hr
  · show Q7 Z a1 p2 p3 vi vn vs vm vz gs h0 n0 _ T7.heap _
    exact ⟨rfl, N7, K7, V7_0⟩
theorem d11_0 : decode prog_25_method_20_code 0 = .ok (.aload_n 0, 1) := by decide +kernel
theorem d11_1 : decode prog_25_method_20_code 1 = .ok (.iload_n 1, 1) := by decide +kernel
theorem d11_2 : decode prog_25_method_20_code 2 = .ok (.iconst 1, 1) := by decide +kernel
theorem d11_3 : decode prog_25_method_20_code 3 = .ok (.iload_n 2, 1) := by decide +kernel
theorem d11_4 : decode prog_25_method_20_code 4 = .ok (.invokevirtual 119, 3) := by decide +kernel
theorem d11_7 : decode prog_25_method_20_code 7 = .ok (.return_, 1) := by decide +kernel
theorem pn_11 : plainName "com/example/atoll/atoll/detect/HeldOrigins" = true := by first | (simp [plainName, overriddenIn]; done) | decide +kernel
theorem pd_11_0 : parseMethodDescriptor "(IIZ)V" = some ⟨[.int, .int, .boolean], none⟩ := by decide +kernel
theorem ef_11 (m : MethodId) (x0 : Addr) (x1 : Int32) (x2 : Int32) : entryFrame m #[(.ref x0), (.int x1), (.int x2)] 3 = mkF m 0 #[.val (.ref x0), .val (.int x1), .val (.int x2)] [] := by first | (simp [entryFrame, mkF, argsToLocals, Value.category]; done) | rfl
def Q11 (Z : State) (a1 : Addr) (p2 : Int32) (p3 : Int32) (vi : Addr) (vn : Addr) (vs : Addr) (vm : Addr) (vz : Int32) (gs : Nat → Int64) (h0 : Heap) (n0 : Nat) (v : Option Value) (h : Heap) (L : List Loc) : Prop := v = none ∧ Fr n0 L ∧ Keep h0 h [vs] ∧ own_Arr Z h vs .long (16 : Int32) (fun i => Value.long ((own_set gs p2 (1 : Int32) p3) i))
set_option maxRecDepth 65536 in
set_option maxHeartbeats 40000000 in
theorem rm11 (l : Launch) (Z : State) (a0 : Array Value) (hw : ∀ d ∈ tables_1, d.before a0 Z = true) (ws : List Jvm.Cond) (a1 : Addr) (p2 : Int32) (p3 : Int32) (vi : Addr) (vn : Addr) (vs : Addr) (vm : Addr) (vz : Int32) (gs : Nat → Int64) (h0 : Heap) (n0 : Nat) (Z0 : n0 ≤ h0.size) (O_a1 : own_H Z h0 a1 vi vn vs vm vz) (V_vs : own_Arr Z h0 vs .long (16 : Int32) (fun i => Value.long (gs i))) (ne_a1_vs : a1 ≠ vs) (g_vs : n0 ≤ vs) (hp0 : 0 ≤ p2.toInt) (hp1 : p2.toInt < (16 : Int32).toInt) :
    MetFree l (⟨"com/example/atoll/atoll/detect/HeldOrigins", "setNamed", "(IZ)V"⟩ : MethodName) (head1 (Jvm.Cond.code (⟨"com/example/atoll/atoll/detect/HeldOrigins", "setNamed", "(IZ)V"⟩ : MethodName) prog_25_method_20_code 3 none :: ws) ({ frames := 1, cells := 0, slots := 0, locals := 15 } : Room)) (fun a U => a = #[(.ref a1), (.int p2), (.int p3)] ∧ Z.Warmed39 U.vm ∧ U.heap = h0) (fun _ _ _ _ _ => True) (fun _ U o U' => ∃ v L, o = .returned v ∧ Q11 Z a1 p2 p3 vi vn vs vm vz gs h0 n0 v U'.heap L ∧ FrameEnd U o U' L ({ frames := 1, cells := 0, slots := 0, locals := 15 } : Room).cells ({ frames := 1, cells := 0, slots := 0, locals := 15 } : Room).slots) := by
  refine MetFree.of_bodySF (plainFor_of_name pn_11) hisR ?_
  intro p e s m args below meth c s₁ Bd hml0 hP hK
  obtain ⟨rfl, hZ, hh⟩ := hP
  have hx := Bd.exec
  have hby := Bd.bytes
  have hml : c.maxLocals = 3 := hml0
  have hown : s.vm.findClass "com/example/atoll/atoll/detect/HeldOrigins" = some m.cls := findClass_of_methodNamed Bd.named
  have hnm := (name_of_methodNamed Bd.named Bd.method).1
  have X0 : Stand p l e ({ frames := 1, cells := 0, slots := 0, locals := 15 } : Room) s m #[(.ref a1), (.int p2), (.int p3)] below meth c s₁ [] 0 0 := Stand.of_body Bd
  have e0 : s₁.heap = h0 := by rw [← hh, Bd.state]; rfl
  have N0 := Fr.nil n0
  show own_End p e below s (s₁.setTop (entryFrame m #[(.ref a1), (.int p2), (.int p3)] 3)) (Q11 Z a1 p2 p3 vi vn vs vm vz gs h0 n0) ({ frames := 1, cells := 0, slots := 0, locals := 15 } : Room).cells ({ frames := 1, cells := 0, slots := 0, locals := 15 } : Room).slots
  obtain ⟨E_a1_1, F_ids_a1_2, F_newest_a1_3, F_state_a1_4, F_mismatches_a1_5, F_size_a1_6⟩ := O_a1
  refine own_pre (A := s₁.setTop (mkF m 0 #[.val (.ref a1), .val (.int p2), .val (.int p3)] [])) (fun tt kt => castTop (ef_11 m a1 p2 p3) kt) ?_
  show own_End p e below s (s₁.setTop (mkF m 0 #[.val (.ref a1), .val (.int p2), .val (.int p3)] [])) (Q11 Z a1 p2 p3 vi vn vs vm vz gs h0 n0) ({ frames := 1, cells := 0, slots := 0, locals := 15 } : Room).cells ({ frames := 1, cells := 0, slots := 0, locals := 15 } : Room).slots
  obtain ⟨cq7, q7, q7'⟩ := (E_a1_1).cell
  obtain ⟨_, _, ⟨T7, L7, k7, n7⟩, -, X7, ⟨Lc7, hQ7, l7, y7, z7⟩, st7⟩ := X0.privateBack hx (y := (⟨"com/example/atoll/atoll/detect/HeldOrigins", "set", "(IIZ)V"⟩ : MethodName)) hown (mvT hZ (hw _ (List.mem_of_getElem? (i := 63) rfl))) (mvT hZ (hw _ (List.mem_of_getElem? (i := 64) rfl))) (own_selPriv hZ (hw _ (List.mem_of_getElem? (i := 3) rfl)) (hw _ (List.mem_of_getElem? (i := 64) rfl)) (hw _ (List.mem_of_getElem? (i := 65) rfl)) (by decide)) (Cond.privateMethod_at (mvP hZ (hw _ (List.mem_of_getElem? (i := 65) rfl)) (args := #[]))) (mvT hZ (hw _ (List.mem_of_getElem? (i := 66) rfl))) (by decide) (backOf (W := 0) (rm8 l Z a0 hw [] a1 p2 (1 : Int32) p3 vi vn vs vm vz gs h0 n0 Z0 ⟨E_a1_1, F_ids_a1_2, F_newest_a1_3, F_state_a1_4, F_mismatches_a1_5, F_size_a1_6⟩ V_vs ne_a1_vs g_vs hp0 hp1) hZ (hw _ (List.mem_of_getElem? (i := 66) rfl)) (hw _ (List.mem_of_getElem? (i := 4) rfl)) (by decide) (by decide)) (g := (mkF m 4 #[.val (.ref a1), .val (.int p2), .val (.int p3)] [(.int p3), (.int (1 : Int32)), (.int p2), (.ref a1)])) rfl (by rw [hml]; rfl) (Steps.refl _) (a := a1) (by rw [e0]; exact q7) q7' (argsL := [(.int p2), (.int (1 : Int32)), (.int p3)]) (rest := []) (lenOf pd_11_0 rfl) rfl (by show 2 * 0 + _ ≤ _; exact Nat.le_of_eq rfl) (hb hby d11_4) (fun _ _ => ⟨rfl, e0, (by decide : 0 + 0 ≤ _), (by decide : 0 + 0 ≤ _)⟩)
  dsimp only [Pt.U, Pt.locs, Pt.cells, Pt.slots] at X7 l7 y7 z7 st7 hQ7
  subst l7 y7 z7
  obtain ⟨rfl, N7q, Kq7, V7_0⟩ := hQ7
  have N7 := Fr.app N0 N7q
  have fE_a1_x7 := (E_a1_1.keep Kq7)
  have fF_a1_ids_x7 := (F_ids_a1_2.keep Kq7 (ninS ne_a1_vs nin0))
  have fF_a1_newest_x7 := (F_newest_a1_3.keep Kq7 (ninS ne_a1_vs nin0))
  have fF_a1_state_x7 := (F_state_a1_4.keep Kq7 (ninS ne_a1_vs nin0))
  have fF_a1_mismatches_x7 := (F_mismatches_a1_5.keep Kq7 (ninS ne_a1_vs nin0))
  have fF_a1_size_x7 := (F_size_a1_6.keep Kq7 (ninS ne_a1_vs nin0))
  have K7 : Keep h0 T7.heap [vs] := Keep.trans (Keep.refl h0 _) Kq7 (allS (Or.inl (List.mem_of_getElem? (i := 0) rfl)) all0)
  have Z7 : n0 ≤ T7.heap.size := Nat.le_trans Z0 Kq7.1
  refine own_pre (A := T7.setTop (mkF m 7 #[.val (.ref a1), .val (.int p2), .val (.int p3)] [])) (fun tt kt => ?_) ?_
  · show Steps p.tables e below (s₁.setTop (mkF m 0 #[.val (.ref a1), .val (.int p2), .val (.int p3)] [])) _
    refine XS.aloadN X0.here hx rfl (hb hby d11_0) rfl rfl ?_
    refine XS.iloadN X0.here hx rfl (hb hby d11_1) rfl ?_
    refine XS.iconst X0.here hx rfl (hb hby d11_2) ?_
    refine XS.iloadN X0.here hx rfl (hb hby d11_3) rfl ?_
    show Steps p.tables e below (s₁.setTop (mkF m 4 #[.val (.ref a1), .val (.int p2), .val (.int p3)] [(.int p3), (.int (1 : Int32)), (.int p2), (.ref a1)])) _
    refine st7.trans ?_
    exact kt
  show own_End p e below s (T7.setTop (mkF m 7 #[.val (.ref a1), .val (.int p2), .val (.int p3)] [])) (Q11 Z a1 p2 p3 vi vn vs vm vz gs h0 n0) ({ frames := 1, cells := 0, slots := 0, locals := 15 } : Room).cells ({ frames := 1, cells := 0, slots := 0, locals := 15 } : Room).slots
  obtain ⟨fs, hr, hrun, hended, hW, hsame⟩ := X7.leave (v := none) (fun _ => rfl)
  refine ⟨_, _, ?_, hrun, hended, _, _, rfl, ?_, ⟨_, rfl⟩, hW, hsame.mono (by decide) (by decide)⟩
  · exact X7.returnOut hx Bd.returns (hb hby d11_7) hr
  · show Q11 Z a1 p2 p3 vi vn vs vm vz gs h0 n0 _ T7.heap _
    exact ⟨rfl, N7, K7, V7_0⟩
theorem d12_0 : decode prog_25_method_24_code 0 = .ok (.aload_n 0, 1) := by decide +kernel
theorem d12_1 : decode prog_25_method_24_code 1 = .ok (.iload_n 1, 1) := by decide +kernel
theorem d12_2 : decode prog_25_method_24_code 2 = .ok (.iconst 2, 1) := by decide +kernel
theorem d12_3 : decode prog_25_method_24_code 3 = .ok (.iload_n 2, 1) := by decide +kernel
theorem d12_4 : decode prog_25_method_24_code 4 = .ok (.invokevirtual 119, 3) := by decide +kernel
theorem d12_7 : decode prog_25_method_24_code 7 = .ok (.return_, 1) := by decide +kernel
theorem pn_12 : plainName "com/example/atoll/atoll/detect/HeldOrigins" = true := by first | (simp [plainName, overriddenIn]; done) | decide +kernel
theorem pd_12_0 : parseMethodDescriptor "(IIZ)V" = some ⟨[.int, .int, .boolean], none⟩ := by decide +kernel
theorem ef_12 (m : MethodId) (x0 : Addr) (x1 : Int32) (x2 : Int32) : entryFrame m #[(.ref x0), (.int x1), (.int x2)] 3 = mkF m 0 #[.val (.ref x0), .val (.int x1), .val (.int x2)] [] := by first | (simp [entryFrame, mkF, argsToLocals, Value.category]; done) | rfl
def Q12 (Z : State) (a1 : Addr) (p2 : Int32) (p3 : Int32) (vi : Addr) (vn : Addr) (vs : Addr) (vm : Addr) (vz : Int32) (gs : Nat → Int64) (h0 : Heap) (n0 : Nat) (v : Option Value) (h : Heap) (L : List Loc) : Prop := v = none ∧ Fr n0 L ∧ Keep h0 h [vs] ∧ own_Arr Z h vs .long (16 : Int32) (fun i => Value.long ((own_set gs p2 (2 : Int32) p3) i))
set_option maxRecDepth 65536 in
set_option maxHeartbeats 40000000 in
theorem rm12 (l : Launch) (Z : State) (a0 : Array Value) (hw : ∀ d ∈ tables_1, d.before a0 Z = true) (ws : List Jvm.Cond) (a1 : Addr) (p2 : Int32) (p3 : Int32) (vi : Addr) (vn : Addr) (vs : Addr) (vm : Addr) (vz : Int32) (gs : Nat → Int64) (h0 : Heap) (n0 : Nat) (Z0 : n0 ≤ h0.size) (O_a1 : own_H Z h0 a1 vi vn vs vm vz) (V_vs : own_Arr Z h0 vs .long (16 : Int32) (fun i => Value.long (gs i))) (ne_a1_vs : a1 ≠ vs) (g_vs : n0 ≤ vs) (hp0 : 0 ≤ p2.toInt) (hp1 : p2.toInt < (16 : Int32).toInt) :
    MetFree l (⟨"com/example/atoll/atoll/detect/HeldOrigins", "setHoldsSelf", "(IZ)V"⟩ : MethodName) (head1 (Jvm.Cond.code (⟨"com/example/atoll/atoll/detect/HeldOrigins", "setHoldsSelf", "(IZ)V"⟩ : MethodName) prog_25_method_24_code 3 none :: ws) ({ frames := 1, cells := 0, slots := 0, locals := 15 } : Room)) (fun a U => a = #[(.ref a1), (.int p2), (.int p3)] ∧ Z.Warmed39 U.vm ∧ U.heap = h0) (fun _ _ _ _ _ => True) (fun _ U o U' => ∃ v L, o = .returned v ∧ Q12 Z a1 p2 p3 vi vn vs vm vz gs h0 n0 v U'.heap L ∧ FrameEnd U o U' L ({ frames := 1, cells := 0, slots := 0, locals := 15 } : Room).cells ({ frames := 1, cells := 0, slots := 0, locals := 15 } : Room).slots) := by
  refine MetFree.of_bodySF (plainFor_of_name pn_12) hisR ?_
  intro p e s m args below meth c s₁ Bd hml0 hP hK
  obtain ⟨rfl, hZ, hh⟩ := hP
  have hx := Bd.exec
  have hby := Bd.bytes
  have hml : c.maxLocals = 3 := hml0
  have hown : s.vm.findClass "com/example/atoll/atoll/detect/HeldOrigins" = some m.cls := findClass_of_methodNamed Bd.named
  have hnm := (name_of_methodNamed Bd.named Bd.method).1
  have X0 : Stand p l e ({ frames := 1, cells := 0, slots := 0, locals := 15 } : Room) s m #[(.ref a1), (.int p2), (.int p3)] below meth c s₁ [] 0 0 := Stand.of_body Bd
  have e0 : s₁.heap = h0 := by rw [← hh, Bd.state]; rfl
  have N0 := Fr.nil n0
  show own_End p e below s (s₁.setTop (entryFrame m #[(.ref a1), (.int p2), (.int p3)] 3)) (Q12 Z a1 p2 p3 vi vn vs vm vz gs h0 n0) ({ frames := 1, cells := 0, slots := 0, locals := 15 } : Room).cells ({ frames := 1, cells := 0, slots := 0, locals := 15 } : Room).slots
  obtain ⟨E_a1_1, F_ids_a1_2, F_newest_a1_3, F_state_a1_4, F_mismatches_a1_5, F_size_a1_6⟩ := O_a1
  refine own_pre (A := s₁.setTop (mkF m 0 #[.val (.ref a1), .val (.int p2), .val (.int p3)] [])) (fun tt kt => castTop (ef_12 m a1 p2 p3) kt) ?_
  show own_End p e below s (s₁.setTop (mkF m 0 #[.val (.ref a1), .val (.int p2), .val (.int p3)] [])) (Q12 Z a1 p2 p3 vi vn vs vm vz gs h0 n0) ({ frames := 1, cells := 0, slots := 0, locals := 15 } : Room).cells ({ frames := 1, cells := 0, slots := 0, locals := 15 } : Room).slots
  obtain ⟨cq7, q7, q7'⟩ := (E_a1_1).cell
  obtain ⟨_, _, ⟨T7, L7, k7, n7⟩, -, X7, ⟨Lc7, hQ7, l7, y7, z7⟩, st7⟩ := X0.privateBack hx (y := (⟨"com/example/atoll/atoll/detect/HeldOrigins", "set", "(IIZ)V"⟩ : MethodName)) hown (mvT hZ (hw _ (List.mem_of_getElem? (i := 63) rfl))) (mvT hZ (hw _ (List.mem_of_getElem? (i := 64) rfl))) (own_selPriv hZ (hw _ (List.mem_of_getElem? (i := 3) rfl)) (hw _ (List.mem_of_getElem? (i := 64) rfl)) (hw _ (List.mem_of_getElem? (i := 65) rfl)) (by decide)) (Cond.privateMethod_at (mvP hZ (hw _ (List.mem_of_getElem? (i := 65) rfl)) (args := #[]))) (mvT hZ (hw _ (List.mem_of_getElem? (i := 66) rfl))) (by decide) (backOf (W := 0) (rm8 l Z a0 hw [] a1 p2 (2 : Int32) p3 vi vn vs vm vz gs h0 n0 Z0 ⟨E_a1_1, F_ids_a1_2, F_newest_a1_3, F_state_a1_4, F_mismatches_a1_5, F_size_a1_6⟩ V_vs ne_a1_vs g_vs hp0 hp1) hZ (hw _ (List.mem_of_getElem? (i := 66) rfl)) (hw _ (List.mem_of_getElem? (i := 4) rfl)) (by decide) (by decide)) (g := (mkF m 4 #[.val (.ref a1), .val (.int p2), .val (.int p3)] [(.int p3), (.int (2 : Int32)), (.int p2), (.ref a1)])) rfl (by rw [hml]; rfl) (Steps.refl _) (a := a1) (by rw [e0]; exact q7) q7' (argsL := [(.int p2), (.int (2 : Int32)), (.int p3)]) (rest := []) (lenOf pd_12_0 rfl) rfl (by show 2 * 0 + _ ≤ _; exact Nat.le_of_eq rfl) (hb hby d12_4) (fun _ _ => ⟨rfl, e0, (by decide : 0 + 0 ≤ _), (by decide : 0 + 0 ≤ _)⟩)
  dsimp only [Pt.U, Pt.locs, Pt.cells, Pt.slots] at X7 l7 y7 z7 st7 hQ7
  subst l7 y7 z7
  obtain ⟨rfl, N7q, Kq7, V7_0⟩ := hQ7
  have N7 := Fr.app N0 N7q
  have fE_a1_x7 := (E_a1_1.keep Kq7)
  have fF_a1_ids_x7 := (F_ids_a1_2.keep Kq7 (ninS ne_a1_vs nin0))
  have fF_a1_newest_x7 := (F_newest_a1_3.keep Kq7 (ninS ne_a1_vs nin0))
  have fF_a1_state_x7 := (F_state_a1_4.keep Kq7 (ninS ne_a1_vs nin0))
  have fF_a1_mismatches_x7 := (F_mismatches_a1_5.keep Kq7 (ninS ne_a1_vs nin0))
  have fF_a1_size_x7 := (F_size_a1_6.keep Kq7 (ninS ne_a1_vs nin0))
  have K7 : Keep h0 T7.heap [vs] := Keep.trans (Keep.refl h0 _) Kq7 (allS (Or.inl (List.mem_of_getElem? (i := 0) rfl)) all0)
  have Z7 : n0 ≤ T7.heap.size := Nat.le_trans Z0 Kq7.1
  refine own_pre (A := T7.setTop (mkF m 7 #[.val (.ref a1), .val (.int p2), .val (.int p3)] [])) (fun tt kt => ?_) ?_
  · show Steps p.tables e below (s₁.setTop (mkF m 0 #[.val (.ref a1), .val (.int p2), .val (.int p3)] [])) _
    refine XS.aloadN X0.here hx rfl (hb hby d12_0) rfl rfl ?_
    refine XS.iloadN X0.here hx rfl (hb hby d12_1) rfl ?_
    refine XS.iconst X0.here hx rfl (hb hby d12_2) ?_
    refine XS.iloadN X0.here hx rfl (hb hby d12_3) rfl ?_
    show Steps p.tables e below (s₁.setTop (mkF m 4 #[.val (.ref a1), .val (.int p2), .val (.int p3)] [(.int p3), (.int (2 : Int32)), (.int p2), (.ref a1)])) _
    refine st7.trans ?_
    exact kt
  show own_End p e below s (T7.setTop (mkF m 7 #[.val (.ref a1), .val (.int p2), .val (.int p3)] [])) (Q12 Z a1 p2 p3 vi vn vs vm vz gs h0 n0) ({ frames := 1, cells := 0, slots := 0, locals := 15 } : Room).cells ({ frames := 1, cells := 0, slots := 0, locals := 15 } : Room).slots
  obtain ⟨fs, hr, hrun, hended, hW, hsame⟩ := X7.leave (v := none) (fun _ => rfl)
  refine ⟨_, _, ?_, hrun, hended, _, _, rfl, ?_, ⟨_, rfl⟩, hW, hsame.mono (by decide) (by decide)⟩
  · exact X7.returnOut hx Bd.returns (hb hby d12_7) hr
  · show Q12 Z a1 p2 p3 vi vn vs vm vz gs h0 n0 _ T7.heap _
    exact ⟨rfl, N7, K7, V7_0⟩
def own_is (p2 : Int32) (p3 : Int32) (gs : Nat → Int64) : Int32 := (if ((gs p2.toNatClampNeg) &&& (p3.toInt64)) = (0 : Int64) then (0 : Int32) else (1 : Int32))
theorem d10_0 : decode prog_25_method_29_code 0 = .ok (.aload_n 0, 1) := by decide +kernel
theorem d10_1 : decode prog_25_method_29_code 1 = .ok (.getfield 17, 3) := by decide +kernel
theorem d10_4 : decode prog_25_method_29_code 4 = .ok (.iload_n 1, 1) := by decide +kernel
theorem d10_5 : decode prog_25_method_29_code 5 = .ok (.laload, 1) := by decide +kernel
theorem d10_6 : decode prog_25_method_29_code 6 = .ok (.iload_n 2, 1) := by decide +kernel
theorem d10_7 : decode prog_25_method_29_code 7 = .ok (.i2l, 1) := by decide +kernel
theorem d10_8 : decode prog_25_method_29_code 8 = .ok (.land, 1) := by decide +kernel
theorem d10_9 : decode prog_25_method_29_code 9 = .ok (.lconst 0, 1) := by decide +kernel
theorem d10_10 : decode prog_25_method_29_code 10 = .ok (.lcmp, 1) := by decide +kernel
theorem d10_11 : decode prog_25_method_29_code 11 = .ok (.ifCond .eq 7, 3) := by decide +kernel
theorem d10_14 : decode prog_25_method_29_code 14 = .ok (.iconst 1, 1) := by decide +kernel
theorem d10_15 : decode prog_25_method_29_code 15 = .ok (.goto 4, 3) := by decide +kernel
theorem d10_18 : decode prog_25_method_29_code 18 = .ok (.iconst 0, 1) := by decide +kernel
theorem d10_19 : decode prog_25_method_29_code 19 = .ok (.ireturn, 1) := by decide +kernel
theorem pn_10 : plainName "com/example/atoll/atoll/detect/HeldOrigins" = true := by first | (simp [plainName, overriddenIn]; done) | decide +kernel
theorem ef_10 (m : MethodId) (x0 : Addr) (x1 : Int32) (x2 : Int32) : entryFrame m #[(.ref x0), (.int x1), (.int x2)] 3 = mkF m 0 #[.val (.ref x0), .val (.int x1), .val (.int x2)] [] := by first | (simp [entryFrame, mkF, argsToLocals, Value.category]; done) | rfl
def Q10 (Z : State) (a1 : Addr) (p2 : Int32) (p3 : Int32) (vi : Addr) (vn : Addr) (vs : Addr) (vm : Addr) (vz : Int32) (gs : Nat → Int64) (h0 : Heap) (n0 : Nat) (v : Option Value) (h : Heap) (L : List Loc) : Prop := v = some (.int (own_is p2 p3 gs)) ∧ Fr n0 L ∧ h = h0
set_option maxRecDepth 65536 in
set_option maxHeartbeats 40000000 in
theorem rm10 (l : Launch) (Z : State) (a0 : Array Value) (hw : ∀ d ∈ tables_1, d.before a0 Z = true) (ws : List Jvm.Cond) (a1 : Addr) (p2 : Int32) (p3 : Int32) (vi : Addr) (vn : Addr) (vs : Addr) (vm : Addr) (vz : Int32) (gs : Nat → Int64) (h0 : Heap) (n0 : Nat) (Z0 : n0 ≤ h0.size) (O_a1 : own_H Z h0 a1 vi vn vs vm vz) (V_vs : own_Arr Z h0 vs .long (16 : Int32) (fun i => Value.long (gs i))) (hp0 : 0 ≤ p2.toInt) (hp1 : p2.toInt < (16 : Int32).toInt) :
    MetFree l (⟨"com/example/atoll/atoll/detect/HeldOrigins", "is", "(II)Z"⟩ : MethodName) (head1 (Jvm.Cond.code (⟨"com/example/atoll/atoll/detect/HeldOrigins", "is", "(II)Z"⟩ : MethodName) prog_25_method_29_code 3 (some .boolean) :: ws) ({ frames := 0, cells := 0, slots := 0, locals := 0 } : Room)) (fun a U => a = #[(.ref a1), (.int p2), (.int p3)] ∧ Z.Warmed39 U.vm ∧ U.heap = h0) (fun _ _ _ _ _ => True) (fun _ U o U' => ∃ v L, o = .returned v ∧ Q10 Z a1 p2 p3 vi vn vs vm vz gs h0 n0 v U'.heap L ∧ FrameEnd U o U' L ({ frames := 0, cells := 0, slots := 0, locals := 0 } : Room).cells ({ frames := 0, cells := 0, slots := 0, locals := 0 } : Room).slots) := by
  refine MetFree.of_bodySF (plainFor_of_name pn_10) hisR ?_
  intro p e s m args below meth c s₁ Bd hml0 hP hK
  obtain ⟨rfl, hZ, hh⟩ := hP
  have hx := Bd.exec
  have hby := Bd.bytes
  have hml : c.maxLocals = 3 := hml0
  have hown : s.vm.findClass "com/example/atoll/atoll/detect/HeldOrigins" = some m.cls := findClass_of_methodNamed Bd.named
  have hnm := (name_of_methodNamed Bd.named Bd.method).1
  have X0 : Stand p l e ({ frames := 0, cells := 0, slots := 0, locals := 0 } : Room) s m #[(.ref a1), (.int p2), (.int p3)] below meth c s₁ [] 0 0 := Stand.of_body Bd
  have e0 : s₁.heap = h0 := by rw [← hh, Bd.state]; rfl
  have N0 := Fr.nil n0
  show own_End p e below s (s₁.setTop (entryFrame m #[(.ref a1), (.int p2), (.int p3)] 3)) (Q10 Z a1 p2 p3 vi vn vs vm vz gs h0 n0) ({ frames := 0, cells := 0, slots := 0, locals := 0 } : Room).cells ({ frames := 0, cells := 0, slots := 0, locals := 0 } : Room).slots
  obtain ⟨E_a1_1, F_ids_a1_2, F_newest_a1_3, F_state_a1_4, F_mismatches_a1_5, F_size_a1_6⟩ := O_a1
  refine own_pre (A := s₁.setTop (mkF m 0 #[.val (.ref a1), .val (.int p2), .val (.int p3)] [])) (fun tt kt => castTop (ef_10 m a1 p2 p3) kt) ?_
  show own_End p e below s (s₁.setTop (mkF m 0 #[.val (.ref a1), .val (.int p2), .val (.int p3)] [])) (Q10 Z a1 p2 p3 vi vn vs vm vz gs h0 n0) ({ frames := 0, cells := 0, slots := 0, locals := 0 } : Room).cells ({ frames := 0, cells := 0, slots := 0, locals := 0 } : Room).slots
  have hj : own_is p2 p3 gs = own_is p2 p3 gs := rfl
  obtain ⟨T7, X7, e7, st7⟩ := getF X0 hx hZ hown (host := "") (Or.inl (hw _ (List.mem_of_getElem? (i := 17) rfl))) Via.refl e0 F_state_a1_4 (g := (mkF m 1 #[.val (.ref a1), .val (.int p2), .val (.int p3)] [(.ref a1)])) rfl rfl (hb hby d10_1)
  obtain ⟨cl8, Ar8, S8, Nn8, G8⟩ := id V_vs
  have hin8 : ¬ (p2 < 0 ∨ cl8.slots.size ≤ p2.toNatClampNeg) := inb_of S8 (own_inb2 hp0 hp1 : ¬ p2 < 0 ∧ p2 < (16 : Int32))
  have hat8 : cl8.slots[p2.toNatClampNeg]? = some (.long (gs p2.toNatClampNeg)) := own_at S8 G8 hin8
  refine own_pre (A := T7.setTop (mkF m 11 #[.val (.ref a1), .val (.int p2), .val (.int p3)] [(.int (lcmpW ((gs p2.toNatClampNeg) &&& (p3.toInt64)) (0 : Int64)))])) (fun tt kt => ?_) ?_
  · show Steps p.tables e below (s₁.setTop (mkF m 0 #[.val (.ref a1), .val (.int p2), .val (.int p3)] [])) _
    refine XS.aloadN X0.here hx rfl (hb hby d10_0) rfl rfl ?_
    show Steps p.tables e below (s₁.setTop (mkF m 1 #[.val (.ref a1), .val (.int p2), .val (.int p3)] [(.ref a1)])) _
    refine st7 _ ?_
    show Steps p.tables e below (T7.setTop (mkF m 4 #[.val (.ref a1), .val (.int p2), .val (.int p3)] [(.ref vs)])) _
    refine XS.iloadN X7.here hx rfl (hb hby d10_4) rfl ?_
    show Steps p.tables e below (T7.setTop (mkF m 5 #[.val (.ref a1), .val (.int p2), .val (.int p3)] [(.int p2), (.ref vs)])) _
    refine X7.laload hx (j := p2) (v := (.long (gs p2.toNatClampNeg))) (by rw [e7]; exact Ar8.1) (State.isArrayOf_alike hZ.alike Ar8.2.1) Ar8.2.2 hin8 hat8 (g := (mkF m 5 #[.val (.ref a1), .val (.int p2), .val (.int p3)] [(.int p2), (.ref vs)])) rfl rfl (hb hby d10_5) _ ?_
    show Steps p.tables e below (T7.setTop (mkF m 6 #[.val (.ref a1), .val (.int p2), .val (.int p3)] [(.long (gs p2.toNatClampNeg))])) _
    refine XS.iloadN X7.here hx rfl (hb hby d10_6) rfl ?_
    refine XS.i2l X7.here hx rfl (hb hby d10_7) rfl ?_
    refine XS.land X7.here hx rfl (hb hby d10_8) rfl ?_
    refine XS.lconst X7.here hx rfl (hb hby d10_9) ?_
    show Steps p.tables e below (T7.setTop (mkF m 10 #[.val (.ref a1), .val (.int p2), .val (.int p3)] [(.long (0 : Int64)), (.long ((gs p2.toNatClampNeg) &&& (p3.toInt64)))])) _
    refine XS.lcmp X7.here hx rfl (hb hby d10_10) rfl ?_
    exact kt
  show own_End p e below s (T7.setTop (mkF m 11 #[.val (.ref a1), .val (.int p2), .val (.int p3)] [(.int (lcmpW ((gs p2.toNatClampNeg) &&& (p3.toInt64)) (0 : Int64)))])) (Q10 Z a1 p2 p3 vi vn vs vm vz gs h0 n0) ({ frames := 0, cells := 0, slots := 0, locals := 0 } : Room).cells ({ frames := 0, cells := 0, slots := 0, locals := 0 } : Room).slots
  by_cases hc11_9 : ((gs p2.toNatClampNeg) &&& (p3.toInt64)) = (0 : Int64)
  · refine own_pre (A := T7.setTop (mkF m 19 #[.val (.ref a1), .val (.int p2), .val (.int p3)] [(.int (0 : Int32))])) (fun tt kt => ?_) ?_
    · show Steps p.tables e below (T7.setTop (mkF m 11 #[.val (.ref a1), .val (.int p2), .val (.int p3)] [(.int (lcmpW ((gs p2.toNatClampNeg) &&& (p3.toInt64)) (0 : Int64)))])) _
      refine XS.ifYes X7.here hx rfl (pc0 := 11) (pc' := 18) rfl (hb hby d10_11) rfl ((if0 _ _).trans (teq ((lw_eq ((gs p2.toNatClampNeg) &&& (p3.toInt64)) (0 : Int64)).mpr hc11_9)).1) (by decide) (by decide) ?_
      refine XS.iconst X7.here hx rfl (hb hby d10_18) ?_
      exact kt
    show own_End p e below s (T7.setTop (mkF m 19 #[.val (.ref a1), .val (.int p2), .val (.int p3)] [(.int (0 : Int32))])) (Q10 Z a1 p2 p3 vi vn vs vm vz gs h0 n0) ({ frames := 0, cells := 0, slots := 0, locals := 0 } : Room).cells ({ frames := 0, cells := 0, slots := 0, locals := 0 } : Room).slots
    have hv : (own_is p2 p3 gs) = (0 : Int32) := hj.trans (by simp only [own_is, if_pos hc11_9])
    obtain ⟨fs, hr, hrun, hended, hW, hsame⟩ := X7.leave (v := some (.int (0 : Int32))) (fun h => by rw [Bd.returns] at h; cases h)
    refine ⟨_, _, ?_, hrun, hended, _, _, rfl, ?_, ⟨_, rfl⟩, hW, hsame.mono (by decide) (by decide)⟩
    · exact retN X7 hx (t := .boolean) Bd.returns (by simp) (hb hby d10_19) hr
    · show Q10 Z a1 p2 p3 vi vn vs vm vz gs h0 n0 _ T7.heap _
      rw [e7]
      exact ⟨(congrArg (fun z => some (Value.int z)) hv.symm), N0, rfl⟩
  · refine own_pre (A := T7.setTop (mkF m 19 #[.val (.ref a1), .val (.int p2), .val (.int p3)] [(.int (1 : Int32))])) (fun tt kt => ?_) ?_
    · show Steps p.tables e below (T7.setTop (mkF m 11 #[.val (.ref a1), .val (.int p2), .val (.int p3)] [(.int (lcmpW ((gs p2.toNatClampNeg) &&& (p3.toInt64)) (0 : Int64)))])) _
      refine XS.ifNo X7.here hx rfl (hb hby d10_11) rfl ((if0 _ _).trans (feq (fun q => hc11_9 ((lw_eq ((gs p2.toNatClampNeg) &&& (p3.toInt64)) (0 : Int64)).mp q))).1) ?_
      refine XS.iconst X7.here hx rfl (hb hby d10_14) ?_
      refine XS.goto X7.here hx rfl (pc0 := 15) (pc' := 19) rfl (hb hby d10_15) (by decide) (by decide) ?_
      exact kt
    show own_End p e below s (T7.setTop (mkF m 19 #[.val (.ref a1), .val (.int p2), .val (.int p3)] [(.int (1 : Int32))])) (Q10 Z a1 p2 p3 vi vn vs vm vz gs h0 n0) ({ frames := 0, cells := 0, slots := 0, locals := 0 } : Room).cells ({ frames := 0, cells := 0, slots := 0, locals := 0 } : Room).slots
    have hv : (own_is p2 p3 gs) = (1 : Int32) := hj.trans (by simp only [own_is, if_neg hc11_9])
    obtain ⟨fs, hr, hrun, hended, hW, hsame⟩ := X7.leave (v := some (.int (1 : Int32))) (fun h => by rw [Bd.returns] at h; cases h)
    refine ⟨_, _, ?_, hrun, hended, _, _, rfl, ?_, ⟨_, rfl⟩, hW, hsame.mono (by decide) (by decide)⟩
    · exact retN X7 hx (t := .boolean) Bd.returns (by simp) (hb hby d10_19) hr
    · show Q10 Z a1 p2 p3 vi vn vs vm vz gs h0 n0 _ T7.heap _
      rw [e7]
      exact ⟨(congrArg (fun z => some (Value.int z)) hv.symm), N0, rfl⟩
def own_rel (g : Nat → Int64) (j : Int32) : Nat → Int64 := if (own_is j (4 : Int32) g) = (0 : Int32) then g else own_putJ g j (((g j.toNatClampNeg) &&& (-5 : Int64)) ||| (8 : Int64))
def own_named (p2 : Int32) (gs : Nat → Int64) : Int32 := ((own_is p2 (1 : Int32) gs) &&& (1 : Int32))
theorem d19_0 : decode prog_25_method_19_code 0 = .ok (.aload_n 0, 1) := by decide +kernel
theorem d19_1 : decode prog_25_method_19_code 1 = .ok (.iload_n 1, 1) := by decide +kernel
theorem d19_2 : decode prog_25_method_19_code 2 = .ok (.iconst 1, 1) := by decide +kernel
theorem d19_3 : decode prog_25_method_19_code 3 = .ok (.invokevirtual 86, 3) := by decide +kernel
theorem d19_6 : decode prog_25_method_19_code 6 = .ok (.ireturn, 1) := by decide +kernel
theorem pn_19 : plainName "com/example/atoll/atoll/detect/HeldOrigins" = true := by first | (simp [plainName, overriddenIn]; done) | decide +kernel
theorem pd_19_0 : parseMethodDescriptor "(II)Z" = some ⟨[.int, .int], some .boolean⟩ := by decide +kernel
theorem ef_19 (m : MethodId) (x0 : Addr) (x1 : Int32) : entryFrame m #[(.ref x0), (.int x1)] 2 = mkF m 0 #[.val (.ref x0), .val (.int x1)] [] := by first | (simp [entryFrame, mkF, argsToLocals, Value.category]; done) | rfl
def Q19 (Z : State) (a1 : Addr) (p2 : Int32) (vi : Addr) (vn : Addr) (vs : Addr) (vm : Addr) (vz : Int32) (gs : Nat → Int64) (h0 : Heap) (n0 : Nat) (v : Option Value) (h : Heap) (L : List Loc) : Prop := v = some (.int (own_named p2 gs)) ∧ Fr n0 L ∧ h = h0
set_option maxRecDepth 65536 in
set_option maxHeartbeats 40000000 in
theorem rm19 (l : Launch) (Z : State) (a0 : Array Value) (hw : ∀ d ∈ tables_1, d.before a0 Z = true) (ws : List Jvm.Cond) (a1 : Addr) (p2 : Int32) (vi : Addr) (vn : Addr) (vs : Addr) (vm : Addr) (vz : Int32) (gs : Nat → Int64) (h0 : Heap) (n0 : Nat) (Z0 : n0 ≤ h0.size) (O_a1 : own_H Z h0 a1 vi vn vs vm vz) (V_vs : own_Arr Z h0 vs .long (16 : Int32) (fun i => Value.long (gs i))) (hp0 : 0 ≤ p2.toInt) (hp1 : p2.toInt < (16 : Int32).toInt) :
    MetFree l (⟨"com/example/atoll/atoll/detect/HeldOrigins", "named", "(I)Z"⟩ : MethodName) (head1 (Jvm.Cond.code (⟨"com/example/atoll/atoll/detect/HeldOrigins", "named", "(I)Z"⟩ : MethodName) prog_25_method_19_code 2 (some .boolean) :: ws) ({ frames := 1, cells := 0, slots := 0, locals := 14 } : Room)) (fun a U => a = #[(.ref a1), (.int p2)] ∧ Z.Warmed39 U.vm ∧ U.heap = h0) (fun _ _ _ _ _ => True) (fun _ U o U' => ∃ v L, o = .returned v ∧ Q19 Z a1 p2 vi vn vs vm vz gs h0 n0 v U'.heap L ∧ FrameEnd U o U' L ({ frames := 1, cells := 0, slots := 0, locals := 14 } : Room).cells ({ frames := 1, cells := 0, slots := 0, locals := 14 } : Room).slots) := by
  refine MetFree.of_bodySF (plainFor_of_name pn_19) hisR ?_
  intro p e s m args below meth c s₁ Bd hml0 hP hK
  obtain ⟨rfl, hZ, hh⟩ := hP
  have hx := Bd.exec
  have hby := Bd.bytes
  have hml : c.maxLocals = 2 := hml0
  have hown : s.vm.findClass "com/example/atoll/atoll/detect/HeldOrigins" = some m.cls := findClass_of_methodNamed Bd.named
  have hnm := (name_of_methodNamed Bd.named Bd.method).1
  have X0 : Stand p l e ({ frames := 1, cells := 0, slots := 0, locals := 14 } : Room) s m #[(.ref a1), (.int p2)] below meth c s₁ [] 0 0 := Stand.of_body Bd
  have e0 : s₁.heap = h0 := by rw [← hh, Bd.state]; rfl
  have N0 := Fr.nil n0
  show own_End p e below s (s₁.setTop (entryFrame m #[(.ref a1), (.int p2)] 2)) (Q19 Z a1 p2 vi vn vs vm vz gs h0 n0) ({ frames := 1, cells := 0, slots := 0, locals := 14 } : Room).cells ({ frames := 1, cells := 0, slots := 0, locals := 14 } : Room).slots
  obtain ⟨E_a1_1, F_ids_a1_2, F_newest_a1_3, F_state_a1_4, F_mismatches_a1_5, F_size_a1_6⟩ := O_a1
  refine own_pre (A := s₁.setTop (mkF m 0 #[.val (.ref a1), .val (.int p2)] [])) (fun tt kt => castTop (ef_19 m a1 p2) kt) ?_
  show own_End p e below s (s₁.setTop (mkF m 0 #[.val (.ref a1), .val (.int p2)] [])) (Q19 Z a1 p2 vi vn vs vm vz gs h0 n0) ({ frames := 1, cells := 0, slots := 0, locals := 14 } : Room).cells ({ frames := 1, cells := 0, slots := 0, locals := 14 } : Room).slots
  have hj : own_named p2 gs = own_named p2 gs := rfl
  obtain ⟨cq7, q7, q7'⟩ := (E_a1_1).cell
  obtain ⟨_, _, ⟨T7, L7, k7, n7⟩, -, X7, ⟨Lc7, hQ7, l7, y7, z7⟩, st7⟩ := X0.privateBack hx (y := (⟨"com/example/atoll/atoll/detect/HeldOrigins", "is", "(II)Z"⟩ : MethodName)) hown (mvT hZ (hw _ (List.mem_of_getElem? (i := 72) rfl))) (mvT hZ (hw _ (List.mem_of_getElem? (i := 73) rfl))) (own_selPriv hZ (hw _ (List.mem_of_getElem? (i := 3) rfl)) (hw _ (List.mem_of_getElem? (i := 73) rfl)) (hw _ (List.mem_of_getElem? (i := 74) rfl)) (by decide)) (Cond.privateMethod_at (mvP hZ (hw _ (List.mem_of_getElem? (i := 74) rfl)) (args := #[]))) (mvT hZ (hw _ (List.mem_of_getElem? (i := 75) rfl))) (by decide) (backOf (W := 0) (rm10 l Z a0 hw [] a1 p2 (1 : Int32) vi vn vs vm vz gs h0 n0 Z0 ⟨E_a1_1, F_ids_a1_2, F_newest_a1_3, F_state_a1_4, F_mismatches_a1_5, F_size_a1_6⟩ V_vs hp0 hp1) hZ (hw _ (List.mem_of_getElem? (i := 75) rfl)) (hw _ (List.mem_of_getElem? (i := 4) rfl)) (by decide) (by decide)) (g := (mkF m 3 #[.val (.ref a1), .val (.int p2)] [(.int (1 : Int32)), (.int p2), (.ref a1)])) rfl (by rw [hml]; rfl) (Steps.refl _) (a := a1) (by rw [e0]; exact q7) q7' (argsL := [(.int p2), (.int (1 : Int32))]) (rest := []) (lenOf pd_19_0 rfl) rfl (by show 2 * 0 + _ ≤ _; exact Nat.le_of_eq rfl) (hb hby d19_3) (fun _ _ => ⟨rfl, e0, (by decide : 0 + 0 ≤ _), (by decide : 0 + 0 ≤ _)⟩)
  dsimp only [Pt.U, Pt.locs, Pt.cells, Pt.slots] at X7 l7 y7 z7 st7 hQ7
  subst l7 y7 z7
  obtain ⟨rfl, N7q, e7⟩ := hQ7
  have N7 := Fr.app N0 N7q
  refine own_pre (A := T7.setTop (mkF m 6 #[.val (.ref a1), .val (.int p2)] [(.int (own_is p2 (1 : Int32) gs))])) (fun tt kt => ?_) ?_
  · show Steps p.tables e below (s₁.setTop (mkF m 0 #[.val (.ref a1), .val (.int p2)] [])) _
    refine XS.aloadN X0.here hx rfl (hb hby d19_0) rfl rfl ?_
    refine XS.iloadN X0.here hx rfl (hb hby d19_1) rfl ?_
    refine XS.iconst X0.here hx rfl (hb hby d19_2) ?_
    show Steps p.tables e below (s₁.setTop (mkF m 3 #[.val (.ref a1), .val (.int p2)] [(.int (1 : Int32)), (.int p2), (.ref a1)])) _
    refine st7.trans ?_
    exact kt
  show own_End p e below s (T7.setTop (mkF m 6 #[.val (.ref a1), .val (.int p2)] [(.int (own_is p2 (1 : Int32) gs))])) (Q19 Z a1 p2 vi vn vs vm vz gs h0 n0) ({ frames := 1, cells := 0, slots := 0, locals := 14 } : Room).cells ({ frames := 1, cells := 0, slots := 0, locals := 14 } : Room).slots
  have hv : (own_named p2 gs) = ((own_is p2 (1 : Int32) gs) &&& (1 : Int32)) := hj.trans (by simp only [own_named])
  obtain ⟨fs, hr, hrun, hended, hW, hsame⟩ := X7.leave (v := some (.int ((own_is p2 (1 : Int32) gs) &&& (1 : Int32)))) (fun h => by rw [Bd.returns] at h; cases h)
  refine ⟨_, _, ?_, hrun, hended, _, _, rfl, ?_, ⟨_, rfl⟩, hW, hsame.mono (by decide) (by decide)⟩
  · exact retN X7 hx (t := .boolean) Bd.returns (by simp) (hb hby d19_6) hr
  · show Q19 Z a1 p2 vi vn vs vm vz gs h0 n0 _ T7.heap _
    rw [e7]
    exact ⟨(congrArg (fun z => some (Value.int z)) hv.symm), N7, rfl⟩
def own_queued (p2 : Int32) (gs : Nat → Int64) : Int32 := ((own_is p2 (4 : Int32) gs) &&& (1 : Int32))
theorem d20_0 : decode prog_25_method_25_code 0 = .ok (.aload_n 0, 1) := by decide +kernel
theorem d20_1 : decode prog_25_method_25_code 1 = .ok (.iload_n 1, 1) := by decide +kernel
theorem d20_2 : decode prog_25_method_25_code 2 = .ok (.iconst 4, 1) := by decide +kernel
theorem d20_3 : decode prog_25_method_25_code 3 = .ok (.invokevirtual 86, 3) := by decide +kernel
theorem d20_6 : decode prog_25_method_25_code 6 = .ok (.ireturn, 1) := by decide +kernel
theorem pn_20 : plainName "com/example/atoll/atoll/detect/HeldOrigins" = true := by first | (simp [plainName, overriddenIn]; done) | decide +kernel
theorem pd_20_0 : parseMethodDescriptor "(II)Z" = some ⟨[.int, .int], some .boolean⟩ := by decide +kernel
theorem ef_20 (m : MethodId) (x0 : Addr) (x1 : Int32) : entryFrame m #[(.ref x0), (.int x1)] 2 = mkF m 0 #[.val (.ref x0), .val (.int x1)] [] := by first | (simp [entryFrame, mkF, argsToLocals, Value.category]; done) | rfl
def Q20 (Z : State) (a1 : Addr) (p2 : Int32) (vi : Addr) (vn : Addr) (vs : Addr) (vm : Addr) (vz : Int32) (gs : Nat → Int64) (h0 : Heap) (n0 : Nat) (v : Option Value) (h : Heap) (L : List Loc) : Prop := v = some (.int (own_queued p2 gs)) ∧ Fr n0 L ∧ h = h0
set_option maxRecDepth 65536 in
set_option maxHeartbeats 40000000 in
theorem rm20 (l : Launch) (Z : State) (a0 : Array Value) (hw : ∀ d ∈ tables_1, d.before a0 Z = true) (ws : List Jvm.Cond) (a1 : Addr) (p2 : Int32) (vi : Addr) (vn : Addr) (vs : Addr) (vm : Addr) (vz : Int32) (gs : Nat → Int64) (h0 : Heap) (n0 : Nat) (Z0 : n0 ≤ h0.size) (O_a1 : own_H Z h0 a1 vi vn vs vm vz) (V_vs : own_Arr Z h0 vs .long (16 : Int32) (fun i => Value.long (gs i))) (hp0 : 0 ≤ p2.toInt) (hp1 : p2.toInt < (16 : Int32).toInt) :
    MetFree l (⟨"com/example/atoll/atoll/detect/HeldOrigins", "queued", "(I)Z"⟩ : MethodName) (head1 (Jvm.Cond.code (⟨"com/example/atoll/atoll/detect/HeldOrigins", "queued", "(I)Z"⟩ : MethodName) prog_25_method_25_code 2 (some .boolean) :: ws) ({ frames := 1, cells := 0, slots := 0, locals := 14 } : Room)) (fun a U => a = #[(.ref a1), (.int p2)] ∧ Z.Warmed39 U.vm ∧ U.heap = h0) (fun _ _ _ _ _ => True) (fun _ U o U' => ∃ v L, o = .returned v ∧ Q20 Z a1 p2 vi vn vs vm vz gs h0 n0 v U'.heap L ∧ FrameEnd U o U' L ({ frames := 1, cells := 0, slots := 0, locals := 14 } : Room).cells ({ frames := 1, cells := 0, slots := 0, locals := 14 } : Room).slots) := by
  refine MetFree.of_bodySF (plainFor_of_name pn_20) hisR ?_
  intro p e s m args below meth c s₁ Bd hml0 hP hK
  obtain ⟨rfl, hZ, hh⟩ := hP
  have hx := Bd.exec
  have hby := Bd.bytes
  have hml : c.maxLocals = 2 := hml0
  have hown : s.vm.findClass "com/example/atoll/atoll/detect/HeldOrigins" = some m.cls := findClass_of_methodNamed Bd.named
  have hnm := (name_of_methodNamed Bd.named Bd.method).1
  have X0 : Stand p l e ({ frames := 1, cells := 0, slots := 0, locals := 14 } : Room) s m #[(.ref a1), (.int p2)] below meth c s₁ [] 0 0 := Stand.of_body Bd
  have e0 : s₁.heap = h0 := by rw [← hh, Bd.state]; rfl
  have N0 := Fr.nil n0
  show own_End p e below s (s₁.setTop (entryFrame m #[(.ref a1), (.int p2)] 2)) (Q20 Z a1 p2 vi vn vs vm vz gs h0 n0) ({ frames := 1, cells := 0, slots := 0, locals := 14 } : Room).cells ({ frames := 1, cells := 0, slots := 0, locals := 14 } : Room).slots
  obtain ⟨E_a1_1, F_ids_a1_2, F_newest_a1_3, F_state_a1_4, F_mismatches_a1_5, F_size_a1_6⟩ := O_a1
  refine own_pre (A := s₁.setTop (mkF m 0 #[.val (.ref a1), .val (.int p2)] [])) (fun tt kt => castTop (ef_20 m a1 p2) kt) ?_
  show own_End p e below s (s₁.setTop (mkF m 0 #[.val (.ref a1), .val (.int p2)] [])) (Q20 Z a1 p2 vi vn vs vm vz gs h0 n0) ({ frames := 1, cells := 0, slots := 0, locals := 14 } : Room).cells ({ frames := 1, cells := 0, slots := 0, locals := 14 } : Room).slots
  have hj : own_queued p2 gs = own_queued p2 gs := rfl
  obtain ⟨cq7, q7, q7'⟩ := (E_a1_1).cell
  obtain ⟨_, _, ⟨T7, L7, k7, n7⟩, -, X7, ⟨Lc7, hQ7, l7, y7, z7⟩, st7⟩ := X0.privateBack hx (y := (⟨"com/example/atoll/atoll/detect/HeldOrigins", "is", "(II)Z"⟩ : MethodName)) hown (mvT hZ (hw _ (List.mem_of_getElem? (i := 72) rfl))) (mvT hZ (hw _ (List.mem_of_getElem? (i := 73) rfl))) (own_selPriv hZ (hw _ (List.mem_of_getElem? (i := 3) rfl)) (hw _ (List.mem_of_getElem? (i := 73) rfl)) (hw _ (List.mem_of_getElem? (i := 74) rfl)) (by decide)) (Cond.privateMethod_at (mvP hZ (hw _ (List.mem_of_getElem? (i := 74) rfl)) (args := #[]))) (mvT hZ (hw _ (List.mem_of_getElem? (i := 75) rfl))) (by decide) (backOf (W := 0) (rm10 l Z a0 hw [] a1 p2 (4 : Int32) vi vn vs vm vz gs h0 n0 Z0 ⟨E_a1_1, F_ids_a1_2, F_newest_a1_3, F_state_a1_4, F_mismatches_a1_5, F_size_a1_6⟩ V_vs hp0 hp1) hZ (hw _ (List.mem_of_getElem? (i := 75) rfl)) (hw _ (List.mem_of_getElem? (i := 4) rfl)) (by decide) (by decide)) (g := (mkF m 3 #[.val (.ref a1), .val (.int p2)] [(.int (4 : Int32)), (.int p2), (.ref a1)])) rfl (by rw [hml]; rfl) (Steps.refl _) (a := a1) (by rw [e0]; exact q7) q7' (argsL := [(.int p2), (.int (4 : Int32))]) (rest := []) (lenOf pd_20_0 rfl) rfl (by show 2 * 0 + _ ≤ _; exact Nat.le_of_eq rfl) (hb hby d20_3) (fun _ _ => ⟨rfl, e0, (by decide : 0 + 0 ≤ _), (by decide : 0 + 0 ≤ _)⟩)
  dsimp only [Pt.U, Pt.locs, Pt.cells, Pt.slots] at X7 l7 y7 z7 st7 hQ7
  subst l7 y7 z7
  obtain ⟨rfl, N7q, e7⟩ := hQ7
  have N7 := Fr.app N0 N7q
  refine own_pre (A := T7.setTop (mkF m 6 #[.val (.ref a1), .val (.int p2)] [(.int (own_is p2 (4 : Int32) gs))])) (fun tt kt => ?_) ?_
  · show Steps p.tables e below (s₁.setTop (mkF m 0 #[.val (.ref a1), .val (.int p2)] [])) _
    refine XS.aloadN X0.here hx rfl (hb hby d20_0) rfl rfl ?_
    refine XS.iloadN X0.here hx rfl (hb hby d20_1) rfl ?_
    refine XS.iconst X0.here hx rfl (hb hby d20_2) ?_
    show Steps p.tables e below (s₁.setTop (mkF m 3 #[.val (.ref a1), .val (.int p2)] [(.int (4 : Int32)), (.int p2), (.ref a1)])) _
    refine st7.trans ?_
    exact kt
  show own_End p e below s (T7.setTop (mkF m 6 #[.val (.ref a1), .val (.int p2)] [(.int (own_is p2 (4 : Int32) gs))])) (Q20 Z a1 p2 vi vn vs vm vz gs h0 n0) ({ frames := 1, cells := 0, slots := 0, locals := 14 } : Room).cells ({ frames := 1, cells := 0, slots := 0, locals := 14 } : Room).slots
  have hv : (own_queued p2 gs) = ((own_is p2 (4 : Int32) gs) &&& (1 : Int32)) := hj.trans (by simp only [own_queued])
  obtain ⟨fs, hr, hrun, hended, hW, hsame⟩ := X7.leave (v := some (.int ((own_is p2 (4 : Int32) gs) &&& (1 : Int32)))) (fun h => by rw [Bd.returns] at h; cases h)
  refine ⟨_, _, ?_, hrun, hended, _, _, rfl, ?_, ⟨_, rfl⟩, hW, hsame.mono (by decide) (by decide)⟩
  · exact retN X7 hx (t := .boolean) Bd.returns (by simp) (hb hby d20_6) hr
  · show Q20 Z a1 p2 vi vn vs vm vz gs h0 n0 _ T7.heap _
    rw [e7]
    exact ⟨(congrArg (fun z => some (Value.int z)) hv.symm), N7, rfl⟩
def own_relayed (p2 : Int32) (gs : Nat → Int64) : Int32 := ((own_is p2 (8 : Int32) gs) &&& (1 : Int32))
theorem d21_0 : decode prog_25_method_23_code 0 = .ok (.aload_n 0, 1) := by decide +kernel
theorem d21_1 : decode prog_25_method_23_code 1 = .ok (.iload_n 1, 1) := by decide +kernel
theorem d21_2 : decode prog_25_method_23_code 2 = .ok (.bipush 8, 2) := by decide +kernel
theorem d21_4 : decode prog_25_method_23_code 4 = .ok (.invokevirtual 86, 3) := by decide +kernel
theorem d21_7 : decode prog_25_method_23_code 7 = .ok (.ireturn, 1) := by decide +kernel
theorem pn_21 : plainName "com/example/atoll/atoll/detect/HeldOrigins" = true := by first | (simp [plainName, overriddenIn]; done) | decide +kernel
theorem pd_21_0 : parseMethodDescriptor "(II)Z" = some ⟨[.int, .int], some .boolean⟩ := by decide +kernel
theorem ef_21 (m : MethodId) (x0 : Addr) (x1 : Int32) : entryFrame m #[(.ref x0), (.int x1)] 2 = mkF m 0 #[.val (.ref x0), .val (.int x1)] [] := by first | (simp [entryFrame, mkF, argsToLocals, Value.category]; done) | rfl
def Q21 (Z : State) (a1 : Addr) (p2 : Int32) (vi : Addr) (vn : Addr) (vs : Addr) (vm : Addr) (vz : Int32) (gs : Nat → Int64) (h0 : Heap) (n0 : Nat) (v : Option Value) (h : Heap) (L : List Loc) : Prop := v = some (.int (own_relayed p2 gs)) ∧ Fr n0 L ∧ h = h0
set_option maxRecDepth 65536 in
set_option maxHeartbeats 40000000 in
theorem rm21 (l : Launch) (Z : State) (a0 : Array Value) (hw : ∀ d ∈ tables_1, d.before a0 Z = true) (ws : List Jvm.Cond) (a1 : Addr) (p2 : Int32) (vi : Addr) (vn : Addr) (vs : Addr) (vm : Addr) (vz : Int32) (gs : Nat → Int64) (h0 : Heap) (n0 : Nat) (Z0 : n0 ≤ h0.size) (O_a1 : own_H Z h0 a1 vi vn vs vm vz) (V_vs : own_Arr Z h0 vs .long (16 : Int32) (fun i => Value.long (gs i))) (hp0 : 0 ≤ p2.toInt) (hp1 : p2.toInt < (16 : Int32).toInt) :
    MetFree l (⟨"com/example/atoll/atoll/detect/HeldOrigins", "relayed", "(I)Z"⟩ : MethodName) (head1 (Jvm.Cond.code (⟨"com/example/atoll/atoll/detect/HeldOrigins", "relayed", "(I)Z"⟩ : MethodName) prog_25_method_23_code 2 (some .boolean) :: ws) ({ frames := 1, cells := 0, slots := 0, locals := 14 } : Room)) (fun a U => a = #[(.ref a1), (.int p2)] ∧ Z.Warmed39 U.vm ∧ U.heap = h0) (fun _ _ _ _ _ => True) (fun _ U o U' => ∃ v L, o = .returned v ∧ Q21 Z a1 p2 vi vn vs vm vz gs h0 n0 v U'.heap L ∧ FrameEnd U o U' L ({ frames := 1, cells := 0, slots := 0, locals := 14 } : Room).cells ({ frames := 1, cells := 0, slots := 0, locals := 14 } : Room).slots) := by
  refine MetFree.of_bodySF (plainFor_of_name pn_21) hisR ?_
  intro p e s m args below meth c s₁ Bd hml0 hP hK
  obtain ⟨rfl, hZ, hh⟩ := hP
  have hx := Bd.exec
  have hby := Bd.bytes
  have hml : c.maxLocals = 2 := hml0
  have hown : s.vm.findClass "com/example/atoll/atoll/detect/HeldOrigins" = some m.cls := findClass_of_methodNamed Bd.named
  have hnm := (name_of_methodNamed Bd.named Bd.method).1
  have X0 : Stand p l e ({ frames := 1, cells := 0, slots := 0, locals := 14 } : Room) s m #[(.ref a1), (.int p2)] below meth c s₁ [] 0 0 := Stand.of_body Bd
  have e0 : s₁.heap = h0 := by rw [← hh, Bd.state]; rfl
  have N0 := Fr.nil n0
  show own_End p e below s (s₁.setTop (entryFrame m #[(.ref a1), (.int p2)] 2)) (Q21 Z a1 p2 vi vn vs vm vz gs h0 n0) ({ frames := 1, cells := 0, slots := 0, locals := 14 } : Room).cells ({ frames := 1, cells := 0, slots := 0, locals := 14 } : Room).slots
  obtain ⟨E_a1_1, F_ids_a1_2, F_newest_a1_3, F_state_a1_4, F_mismatches_a1_5, F_size_a1_6⟩ := O_a1
  refine own_pre (A := s₁.setTop (mkF m 0 #[.val (.ref a1), .val (.int p2)] [])) (fun tt kt => castTop (ef_21 m a1 p2) kt) ?_
  show own_End p e below s (s₁.setTop (mkF m 0 #[.val (.ref a1), .val (.int p2)] [])) (Q21 Z a1 p2 vi vn vs vm vz gs h0 n0) ({ frames := 1, cells := 0, slots := 0, locals := 14 } : Room).cells ({ frames := 1, cells := 0, slots := 0, locals := 14 } : Room).slots
  have hj : own_relayed p2 gs = own_relayed p2 gs := rfl
  obtain ⟨cq7, q7, q7'⟩ := (E_a1_1).cell
  obtain ⟨_, _, ⟨T7, L7, k7, n7⟩, -, X7, ⟨Lc7, hQ7, l7, y7, z7⟩, st7⟩ := X0.privateBack hx (y := (⟨"com/example/atoll/atoll/detect/HeldOrigins", "is", "(II)Z"⟩ : MethodName)) hown (mvT hZ (hw _ (List.mem_of_getElem? (i := 72) rfl))) (mvT hZ (hw _ (List.mem_of_getElem? (i := 73) rfl))) (own_selPriv hZ (hw _ (List.mem_of_getElem? (i := 3) rfl)) (hw _ (List.mem_of_getElem? (i := 73) rfl)) (hw _ (List.mem_of_getElem? (i := 74) rfl)) (by decide)) (Cond.privateMethod_at (mvP hZ (hw _ (List.mem_of_getElem? (i := 74) rfl)) (args := #[]))) (mvT hZ (hw _ (List.mem_of_getElem? (i := 75) rfl))) (by decide) (backOf (W := 0) (rm10 l Z a0 hw [] a1 p2 (8 : Int32) vi vn vs vm vz gs h0 n0 Z0 ⟨E_a1_1, F_ids_a1_2, F_newest_a1_3, F_state_a1_4, F_mismatches_a1_5, F_size_a1_6⟩ V_vs hp0 hp1) hZ (hw _ (List.mem_of_getElem? (i := 75) rfl)) (hw _ (List.mem_of_getElem? (i := 4) rfl)) (by decide) (by decide)) (g := (mkF m 4 #[.val (.ref a1), .val (.int p2)] [(.int (8 : Int32)), (.int p2), (.ref a1)])) rfl (by rw [hml]; rfl) (Steps.refl _) (a := a1) (by rw [e0]; exact q7) q7' (argsL := [(.int p2), (.int (8 : Int32))]) (rest := []) (lenOf pd_21_0 rfl) rfl (by show 2 * 0 + _ ≤ _; exact Nat.le_of_eq rfl) (hb hby d21_4) (fun _ _ => ⟨rfl, e0, (by decide : 0 + 0 ≤ _), (by decide : 0 + 0 ≤ _)⟩)
  dsimp only [Pt.U, Pt.locs, Pt.cells, Pt.slots] at X7 l7 y7 z7 st7 hQ7
  subst l7 y7 z7
  obtain ⟨rfl, N7q, e7⟩ := hQ7
  have N7 := Fr.app N0 N7q
  refine own_pre (A := T7.setTop (mkF m 7 #[.val (.ref a1), .val (.int p2)] [(.int (own_is p2 (8 : Int32) gs))])) (fun tt kt => ?_) ?_
  · show Steps p.tables e below (s₁.setTop (mkF m 0 #[.val (.ref a1), .val (.int p2)] [])) _
    refine XS.aloadN X0.here hx rfl (hb hby d21_0) rfl rfl ?_
    refine XS.iloadN X0.here hx rfl (hb hby d21_1) rfl ?_
    refine XS.bipush X0.here hx rfl (hb hby d21_2) ?_
    show Steps p.tables e below (s₁.setTop (mkF m 4 #[.val (.ref a1), .val (.int p2)] [(.int (8 : Int32)), (.int p2), (.ref a1)])) _
    refine st7.trans ?_
    exact kt
  show own_End p e below s (T7.setTop (mkF m 7 #[.val (.ref a1), .val (.int p2)] [(.int (own_is p2 (8 : Int32) gs))])) (Q21 Z a1 p2 vi vn vs vm vz gs h0 n0) ({ frames := 1, cells := 0, slots := 0, locals := 14 } : Room).cells ({ frames := 1, cells := 0, slots := 0, locals := 14 } : Room).slots
  have hv : (own_relayed p2 gs) = ((own_is p2 (8 : Int32) gs) &&& (1 : Int32)) := hj.trans (by simp only [own_relayed])
  obtain ⟨fs, hr, hrun, hended, hW, hsame⟩ := X7.leave (v := some (.int ((own_is p2 (8 : Int32) gs) &&& (1 : Int32)))) (fun h => by rw [Bd.returns] at h; cases h)
  refine ⟨_, _, ?_, hrun, hended, _, _, rfl, ?_, ⟨_, rfl⟩, hW, hsame.mono (by decide) (by decide)⟩
  · exact retN X7 hx (t := .boolean) Bd.returns (by simp) (hb hby d21_7) hr
  · show Q21 Z a1 p2 vi vn vs vm vz gs h0 n0 _ T7.heap _
    rw [e7]
    exact ⟨(congrArg (fun z => some (Value.int z)) hv.symm), N7, rfl⟩
def own_incOf (q1 : Int64) : Int32 := (((q1.toUInt64 >>> ((32 : Int32) &&& 0x3f).toInt64.toUInt64).toInt64).toInt32)
theorem d14_0 : decode prog_25_method_27_code 0 = .ok (.lload_n 0, 1) := by decide +kernel
theorem d14_1 : decode prog_25_method_27_code 1 = .ok (.bipush 32, 2) := by decide +kernel
theorem d14_3 : decode prog_25_method_27_code 3 = .ok (.lushr, 1) := by decide +kernel
theorem d14_4 : decode prog_25_method_27_code 4 = .ok (.l2i, 1) := by decide +kernel
theorem d14_5 : decode prog_25_method_27_code 5 = .ok (.ireturn, 1) := by decide +kernel
theorem pn_14 : plainName "com/example/atoll/atoll/detect/HeldOrigins" = true := by first | (simp [plainName, overriddenIn]; done) | decide +kernel
theorem ef_14 (m : MethodId) (x0 : Int64) : entryFrame m #[(.long x0)] 2 = mkF m 0 #[.val (.long x0), .second] [] := by first | (simp [entryFrame, mkF, argsToLocals, Value.category]; done) | rfl
def Q14 (Z : State) (q1 : Int64) (h0 : Heap) (n0 : Nat) (v : Option Value) (h : Heap) (L : List Loc) : Prop := v = some (.int (own_incOf q1)) ∧ Fr n0 L ∧ h = h0
set_option maxRecDepth 65536 in
set_option maxHeartbeats 40000000 in
theorem rm14 (l : Launch) (Z : State) (a0 : Array Value) (hw : ∀ d ∈ tables_1, d.before a0 Z = true) (ws : List Jvm.Cond) (q1 : Int64) (h0 : Heap) (n0 : Nat) (Z0 : n0 ≤ h0.size) :
    MetFree l (⟨"com/example/atoll/atoll/detect/HeldOrigins", "incarnationOf", "(J)I"⟩ : MethodName) (head1 (Jvm.Cond.code (⟨"com/example/atoll/atoll/detect/HeldOrigins", "incarnationOf", "(J)I"⟩ : MethodName) prog_25_method_27_code 2 (some .int) :: ws) ({ frames := 0, cells := 0, slots := 0, locals := 0 } : Room)) (fun a U => a = #[(.long q1)] ∧ Z.Warmed39 U.vm ∧ U.heap = h0) (fun _ _ _ _ _ => True) (fun _ U o U' => ∃ v L, o = .returned v ∧ Q14 Z q1 h0 n0 v U'.heap L ∧ FrameEnd U o U' L ({ frames := 0, cells := 0, slots := 0, locals := 0 } : Room).cells ({ frames := 0, cells := 0, slots := 0, locals := 0 } : Room).slots) := by
  refine MetFree.of_bodySF (plainFor_of_name pn_14) hisR ?_
  intro p e s m args below meth c s₁ Bd hml0 hP hK
  obtain ⟨rfl, hZ, hh⟩ := hP
  have hx := Bd.exec
  have hby := Bd.bytes
  have hml : c.maxLocals = 2 := hml0
  have hown : s.vm.findClass "com/example/atoll/atoll/detect/HeldOrigins" = some m.cls := findClass_of_methodNamed Bd.named
  have hnm := (name_of_methodNamed Bd.named Bd.method).1
  have X0 : Stand p l e ({ frames := 0, cells := 0, slots := 0, locals := 0 } : Room) s m #[(.long q1)] below meth c s₁ [] 0 0 := Stand.of_body Bd
  have e0 : s₁.heap = h0 := by rw [← hh, Bd.state]; rfl
  have N0 := Fr.nil n0
  show own_End p e below s (s₁.setTop (entryFrame m #[(.long q1)] 2)) (Q14 Z q1 h0 n0) ({ frames := 0, cells := 0, slots := 0, locals := 0 } : Room).cells ({ frames := 0, cells := 0, slots := 0, locals := 0 } : Room).slots
  refine own_pre (A := s₁.setTop (mkF m 0 #[.val (.long q1), .second] [])) (fun tt kt => castTop (ef_14 m q1) kt) ?_
  show own_End p e below s (s₁.setTop (mkF m 0 #[.val (.long q1), .second] [])) (Q14 Z q1 h0 n0) ({ frames := 0, cells := 0, slots := 0, locals := 0 } : Room).cells ({ frames := 0, cells := 0, slots := 0, locals := 0 } : Room).slots
  have hj : own_incOf q1 = own_incOf q1 := rfl
  refine own_pre (A := s₁.setTop (mkF m 5 #[.val (.long q1), .second] [(.int (((q1.toUInt64 >>> ((32 : Int32) &&& 0x3f).toInt64.toUInt64).toInt64).toInt32))])) (fun tt kt => ?_) ?_
  · show Steps p.tables e below (s₁.setTop (mkF m 0 #[.val (.long q1), .second] [])) _
    refine XS.lloadN X0.here hx rfl (hb hby d14_0) rfl ?_
    refine XS.bipush X0.here hx rfl (hb hby d14_1) ?_
    refine XS.lushr X0.here hx rfl (hb hby d14_3) rfl ?_
    refine XS.l2i X0.here hx rfl (hb hby d14_4) rfl ?_
    exact kt
  show own_End p e below s (s₁.setTop (mkF m 5 #[.val (.long q1), .second] [(.int (((q1.toUInt64 >>> ((32 : Int32) &&& 0x3f).toInt64.toUInt64).toInt64).toInt32))])) (Q14 Z q1 h0 n0) ({ frames := 0, cells := 0, slots := 0, locals := 0 } : Room).cells ({ frames := 0, cells := 0, slots := 0, locals := 0 } : Room).slots
  have hv : (own_incOf q1) = (((q1.toUInt64 >>> ((32 : Int32) &&& 0x3f).toInt64.toUInt64).toInt64).toInt32) := hj.trans (by simp only [own_incOf])
  obtain ⟨fs, hr, hrun, hended, hW, hsame⟩ := X0.leave (v := some (.int (((q1.toUInt64 >>> ((32 : Int32) &&& 0x3f).toInt64.toUInt64).toInt64).toInt32))) (fun h => by rw [Bd.returns] at h; cases h)
  refine ⟨_, _, ?_, hrun, hended, _, _, rfl, ?_, ⟨_, rfl⟩, hW, hsame.mono (by decide) (by decide)⟩
  · exact retI X0 hx Bd.returns (hb hby d14_5) hr
  · show Q14 Z q1 h0 n0 _ s₁.heap _
    rw [e0]
    exact ⟨(congrArg (fun z => some (Value.int z)) hv.symm), N0, rfl⟩
def own_rndOf (q1 : Int64) : Int32 := (((q1.toInt32).toUInt32 >>> ((16 : Int32) &&& 31).toUInt32).toInt32)
theorem d16_0 : decode prog_25_method_28_code 0 = .ok (.lload_n 0, 1) := by decide +kernel
theorem d16_1 : decode prog_25_method_28_code 1 = .ok (.l2i, 1) := by decide +kernel
theorem d16_2 : decode prog_25_method_28_code 2 = .ok (.bipush 16, 2) := by decide +kernel
theorem d16_4 : decode prog_25_method_28_code 4 = .ok (.iushr, 1) := by decide +kernel
theorem d16_5 : decode prog_25_method_28_code 5 = .ok (.ireturn, 1) := by decide +kernel
theorem pn_16 : plainName "com/example/atoll/atoll/detect/HeldOrigins" = true := by first | (simp [plainName, overriddenIn]; done) | decide +kernel
theorem ef_16 (m : MethodId) (x0 : Int64) : entryFrame m #[(.long x0)] 2 = mkF m 0 #[.val (.long x0), .second] [] := by first | (simp [entryFrame, mkF, argsToLocals, Value.category]; done) | rfl
def Q16 (Z : State) (q1 : Int64) (h0 : Heap) (n0 : Nat) (v : Option Value) (h : Heap) (L : List Loc) : Prop := v = some (.int (own_rndOf q1)) ∧ Fr n0 L ∧ h = h0
set_option maxRecDepth 65536 in
set_option maxHeartbeats 40000000 in
theorem rm16 (l : Launch) (Z : State) (a0 : Array Value) (hw : ∀ d ∈ tables_1, d.before a0 Z = true) (ws : List Jvm.Cond) (q1 : Int64) (h0 : Heap) (n0 : Nat) (Z0 : n0 ≤ h0.size) :
    MetFree l (⟨"com/example/atoll/atoll/detect/HeldOrigins", "roundOf", "(J)I"⟩ : MethodName) (head1 (Jvm.Cond.code (⟨"com/example/atoll/atoll/detect/HeldOrigins", "roundOf", "(J)I"⟩ : MethodName) prog_25_method_28_code 2 (some .int) :: ws) ({ frames := 0, cells := 0, slots := 0, locals := 0 } : Room)) (fun a U => a = #[(.long q1)] ∧ Z.Warmed39 U.vm ∧ U.heap = h0) (fun _ _ _ _ _ => True) (fun _ U o U' => ∃ v L, o = .returned v ∧ Q16 Z q1 h0 n0 v U'.heap L ∧ FrameEnd U o U' L ({ frames := 0, cells := 0, slots := 0, locals := 0 } : Room).cells ({ frames := 0, cells := 0, slots := 0, locals := 0 } : Room).slots) := by
  refine MetFree.of_bodySF (plainFor_of_name pn_16) hisR ?_
  intro p e s m args below meth c s₁ Bd hml0 hP hK
  obtain ⟨rfl, hZ, hh⟩ := hP
  have hx := Bd.exec
  have hby := Bd.bytes
  have hml : c.maxLocals = 2 := hml0
  have hown : s.vm.findClass "com/example/atoll/atoll/detect/HeldOrigins" = some m.cls := findClass_of_methodNamed Bd.named
  have hnm := (name_of_methodNamed Bd.named Bd.method).1
  have X0 : Stand p l e ({ frames := 0, cells := 0, slots := 0, locals := 0 } : Room) s m #[(.long q1)] below meth c s₁ [] 0 0 := Stand.of_body Bd
  have e0 : s₁.heap = h0 := by rw [← hh, Bd.state]; rfl
  have N0 := Fr.nil n0
  show own_End p e below s (s₁.setTop (entryFrame m #[(.long q1)] 2)) (Q16 Z q1 h0 n0) ({ frames := 0, cells := 0, slots := 0, locals := 0 } : Room).cells ({ frames := 0, cells := 0, slots := 0, locals := 0 } : Room).slots
  refine own_pre (A := s₁.setTop (mkF m 0 #[.val (.long q1), .second] [])) (fun tt kt => castTop (ef_16 m q1) kt) ?_
  show own_End p e below s (s₁.setTop (mkF m 0 #[.val (.long q1), .second] [])) (Q16 Z q1 h0 n0) ({ frames := 0, cells := 0, slots := 0, locals := 0 } : Room).cells ({ frames := 0, cells := 0, slots := 0, locals := 0 } : Room).slots
  have hj : own_rndOf q1 = own_rndOf q1 := rfl
  refine own_pre (A := s₁.setTop (mkF m 5 #[.val (.long q1), .second] [(.int (((q1.toInt32).toUInt32 >>> ((16 : Int32) &&& 31).toUInt32).toInt32))])) (fun tt kt => ?_) ?_
  · show Steps p.tables e below (s₁.setTop (mkF m 0 #[.val (.long q1), .second] [])) _
    refine XS.lloadN X0.here hx rfl (hb hby d16_0) rfl ?_
    refine XS.l2i X0.here hx rfl (hb hby d16_1) rfl ?_
    refine XS.bipush X0.here hx rfl (hb hby d16_2) ?_
    refine XS.iushr X0.here hx rfl (hb hby d16_4) rfl ?_
    exact kt
  show own_End p e below s (s₁.setTop (mkF m 5 #[.val (.long q1), .second] [(.int (((q1.toInt32).toUInt32 >>> ((16 : Int32) &&& 31).toUInt32).toInt32))])) (Q16 Z q1 h0 n0) ({ frames := 0, cells := 0, slots := 0, locals := 0 } : Room).cells ({ frames := 0, cells := 0, slots := 0, locals := 0 } : Room).slots
  have hv : (own_rndOf q1) = (((q1.toInt32).toUInt32 >>> ((16 : Int32) &&& 31).toUInt32).toInt32) := hj.trans (by simp only [own_rndOf])
  obtain ⟨fs, hr, hrun, hended, hW, hsame⟩ := X0.leave (v := some (.int (((q1.toInt32).toUInt32 >>> ((16 : Int32) &&& 31).toUInt32).toInt32))) (fun h => by rw [Bd.returns] at h; cases h)
  refine ⟨_, _, ?_, hrun, hended, _, _, rfl, ?_, ⟨_, rfl⟩, hW, hsame.mono (by decide) (by decide)⟩
  · exact retI X0 hx Bd.returns (hb hby d16_5) hr
  · show Q16 Z q1 h0 n0 _ s₁.heap _
    rw [e0]
    exact ⟨(congrArg (fun z => some (Value.int z)) hv.symm), N0, rfl⟩
def own_inc (p2 : Int32) (gn : Nat → Int64) : Int32 := (own_incOf (gn p2.toNatClampNeg))
theorem d13_0 : decode prog_25_method_14_code 0 = .ok (.aload_n 0, 1) := by decide +kernel
theorem d13_1 : decode prog_25_method_14_code 1 = .ok (.getfield 13, 3) := by decide +kernel
theorem d13_4 : decode prog_25_method_14_code 4 = .ok (.iload_n 1, 1) := by decide +kernel
theorem d13_5 : decode prog_25_method_14_code 5 = .ok (.laload, 1) := by decide +kernel
theorem d13_6 : decode prog_25_method_14_code 6 = .ok (.invokestatic 107, 3) := by decide +kernel
theorem d13_9 : decode prog_25_method_14_code 9 = .ok (.ireturn, 1) := by decide +kernel
theorem pn_13 : plainName "com/example/atoll/atoll/detect/HeldOrigins" = true := by first | (simp [plainName, overriddenIn]; done) | decide +kernel
theorem pd_13_0 : parseMethodDescriptor "(J)I" = some ⟨[.long], some .int⟩ := by decide +kernel
theorem ef_13 (m : MethodId) (x0 : Addr) (x1 : Int32) : entryFrame m #[(.ref x0), (.int x1)] 2 = mkF m 0 #[.val (.ref x0), .val (.int x1)] [] := by first | (simp [entryFrame, mkF, argsToLocals, Value.category]; done) | rfl
def Q13 (Z : State) (a1 : Addr) (p2 : Int32) (vi : Addr) (vn : Addr) (vs : Addr) (vm : Addr) (vz : Int32) (gn : Nat → Int64) (h0 : Heap) (n0 : Nat) (v : Option Value) (h : Heap) (L : List Loc) : Prop := v = some (.int (own_inc p2 gn)) ∧ Fr n0 L ∧ h = h0
set_option maxRecDepth 65536 in
set_option maxHeartbeats 40000000 in
theorem rm13 (l : Launch) (Z : State) (a0 : Array Value) (hw : ∀ d ∈ tables_1, d.before a0 Z = true) (ws : List Jvm.Cond) (a1 : Addr) (p2 : Int32) (vi : Addr) (vn : Addr) (vs : Addr) (vm : Addr) (vz : Int32) (gn : Nat → Int64) (h0 : Heap) (n0 : Nat) (Z0 : n0 ≤ h0.size) (O_a1 : own_H Z h0 a1 vi vn vs vm vz) (V_vn : own_Arr Z h0 vn .long (16 : Int32) (fun i => Value.long (gn i))) (hp0 : 0 ≤ p2.toInt) (hp1 : p2.toInt < (16 : Int32).toInt) :
    MetFree l (⟨"com/example/atoll/atoll/detect/HeldOrigins", "incarnation", "(I)I"⟩ : MethodName) (head1 (Jvm.Cond.code (⟨"com/example/atoll/atoll/detect/HeldOrigins", "incarnation", "(I)I"⟩ : MethodName) prog_25_method_14_code 2 (some .int) :: ws) ({ frames := 1, cells := 0, slots := 0, locals := 13 } : Room)) (fun a U => a = #[(.ref a1), (.int p2)] ∧ Z.Warmed39 U.vm ∧ U.heap = h0) (fun _ _ _ _ _ => True) (fun _ U o U' => ∃ v L, o = .returned v ∧ Q13 Z a1 p2 vi vn vs vm vz gn h0 n0 v U'.heap L ∧ FrameEnd U o U' L ({ frames := 1, cells := 0, slots := 0, locals := 13 } : Room).cells ({ frames := 1, cells := 0, slots := 0, locals := 13 } : Room).slots) := by
  refine MetFree.of_bodySF (plainFor_of_name pn_13) hisR ?_
  intro p e s m args below meth c s₁ Bd hml0 hP hK
  obtain ⟨rfl, hZ, hh⟩ := hP
  have hx := Bd.exec
  have hby := Bd.bytes
  have hml : c.maxLocals = 2 := hml0
  have hown : s.vm.findClass "com/example/atoll/atoll/detect/HeldOrigins" = some m.cls := findClass_of_methodNamed Bd.named
  have hnm := (name_of_methodNamed Bd.named Bd.method).1
  have X0 : Stand p l e ({ frames := 1, cells := 0, slots := 0, locals := 13 } : Room) s m #[(.ref a1), (.int p2)] below meth c s₁ [] 0 0 := Stand.of_body Bd
  have e0 : s₁.heap = h0 := by rw [← hh, Bd.state]; rfl
  have N0 := Fr.nil n0
  show own_End p e below s (s₁.setTop (entryFrame m #[(.ref a1), (.int p2)] 2)) (Q13 Z a1 p2 vi vn vs vm vz gn h0 n0) ({ frames := 1, cells := 0, slots := 0, locals := 13 } : Room).cells ({ frames := 1, cells := 0, slots := 0, locals := 13 } : Room).slots
  obtain ⟨E_a1_1, F_ids_a1_2, F_newest_a1_3, F_state_a1_4, F_mismatches_a1_5, F_size_a1_6⟩ := O_a1
  refine own_pre (A := s₁.setTop (mkF m 0 #[.val (.ref a1), .val (.int p2)] [])) (fun tt kt => castTop (ef_13 m a1 p2) kt) ?_
  show own_End p e below s (s₁.setTop (mkF m 0 #[.val (.ref a1), .val (.int p2)] [])) (Q13 Z a1 p2 vi vn vs vm vz gn h0 n0) ({ frames := 1, cells := 0, slots := 0, locals := 13 } : Room).cells ({ frames := 1, cells := 0, slots := 0, locals := 13 } : Room).slots
  have hj : own_inc p2 gn = own_inc p2 gn := rfl
  obtain ⟨T7, X7, e7, st7⟩ := getF X0 hx hZ hown (host := "") (Or.inl (hw _ (List.mem_of_getElem? (i := 15) rfl))) Via.refl e0 F_newest_a1_3 (g := (mkF m 1 #[.val (.ref a1), .val (.int p2)] [(.ref a1)])) rfl rfl (hb hby d13_1)
  obtain ⟨cl8, Ar8, S8, Nn8, G8⟩ := id V_vn
  have hin8 : ¬ (p2 < 0 ∨ cl8.slots.size ≤ p2.toNatClampNeg) := inb_of S8 (own_inb2 hp0 hp1 : ¬ p2 < 0 ∧ p2 < (16 : Int32))
  have hat8 : cl8.slots[p2.toNatClampNeg]? = some (.long (gn p2.toNatClampNeg)) := own_at S8 G8 hin8
  obtain ⟨_, _, ⟨T9, L9, k9, n9⟩, -, X9, ⟨Lc9, hQ9, l9, y9, z9⟩, st9⟩ := Jvm.LawKit.callS X7 hx (y := (⟨"com/example/atoll/atoll/detect/HeldOrigins", "incarnationOf", "(J)I"⟩ : MethodName)) hown (mvT hZ (hw _ (List.mem_of_getElem? (i := 91) rfl))) (mvT hZ (hw _ (List.mem_of_getElem? (i := 92) rfl))) (mvT hZ (hw _ (List.mem_of_getElem? (i := 4) rfl))) (mvT hZ (hw _ (List.mem_of_getElem? (i := 93) rfl))) (by decide) (backOf (W := 0) (rm14 l Z a0 hw [] (gn p2.toNatClampNeg)  h0 n0 Z0 ) hZ (hw _ (List.mem_of_getElem? (i := 93) rfl)) (hw _ (List.mem_of_getElem? (i := 4) rfl)) (by decide) (by decide)) (g := (mkF m 6 #[.val (.ref a1), .val (.int p2)] [(.long (gn p2.toNatClampNeg))])) rfl (by rw [hml]; rfl) (argsL := [(.long (gn p2.toNatClampNeg))]) (rest := []) (lenOf pd_13_0 rfl) rfl (by show 2 * 0 + _ ≤ _; exact Nat.le_of_eq rfl) (hb hby d13_6) (fun _ _ => ⟨rfl, e7, (by decide : 0 + 0 ≤ _), (by decide : 0 + 0 ≤ _)⟩)
  dsimp only [Pt.U, Pt.locs, Pt.cells, Pt.slots] at X9 l9 y9 z9 st9 hQ9
  subst l9 y9 z9
  obtain ⟨rfl, N9q, e9⟩ := hQ9
  have N9 := Fr.app N0 N9q
  refine own_pre (A := T9.setTop (mkF m 9 #[.val (.ref a1), .val (.int p2)] [(.int (own_incOf (gn p2.toNatClampNeg)))])) (fun tt kt => ?_) ?_
  · show Steps p.tables e below (s₁.setTop (mkF m 0 #[.val (.ref a1), .val (.int p2)] [])) _
    refine XS.aloadN X0.here hx rfl (hb hby d13_0) rfl rfl ?_
    show Steps p.tables e below (s₁.setTop (mkF m 1 #[.val (.ref a1), .val (.int p2)] [(.ref a1)])) _
    refine st7 _ ?_
    show Steps p.tables e below (T7.setTop (mkF m 4 #[.val (.ref a1), .val (.int p2)] [(.ref vn)])) _
    refine XS.iloadN X7.here hx rfl (hb hby d13_4) rfl ?_
    show Steps p.tables e below (T7.setTop (mkF m 5 #[.val (.ref a1), .val (.int p2)] [(.int p2), (.ref vn)])) _
    refine X7.laload hx (j := p2) (v := (.long (gn p2.toNatClampNeg))) (by rw [e7]; exact Ar8.1) (State.isArrayOf_alike hZ.alike Ar8.2.1) Ar8.2.2 hin8 hat8 (g := (mkF m 5 #[.val (.ref a1), .val (.int p2)] [(.int p2), (.ref vn)])) rfl rfl (hb hby d13_5) _ ?_
    show Steps p.tables e below (T7.setTop (mkF m 6 #[.val (.ref a1), .val (.int p2)] [(.long (gn p2.toNatClampNeg))])) _
    refine st9 _ ?_
    exact kt
  show own_End p e below s (T9.setTop (mkF m 9 #[.val (.ref a1), .val (.int p2)] [(.int (own_incOf (gn p2.toNatClampNeg)))])) (Q13 Z a1 p2 vi vn vs vm vz gn h0 n0) ({ frames := 1, cells := 0, slots := 0, locals := 13 } : Room).cells ({ frames := 1, cells := 0, slots := 0, locals := 13 } : Room).slots
  have hv : (own_inc p2 gn) = (own_incOf (gn p2.toNatClampNeg)) := hj.trans (by simp only [own_inc])
  obtain ⟨fs, hr, hrun, hended, hW, hsame⟩ := X9.leave (v := some (.int (own_incOf (gn p2.toNatClampNeg)))) (fun h => by rw [Bd.returns] at h; cases h)
  refine ⟨_, _, ?_, hrun, hended, _, _, rfl, ?_, ⟨_, rfl⟩, hW, hsame.mono (by decide) (by decide)⟩
  · exact retI X9 hx Bd.returns (hb hby d13_9) hr
  · show Q13 Z a1 p2 vi vn vs vm vz gn h0 n0 _ T9.heap _
    rw [e9]
    exact ⟨(congrArg (fun z => some (Value.int z)) hv.symm), N9, rfl⟩
def own_rnd (p2 : Int32) (gn : Nat → Int64) : Int32 := (own_rndOf (gn p2.toNatClampNeg))
theorem d15_0 : decode prog_25_method_15_code 0 = .ok (.aload_n 0, 1) := by decide +kernel
theorem d15_1 : decode prog_25_method_15_code 1 = .ok (.getfield 13, 3) := by decide +kernel
theorem d15_4 : decode prog_25_method_15_code 4 = .ok (.iload_n 1, 1) := by decide +kernel
theorem d15_5 : decode prog_25_method_15_code 5 = .ok (.laload, 1) := by decide +kernel
theorem d15_6 : decode prog_25_method_15_code 6 = .ok (.invokestatic 111, 3) := by decide +kernel
theorem d15_9 : decode prog_25_method_15_code 9 = .ok (.ireturn, 1) := by decide +kernel
theorem pn_15 : plainName "com/example/atoll/atoll/detect/HeldOrigins" = true := by first | (simp [plainName, overriddenIn]; done) | decide +kernel
theorem pd_15_0 : parseMethodDescriptor "(J)I" = some ⟨[.long], some .int⟩ := by decide +kernel
theorem ef_15 (m : MethodId) (x0 : Addr) (x1 : Int32) : entryFrame m #[(.ref x0), (.int x1)] 2 = mkF m 0 #[.val (.ref x0), .val (.int x1)] [] := by first | (simp [entryFrame, mkF, argsToLocals, Value.category]; done) | rfl
def Q15 (Z : State) (a1 : Addr) (p2 : Int32) (vi : Addr) (vn : Addr) (vs : Addr) (vm : Addr) (vz : Int32) (gn : Nat → Int64) (h0 : Heap) (n0 : Nat) (v : Option Value) (h : Heap) (L : List Loc) : Prop := v = some (.int (own_rnd p2 gn)) ∧ Fr n0 L ∧ h = h0
set_option maxRecDepth 65536 in
set_option maxHeartbeats 40000000 in
theorem rm15 (l : Launch) (Z : State) (a0 : Array Value) (hw : ∀ d ∈ tables_1, d.before a0 Z = true) (ws : List Jvm.Cond) (a1 : Addr) (p2 : Int32) (vi : Addr) (vn : Addr) (vs : Addr) (vm : Addr) (vz : Int32) (gn : Nat → Int64) (h0 : Heap) (n0 : Nat) (Z0 : n0 ≤ h0.size) (O_a1 : own_H Z h0 a1 vi vn vs vm vz) (V_vn : own_Arr Z h0 vn .long (16 : Int32) (fun i => Value.long (gn i))) (hp0 : 0 ≤ p2.toInt) (hp1 : p2.toInt < (16 : Int32).toInt) :
    MetFree l (⟨"com/example/atoll/atoll/detect/HeldOrigins", "round", "(I)I"⟩ : MethodName) (head1 (Jvm.Cond.code (⟨"com/example/atoll/atoll/detect/HeldOrigins", "round", "(I)I"⟩ : MethodName) prog_25_method_15_code 2 (some .int) :: ws) ({ frames := 1, cells := 0, slots := 0, locals := 13 } : Room)) (fun a U => a = #[(.ref a1), (.int p2)] ∧ Z.Warmed39 U.vm ∧ U.heap = h0) (fun _ _ _ _ _ => True) (fun _ U o U' => ∃ v L, o = .returned v ∧ Q15 Z a1 p2 vi vn vs vm vz gn h0 n0 v U'.heap L ∧ FrameEnd U o U' L ({ frames := 1, cells := 0, slots := 0, locals := 13 } : Room).cells ({ frames := 1, cells := 0, slots := 0, locals := 13 } : Room).slots) := by
  refine MetFree.of_bodySF (plainFor_of_name pn_15) hisR ?_
  intro p e s m args below meth c s₁ Bd hml0 hP hK
  obtain ⟨rfl, hZ, hh⟩ := hP
  have hx := Bd.exec
  have hby := Bd.bytes
  have hml : c.maxLocals = 2 := hml0
  have hown : s.vm.findClass "com/example/atoll/atoll/detect/HeldOrigins" = some m.cls := findClass_of_methodNamed Bd.named
  have hnm := (name_of_methodNamed Bd.named Bd.method).1
  have X0 : Stand p l e ({ frames := 1, cells := 0, slots := 0, locals := 13 } : Room) s m #[(.ref a1), (.int p2)] below meth c s₁ [] 0 0 := Stand.of_body Bd
  have e0 : s₁.heap = h0 := by rw [← hh, Bd.state]; rfl
  have N0 := Fr.nil n0
  show own_End p e below s (s₁.setTop (entryFrame m #[(.ref a1), (.int p2)] 2)) (Q15 Z a1 p2 vi vn vs vm vz gn h0 n0) ({ frames := 1, cells := 0, slots := 0, locals := 13 } : Room).cells ({ frames := 1, cells := 0, slots := 0, locals := 13 } : Room).slots
  obtain ⟨E_a1_1, F_ids_a1_2, F_newest_a1_3, F_state_a1_4, F_mismatches_a1_5, F_size_a1_6⟩ := O_a1
  refine own_pre (A := s₁.setTop (mkF m 0 #[.val (.ref a1), .val (.int p2)] [])) (fun tt kt => castTop (ef_15 m a1 p2) kt) ?_
  show own_End p e below s (s₁.setTop (mkF m 0 #[.val (.ref a1), .val (.int p2)] [])) (Q15 Z a1 p2 vi vn vs vm vz gn h0 n0) ({ frames := 1, cells := 0, slots := 0, locals := 13 } : Room).cells ({ frames := 1, cells := 0, slots := 0, locals := 13 } : Room).slots
  have hj : own_rnd p2 gn = own_rnd p2 gn := rfl
  obtain ⟨T7, X7, e7, st7⟩ := getF X0 hx hZ hown (host := "") (Or.inl (hw _ (List.mem_of_getElem? (i := 15) rfl))) Via.refl e0 F_newest_a1_3 (g := (mkF m 1 #[.val (.ref a1), .val (.int p2)] [(.ref a1)])) rfl rfl (hb hby d15_1)
  obtain ⟨cl8, Ar8, S8, Nn8, G8⟩ := id V_vn
  have hin8 : ¬ (p2 < 0 ∨ cl8.slots.size ≤ p2.toNatClampNeg) := inb_of S8 (own_inb2 hp0 hp1 : ¬ p2 < 0 ∧ p2 < (16 : Int32))
  have hat8 : cl8.slots[p2.toNatClampNeg]? = some (.long (gn p2.toNatClampNeg)) := own_at S8 G8 hin8
  obtain ⟨_, _, ⟨T9, L9, k9, n9⟩, -, X9, ⟨Lc9, hQ9, l9, y9, z9⟩, st9⟩ := Jvm.LawKit.callS X7 hx (y := (⟨"com/example/atoll/atoll/detect/HeldOrigins", "roundOf", "(J)I"⟩ : MethodName)) hown (mvT hZ (hw _ (List.mem_of_getElem? (i := 99) rfl))) (mvT hZ (hw _ (List.mem_of_getElem? (i := 100) rfl))) (mvT hZ (hw _ (List.mem_of_getElem? (i := 4) rfl))) (mvT hZ (hw _ (List.mem_of_getElem? (i := 101) rfl))) (by decide) (backOf (W := 0) (rm16 l Z a0 hw [] (gn p2.toNatClampNeg)  h0 n0 Z0 ) hZ (hw _ (List.mem_of_getElem? (i := 101) rfl)) (hw _ (List.mem_of_getElem? (i := 4) rfl)) (by decide) (by decide)) (g := (mkF m 6 #[.val (.ref a1), .val (.int p2)] [(.long (gn p2.toNatClampNeg))])) rfl (by rw [hml]; rfl) (argsL := [(.long (gn p2.toNatClampNeg))]) (rest := []) (lenOf pd_15_0 rfl) rfl (by show 2 * 0 + _ ≤ _; exact Nat.le_of_eq rfl) (hb hby d15_6) (fun _ _ => ⟨rfl, e7, (by decide : 0 + 0 ≤ _), (by decide : 0 + 0 ≤ _)⟩)
  dsimp only [Pt.U, Pt.locs, Pt.cells, Pt.slots] at X9 l9 y9 z9 st9 hQ9
  subst l9 y9 z9
  obtain ⟨rfl, N9q, e9⟩ := hQ9
  have N9 := Fr.app N0 N9q
  refine own_pre (A := T9.setTop (mkF m 9 #[.val (.ref a1), .val (.int p2)] [(.int (own_rndOf (gn p2.toNatClampNeg)))])) (fun tt kt => ?_) ?_
  · show Steps p.tables e below (s₁.setTop (mkF m 0 #[.val (.ref a1), .val (.int p2)] [])) _
    refine XS.aloadN X0.here hx rfl (hb hby d15_0) rfl rfl ?_
    show Steps p.tables e below (s₁.setTop (mkF m 1 #[.val (.ref a1), .val (.int p2)] [(.ref a1)])) _
    refine st7 _ ?_
    show Steps p.tables e below (T7.setTop (mkF m 4 #[.val (.ref a1), .val (.int p2)] [(.ref vn)])) _
    refine XS.iloadN X7.here hx rfl (hb hby d15_4) rfl ?_
    show Steps p.tables e below (T7.setTop (mkF m 5 #[.val (.ref a1), .val (.int p2)] [(.int p2), (.ref vn)])) _
    refine X7.laload hx (j := p2) (v := (.long (gn p2.toNatClampNeg))) (by rw [e7]; exact Ar8.1) (State.isArrayOf_alike hZ.alike Ar8.2.1) Ar8.2.2 hin8 hat8 (g := (mkF m 5 #[.val (.ref a1), .val (.int p2)] [(.int p2), (.ref vn)])) rfl rfl (hb hby d15_5) _ ?_
    show Steps p.tables e below (T7.setTop (mkF m 6 #[.val (.ref a1), .val (.int p2)] [(.long (gn p2.toNatClampNeg))])) _
    refine st9 _ ?_
    exact kt
  show own_End p e below s (T9.setTop (mkF m 9 #[.val (.ref a1), .val (.int p2)] [(.int (own_rndOf (gn p2.toNatClampNeg)))])) (Q15 Z a1 p2 vi vn vs vm vz gn h0 n0) ({ frames := 1, cells := 0, slots := 0, locals := 13 } : Room).cells ({ frames := 1, cells := 0, slots := 0, locals := 13 } : Room).slots
  have hv : (own_rnd p2 gn) = (own_rndOf (gn p2.toNatClampNeg)) := hj.trans (by simp only [own_rnd])
  obtain ⟨fs, hr, hrun, hended, hW, hsame⟩ := X9.leave (v := some (.int (own_rndOf (gn p2.toNatClampNeg)))) (fun h => by rw [Bd.returns] at h; cases h)
  refine ⟨_, _, ?_, hrun, hended, _, _, rfl, ?_, ⟨_, rfl⟩, hW, hsame.mono (by decide) (by decide)⟩
  · exact retI X9 hx Bd.returns (hb hby d15_9) hr
  · show Q15 Z a1 p2 vi vn vs vm vz gn h0 n0 _ T9.heap _
    rw [e9]
    exact ⟨(congrArg (fun z => some (Value.int z)) hv.symm), N9, rfl⟩
def own_hrd (p2 : Int32) (gn : Nat → Int64) : Int32 := (((gn p2.toNatClampNeg).toInt32) &&& (65535 : Int32))
theorem d17_0 : decode prog_25_method_16_code 0 = .ok (.aload_n 0, 1) := by decide +kernel
theorem d17_1 : decode prog_25_method_16_code 1 = .ok (.getfield 13, 3) := by decide +kernel
theorem d17_4 : decode prog_25_method_16_code 4 = .ok (.iload_n 1, 1) := by decide +kernel
theorem d17_5 : decode prog_25_method_16_code 5 = .ok (.laload, 1) := by decide +kernel
theorem d17_6 : decode prog_25_method_16_code 6 = .ok (.l2i, 1) := by decide +kernel
theorem d17_7 : decode prog_25_method_16_code 7 = .ok (.ldc 114, 2) := by decide +kernel
theorem d17_9 : decode prog_25_method_16_code 9 = .ok (.iand, 1) := by decide +kernel
theorem d17_10 : decode prog_25_method_16_code 10 = .ok (.ireturn, 1) := by decide +kernel
theorem pn_17 : plainName "com/example/atoll/atoll/detect/HeldOrigins" = true := by first | (simp [plainName, overriddenIn]; done) | decide +kernel
theorem ef_17 (m : MethodId) (x0 : Addr) (x1 : Int32) : entryFrame m #[(.ref x0), (.int x1)] 2 = mkF m 0 #[.val (.ref x0), .val (.int x1)] [] := by first | (simp [entryFrame, mkF, argsToLocals, Value.category]; done) | rfl
def Q17 (Z : State) (a1 : Addr) (p2 : Int32) (vi : Addr) (vn : Addr) (vs : Addr) (vm : Addr) (vz : Int32) (gn : Nat → Int64) (h0 : Heap) (n0 : Nat) (v : Option Value) (h : Heap) (L : List Loc) : Prop := v = some (.int (own_hrd p2 gn)) ∧ Fr n0 L ∧ h = h0
set_option maxRecDepth 65536 in
set_option maxHeartbeats 40000000 in
theorem rm17 (l : Launch) (Z : State) (a0 : Array Value) (hw : ∀ d ∈ tables_1, d.before a0 Z = true) (ws : List Jvm.Cond) (a1 : Addr) (p2 : Int32) (vi : Addr) (vn : Addr) (vs : Addr) (vm : Addr) (vz : Int32) (gn : Nat → Int64) (h0 : Heap) (n0 : Nat) (Z0 : n0 ≤ h0.size) (O_a1 : own_H Z h0 a1 vi vn vs vm vz) (V_vn : own_Arr Z h0 vn .long (16 : Int32) (fun i => Value.long (gn i))) (hp0 : 0 ≤ p2.toInt) (hp1 : p2.toInt < (16 : Int32).toInt) :
    MetFree l (⟨"com/example/atoll/atoll/detect/HeldOrigins", "heard", "(I)I"⟩ : MethodName) (head1 (Jvm.Cond.code (⟨"com/example/atoll/atoll/detect/HeldOrigins", "heard", "(I)I"⟩ : MethodName) prog_25_method_16_code 2 (some .int) :: ws) ({ frames := 0, cells := 0, slots := 0, locals := 0 } : Room)) (fun a U => a = #[(.ref a1), (.int p2)] ∧ Z.Warmed39 U.vm ∧ U.heap = h0) (fun _ _ _ _ _ => True) (fun _ U o U' => ∃ v L, o = .returned v ∧ Q17 Z a1 p2 vi vn vs vm vz gn h0 n0 v U'.heap L ∧ FrameEnd U o U' L ({ frames := 0, cells := 0, slots := 0, locals := 0 } : Room).cells ({ frames := 0, cells := 0, slots := 0, locals := 0 } : Room).slots) := by
  refine MetFree.of_bodySF (plainFor_of_name pn_17) hisR ?_
  intro p e s m args below meth c s₁ Bd hml0 hP hK
  obtain ⟨rfl, hZ, hh⟩ := hP
  have hx := Bd.exec
  have hby := Bd.bytes
  have hml : c.maxLocals = 2 := hml0
  have hown : s.vm.findClass "com/example/atoll/atoll/detect/HeldOrigins" = some m.cls := findClass_of_methodNamed Bd.named
  have hnm := (name_of_methodNamed Bd.named Bd.method).1
  have X0 : Stand p l e ({ frames := 0, cells := 0, slots := 0, locals := 0 } : Room) s m #[(.ref a1), (.int p2)] below meth c s₁ [] 0 0 := Stand.of_body Bd
  have e0 : s₁.heap = h0 := by rw [← hh, Bd.state]; rfl
  have N0 := Fr.nil n0
  show own_End p e below s (s₁.setTop (entryFrame m #[(.ref a1), (.int p2)] 2)) (Q17 Z a1 p2 vi vn vs vm vz gn h0 n0) ({ frames := 0, cells := 0, slots := 0, locals := 0 } : Room).cells ({ frames := 0, cells := 0, slots := 0, locals := 0 } : Room).slots
  obtain ⟨E_a1_1, F_ids_a1_2, F_newest_a1_3, F_state_a1_4, F_mismatches_a1_5, F_size_a1_6⟩ := O_a1
  refine own_pre (A := s₁.setTop (mkF m 0 #[.val (.ref a1), .val (.int p2)] [])) (fun tt kt => castTop (ef_17 m a1 p2) kt) ?_
  show own_End p e below s (s₁.setTop (mkF m 0 #[.val (.ref a1), .val (.int p2)] [])) (Q17 Z a1 p2 vi vn vs vm vz gn h0 n0) ({ frames := 0, cells := 0, slots := 0, locals := 0 } : Room).cells ({ frames := 0, cells := 0, slots := 0, locals := 0 } : Room).slots
  have hj : own_hrd p2 gn = own_hrd p2 gn := rfl
  obtain ⟨T7, X7, e7, st7⟩ := getF X0 hx hZ hown (host := "") (Or.inl (hw _ (List.mem_of_getElem? (i := 15) rfl))) Via.refl e0 F_newest_a1_3 (g := (mkF m 1 #[.val (.ref a1), .val (.int p2)] [(.ref a1)])) rfl rfl (hb hby d17_1)
  obtain ⟨cl8, Ar8, S8, Nn8, G8⟩ := id V_vn
  have hin8 : ¬ (p2 < 0 ∨ cl8.slots.size ≤ p2.toNatClampNeg) := inb_of S8 (own_inb2 hp0 hp1 : ¬ p2 < 0 ∧ p2 < (16 : Int32))
  have hat8 : cl8.slots[p2.toNatClampNeg]? = some (.long (gn p2.toNatClampNeg)) := own_at S8 G8 hin8
  refine own_pre (A := T7.setTop (mkF m 10 #[.val (.ref a1), .val (.int p2)] [(.int (((gn p2.toNatClampNeg).toInt32) &&& (65535 : Int32)))])) (fun tt kt => ?_) ?_
  · show Steps p.tables e below (s₁.setTop (mkF m 0 #[.val (.ref a1), .val (.int p2)] [])) _
    refine XS.aloadN X0.here hx rfl (hb hby d17_0) rfl rfl ?_
    show Steps p.tables e below (s₁.setTop (mkF m 1 #[.val (.ref a1), .val (.int p2)] [(.ref a1)])) _
    refine st7 _ ?_
    show Steps p.tables e below (T7.setTop (mkF m 4 #[.val (.ref a1), .val (.int p2)] [(.ref vn)])) _
    refine XS.iloadN X7.here hx rfl (hb hby d17_4) rfl ?_
    show Steps p.tables e below (T7.setTop (mkF m 5 #[.val (.ref a1), .val (.int p2)] [(.int p2), (.ref vn)])) _
    refine X7.laload hx (j := p2) (v := (.long (gn p2.toNatClampNeg))) (by rw [e7]; exact Ar8.1) (State.isArrayOf_alike hZ.alike Ar8.2.1) Ar8.2.2 hin8 hat8 (g := (mkF m 5 #[.val (.ref a1), .val (.int p2)] [(.int p2), (.ref vn)])) rfl rfl (hb hby d17_5) _ ?_
    show Steps p.tables e below (T7.setTop (mkF m 6 #[.val (.ref a1), .val (.int p2)] [(.long (gn p2.toNatClampNeg))])) _
    refine XS.l2i X7.here hx rfl (hb hby d17_6) rfl ?_
    show Steps p.tables e below (T7.setTop (mkF m 7 #[.val (.ref a1), .val (.int p2)] [(.int ((gn p2.toNatClampNeg).toInt32))])) _
    refine X7.ldcInt hx hown (mvT hZ (hw _ (List.mem_of_getElem? (i := 107) rfl))) (g := (mkF m 7 #[.val (.ref a1), .val (.int p2)] [(.int ((gn p2.toNatClampNeg).toInt32))])) rfl (hb hby d17_7) _ ?_
    show Steps p.tables e below (T7.setTop (mkF m 9 #[.val (.ref a1), .val (.int p2)] [(.int (65535 : Int32)), (.int ((gn p2.toNatClampNeg).toInt32))])) _
    refine XS.iand X7.here hx rfl (hb hby d17_9) rfl ?_
    exact kt
  show own_End p e below s (T7.setTop (mkF m 10 #[.val (.ref a1), .val (.int p2)] [(.int (((gn p2.toNatClampNeg).toInt32) &&& (65535 : Int32)))])) (Q17 Z a1 p2 vi vn vs vm vz gn h0 n0) ({ frames := 0, cells := 0, slots := 0, locals := 0 } : Room).cells ({ frames := 0, cells := 0, slots := 0, locals := 0 } : Room).slots
  have hv : (own_hrd p2 gn) = (((gn p2.toNatClampNeg).toInt32) &&& (65535 : Int32)) := hj.trans (by simp only [own_hrd])
  obtain ⟨fs, hr, hrun, hended, hW, hsame⟩ := X7.leave (v := some (.int (((gn p2.toNatClampNeg).toInt32) &&& (65535 : Int32)))) (fun h => by rw [Bd.returns] at h; cases h)
  refine ⟨_, _, ?_, hrun, hended, _, _, rfl, ?_, ⟨_, rfl⟩, hW, hsame.mono (by decide) (by decide)⟩
  · exact retI X7 hx Bd.returns (hb hby d17_10) hr
  · show Q17 Z a1 p2 vi vn vs vm vz gn h0 n0 _ T7.heap _
    rw [e7]
    exact ⟨(congrArg (fun z => some (Value.int z)) hv.symm), N0, rfl⟩
def own_arr (p2 : Int32) (gs : Nat → Int64) : Int64 := ((gs p2.toNatClampNeg) >>> ((4 : Int32) &&& 0x3f).toInt64)
theorem d18_0 : decode prog_25_method_17_code 0 = .ok (.aload_n 0, 1) := by decide +kernel
theorem d18_1 : decode prog_25_method_17_code 1 = .ok (.getfield 17, 3) := by decide +kernel
theorem d18_4 : decode prog_25_method_17_code 4 = .ok (.iload_n 1, 1) := by decide +kernel
theorem d18_5 : decode prog_25_method_17_code 5 = .ok (.laload, 1) := by decide +kernel
theorem d18_6 : decode prog_25_method_17_code 6 = .ok (.iconst 4, 1) := by decide +kernel
theorem d18_7 : decode prog_25_method_17_code 7 = .ok (.lshr, 1) := by decide +kernel
theorem d18_8 : decode prog_25_method_17_code 8 = .ok (.lreturn, 1) := by decide +kernel
theorem pn_18 : plainName "com/example/atoll/atoll/detect/HeldOrigins" = true := by first | (simp [plainName, overriddenIn]; done) | decide +kernel
theorem ef_18 (m : MethodId) (x0 : Addr) (x1 : Int32) : entryFrame m #[(.ref x0), (.int x1)] 2 = mkF m 0 #[.val (.ref x0), .val (.int x1)] [] := by first | (simp [entryFrame, mkF, argsToLocals, Value.category]; done) | rfl
def Q18 (Z : State) (a1 : Addr) (p2 : Int32) (vi : Addr) (vn : Addr) (vs : Addr) (vm : Addr) (vz : Int32) (gs : Nat → Int64) (h0 : Heap) (n0 : Nat) (v : Option Value) (h : Heap) (L : List Loc) : Prop := v = some (.long (own_arr p2 gs)) ∧ Fr n0 L ∧ h = h0
set_option maxRecDepth 65536 in
set_option maxHeartbeats 40000000 in
theorem rm18 (l : Launch) (Z : State) (a0 : Array Value) (hw : ∀ d ∈ tables_1, d.before a0 Z = true) (ws : List Jvm.Cond) (a1 : Addr) (p2 : Int32) (vi : Addr) (vn : Addr) (vs : Addr) (vm : Addr) (vz : Int32) (gs : Nat → Int64) (h0 : Heap) (n0 : Nat) (Z0 : n0 ≤ h0.size) (O_a1 : own_H Z h0 a1 vi vn vs vm vz) (V_vs : own_Arr Z h0 vs .long (16 : Int32) (fun i => Value.long (gs i))) (hp0 : 0 ≤ p2.toInt) (hp1 : p2.toInt < (16 : Int32).toInt) :
    MetFree l (⟨"com/example/atoll/atoll/detect/HeldOrigins", "arrived", "(I)J"⟩ : MethodName) (head1 (Jvm.Cond.code (⟨"com/example/atoll/atoll/detect/HeldOrigins", "arrived", "(I)J"⟩ : MethodName) prog_25_method_17_code 2 (some .long) :: ws) ({ frames := 0, cells := 0, slots := 0, locals := 0 } : Room)) (fun a U => a = #[(.ref a1), (.int p2)] ∧ Z.Warmed39 U.vm ∧ U.heap = h0) (fun _ _ _ _ _ => True) (fun _ U o U' => ∃ v L, o = .returned v ∧ Q18 Z a1 p2 vi vn vs vm vz gs h0 n0 v U'.heap L ∧ FrameEnd U o U' L ({ frames := 0, cells := 0, slots := 0, locals := 0 } : Room).cells ({ frames := 0, cells := 0, slots := 0, locals := 0 } : Room).slots) := by
  refine MetFree.of_bodySF (plainFor_of_name pn_18) hisR ?_
  intro p e s m args below meth c s₁ Bd hml0 hP hK
  obtain ⟨rfl, hZ, hh⟩ := hP
  have hx := Bd.exec
  have hby := Bd.bytes
  have hml : c.maxLocals = 2 := hml0
  have hown : s.vm.findClass "com/example/atoll/atoll/detect/HeldOrigins" = some m.cls := findClass_of_methodNamed Bd.named
  have hnm := (name_of_methodNamed Bd.named Bd.method).1
  have X0 : Stand p l e ({ frames := 0, cells := 0, slots := 0, locals := 0 } : Room) s m #[(.ref a1), (.int p2)] below meth c s₁ [] 0 0 := Stand.of_body Bd
  have e0 : s₁.heap = h0 := by rw [← hh, Bd.state]; rfl
  have N0 := Fr.nil n0
  show own_End p e below s (s₁.setTop (entryFrame m #[(.ref a1), (.int p2)] 2)) (Q18 Z a1 p2 vi vn vs vm vz gs h0 n0) ({ frames := 0, cells := 0, slots := 0, locals := 0 } : Room).cells ({ frames := 0, cells := 0, slots := 0, locals := 0 } : Room).slots
  obtain ⟨E_a1_1, F_ids_a1_2, F_newest_a1_3, F_state_a1_4, F_mismatches_a1_5, F_size_a1_6⟩ := O_a1
  refine own_pre (A := s₁.setTop (mkF m 0 #[.val (.ref a1), .val (.int p2)] [])) (fun tt kt => castTop (ef_18 m a1 p2) kt) ?_
  show own_End p e below s (s₁.setTop (mkF m 0 #[.val (.ref a1), .val (.int p2)] [])) (Q18 Z a1 p2 vi vn vs vm vz gs h0 n0) ({ frames := 0, cells := 0, slots := 0, locals := 0 } : Room).cells ({ frames := 0, cells := 0, slots := 0, locals := 0 } : Room).slots
  have hj : own_arr p2 gs = own_arr p2 gs := rfl
  obtain ⟨T7, X7, e7, st7⟩ := getF X0 hx hZ hown (host := "") (Or.inl (hw _ (List.mem_of_getElem? (i := 17) rfl))) Via.refl e0 F_state_a1_4 (g := (mkF m 1 #[.val (.ref a1), .val (.int p2)] [(.ref a1)])) rfl rfl (hb hby d18_1)
  obtain ⟨cl8, Ar8, S8, Nn8, G8⟩ := id V_vs
  have hin8 : ¬ (p2 < 0 ∨ cl8.slots.size ≤ p2.toNatClampNeg) := inb_of S8 (own_inb2 hp0 hp1 : ¬ p2 < 0 ∧ p2 < (16 : Int32))
  have hat8 : cl8.slots[p2.toNatClampNeg]? = some (.long (gs p2.toNatClampNeg)) := own_at S8 G8 hin8
  refine own_pre (A := T7.setTop (mkF m 8 #[.val (.ref a1), .val (.int p2)] [(.long ((gs p2.toNatClampNeg) >>> ((4 : Int32) &&& 0x3f).toInt64))])) (fun tt kt => ?_) ?_
  · show Steps p.tables e below (s₁.setTop (mkF m 0 #[.val (.ref a1), .val (.int p2)] [])) _
    refine XS.aloadN X0.here hx rfl (hb hby d18_0) rfl rfl ?_
    show Steps p.tables e below (s₁.setTop (mkF m 1 #[.val (.ref a1), .val (.int p2)] [(.ref a1)])) _
    refine st7 _ ?_
    show Steps p.tables e below (T7.setTop (mkF m 4 #[.val (.ref a1), .val (.int p2)] [(.ref vs)])) _
    refine XS.iloadN X7.here hx rfl (hb hby d18_4) rfl ?_
    show Steps p.tables e below (T7.setTop (mkF m 5 #[.val (.ref a1), .val (.int p2)] [(.int p2), (.ref vs)])) _
    refine X7.laload hx (j := p2) (v := (.long (gs p2.toNatClampNeg))) (by rw [e7]; exact Ar8.1) (State.isArrayOf_alike hZ.alike Ar8.2.1) Ar8.2.2 hin8 hat8 (g := (mkF m 5 #[.val (.ref a1), .val (.int p2)] [(.int p2), (.ref vs)])) rfl rfl (hb hby d18_5) _ ?_
    show Steps p.tables e below (T7.setTop (mkF m 6 #[.val (.ref a1), .val (.int p2)] [(.long (gs p2.toNatClampNeg))])) _
    refine XS.iconst X7.here hx rfl (hb hby d18_6) ?_
    refine XS.lshr X7.here hx rfl (hb hby d18_7) rfl ?_
    exact kt
  show own_End p e below s (T7.setTop (mkF m 8 #[.val (.ref a1), .val (.int p2)] [(.long ((gs p2.toNatClampNeg) >>> ((4 : Int32) &&& 0x3f).toInt64))])) (Q18 Z a1 p2 vi vn vs vm vz gs h0 n0) ({ frames := 0, cells := 0, slots := 0, locals := 0 } : Room).cells ({ frames := 0, cells := 0, slots := 0, locals := 0 } : Room).slots
  have hv : (own_arr p2 gs) = ((gs p2.toNatClampNeg) >>> ((4 : Int32) &&& 0x3f).toInt64) := hj.trans (by simp only [own_arr])
  obtain ⟨fs, hr, hrun, hended, hW, hsame⟩ := X7.leave (v := some (.long ((gs p2.toNatClampNeg) >>> ((4 : Int32) &&& 0x3f).toInt64))) (fun h => by rw [Bd.returns] at h; cases h)
  refine ⟨_, _, ?_, hrun, hended, _, _, rfl, ?_, ⟨_, rfl⟩, hW, hsame.mono (by decide) (by decide)⟩
  · exact X7.lreturnOut hx Bd.returns (hb hby d18_8) hr
  · show Q18 Z a1 p2 vi vn vs vm vz gs h0 n0 _ T7.heap _
    rw [e7]
    exact ⟨(congrArg (fun z => some (Value.long z)) hv.symm), N0, rfl⟩
def own_any (gs : Nat → Int64) : Int32 := (if (own_is (0 : Int32) (2 : Int32) gs) = (0 : Int32) then (if (own_is (1 : Int32) (2 : Int32) gs) = (0 : Int32) then (0 : Int32) else (1 : Int32)) else (1 : Int32))
theorem d22_0 : decode prog_25_method_11_code 0 = .ok (.iconst 0, 1) := by decide +kernel
theorem d22_1 : decode prog_25_method_11_code 1 = .ok (.istore_n 1, 1) := by decide +kernel
theorem d22_2 : decode prog_25_method_11_code 2 = .ok (.iload_n 1, 1) := by decide +kernel
theorem d22_3 : decode prog_25_method_11_code 3 = .ok (.aload_n 0, 1) := by decide +kernel
theorem d22_4 : decode prog_25_method_11_code 4 = .ok (.getfield 24, 3) := by decide +kernel
theorem d22_7 : decode prog_25_method_11_code 7 = .ok (.if_icmp .ge 20, 3) := by decide +kernel
theorem d22_10 : decode prog_25_method_11_code 10 = .ok (.aload_n 0, 1) := by decide +kernel
theorem d22_11 : decode prog_25_method_11_code 11 = .ok (.iload_n 1, 1) := by decide +kernel
theorem d22_12 : decode prog_25_method_11_code 12 = .ok (.iconst 2, 1) := by decide +kernel
theorem d22_13 : decode prog_25_method_11_code 13 = .ok (.invokevirtual 86, 3) := by decide +kernel
theorem d22_16 : decode prog_25_method_11_code 16 = .ok (.ifCond .eq 5, 3) := by decide +kernel
theorem d22_19 : decode prog_25_method_11_code 19 = .ok (.iconst 1, 1) := by decide +kernel
theorem d22_20 : decode prog_25_method_11_code 20 = .ok (.ireturn, 1) := by decide +kernel
theorem d22_21 : decode prog_25_method_11_code 21 = .ok (.iinc 1 1, 3) := by decide +kernel
theorem d22_24 : decode prog_25_method_11_code 24 = .ok (.goto (-22), 3) := by decide +kernel
theorem d22_27 : decode prog_25_method_11_code 27 = .ok (.iconst 0, 1) := by decide +kernel
theorem d22_28 : decode prog_25_method_11_code 28 = .ok (.ireturn, 1) := by decide +kernel
theorem pn_22 : plainName "com/example/atoll/atoll/detect/HeldOrigins" = true := by first | (simp [plainName, overriddenIn]; done) | decide +kernel
theorem pd_22_0 : parseMethodDescriptor "(II)Z" = some ⟨[.int, .int], some .boolean⟩ := by decide +kernel
theorem ef_22 (m : MethodId) (x0 : Addr) : entryFrame m #[(.ref x0)] 2 = mkF m 0 #[.val (.ref x0), .unset] [] := by first | (simp [entryFrame, mkF, argsToLocals, Value.category]; done) | rfl
def Q22 (Z : State) (a1 : Addr) (vi : Addr) (vn : Addr) (vs : Addr) (vm : Addr) (gs : Nat → Int64) (h0 : Heap) (n0 : Nat) (v : Option Value) (h : Heap) (L : List Loc) : Prop := v = some (.int (own_any gs)) ∧ Fr n0 L ∧ h = h0
set_option maxRecDepth 65536 in
set_option maxHeartbeats 40000000 in
theorem rm22 (l : Launch) (Z : State) (a0 : Array Value) (hw : ∀ d ∈ tables_1, d.before a0 Z = true) (ws : List Jvm.Cond) (a1 : Addr) (vi : Addr) (vn : Addr) (vs : Addr) (vm : Addr) (gs : Nat → Int64) (h0 : Heap) (n0 : Nat) (Z0 : n0 ≤ h0.size) (O_a1 : own_H Z h0 a1 vi vn vs vm (2 : Int32)) (V_vs : own_Arr Z h0 vs .long (16 : Int32) (fun i => Value.long (gs i))) :
    MetFree l (⟨"com/example/atoll/atoll/detect/HeldOrigins", "anyHoldsSelf", "()Z"⟩ : MethodName) (head1 (Jvm.Cond.code (⟨"com/example/atoll/atoll/detect/HeldOrigins", "anyHoldsSelf", "()Z"⟩ : MethodName) prog_25_method_11_code 2 (some .boolean) :: ws) ({ frames := 1, cells := 0, slots := 0, locals := 14 } : Room)) (fun a U => a = #[(.ref a1)] ∧ Z.Warmed39 U.vm ∧ U.heap = h0) (fun _ _ _ _ _ => True) (fun _ U o U' => ∃ v L, o = .returned v ∧ Q22 Z a1 vi vn vs vm gs h0 n0 v U'.heap L ∧ FrameEnd U o U' L ({ frames := 1, cells := 0, slots := 0, locals := 14 } : Room).cells ({ frames := 1, cells := 0, slots := 0, locals := 14 } : Room).slots) := by
  refine MetFree.of_bodySF (plainFor_of_name pn_22) hisR ?_
  intro p e s m args below meth c s₁ Bd hml0 hP hK
  obtain ⟨rfl, hZ, hh⟩ := hP
  have hx := Bd.exec
  have hby := Bd.bytes
  have hml : c.maxLocals = 2 := hml0
  have hown : s.vm.findClass "com/example/atoll/atoll/detect/HeldOrigins" = some m.cls := findClass_of_methodNamed Bd.named
  have hnm := (name_of_methodNamed Bd.named Bd.method).1
  have X0 : Stand p l e ({ frames := 1, cells := 0, slots := 0, locals := 14 } : Room) s m #[(.ref a1)] below meth c s₁ [] 0 0 := Stand.of_body Bd
  have e0 : s₁.heap = h0 := by rw [← hh, Bd.state]; rfl
  have N0 := Fr.nil n0
  show own_End p e below s (s₁.setTop (entryFrame m #[(.ref a1)] 2)) (Q22 Z a1 vi vn vs vm gs h0 n0) ({ frames := 1, cells := 0, slots := 0, locals := 14 } : Room).cells ({ frames := 1, cells := 0, slots := 0, locals := 14 } : Room).slots
  obtain ⟨E_a1_1, F_ids_a1_2, F_newest_a1_3, F_state_a1_4, F_mismatches_a1_5, F_size_a1_6⟩ := O_a1
  refine own_pre (A := s₁.setTop (mkF m 0 #[.val (.ref a1), .unset] [])) (fun tt kt => castTop (ef_22 m a1) kt) ?_
  show own_End p e below s (s₁.setTop (mkF m 0 #[.val (.ref a1), .unset] [])) (Q22 Z a1 vi vn vs vm gs h0 n0) ({ frames := 1, cells := 0, slots := 0, locals := 14 } : Room).cells ({ frames := 1, cells := 0, slots := 0, locals := 14 } : Room).slots
  have hj : own_any gs = own_any gs := rfl
  obtain ⟨T7, X7, e7, st7⟩ := getF X0 hx hZ hown (host := "") (Or.inl (hw _ (List.mem_of_getElem? (i := 42) rfl))) Via.refl e0 F_size_a1_6 (g := (mkF m 4 #[.val (.ref a1), .val (.int (0 : Int32))] [(.ref a1), (.int (0 : Int32))])) rfl rfl (hb hby d22_4)
  obtain ⟨cq8, q8, q8'⟩ := (E_a1_1).cell
  obtain ⟨_, _, ⟨T8, L8, k8, n8⟩, -, X8, ⟨Lc8, hQ8, l8, y8, z8⟩, st8⟩ := X7.privateBack hx (y := (⟨"com/example/atoll/atoll/detect/HeldOrigins", "is", "(II)Z"⟩ : MethodName)) hown (mvT hZ (hw _ (List.mem_of_getElem? (i := 72) rfl))) (mvT hZ (hw _ (List.mem_of_getElem? (i := 73) rfl))) (own_selPriv hZ (hw _ (List.mem_of_getElem? (i := 3) rfl)) (hw _ (List.mem_of_getElem? (i := 73) rfl)) (hw _ (List.mem_of_getElem? (i := 74) rfl)) (by decide)) (Cond.privateMethod_at (mvP hZ (hw _ (List.mem_of_getElem? (i := 74) rfl)) (args := #[]))) (mvT hZ (hw _ (List.mem_of_getElem? (i := 75) rfl))) (by decide) (backOf (W := 0) (rm10 l Z a0 hw [] a1 (0 : Int32) (2 : Int32) vi vn vs vm (2 : Int32) gs h0 n0 Z0 ⟨E_a1_1, F_ids_a1_2, F_newest_a1_3, F_state_a1_4, F_mismatches_a1_5, F_size_a1_6⟩ V_vs (by decide) (by decide)) hZ (hw _ (List.mem_of_getElem? (i := 75) rfl)) (hw _ (List.mem_of_getElem? (i := 4) rfl)) (by decide) (by decide)) (g := (mkF m 13 #[.val (.ref a1), .val (.int (0 : Int32))] [(.int (2 : Int32)), (.int (0 : Int32)), (.ref a1)])) rfl (by rw [hml]; rfl) (Steps.refl _) (a := a1) (by rw [e7]; exact q8) q8' (argsL := [(.int (0 : Int32)), (.int (2 : Int32))]) (rest := []) (lenOf pd_22_0 rfl) rfl (by show 2 * 0 + _ ≤ _; exact Nat.le_of_eq rfl) (hb hby d22_13) (fun _ _ => ⟨rfl, e7, (by decide : 0 + 0 ≤ _), (by decide : 0 + 0 ≤ _)⟩)
  dsimp only [Pt.U, Pt.locs, Pt.cells, Pt.slots] at X8 l8 y8 z8 st8 hQ8
  subst l8 y8 z8
  obtain ⟨rfl, N8q, e8⟩ := hQ8
  have N8 := Fr.app N0 N8q
  refine own_pre (A := T8.setTop (mkF m 16 #[.val (.ref a1), .val (.int (0 : Int32))] [(.int (own_is (0 : Int32) (2 : Int32) gs))])) (fun tt kt => ?_) ?_
  · show Steps p.tables e below (s₁.setTop (mkF m 0 #[.val (.ref a1), .unset] [])) _
    refine XS.iconst X0.here hx rfl (hb hby d22_0) ?_
    refine XS.istoreN X0.here hx rfl (hb hby d22_1) rfl (l' := #[.val (.ref a1), .val (.int (0 : Int32))]) rfl ?_
    refine XS.iloadN X0.here hx rfl (hb hby d22_2) rfl ?_
    refine XS.aloadN X0.here hx rfl (hb hby d22_3) rfl rfl ?_
    show Steps p.tables e below (s₁.setTop (mkF m 4 #[.val (.ref a1), .val (.int (0 : Int32))] [(.ref a1), (.int (0 : Int32))])) _
    refine st7 _ ?_
    show Steps p.tables e below (T7.setTop (mkF m 7 #[.val (.ref a1), .val (.int (0 : Int32))] [(.int (2 : Int32)), (.int (0 : Int32))])) _
    refine XS.icmpNo X7.here hx rfl (hb hby d22_7) rfl (tlt ((by decide) : (0 : Int32) < (2 : Int32))).2.1 ?_
    refine XS.aloadN X7.here hx rfl (hb hby d22_10) rfl rfl ?_
    refine XS.iloadN X7.here hx rfl (hb hby d22_11) rfl ?_
    refine XS.iconst X7.here hx rfl (hb hby d22_12) ?_
    show Steps p.tables e below (T7.setTop (mkF m 13 #[.val (.ref a1), .val (.int (0 : Int32))] [(.int (2 : Int32)), (.int (0 : Int32)), (.ref a1)])) _
    refine st8.trans ?_
    exact kt
  show own_End p e below s (T8.setTop (mkF m 16 #[.val (.ref a1), .val (.int (0 : Int32))] [(.int (own_is (0 : Int32) (2 : Int32) gs))])) (Q22 Z a1 vi vn vs vm gs h0 n0) ({ frames := 1, cells := 0, slots := 0, locals := 14 } : Room).cells ({ frames := 1, cells := 0, slots := 0, locals := 14 } : Room).slots
  by_cases hc16_9 : (own_is (0 : Int32) (2 : Int32) gs) = (0 : Int32)
  · obtain ⟨T10, X10, e10, st10⟩ := getF X8 hx hZ hown (host := "") (Or.inl (hw _ (List.mem_of_getElem? (i := 42) rfl))) Via.refl e8 F_size_a1_6 (g := (mkF m 4 #[.val (.ref a1), .val (.int (1 : Int32))] [(.ref a1), (.int (1 : Int32))])) rfl rfl (hb hby d22_4)
    obtain ⟨cq11, q11, q11'⟩ := (E_a1_1).cell
    obtain ⟨_, _, ⟨T11, L11, k11, n11⟩, -, X11, ⟨Lc11, hQ11, l11, y11, z11⟩, st11⟩ := X10.privateBack hx (y := (⟨"com/example/atoll/atoll/detect/HeldOrigins", "is", "(II)Z"⟩ : MethodName)) hown (mvT hZ (hw _ (List.mem_of_getElem? (i := 72) rfl))) (mvT hZ (hw _ (List.mem_of_getElem? (i := 73) rfl))) (own_selPriv hZ (hw _ (List.mem_of_getElem? (i := 3) rfl)) (hw _ (List.mem_of_getElem? (i := 73) rfl)) (hw _ (List.mem_of_getElem? (i := 74) rfl)) (by decide)) (Cond.privateMethod_at (mvP hZ (hw _ (List.mem_of_getElem? (i := 74) rfl)) (args := #[]))) (mvT hZ (hw _ (List.mem_of_getElem? (i := 75) rfl))) (by decide) (backOf (W := 0) (rm10 l Z a0 hw [] a1 (1 : Int32) (2 : Int32) vi vn vs vm (2 : Int32) gs h0 n0 Z0 ⟨E_a1_1, F_ids_a1_2, F_newest_a1_3, F_state_a1_4, F_mismatches_a1_5, F_size_a1_6⟩ V_vs (by decide) (by decide)) hZ (hw _ (List.mem_of_getElem? (i := 75) rfl)) (hw _ (List.mem_of_getElem? (i := 4) rfl)) (by decide) (by decide)) (g := (mkF m 13 #[.val (.ref a1), .val (.int (1 : Int32))] [(.int (2 : Int32)), (.int (1 : Int32)), (.ref a1)])) rfl (by rw [hml]; rfl) (Steps.refl _) (a := a1) (by rw [e10]; exact q11) q11' (argsL := [(.int (1 : Int32)), (.int (2 : Int32))]) (rest := []) (lenOf pd_22_0 rfl) rfl (by show 2 * 0 + _ ≤ _; exact Nat.le_of_eq rfl) (hb hby d22_13) (fun _ _ => ⟨rfl, e10, (by decide : 0 + 0 ≤ _), (by decide : 0 + 0 ≤ _)⟩)
    dsimp only [Pt.U, Pt.locs, Pt.cells, Pt.slots] at X11 l11 y11 z11 st11 hQ11
    subst l11 y11 z11
    obtain ⟨rfl, N11q, e11⟩ := hQ11
    have N11 := Fr.app N8 N11q
    refine own_pre (A := T11.setTop (mkF m 16 #[.val (.ref a1), .val (.int (1 : Int32))] [(.int (own_is (1 : Int32) (2 : Int32) gs))])) (fun tt kt => ?_) ?_
    · show Steps p.tables e below (T8.setTop (mkF m 16 #[.val (.ref a1), .val (.int (0 : Int32))] [(.int (own_is (0 : Int32) (2 : Int32) gs))])) _
      refine XS.ifYes X8.here hx rfl (pc0 := 16) (pc' := 21) rfl (hb hby d22_16) rfl ((if0 _ _).trans (teq hc16_9).1) (by decide) (by decide) ?_
      refine XS.iinc X8.here hx rfl (hb hby d22_21) rfl (l' := #[.val (.ref a1), .val (.int (1 : Int32))]) rfl ?_
      refine XS.goto X8.here hx rfl (pc0 := 24) (pc' := 2) rfl (hb hby d22_24) (by decide) (by decide) ?_
      refine XS.iloadN X8.here hx rfl (hb hby d22_2) rfl ?_
      show Steps p.tables e below (T8.setTop (mkF m 3 #[.val (.ref a1), .val (.int (1 : Int32))] [(.int (1 : Int32))])) _
      refine XS.aloadN X8.here hx rfl (hb hby d22_3) rfl rfl ?_
      show Steps p.tables e below (T8.setTop (mkF m 4 #[.val (.ref a1), .val (.int (1 : Int32))] [(.ref a1), (.int (1 : Int32))])) _
      refine st10 _ ?_
      show Steps p.tables e below (T10.setTop (mkF m 7 #[.val (.ref a1), .val (.int (1 : Int32))] [(.int (2 : Int32)), (.int (1 : Int32))])) _
      refine XS.icmpNo X10.here hx rfl (hb hby d22_7) rfl (tlt ((by decide) : (1 : Int32) < (2 : Int32))).2.1 ?_
      refine XS.aloadN X10.here hx rfl (hb hby d22_10) rfl rfl ?_
      refine XS.iloadN X10.here hx rfl (hb hby d22_11) rfl ?_
      refine XS.iconst X10.here hx rfl (hb hby d22_12) ?_
      show Steps p.tables e below (T10.setTop (mkF m 13 #[.val (.ref a1), .val (.int (1 : Int32))] [(.int (2 : Int32)), (.int (1 : Int32)), (.ref a1)])) _
      refine st11.trans ?_
      exact kt
    show own_End p e below s (T11.setTop (mkF m 16 #[.val (.ref a1), .val (.int (1 : Int32))] [(.int (own_is (1 : Int32) (2 : Int32) gs))])) (Q22 Z a1 vi vn vs vm gs h0 n0) ({ frames := 1, cells := 0, slots := 0, locals := 14 } : Room).cells ({ frames := 1, cells := 0, slots := 0, locals := 14 } : Room).slots
    by_cases hc16_12 : (own_is (1 : Int32) (2 : Int32) gs) = (0 : Int32)
    · obtain ⟨T13, X13, e13, st13⟩ := getF X11 hx hZ hown (host := "") (Or.inl (hw _ (List.mem_of_getElem? (i := 42) rfl))) Via.refl e11 F_size_a1_6 (g := (mkF m 4 #[.val (.ref a1), .val (.int (2 : Int32))] [(.ref a1), (.int (2 : Int32))])) rfl rfl (hb hby d22_4)
      refine own_pre (A := T13.setTop (mkF m 28 #[.val (.ref a1), .val (.int (2 : Int32))] [(.int (0 : Int32))])) (fun tt kt => ?_) ?_
      · show Steps p.tables e below (T11.setTop (mkF m 16 #[.val (.ref a1), .val (.int (1 : Int32))] [(.int (own_is (1 : Int32) (2 : Int32) gs))])) _
        refine XS.ifYes X11.here hx rfl (pc0 := 16) (pc' := 21) rfl (hb hby d22_16) rfl ((if0 _ _).trans (teq hc16_12).1) (by decide) (by decide) ?_
        refine XS.iinc X11.here hx rfl (hb hby d22_21) rfl (l' := #[.val (.ref a1), .val (.int (2 : Int32))]) rfl ?_
        refine XS.goto X11.here hx rfl (pc0 := 24) (pc' := 2) rfl (hb hby d22_24) (by decide) (by decide) ?_
        refine XS.iloadN X11.here hx rfl (hb hby d22_2) rfl ?_
        show Steps p.tables e below (T11.setTop (mkF m 3 #[.val (.ref a1), .val (.int (2 : Int32))] [(.int (2 : Int32))])) _
        refine XS.aloadN X11.here hx rfl (hb hby d22_3) rfl rfl ?_
        show Steps p.tables e below (T11.setTop (mkF m 4 #[.val (.ref a1), .val (.int (2 : Int32))] [(.ref a1), (.int (2 : Int32))])) _
        refine st13 _ ?_
        show Steps p.tables e below (T13.setTop (mkF m 7 #[.val (.ref a1), .val (.int (2 : Int32))] [(.int (2 : Int32)), (.int (2 : Int32))])) _
        refine XS.icmpYes X13.here hx rfl (pc0 := 7) (pc' := 27) rfl (hb hby d22_7) rfl (flt ((by decide) : ¬ ((2 : Int32) < (2 : Int32)))).2.1 (by decide) (by decide) ?_
        refine XS.iconst X13.here hx rfl (hb hby d22_27) ?_
        exact kt
      show own_End p e below s (T13.setTop (mkF m 28 #[.val (.ref a1), .val (.int (2 : Int32))] [(.int (0 : Int32))])) (Q22 Z a1 vi vn vs vm gs h0 n0) ({ frames := 1, cells := 0, slots := 0, locals := 14 } : Room).cells ({ frames := 1, cells := 0, slots := 0, locals := 14 } : Room).slots
      have hv : (own_any gs) = (0 : Int32) := hj.trans (by simp only [own_any, if_pos hc16_9, if_pos hc16_12])
      obtain ⟨fs, hr, hrun, hended, hW, hsame⟩ := X13.leave (v := some (.int (0 : Int32))) (fun h => by rw [Bd.returns] at h; cases h)
      refine ⟨_, _, ?_, hrun, hended, _, _, rfl, ?_, ⟨_, rfl⟩, hW, hsame.mono (by decide) (by decide)⟩
      · exact retN X13 hx (t := .boolean) Bd.returns (by simp) (hb hby d22_28) hr
      · show Q22 Z a1 vi vn vs vm gs h0 n0 _ T13.heap _
        rw [e13]
        exact ⟨(congrArg (fun z => some (Value.int z)) hv.symm), N11, rfl⟩
    · refine own_pre (A := T11.setTop (mkF m 20 #[.val (.ref a1), .val (.int (1 : Int32))] [(.int (1 : Int32))])) (fun tt kt => ?_) ?_
      · show Steps p.tables e below (T11.setTop (mkF m 16 #[.val (.ref a1), .val (.int (1 : Int32))] [(.int (own_is (1 : Int32) (2 : Int32) gs))])) _
        refine XS.ifNo X11.here hx rfl (hb hby d22_16) rfl ((if0 _ _).trans (feq hc16_12).1) ?_
        refine XS.iconst X11.here hx rfl (hb hby d22_19) ?_
        exact kt
      show own_End p e below s (T11.setTop (mkF m 20 #[.val (.ref a1), .val (.int (1 : Int32))] [(.int (1 : Int32))])) (Q22 Z a1 vi vn vs vm gs h0 n0) ({ frames := 1, cells := 0, slots := 0, locals := 14 } : Room).cells ({ frames := 1, cells := 0, slots := 0, locals := 14 } : Room).slots
      have hv : (own_any gs) = (1 : Int32) := hj.trans (by simp only [own_any, if_pos hc16_9, if_neg hc16_12])
      obtain ⟨fs, hr, hrun, hended, hW, hsame⟩ := X11.leave (v := some (.int (1 : Int32))) (fun h => by rw [Bd.returns] at h; cases h)
      refine ⟨_, _, ?_, hrun, hended, _, _, rfl, ?_, ⟨_, rfl⟩, hW, hsame.mono (by decide) (by decide)⟩
      · exact retN X11 hx (t := .boolean) Bd.returns (by simp) (hb hby d22_20) hr
      · show Q22 Z a1 vi vn vs vm gs h0 n0 _ T11.heap _
        rw [e11]
        exact ⟨(congrArg (fun z => some (Value.int z)) hv.symm), N11, rfl⟩
  · refine own_pre (A := T8.setTop (mkF m 20 #[.val (.ref a1), .val (.int (0 : Int32))] [(.int (1 : Int32))])) (fun tt kt => ?_) ?_
    · show Steps p.tables e below (T8.setTop (mkF m 16 #[.val (.ref a1), .val (.int (0 : Int32))] [(.int (own_is (0 : Int32) (2 : Int32) gs))])) _
      refine XS.ifNo X8.here hx rfl (hb hby d22_16) rfl ((if0 _ _).trans (feq hc16_9).1) ?_
      refine XS.iconst X8.here hx rfl (hb hby d22_19) ?_
      exact kt
    show own_End p e below s (T8.setTop (mkF m 20 #[.val (.ref a1), .val (.int (0 : Int32))] [(.int (1 : Int32))])) (Q22 Z a1 vi vn vs vm gs h0 n0) ({ frames := 1, cells := 0, slots := 0, locals := 14 } : Room).cells ({ frames := 1, cells := 0, slots := 0, locals := 14 } : Room).slots
    have hv : (own_any gs) = (1 : Int32) := hj.trans (by simp only [own_any, if_neg hc16_9])
    obtain ⟨fs, hr, hrun, hended, hW, hsame⟩ := X8.leave (v := some (.int (1 : Int32))) (fun h => by rw [Bd.returns] at h; cases h)
    refine ⟨_, _, ?_, hrun, hended, _, _, rfl, ?_, ⟨_, rfl⟩, hW, hsame.mono (by decide) (by decide)⟩
    · exact retN X8 hx (t := .boolean) Bd.returns (by simp) (hb hby d22_20) hr
    · show Q22 Z a1 vi vn vs vm gs h0 n0 _ T8.heap _
      rw [e8]
      exact ⟨(congrArg (fun z => some (Value.int z)) hv.symm), N8, rfl⟩
theorem d24_0 : decode prog_10_method_2_code 0 = .ok (.aload_n 0, 1) := by decide +kernel
theorem d24_1 : decode prog_10_method_2_code 1 = .ok (.getfield 7, 3) := by decide +kernel
theorem d24_4 : decode prog_10_method_2_code 4 = .ok (.aload_n 0, 1) := by decide +kernel
theorem d24_5 : decode prog_10_method_2_code 5 = .ok (.getfield 22, 3) := by decide +kernel
theorem d24_8 : decode prog_10_method_2_code 8 = .ok (.iload_n 1, 1) := by decide +kernel
theorem d24_9 : decode prog_10_method_2_code 9 = .ok (.iastore, 1) := by decide +kernel
theorem d24_10 : decode prog_10_method_2_code 10 = .ok (.aload_n 0, 1) := by decide +kernel
theorem d24_11 : decode prog_10_method_2_code 11 = .ok (.getfield 13, 3) := by decide +kernel
theorem d24_14 : decode prog_10_method_2_code 14 = .ok (.aload_n 0, 1) := by decide +kernel
theorem d24_15 : decode prog_10_method_2_code 15 = .ok (.getfield 22, 3) := by decide +kernel
theorem d24_18 : decode prog_10_method_2_code 18 = .ok (.iload_n 2, 1) := by decide +kernel
theorem d24_19 : decode prog_10_method_2_code 19 = .ok (.iastore, 1) := by decide +kernel
theorem d24_20 : decode prog_10_method_2_code 20 = .ok (.aload_n 0, 1) := by decide +kernel
theorem d24_21 : decode prog_10_method_2_code 21 = .ok (.getfield 16, 3) := by decide +kernel
theorem d24_24 : decode prog_10_method_2_code 24 = .ok (.aload_n 0, 1) := by decide +kernel
theorem d24_25 : decode prog_10_method_2_code 25 = .ok (.getfield 22, 3) := by decide +kernel
theorem d24_28 : decode prog_10_method_2_code 28 = .ok (.iload_n 3, 1) := by decide +kernel
theorem d24_29 : decode prog_10_method_2_code 29 = .ok (.iastore, 1) := by decide +kernel
theorem d24_30 : decode prog_10_method_2_code 30 = .ok (.aload_n 0, 1) := by decide +kernel
theorem d24_31 : decode prog_10_method_2_code 31 = .ok (.getfield 19, 3) := by decide +kernel
theorem d24_34 : decode prog_10_method_2_code 34 = .ok (.aload_n 0, 1) := by decide +kernel
theorem d24_35 : decode prog_10_method_2_code 35 = .ok (.getfield 22, 3) := by decide +kernel
theorem d24_38 : decode prog_10_method_2_code 38 = .ok (.iload 4, 2) := by decide +kernel
theorem d24_40 : decode prog_10_method_2_code 40 = .ok (.iastore, 1) := by decide +kernel
theorem d24_41 : decode prog_10_method_2_code 41 = .ok (.aload_n 0, 1) := by decide +kernel
theorem d24_42 : decode prog_10_method_2_code 42 = .ok (.dup, 1) := by decide +kernel
theorem d24_43 : decode prog_10_method_2_code 43 = .ok (.getfield 22, 3) := by decide +kernel
theorem d24_46 : decode prog_10_method_2_code 46 = .ok (.iconst 1, 1) := by decide +kernel
theorem d24_47 : decode prog_10_method_2_code 47 = .ok (.iadd, 1) := by decide +kernel
theorem d24_48 : decode prog_10_method_2_code 48 = .ok (.putfield 22, 3) := by decide +kernel
theorem d24_51 : decode prog_10_method_2_code 51 = .ok (.return_, 1) := by decide +kernel
theorem pn_24 : plainName "com/example/atoll/atoll/detect/Beacon$Builder" = true := by first | (simp [plainName, overriddenIn]; done) | decide +kernel
theorem ef_24 (m : MethodId) (x0 : Addr) (x1 : Int32) (x2 : Int32) (x3 : Int32) (x4 : Int32) : entryFrame m #[(.ref x0), (.int x1), (.int x2), (.int x3), (.int x4)] 5 = mkF m 0 #[.val (.ref x0), .val (.int x1), .val (.int x2), .val (.int x3), .val (.int x4)] [] := by first | (simp [entryFrame, mkF, argsToLocals, Value.category]; done) | rfl
def Q24 (Z : State) (a1 : Addr) (p2 : Int32) (p3 : Int32) (p4 : Int32) (p5 : Int32) (ui : Addr) (un : Addr) (ur : Addr) (uh : Addr) (vc : Int32) (bi : Nat → Int32) (bn : Nat → Int32) (br : Nat → Int32) (bh : Nat → Int32) (h0 : Heap) (n0 : Nat) (v : Option Value) (h : Heap) (L : List Loc) : Prop := v = none ∧ Fr n0 L ∧ Keep h0 h [a1, ui, un, ur, uh] ∧ own_B Z h a1 ui un ur uh (vc + (1 : Int32)) ∧ own_Arr Z h ui .int (2 : Int32) (fun i => Value.int ((own_put bi vc p2) i)) ∧ own_Arr Z h un .int (2 : Int32) (fun i => Value.int ((own_put bn vc p3) i)) ∧ own_Arr Z h ur .int (2 : Int32) (fun i => Value.int ((own_put br vc p4) i)) ∧ own_Arr Z h uh .int (2 : Int32) (fun i => Value.int ((own_put bh vc p5) i))
set_option maxRecDepth 65536 in
set_option maxHeartbeats 40000000 in
theorem rm24 (l : Launch) (Z : State) (a0 : Array Value) (hw : ∀ d ∈ tables_1, d.before a0 Z = true) (ws : List Jvm.Cond) (a1 : Addr) (p2 : Int32) (p3 : Int32) (p4 : Int32) (p5 : Int32) (ui : Addr) (un : Addr) (ur : Addr) (uh : Addr) (vc : Int32) (bi : Nat → Int32) (bn : Nat → Int32) (br : Nat → Int32) (bh : Nat → Int32) (h0 : Heap) (n0 : Nat) (Z0 : n0 ≤ h0.size) (O_a1 : own_B Z h0 a1 ui un ur uh vc) (V_ui : own_Arr Z h0 ui .int (2 : Int32) (fun i => Value.int (bi i))) (V_un : own_Arr Z h0 un .int (2 : Int32) (fun i => Value.int (bn i))) (V_ur : own_Arr Z h0 ur .int (2 : Int32) (fun i => Value.int (br i))) (V_uh : own_Arr Z h0 uh .int (2 : Int32) (fun i => Value.int (bh i))) (ne_a1_ui : a1 ≠ ui) (ne_a1_un : a1 ≠ un) (ne_a1_ur : a1 ≠ ur) (ne_a1_uh : a1 ≠ uh) (ne_ui_un : ui ≠ un) (ne_ui_ur : ui ≠ ur) (ne_ui_uh : ui ≠ uh) (ne_un_ur : un ≠ ur) (ne_un_uh : un ≠ uh) (ne_ur_uh : ur ≠ uh) (g_a1 : n0 ≤ a1) (g_ui : n0 ≤ ui) (g_un : n0 ≤ un) (g_ur : n0 ≤ ur) (g_uh : n0 ≤ uh) (hc0 : 0 ≤ vc.toInt) (hc1 : vc.toInt < (2 : Int32).toInt) :
    MetFree l (⟨"com/example/atoll/atoll/detect/Beacon$Builder", "add", "(IIII)V"⟩ : MethodName) (head1 (Jvm.Cond.code (⟨"com/example/atoll/atoll/detect/Beacon$Builder", "add", "(IIII)V"⟩ : MethodName) prog_10_method_2_code 5 none :: ws) ({ frames := 0, cells := 0, slots := 0, locals := 0 } : Room)) (fun a U => a = #[(.ref a1), (.int p2), (.int p3), (.int p4), (.int p5)] ∧ Z.Warmed39 U.vm ∧ U.heap = h0) (fun _ _ _ _ _ => True) (fun _ U o U' => ∃ v L, o = .returned v ∧ Q24 Z a1 p2 p3 p4 p5 ui un ur uh vc bi bn br bh h0 n0 v U'.heap L ∧ FrameEnd U o U' L ({ frames := 0, cells := 0, slots := 0, locals := 0 } : Room).cells ({ frames := 0, cells := 0, slots := 0, locals := 0 } : Room).slots) := by
  refine MetFree.of_bodySF (plainFor_of_name pn_24) hisR ?_
  intro p e s m args below meth c s₁ Bd hml0 hP hK
  obtain ⟨rfl, hZ, hh⟩ := hP
  have hx := Bd.exec
  have hby := Bd.bytes
  have hml : c.maxLocals = 5 := hml0
  have hown : s.vm.findClass "com/example/atoll/atoll/detect/Beacon$Builder" = some m.cls := findClass_of_methodNamed Bd.named
  have hnm := (name_of_methodNamed Bd.named Bd.method).1
  have X0 : Stand p l e ({ frames := 0, cells := 0, slots := 0, locals := 0 } : Room) s m #[(.ref a1), (.int p2), (.int p3), (.int p4), (.int p5)] below meth c s₁ [] 0 0 := Stand.of_body Bd
  have e0 : s₁.heap = h0 := by rw [← hh, Bd.state]; rfl
  have N0 := Fr.nil n0
  show own_End p e below s (s₁.setTop (entryFrame m #[(.ref a1), (.int p2), (.int p3), (.int p4), (.int p5)] 5)) (Q24 Z a1 p2 p3 p4 p5 ui un ur uh vc bi bn br bh h0 n0) ({ frames := 0, cells := 0, slots := 0, locals := 0 } : Room).cells ({ frames := 0, cells := 0, slots := 0, locals := 0 } : Room).slots
  obtain ⟨E_a1_1, F_ids_a1_2, F_incarnations_a1_3, F_rounds_a1_4, F_heard_a1_5, F_count_a1_6⟩ := O_a1
  refine own_pre (A := s₁.setTop (mkF m 0 #[.val (.ref a1), .val (.int p2), .val (.int p3), .val (.int p4), .val (.int p5)] [])) (fun tt kt => castTop (ef_24 m a1 p2 p3 p4 p5) kt) ?_
  show own_End p e below s (s₁.setTop (mkF m 0 #[.val (.ref a1), .val (.int p2), .val (.int p3), .val (.int p4), .val (.int p5)] [])) (Q24 Z a1 p2 p3 p4 p5 ui un ur uh vc bi bn br bh h0 n0) ({ frames := 0, cells := 0, slots := 0, locals := 0 } : Room).cells ({ frames := 0, cells := 0, slots := 0, locals := 0 } : Room).slots
  obtain ⟨T7, X7, e7, st7⟩ := getF X0 hx hZ hown (host := "") (Or.inl (hw _ (List.mem_of_getElem? (i := 29) rfl))) Via.refl e0 F_ids_a1_2 (g := (mkF m 1 #[.val (.ref a1), .val (.int p2), .val (.int p3), .val (.int p4), .val (.int p5)] [(.ref a1)])) rfl rfl (hb hby d24_1)
  obtain ⟨T8, X8, e8, st8⟩ := getF X7 hx hZ hown (host := "") (Or.inl (hw _ (List.mem_of_getElem? (i := 148) rfl))) Via.refl e7 F_count_a1_6 (g := (mkF m 5 #[.val (.ref a1), .val (.int p2), .val (.int p3), .val (.int p4), .val (.int p5)] [(.ref a1), (.ref ui)])) rfl rfl (hb hby d24_5)
  obtain ⟨cl9, Ar9, S9, Nn9, G9⟩ := id V_ui
  have hin9 : ¬ (vc < 0 ∨ cl9.slots.size ≤ vc.toNatClampNeg) := inb_of S9 (own_inb2 hc0 hc1 : ¬ vc < 0 ∧ vc < (2 : Int32))
  obtain ⟨T10, h10, X10, e10, W10, st10⟩ := stI X8 hx hZ e8 Ar9 (j := vc) hin9 (g := (mkF m 9 #[.val (.ref a1), .val (.int p2), .val (.int p3), .val (.int p4), .val (.int p5)] [(.int p2), (.int vc), (.ref ui)])) rfl rfl (hb hby d24_9)
  have fE_a1_x10 := (E_a1_1.wr W10)
  have fF_a1_ids_x10 := (Fld.other W10 F_ids_a1_2 (Or.inl ne_a1_ui))
  have fF_a1_incarnations_x10 := (Fld.other W10 F_incarnations_a1_3 (Or.inl ne_a1_ui))
  have fF_a1_rounds_x10 := (Fld.other W10 F_rounds_a1_4 (Or.inl ne_a1_ui))
  have fF_a1_heard_x10 := (Fld.other W10 F_heard_a1_5 (Or.inl ne_a1_ui))
  have fF_a1_count_x10 := (Fld.other W10 F_count_a1_6 (Or.inl ne_a1_ui))
  have fA_un_x10 := (V_un.other W10 (Ne.symm ne_ui_un))
  have fA_ur_x10 := (V_ur.other W10 (Ne.symm ne_ui_ur))
  have fA_uh_x10 := (V_uh.other W10 (Ne.symm ne_ui_uh))
  have V10 : own_Arr Z h10 ui .int (2 : Int32) (fun i => Value.int ((own_put bi vc p2) i)) := own_Arr.set (w := Value.int) (g := bi) (x := p2) V_ui W10 rfl (fun i => rfl)
  have N10 := Fr.snoc X10 N0 g_ui
  have K10 : Keep h0 h10 [a1, ui, un, ur, uh] := Keep.wr (Keep.refl h0 _) W10 (Or.inl (List.mem_of_getElem? (i := 1) rfl))
  have Z10 : n0 ≤ h10.size := Nat.le_trans Z0 (Nat.le_of_eq W10.size.symm)
  obtain ⟨T11, X11, e11, st11⟩ := getF X10 hx hZ hown (host := "") (Or.inl (hw _ (List.mem_of_getElem? (i := 31) rfl))) Via.refl e10 fF_a1_incarnations_x10 (g := (mkF m 11 #[.val (.ref a1), .val (.int p2), .val (.int p3), .val (.int p4), .val (.int p5)] [(.ref a1)])) rfl rfl (hb hby d24_11)
  obtain ⟨T12, X12, e12, st12⟩ := getF X11 hx hZ hown (host := "") (Or.inl (hw _ (List.mem_of_getElem? (i := 148) rfl))) Via.refl e11 fF_a1_count_x10 (g := (mkF m 15 #[.val (.ref a1), .val (.int p2), .val (.int p3), .val (.int p4), .val (.int p5)] [(.ref a1), (.ref un)])) rfl rfl (hb hby d24_15)
  obtain ⟨cl13, Ar13, S13, Nn13, G13⟩ := id fA_un_x10
  have hin13 : ¬ (vc < 0 ∨ cl13.slots.size ≤ vc.toNatClampNeg) := inb_of S13 (own_inb2 hc0 hc1 : ¬ vc < 0 ∧ vc < (2 : Int32))
  obtain ⟨T14, h14, X14, e14, W14, st14⟩ := stI X12 hx hZ e12 Ar13 (j := vc) hin13 (g := (mkF m 19 #[.val (.ref a1), .val (.int p2), .val (.int p3), .val (.int p4), .val (.int p5)] [(.int p3), (.int vc), (.ref un)])) rfl rfl (hb hby d24_19)
  have fE_a1_x14 := (fE_a1_x10.wr W14)
  have fF_a1_ids_x14 := (Fld.other W14 fF_a1_ids_x10 (Or.inl ne_a1_un))
  have fF_a1_incarnations_x14 := (Fld.other W14 fF_a1_incarnations_x10 (Or.inl ne_a1_un))
  have fF_a1_rounds_x14 := (Fld.other W14 fF_a1_rounds_x10 (Or.inl ne_a1_un))
  have fF_a1_heard_x14 := (Fld.other W14 fF_a1_heard_x10 (Or.inl ne_a1_un))
  have fF_a1_count_x14 := (Fld.other W14 fF_a1_count_x10 (Or.inl ne_a1_un))
  have fA_ui_x14 := (V10.other W14 ne_ui_un)
  have fA_ur_x14 := (fA_ur_x10.other W14 (Ne.symm ne_un_ur))
  have fA_uh_x14 := (fA_uh_x10.other W14 (Ne.symm ne_un_uh))
  have V14 : own_Arr Z h14 un .int (2 : Int32) (fun i => Value.int ((own_put bn vc p3) i)) := own_Arr.set (w := Value.int) (g := bn) (x := p3) fA_un_x10 W14 rfl (fun i => rfl)
  have N14 := Fr.snoc X14 N10 g_un
  have K14 : Keep h0 h14 [a1, ui, un, ur, uh] := Keep.wr K10 W14 (Or.inl (List.mem_of_getElem? (i := 2) rfl))
  have Z14 : n0 ≤ h14.size := Nat.le_trans Z10 (Nat.le_of_eq W14.size.symm)
  obtain ⟨T15, X15, e15, st15⟩ := getF X14 hx hZ hown (host := "") (Or.inl (hw _ (List.mem_of_getElem? (i := 33) rfl))) Via.refl e14 fF_a1_rounds_x14 (g := (mkF m 21 #[.val (.ref a1), .val (.int p2), .val (.int p3), .val (.int p4), .val (.int p5)] [(.ref a1)])) rfl rfl (hb hby d24_21)
  obtain ⟨T16, X16, e16, st16⟩ := getF X15 hx hZ hown (host := "") (Or.inl (hw _ (List.mem_of_getElem? (i := 148) rfl))) Via.refl e15 fF_a1_count_x14 (g := (mkF m 25 #[.val (.ref a1), .val (.int p2), .val (.int p3), .val (.int p4), .val (.int p5)] [(.ref a1), (.ref ur)])) rfl rfl (hb hby d24_25)
  obtain ⟨cl17, Ar17, S17, Nn17, G17⟩ := id fA_ur_x14
  have hin17 : ¬ (vc < 0 ∨ cl17.slots.size ≤ vc.toNatClampNeg) := inb_of S17 (own_inb2 hc0 hc1 : ¬ vc < 0 ∧ vc < (2 : Int32))
  obtain ⟨T18, h18, X18, e18, W18, st18⟩ := stI X16 hx hZ e16 Ar17 (j := vc) hin17 (g := (mkF m 29 #[.val (.ref a1), .val (.int p2), .val (.int p3), .val (.int p4), .val (.int p5)] [(.int p4), (.int vc), (.ref ur)])) rfl rfl (hb hby d24_29)
  have fE_a1_x18 := (fE_a1_x14.wr W18)
  have fF_a1_ids_x18 := (Fld.other W18 fF_a1_ids_x14 (Or.inl ne_a1_ur))
  have fF_a1_incarnations_x18 := (Fld.other W18 fF_a1_incarnations_x14 (Or.inl ne_a1_ur))
  have fF_a1_rounds_x18 := (Fld.other W18 fF_a1_rounds_x14 (Or.inl ne_a1_ur))
  have fF_a1_heard_x18 := (Fld.other W18 fF_a1_heard_x14 (Or.inl ne_a1_ur))
  have fF_a1_count_x18 := (Fld.other W18 fF_a1_count_x14 (Or.inl ne_a1_ur))
  have fA_ui_x18 := (fA_ui_x14.other W18 ne_ui_ur)
  have fA_un_x18 := (V14.other W18 ne_un_ur)
  have fA_uh_x18 := (fA_uh_x14.other W18 (Ne.symm ne_ur_uh))
  have V18 : own_Arr Z h18 ur .int (2 : Int32) (fun i => Value.int ((own_put br vc p4) i)) := own_Arr.set (w := Value.int) (g := br) (x := p4) fA_ur_x14 W18 rfl (fun i => rfl)
  have N18 := Fr.snoc X18 N14 g_ur
  have K18 : Keep h0 h18 [a1, ui, un, ur, uh] := Keep.wr K14 W18 (Or.inl (List.mem_of_getElem? (i := 3) rfl))
  have Z18 : n0 ≤ h18.size := Nat.le_trans Z14 (Nat.le_of_eq W18.size.symm)
  obtain ⟨T19, X19, e19, st19⟩ := getF X18 hx hZ hown (host := "") (Or.inl (hw _ (List.mem_of_getElem? (i := 35) rfl))) Via.refl e18 fF_a1_heard_x18 (g := (mkF m 31 #[.val (.ref a1), .val (.int p2), .val (.int p3), .val (.int p4), .val (.int p5)] [(.ref a1)])) rfl rfl (hb hby d24_31)
  obtain ⟨T20, X20, e20, st20⟩ := getF X19 hx hZ hown (host := "") (Or.inl (hw _ (List.mem_of_getElem? (i := 148) rfl))) Via.refl e19 fF_a1_count_x18 (g := (mkF m 35 #[.val (.ref a1), .val (.int p2), .val (.int p3), .val (.int p4), .val (.int p5)] [(.ref a1), (.ref uh)])) rfl rfl (hb hby d24_35)
  obtain ⟨cl21, Ar21, S21, Nn21, G21⟩ := id fA_uh_x18
  have hin21 : ¬ (vc < 0 ∨ cl21.slots.size ≤ vc.toNatClampNeg) := inb_of S21 (own_inb2 hc0 hc1 : ¬ vc < 0 ∧ vc < (2 : Int32))
  obtain ⟨T22, h22, X22, e22, W22, st22⟩ := stI X20 hx hZ e20 Ar21 (j := vc) hin21 (g := (mkF m 40 #[.val (.ref a1), .val (.int p2), .val (.int p3), .val (.int p4), .val (.int p5)] [(.int p5), (.int vc), (.ref uh)])) rfl rfl (hb hby d24_40)
  have fE_a1_x22 := (fE_a1_x18.wr W22)
  have fF_a1_ids_x22 := (Fld.other W22 fF_a1_ids_x18 (Or.inl ne_a1_uh))
  have fF_a1_incarnations_x22 := (Fld.other W22 fF_a1_incarnations_x18 (Or.inl ne_a1_uh))
  have fF_a1_rounds_x22 := (Fld.other W22 fF_a1_rounds_x18 (Or.inl ne_a1_uh))
  have fF_a1_heard_x22 := (Fld.other W22 fF_a1_heard_x18 (Or.inl ne_a1_uh))
  have fF_a1_count_x22 := (Fld.other W22 fF_a1_count_x18 (Or.inl ne_a1_uh))
  have fA_ui_x22 := (fA_ui_x18.other W22 ne_ui_uh)
  have fA_un_x22 := (fA_un_x18.other W22 ne_un_uh)
  have fA_ur_x22 := (V18.other W22 ne_ur_uh)
  have V22 : own_Arr Z h22 uh .int (2 : Int32) (fun i => Value.int ((own_put bh vc p5) i)) := own_Arr.set (w := Value.int) (g := bh) (x := p5) fA_uh_x18 W22 rfl (fun i => rfl)
  have N22 := Fr.snoc X22 N18 g_uh
  have K22 : Keep h0 h22 [a1, ui, un, ur, uh] := Keep.wr K18 W22 (Or.inl (List.mem_of_getElem? (i := 4) rfl))
  have Z22 : n0 ≤ h22.size := Nat.le_trans Z18 (Nat.le_of_eq W22.size.symm)
  obtain ⟨T23, X23, e23, st23⟩ := getF X22 hx hZ hown (host := "") (Or.inl (hw _ (List.mem_of_getElem? (i := 148) rfl))) Via.refl e22 fF_a1_count_x22 (g := (mkF m 43 #[.val (.ref a1), .val (.int p2), .val (.int p3), .val (.int p4), .val (.int p5)] [(.ref a1), (.ref a1)])) rfl rfl (hb hby d24_43)
  obtain ⟨T24, h24, X24, e24, W24, st24⟩ := putF X23 hx hZ hown (host := "") (Or.inl (hw _ (List.mem_of_getElem? (i := 148) rfl))) Via.refl e23 fF_a1_count_x22 fE_a1_x22 (Or.inl (hw _ (List.mem_of_getElem? (i := 149) rfl))) (hw _ (List.mem_of_getElem? (i := 23) rfl)) (ty := .int) (by decide) rfl rfl (g := (mkF m 48 #[.val (.ref a1), .val (.int p2), .val (.int p3), .val (.int p4), .val (.int p5)] [(.int (vc + (1 : Int32))), (.ref a1)])) rfl rfl (hb hby d24_48)
  have Fw24 := Fld.same W24 fF_a1_count_x22
  have fE_a1_x24 := (fE_a1_x22.wr W24)
  have fF_a1_ids_x24 := (Fld.other W24 fF_a1_ids_x22 (Or.inr (slot_ne (Or.inr (hw _ (List.mem_of_getElem? (i := 30) rfl))) (Or.inl (hw _ (List.mem_of_getElem? (i := 149) rfl))) (by decide) (t := (.array .int)) (t' := .int) (by decide) (by decide))))
  have fF_a1_incarnations_x24 := (Fld.other W24 fF_a1_incarnations_x22 (Or.inr (slot_ne (Or.inr (hw _ (List.mem_of_getElem? (i := 32) rfl))) (Or.inl (hw _ (List.mem_of_getElem? (i := 149) rfl))) (by decide) (t := (.array .int)) (t' := .int) (by decide) (by decide))))
  have fF_a1_rounds_x24 := (Fld.other W24 fF_a1_rounds_x22 (Or.inr (slot_ne (Or.inr (hw _ (List.mem_of_getElem? (i := 34) rfl))) (Or.inl (hw _ (List.mem_of_getElem? (i := 149) rfl))) (by decide) (t := (.array .int)) (t' := .int) (by decide) (by decide))))
  have fF_a1_heard_x24 := (Fld.other W24 fF_a1_heard_x22 (Or.inr (slot_ne (Or.inr (hw _ (List.mem_of_getElem? (i := 36) rfl))) (Or.inl (hw _ (List.mem_of_getElem? (i := 149) rfl))) (by decide) (t := (.array .int)) (t' := .int) (by decide) (by decide))))
  have fA_ui_x24 := (fA_ui_x22.other W24 (Ne.symm ne_a1_ui))
  have fA_un_x24 := (fA_un_x22.other W24 (Ne.symm ne_a1_un))
  have fA_ur_x24 := (fA_ur_x22.other W24 (Ne.symm ne_a1_ur))
  have fA_uh_x24 := (V22.other W24 (Ne.symm ne_a1_uh))
  have N24 := Fr.snoc X24 N22 g_a1
  have K24 : Keep h0 h24 [a1, ui, un, ur, uh] := Keep.wr K22 W24 (Or.inl (List.mem_of_getElem? (i := 0) rfl))
  have Z24 : n0 ≤ h24.size := Nat.le_trans Z22 (Nat.le_of_eq W24.size.symm)
  refine own_pre (A := T24.setTop (mkF m 51 #[.val (.ref a1), .val (.int p2), .val (.int p3), .val (.int p4), .val (.int p5)] [])) (fun tt kt => ?_) ?_
  · show Steps p.tables e below (s₁.setTop (mkF m 0 #[.val (.ref a1), .val (.int p2), .val (.int p3), .val (.int p4), .val (.int p5)] [])) _
    refine XS.aloadN X0.here hx rfl (hb hby d24_0) rfl rfl ?_
    show Steps p.tables e below (s₁.setTop (mkF m 1 #[.val (.ref a1), .val (.int p2), .val (.int p3), .val (.int p4), .val (.int p5)] [(.ref a1)])) _
    refine st7 _ ?_
    show Steps p.tables e below (T7.setTop (mkF m 4 #[.val (.ref a1), .val (.int p2), .val (.int p3), .val (.int p4), .val (.int p5)] [(.ref ui)])) _
    refine XS.aloadN X7.here hx rfl (hb hby d24_4) rfl rfl ?_
    show Steps p.tables e below (T7.setTop (mkF m 5 #[.val (.ref a1), .val (.int p2), .val (.int p3), .val (.int p4), .val (.int p5)] [(.ref a1), (.ref ui)])) _
    refine st8 _ ?_
    show Steps p.tables e below (T8.setTop (mkF m 8 #[.val (.ref a1), .val (.int p2), .val (.int p3), .val (.int p4), .val (.int p5)] [(.int vc), (.ref ui)])) _
    refine XS.iloadN X8.here hx rfl (hb hby d24_8) rfl ?_
    show Steps p.tables e below (T8.setTop (mkF m 9 #[.val (.ref a1), .val (.int p2), .val (.int p3), .val (.int p4), .val (.int p5)] [(.int p2), (.int vc), (.ref ui)])) _
    refine st10 _ ?_
    show Steps p.tables e below (T10.setTop (mkF m 10 #[.val (.ref a1), .val (.int p2), .val (.int p3), .val (.int p4), .val (.int p5)] [])) _
    refine XS.aloadN X10.here hx rfl (hb hby d24_10) rfl rfl ?_
    show Steps p.tables e below (T10.setTop (mkF m 11 #[.val (.ref a1), .val (.int p2), .val (.int p3), .val (.int p4), .val (.int p5)] [(.ref a1)])) _
    refine st11 _ ?_
    show Steps p.tables e below (T11.setTop (mkF m 14 #[.val (.ref a1), .val (.int p2), .val (.int p3), .val (.int p4), .val (.int p5)] [(.ref un)])) _
    refine XS.aloadN X11.here hx rfl (hb hby d24_14) rfl rfl ?_
    show Steps p.tables e below (T11.setTop (mkF m 15 #[.val (.ref a1), .val (.int p2), .val (.int p3), .val (.int p4), .val (.int p5)] [(.ref a1), (.ref un)])) _
    refine st12 _ ?_
    show Steps p.tables e below (T12.setTop (mkF m 18 #[.val (.ref a1), .val (.int p2), .val (.int p3), .val (.int p4), .val (.int p5)] [(.int vc), (.ref un)])) _
    refine XS.iloadN X12.here hx rfl (hb hby d24_18) rfl ?_
    show Steps p.tables e below (T12.setTop (mkF m 19 #[.val (.ref a1), .val (.int p2), .val (.int p3), .val (.int p4), .val (.int p5)] [(.int p3), (.int vc), (.ref un)])) _
    refine st14 _ ?_
    show Steps p.tables e below (T14.setTop (mkF m 20 #[.val (.ref a1), .val (.int p2), .val (.int p3), .val (.int p4), .val (.int p5)] [])) _
    refine XS.aloadN X14.here hx rfl (hb hby d24_20) rfl rfl ?_
    show Steps p.tables e below (T14.setTop (mkF m 21 #[.val (.ref a1), .val (.int p2), .val (.int p3), .val (.int p4), .val (.int p5)] [(.ref a1)])) _
    refine st15 _ ?_
    show Steps p.tables e below (T15.setTop (mkF m 24 #[.val (.ref a1), .val (.int p2), .val (.int p3), .val (.int p4), .val (.int p5)] [(.ref ur)])) _
    refine XS.aloadN X15.here hx rfl (hb hby d24_24) rfl rfl ?_
    show Steps p.tables e below (T15.setTop (mkF m 25 #[.val (.ref a1), .val (.int p2), .val (.int p3), .val (.int p4), .val (.int p5)] [(.ref a1), (.ref ur)])) _
    refine st16 _ ?_
    show Steps p.tables e below (T16.setTop (mkF m 28 #[.val (.ref a1), .val (.int p2), .val (.int p3), .val (.int p4), .val (.int p5)] [(.int vc), (.ref ur)])) _
    refine XS.iloadN X16.here hx rfl (hb hby d24_28) rfl ?_
    show Steps p.tables e below (T16.setTop (mkF m 29 #[.val (.ref a1), .val (.int p2), .val (.int p3), .val (.int p4), .val (.int p5)] [(.int p4), (.int vc), (.ref ur)])) _
    refine st18 _ ?_
    show Steps p.tables e below (T18.setTop (mkF m 30 #[.val (.ref a1), .val (.int p2), .val (.int p3), .val (.int p4), .val (.int p5)] [])) _
    refine XS.aloadN X18.here hx rfl (hb hby d24_30) rfl rfl ?_
    show Steps p.tables e below (T18.setTop (mkF m 31 #[.val (.ref a1), .val (.int p2), .val (.int p3), .val (.int p4), .val (.int p5)] [(.ref a1)])) _
    refine st19 _ ?_
    show Steps p.tables e below (T19.setTop (mkF m 34 #[.val (.ref a1), .val (.int p2), .val (.int p3), .val (.int p4), .val (.int p5)] [(.ref uh)])) _
    refine XS.aloadN X19.here hx rfl (hb hby d24_34) rfl rfl ?_
    show Steps p.tables e below (T19.setTop (mkF m 35 #[.val (.ref a1), .val (.int p2), .val (.int p3), .val (.int p4), .val (.int p5)] [(.ref a1), (.ref uh)])) _
    refine st20 _ ?_
    show Steps p.tables e below (T20.setTop (mkF m 38 #[.val (.ref a1), .val (.int p2), .val (.int p3), .val (.int p4), .val (.int p5)] [(.int vc), (.ref uh)])) _
    refine XS.iload X20.here hx rfl (hb hby d24_38) rfl ?_
    show Steps p.tables e below (T20.setTop (mkF m 40 #[.val (.ref a1), .val (.int p2), .val (.int p3), .val (.int p4), .val (.int p5)] [(.int p5), (.int vc), (.ref uh)])) _
    refine st22 _ ?_
    show Steps p.tables e below (T22.setTop (mkF m 41 #[.val (.ref a1), .val (.int p2), .val (.int p3), .val (.int p4), .val (.int p5)] [])) _
    refine XS.aloadN X22.here hx rfl (hb hby d24_41) rfl rfl ?_
    refine XS.dup X22.here hx rfl (hb hby d24_42) rfl rfl ?_
    show Steps p.tables e below (T22.setTop (mkF m 43 #[.val (.ref a1), .val (.int p2), .val (.int p3), .val (.int p4), .val (.int p5)] [(.ref a1), (.ref a1)])) _
    refine st23 _ ?_
    show Steps p.tables e below (T23.setTop (mkF m 46 #[.val (.ref a1), .val (.int p2), .val (.int p3), .val (.int p4), .val (.int p5)] [(.int vc), (.ref a1)])) _
    refine XS.iconst X23.here hx rfl (hb hby d24_46) ?_
    refine XS.iadd X23.here hx rfl (hb hby d24_47) rfl ?_
    show Steps p.tables e below (T23.setTop (mkF m 48 #[.val (.ref a1), .val (.int p2), .val (.int p3), .val (.int p4), .val (.int p5)] [(.int (vc + (1 : Int32))), (.ref a1)])) _
    refine st24 _ ?_
    exact kt
  show own_End p e below s (T24.setTop (mkF m 51 #[.val (.ref a1), .val (.int p2), .val (.int p3), .val (.int p4), .val (.int p5)] [])) (Q24 Z a1 p2 p3 p4 p5 ui un ur uh vc bi bn br bh h0 n0) ({ frames := 0, cells := 0, slots := 0, locals := 0 } : Room).cells ({ frames := 0, cells := 0, slots := 0, locals := 0 } : Room).slots
  obtain ⟨fs, hr, hrun, hended, hW, hsame⟩ := X24.leave (v := none) (fun _ => rfl)
  refine ⟨_, _, ?_, hrun, hended, _, _, rfl, ?_, ⟨_, rfl⟩, hW, hsame.mono (by decide) (by decide)⟩
  · exact X24.returnOut hx Bd.returns (hb hby d24_51) hr
  · show Q24 Z a1 p2 p3 p4 p5 ui un ur uh vc bi bn br bh h0 n0 _ T24.heap _
    rw [e24]
    exact ⟨rfl, N24, K24, ⟨fE_a1_x24, fF_a1_ids_x24, fF_a1_incarnations_x24, fF_a1_rounds_x24, fF_a1_heard_x24, Fw24⟩, fA_ui_x24, fA_un_x24, fA_ur_x24, fA_uh_x24⟩
theorem d23_0 : decode prog_25_method_12_code 0 = .ok (.aload_n 2, 1) := by decide +kernel
theorem d23_1 : decode prog_25_method_12_code 1 = .ok (.aload_n 0, 1) := by decide +kernel
theorem d23_2 : decode prog_25_method_12_code 2 = .ok (.getfield 9, 3) := by decide +kernel
theorem d23_5 : decode prog_25_method_12_code 5 = .ok (.iload_n 1, 1) := by decide +kernel
theorem d23_6 : decode prog_25_method_12_code 6 = .ok (.iaload, 1) := by decide +kernel
theorem d23_7 : decode prog_25_method_12_code 7 = .ok (.aload_n 0, 1) := by decide +kernel
theorem d23_8 : decode prog_25_method_12_code 8 = .ok (.iload_n 1, 1) := by decide +kernel
theorem d23_9 : decode prog_25_method_12_code 9 = .ok (.invokevirtual 72, 3) := by decide +kernel
theorem d23_12 : decode prog_25_method_12_code 12 = .ok (.aload_n 0, 1) := by decide +kernel
theorem d23_13 : decode prog_25_method_12_code 13 = .ok (.iload_n 1, 1) := by decide +kernel
theorem d23_14 : decode prog_25_method_12_code 14 = .ok (.invokevirtual 76, 3) := by decide +kernel
theorem d23_17 : decode prog_25_method_12_code 17 = .ok (.aload_n 0, 1) := by decide +kernel
theorem d23_18 : decode prog_25_method_12_code 18 = .ok (.iload_n 1, 1) := by decide +kernel
theorem d23_19 : decode prog_25_method_12_code 19 = .ok (.invokevirtual 98, 3) := by decide +kernel
theorem d23_22 : decode prog_25_method_12_code 22 = .ok (.invokevirtual 101, 3) := by decide +kernel
theorem d23_25 : decode prog_25_method_12_code 25 = .ok (.return_, 1) := by decide +kernel
theorem pn_23 : plainName "com/example/atoll/atoll/detect/HeldOrigins" = true := by first | (simp [plainName, overriddenIn]; done) | decide +kernel
theorem pd_23_0 : parseMethodDescriptor "(I)I" = some ⟨[.int], some .int⟩ := by decide +kernel
theorem pd_23_1 : parseMethodDescriptor "(IIII)V" = some ⟨[.int, .int, .int, .int], none⟩ := by decide +kernel
theorem ef_23 (m : MethodId) (x0 : Addr) (x1 : Int32) (x2 : Addr) : entryFrame m #[(.ref x0), (.int x1), (.ref x2)] 3 = mkF m 0 #[.val (.ref x0), .val (.int x1), .val (.ref x2)] [] := by first | (simp [entryFrame, mkF, argsToLocals, Value.category]; done) | rfl
def Q23 (Z : State) (a1 : Addr) (p2 : Int32) (a3 : Addr) (vi : Addr) (vn : Addr) (vs : Addr) (vm : Addr) (vz : Int32) (ui : Addr) (un : Addr) (ur : Addr) (uh : Addr) (vc : Int32) (gi : Nat → Int32) (gn : Nat → Int64) (bi : Nat → Int32) (bn : Nat → Int32) (br : Nat → Int32) (bh : Nat → Int32) (h0 : Heap) (n0 : Nat) (v : Option Value) (h : Heap) (L : List Loc) : Prop := v = none ∧ Fr n0 L ∧ Keep h0 h [a3, ui, un, ur, uh] ∧ own_B Z h a3 ui un ur uh (vc + (1 : Int32)) ∧ own_Arr Z h ui .int (2 : Int32) (fun i => Value.int ((own_put bi vc (gi p2.toNatClampNeg)) i)) ∧ own_Arr Z h un .int (2 : Int32) (fun i => Value.int ((own_put bn vc (own_inc p2 gn)) i)) ∧ own_Arr Z h ur .int (2 : Int32) (fun i => Value.int ((own_put br vc (own_rnd p2 gn)) i)) ∧ own_Arr Z h uh .int (2 : Int32) (fun i => Value.int ((own_put bh vc (own_hrd p2 gn)) i))
set_option maxRecDepth 65536 in
set_option maxHeartbeats 40000000 in
theorem rm23 (l : Launch) (Z : State) (a0 : Array Value) (hw : ∀ d ∈ tables_1, d.before a0 Z = true) (ws : List Jvm.Cond) (a1 : Addr) (p2 : Int32) (a3 : Addr) (vi : Addr) (vn : Addr) (vs : Addr) (vm : Addr) (vz : Int32) (ui : Addr) (un : Addr) (ur : Addr) (uh : Addr) (vc : Int32) (gi : Nat → Int32) (gn : Nat → Int64) (bi : Nat → Int32) (bn : Nat → Int32) (br : Nat → Int32) (bh : Nat → Int32) (h0 : Heap) (n0 : Nat) (Z0 : n0 ≤ h0.size) (O_a1 : own_H Z h0 a1 vi vn vs vm vz) (O_a3 : own_B Z h0 a3 ui un ur uh vc) (V_vi : own_Arr Z h0 vi .int (16 : Int32) (fun i => Value.int (gi i))) (V_vn : own_Arr Z h0 vn .long (16 : Int32) (fun i => Value.long (gn i))) (V_ui : own_Arr Z h0 ui .int (2 : Int32) (fun i => Value.int (bi i))) (V_un : own_Arr Z h0 un .int (2 : Int32) (fun i => Value.int (bn i))) (V_ur : own_Arr Z h0 ur .int (2 : Int32) (fun i => Value.int (br i))) (V_uh : own_Arr Z h0 uh .int (2 : Int32) (fun i => Value.int (bh i))) (ne_a1_a3 : a1 ≠ a3) (ne_a1_ui : a1 ≠ ui) (ne_a1_un : a1 ≠ un) (ne_a1_ur : a1 ≠ ur) (ne_a1_uh : a1 ≠ uh) (ne_vi_a3 : vi ≠ a3) (ne_vn_a3 : vn ≠ a3) (ne_vi_ui : vi ≠ ui) (ne_vi_un : vi ≠ un) (ne_vi_ur : vi ≠ ur) (ne_vi_uh : vi ≠ uh) (ne_vn_ui : vn ≠ ui) (ne_vn_un : vn ≠ un) (ne_vn_ur : vn ≠ ur) (ne_vn_uh : vn ≠ uh) (ne_a3_ui : a3 ≠ ui) (ne_a3_un : a3 ≠ un) (ne_a3_ur : a3 ≠ ur) (ne_a3_uh : a3 ≠ uh) (ne_ui_un : ui ≠ un) (ne_ui_ur : ui ≠ ur) (ne_ui_uh : ui ≠ uh) (ne_un_ur : un ≠ ur) (ne_un_uh : un ≠ uh) (ne_ur_uh : ur ≠ uh) (g_a3 : n0 ≤ a3) (g_ui : n0 ≤ ui) (g_un : n0 ≤ un) (g_ur : n0 ≤ ur) (g_uh : n0 ≤ uh) (hp0 : 0 ≤ p2.toInt) (hp1 : p2.toInt < (16 : Int32).toInt) (hc0 : 0 ≤ vc.toInt) (hc1 : vc.toInt < (2 : Int32).toInt) :
    MetFree l (⟨"com/example/atoll/atoll/detect/HeldOrigins", "tell", "(ILcom/example/atoll/atoll/detect/Beacon$Builder;)V"⟩ : MethodName) (head1 (Jvm.Cond.code (⟨"com/example/atoll/atoll/detect/HeldOrigins", "tell", "(ILcom/example/atoll/atoll/detect/Beacon$Builder;)V"⟩ : MethodName) prog_25_method_12_code 3 none :: ws) ({ frames := 2, cells := 0, slots := 0, locals := 29 } : Room)) (fun a U => a = #[(.ref a1), (.int p2), (.ref a3)] ∧ Z.Warmed39 U.vm ∧ U.heap = h0) (fun _ _ _ _ _ => True) (fun _ U o U' => ∃ v L, o = .returned v ∧ Q23 Z a1 p2 a3 vi vn vs vm vz ui un ur uh vc gi gn bi bn br bh h0 n0 v U'.heap L ∧ FrameEnd U o U' L ({ frames := 2, cells := 0, slots := 0, locals := 29 } : Room).cells ({ frames := 2, cells := 0, slots := 0, locals := 29 } : Room).slots) := by
  refine MetFree.of_bodySF (plainFor_of_name pn_23) hisR ?_
  intro p e s m args below meth c s₁ Bd hml0 hP hK
  obtain ⟨rfl, hZ, hh⟩ := hP
  have hx := Bd.exec
  have hby := Bd.bytes
  have hml : c.maxLocals = 3 := hml0
  have hown : s.vm.findClass "com/example/atoll/atoll/detect/HeldOrigins" = some m.cls := findClass_of_methodNamed Bd.named
  have hnm := (name_of_methodNamed Bd.named Bd.method).1
  have X0 : Stand p l e ({ frames := 2, cells := 0, slots := 0, locals := 29 } : Room) s m #[(.ref a1), (.int p2), (.ref a3)] below meth c s₁ [] 0 0 := Stand.of_body Bd
  have e0 : s₁.heap = h0 := by rw [← hh, Bd.state]; rfl
  have N0 := Fr.nil n0
  show own_End p e below s (s₁.setTop (entryFrame m #[(.ref a1), (.int p2), (.ref a3)] 3)) (Q23 Z a1 p2 a3 vi vn vs vm vz ui un ur uh vc gi gn bi bn br bh h0 n0) ({ frames := 2, cells := 0, slots := 0, locals := 29 } : Room).cells ({ frames := 2, cells := 0, slots := 0, locals := 29 } : Room).slots
  obtain ⟨E_a1_1, F_ids_a1_2, F_newest_a1_3, F_state_a1_4, F_mismatches_a1_5, F_size_a1_6⟩ := O_a1
  obtain ⟨E_a3_7, F_ids_a3_8, F_incarnations_a3_9, F_rounds_a3_10, F_heard_a3_11, F_count_a3_12⟩ := O_a3
  refine own_pre (A := s₁.setTop (mkF m 0 #[.val (.ref a1), .val (.int p2), .val (.ref a3)] [])) (fun tt kt => castTop (ef_23 m a1 p2 a3) kt) ?_
  show own_End p e below s (s₁.setTop (mkF m 0 #[.val (.ref a1), .val (.int p2), .val (.ref a3)] [])) (Q23 Z a1 p2 a3 vi vn vs vm vz ui un ur uh vc gi gn bi bn br bh h0 n0) ({ frames := 2, cells := 0, slots := 0, locals := 29 } : Room).cells ({ frames := 2, cells := 0, slots := 0, locals := 29 } : Room).slots
  obtain ⟨T13, X13, e13, st13⟩ := getF X0 hx hZ hown (host := "") (Or.inl (hw _ (List.mem_of_getElem? (i := 12) rfl))) Via.refl e0 F_ids_a1_2 (g := (mkF m 2 #[.val (.ref a1), .val (.int p2), .val (.ref a3)] [(.ref a1), (.ref a3)])) rfl rfl (hb hby d23_2)
  obtain ⟨cl14, Ar14, S14, Nn14, G14⟩ := id V_vi
  have hin14 : ¬ (p2 < 0 ∨ cl14.slots.size ≤ p2.toNatClampNeg) := inb_of S14 (own_inb2 hp0 hp1 : ¬ p2 < 0 ∧ p2 < (16 : Int32))
  have hat14 : cl14.slots[p2.toNatClampNeg]? = some (.int (gi p2.toNatClampNeg)) := own_at S14 G14 hin14
  obtain ⟨cq15, kq15, q15a, q15b, q15c⟩ := isOf hZ e13 E_a1_1
  obtain ⟨_, _, ⟨T15, L15, k15, n15⟩, -, X15, ⟨Lc15, hQ15, l15, y15, z15⟩, st15⟩ := X13.virtualBack hx (y := (⟨"com/example/atoll/atoll/detect/HeldOrigins", "incarnation", "(I)I"⟩ : MethodName)) (z := (⟨"com/example/atoll/atoll/detect/HeldOrigins", "incarnation", "(I)I"⟩ : MethodName)) hown (mvT hZ (hw _ (List.mem_of_getElem? (i := 140) rfl))) (mvT hZ (hw _ (List.mem_of_getElem? (i := 87) rfl))) (notFace_of_selects (args := #[]) (mvT hZ (hw _ (List.mem_of_getElem? (i := 89) rfl)))) (mvT hZ (hw _ (List.mem_of_getElem? (i := 89) rfl))) (mvT hZ (hw _ (List.mem_of_getElem? (i := 88) rfl))) (by decide) (backOf (W := 2) (rm13 l Z a0 hw [] a1 p2 vi vn vs vm vz gn h0 n0 Z0 ⟨E_a1_1, F_ids_a1_2, F_newest_a1_3, F_state_a1_4, F_mismatches_a1_5, F_size_a1_6⟩ V_vn hp0 hp1) hZ (hw _ (List.mem_of_getElem? (i := 90) rfl)) (hw _ (List.mem_of_getElem? (i := 4) rfl)) (by decide) (by decide)) q15a q15c (g := (mkF m 9 #[.val (.ref a1), .val (.int p2), .val (.ref a3)] [(.int p2), (.ref a1), (.int (gi p2.toNatClampNeg)), (.ref a3)])) rfl (by rw [hml]; rfl) (Steps.refl _) (argsL := [(.int p2)]) (rest := [(.int (gi p2.toNatClampNeg)), (.ref a3)]) (lenOf pd_23_0 rfl) rfl (by show 2 * 0 + _ ≤ _; exact Nat.le_of_eq rfl) (hb hby d23_9) (fun _ _ => ⟨rfl, e13, (by decide : 0 + 0 ≤ _), (by decide : 0 + 0 ≤ _)⟩)
  dsimp only [Pt.U, Pt.locs, Pt.cells, Pt.slots] at X15 l15 y15 z15 st15 hQ15
  subst l15 y15 z15
  obtain ⟨rfl, N15q, e15⟩ := hQ15
  have N15 := Fr.app N0 N15q
  obtain ⟨cq16, kq16, q16a, q16b, q16c⟩ := isOf hZ e15 E_a1_1
  obtain ⟨_, _, ⟨T16, L16, k16, n16⟩, -, X16, ⟨Lc16, hQ16, l16, y16, z16⟩, st16⟩ := X15.virtualBack hx (y := (⟨"com/example/atoll/atoll/detect/HeldOrigins", "round", "(I)I"⟩ : MethodName)) (z := (⟨"com/example/atoll/atoll/detect/HeldOrigins", "round", "(I)I"⟩ : MethodName)) hown (mvT hZ (hw _ (List.mem_of_getElem? (i := 141) rfl))) (mvT hZ (hw _ (List.mem_of_getElem? (i := 95) rfl))) (notFace_of_selects (args := #[]) (mvT hZ (hw _ (List.mem_of_getElem? (i := 97) rfl)))) (mvT hZ (hw _ (List.mem_of_getElem? (i := 97) rfl))) (mvT hZ (hw _ (List.mem_of_getElem? (i := 96) rfl))) (by decide) (backOf (W := 3) (rm15 l Z a0 hw [] a1 p2 vi vn vs vm vz gn h0 n0 Z0 ⟨E_a1_1, F_ids_a1_2, F_newest_a1_3, F_state_a1_4, F_mismatches_a1_5, F_size_a1_6⟩ V_vn hp0 hp1) hZ (hw _ (List.mem_of_getElem? (i := 98) rfl)) (hw _ (List.mem_of_getElem? (i := 4) rfl)) (by decide) (by decide)) q16a q16c (g := (mkF m 14 #[.val (.ref a1), .val (.int p2), .val (.ref a3)] [(.int p2), (.ref a1), (.int (own_inc p2 gn)), (.int (gi p2.toNatClampNeg)), (.ref a3)])) rfl (by rw [hml]; rfl) (Steps.refl _) (argsL := [(.int p2)]) (rest := [(.int (own_inc p2 gn)), (.int (gi p2.toNatClampNeg)), (.ref a3)]) (lenOf pd_23_0 rfl) rfl (by show 2 * 0 + _ ≤ _; exact Nat.le_of_eq rfl) (hb hby d23_14) (fun _ _ => ⟨rfl, e15, (by decide : 0 + 0 ≤ _), (by decide : 0 + 0 ≤ _)⟩)
  dsimp only [Pt.U, Pt.locs, Pt.cells, Pt.slots] at X16 l16 y16 z16 st16 hQ16
  subst l16 y16 z16
  obtain ⟨rfl, N16q, e16⟩ := hQ16
  have N16 := Fr.app N15 N16q
  obtain ⟨cq17, kq17, q17a, q17b, q17c⟩ := isOf hZ e16 E_a1_1
  obtain ⟨_, _, ⟨T17, L17, k17, n17⟩, -, X17, ⟨Lc17, hQ17, l17, y17, z17⟩, st17⟩ := X16.virtualBack hx (y := (⟨"com/example/atoll/atoll/detect/HeldOrigins", "heard", "(I)I"⟩ : MethodName)) (z := (⟨"com/example/atoll/atoll/detect/HeldOrigins", "heard", "(I)I"⟩ : MethodName)) hown (mvT hZ (hw _ (List.mem_of_getElem? (i := 142) rfl))) (mvT hZ (hw _ (List.mem_of_getElem? (i := 103) rfl))) (notFace_of_selects (args := #[]) (mvT hZ (hw _ (List.mem_of_getElem? (i := 105) rfl)))) (mvT hZ (hw _ (List.mem_of_getElem? (i := 105) rfl))) (mvT hZ (hw _ (List.mem_of_getElem? (i := 104) rfl))) (by decide) (backOf (W := 4) (rm17 l Z a0 hw [] a1 p2 vi vn vs vm vz gn h0 n0 Z0 ⟨E_a1_1, F_ids_a1_2, F_newest_a1_3, F_state_a1_4, F_mismatches_a1_5, F_size_a1_6⟩ V_vn hp0 hp1) hZ (hw _ (List.mem_of_getElem? (i := 106) rfl)) (hw _ (List.mem_of_getElem? (i := 4) rfl)) (by decide) (by decide)) q17a q17c (g := (mkF m 19 #[.val (.ref a1), .val (.int p2), .val (.ref a3)] [(.int p2), (.ref a1), (.int (own_rnd p2 gn)), (.int (own_inc p2 gn)), (.int (gi p2.toNatClampNeg)), (.ref a3)])) rfl (by rw [hml]; rfl) (Steps.refl _) (argsL := [(.int p2)]) (rest := [(.int (own_rnd p2 gn)), (.int (own_inc p2 gn)), (.int (gi p2.toNatClampNeg)), (.ref a3)]) (lenOf pd_23_0 rfl) rfl (by show 2 * 0 + _ ≤ _; exact Nat.le_of_eq rfl) (hb hby d23_19) (fun _ _ => ⟨rfl, e16, (by decide : 0 + 0 ≤ _), (by decide : 0 + 0 ≤ _)⟩)
  dsimp only [Pt.U, Pt.locs, Pt.cells, Pt.slots] at X17 l17 y17 z17 st17 hQ17
  subst l17 y17 z17
  obtain ⟨rfl, N17q, e17⟩ := hQ17
  have N17 := Fr.app N16 N17q
  obtain ⟨cq18, kq18, q18a, q18b, q18c⟩ := isOf hZ e17 E_a3_7
  obtain ⟨_, _, ⟨T18, L18, k18, n18⟩, -, X18, ⟨Lc18, hQ18, l18, y18, z18⟩, st18⟩ := X17.virtualBack hx (y := (⟨"com/example/atoll/atoll/detect/Beacon$Builder", "add", "(IIII)V"⟩ : MethodName)) (z := (⟨"com/example/atoll/atoll/detect/Beacon$Builder", "add", "(IIII)V"⟩ : MethodName)) hown (mvT hZ (hw _ (List.mem_of_getElem? (i := 143) rfl))) (mvT hZ (hw _ (List.mem_of_getElem? (i := 144) rfl))) (notFace_of_selects (args := #[]) (mvT hZ (hw _ (List.mem_of_getElem? (i := 146) rfl)))) (mvT hZ (hw _ (List.mem_of_getElem? (i := 146) rfl))) (mvT hZ (hw _ (List.mem_of_getElem? (i := 145) rfl))) (by decide) (backOf (W := 0) (rm24 l Z a0 hw [] a3 (gi p2.toNatClampNeg) (own_inc p2 gn) (own_rnd p2 gn) (own_hrd p2 gn) ui un ur uh vc bi bn br bh h0 n0 Z0 ⟨E_a3_7, F_ids_a3_8, F_incarnations_a3_9, F_rounds_a3_10, F_heard_a3_11, F_count_a3_12⟩ V_ui V_un V_ur V_uh ne_a3_ui ne_a3_un ne_a3_ur ne_a3_uh ne_ui_un ne_ui_ur ne_ui_uh ne_un_ur ne_un_uh ne_ur_uh g_a3 g_ui g_un g_ur g_uh hc0 hc1) hZ (hw _ (List.mem_of_getElem? (i := 147) rfl)) (hw _ (List.mem_of_getElem? (i := 24) rfl)) (by decide) (by decide)) q18a q18c (g := (mkF m 22 #[.val (.ref a1), .val (.int p2), .val (.ref a3)] [(.int (own_hrd p2 gn)), (.int (own_rnd p2 gn)), (.int (own_inc p2 gn)), (.int (gi p2.toNatClampNeg)), (.ref a3)])) rfl (by rw [hml]; rfl) (Steps.refl _) (argsL := [(.int (gi p2.toNatClampNeg)), (.int (own_inc p2 gn)), (.int (own_rnd p2 gn)), (.int (own_hrd p2 gn))]) (rest := []) (lenOf pd_23_1 rfl) rfl (by show 2 * 0 + _ ≤ _; exact Nat.le_of_eq rfl) (hb hby d23_22) (fun _ _ => ⟨rfl, e17, (by decide : 0 + 0 ≤ _), (by decide : 0 + 0 ≤ _)⟩)
  dsimp only [Pt.U, Pt.locs, Pt.cells, Pt.slots] at X18 l18 y18 z18 st18 hQ18
  subst l18 y18 z18
  obtain ⟨rfl, N18q, Kq18, O18_0, V18_0, V18_1, V18_2, V18_3⟩ := hQ18
  have N18 := Fr.app N17 N18q
  have fE_a1_x18 := (E_a1_1.keep Kq18)
  have fF_a1_ids_x18 := (F_ids_a1_2.keep Kq18 (ninS ne_a1_a3 (ninS ne_a1_ui (ninS ne_a1_un (ninS ne_a1_ur (ninS ne_a1_uh nin0))))))
  have fF_a1_newest_x18 := (F_newest_a1_3.keep Kq18 (ninS ne_a1_a3 (ninS ne_a1_ui (ninS ne_a1_un (ninS ne_a1_ur (ninS ne_a1_uh nin0))))))
  have fF_a1_state_x18 := (F_state_a1_4.keep Kq18 (ninS ne_a1_a3 (ninS ne_a1_ui (ninS ne_a1_un (ninS ne_a1_ur (ninS ne_a1_uh nin0))))))
  have fF_a1_mismatches_x18 := (F_mismatches_a1_5.keep Kq18 (ninS ne_a1_a3 (ninS ne_a1_ui (ninS ne_a1_un (ninS ne_a1_ur (ninS ne_a1_uh nin0))))))
  have fF_a1_size_x18 := (F_size_a1_6.keep Kq18 (ninS ne_a1_a3 (ninS ne_a1_ui (ninS ne_a1_un (ninS ne_a1_ur (ninS ne_a1_uh nin0))))))
  have fE_a3_x18 := (E_a3_7.keep Kq18)
  have fA_vi_x18 := (V_vi.keep Kq18 (ninS ne_vi_a3 (ninS ne_vi_ui (ninS ne_vi_un (ninS ne_vi_ur (ninS ne_vi_uh nin0))))))
  have fA_vn_x18 := (V_vn.keep Kq18 (ninS ne_vn_a3 (ninS ne_vn_ui (ninS ne_vn_un (ninS ne_vn_ur (ninS ne_vn_uh nin0))))))
  have K18 : Keep h0 T18.heap [a3, ui, un, ur, uh] := Keep.trans (Keep.refl h0 _) Kq18 (allS (Or.inl (List.mem_of_getElem? (i := 0) rfl)) (allS (Or.inl (List.mem_of_getElem? (i := 1) rfl)) (allS (Or.inl (List.mem_of_getElem? (i := 2) rfl)) (allS (Or.inl (List.mem_of_getElem? (i := 3) rfl)) (allS (Or.inl (List.mem_of_getElem? (i := 4) rfl)) all0)))))
  have Z18 : n0 ≤ T18.heap.size := Nat.le_trans Z0 Kq18.1
  obtain ⟨E_a3_19, F_ids_a3_20, F_incarnations_a3_21, F_rounds_a3_22, F_heard_a3_23, F_count_a3_24⟩ := O18_0
  refine own_pre (A := T18.setTop (mkF m 25 #[.val (.ref a1), .val (.int p2), .val (.ref a3)] [])) (fun tt kt => ?_) ?_
  · show Steps p.tables e below (s₁.setTop (mkF m 0 #[.val (.ref a1), .val (.int p2), .val (.ref a3)] [])) _
    refine XS.aloadN X0.here hx rfl (hb hby d23_0) rfl rfl ?_
    refine XS.aloadN X0.here hx rfl (hb hby d23_1) rfl rfl ?_
    show Steps p.tables e below (s₁.setTop (mkF m 2 #[.val (.ref a1), .val (.int p2), .val (.ref a3)] [(.ref a1), (.ref a3)])) _
    refine st13 _ ?_
    show Steps p.tables e below (T13.setTop (mkF m 5 #[.val (.ref a1), .val (.int p2), .val (.ref a3)] [(.ref vi), (.ref a3)])) _
    refine XS.iloadN X13.here hx rfl (hb hby d23_5) rfl ?_
    show Steps p.tables e below (T13.setTop (mkF m 6 #[.val (.ref a1), .val (.int p2), .val (.ref a3)] [(.int p2), (.ref vi), (.ref a3)])) _
    refine X13.iaload hx (j := p2) (v := (.int (gi p2.toNatClampNeg))) (by rw [e13]; exact Ar14.1) (State.isArrayOf_alike hZ.alike Ar14.2.1) Ar14.2.2 hin14 hat14 (g := (mkF m 6 #[.val (.ref a1), .val (.int p2), .val (.ref a3)] [(.int p2), (.ref vi), (.ref a3)])) rfl rfl (hb hby d23_6) _ ?_
    show Steps p.tables e below (T13.setTop (mkF m 7 #[.val (.ref a1), .val (.int p2), .val (.ref a3)] [(.int (gi p2.toNatClampNeg)), (.ref a3)])) _
    refine XS.aloadN X13.here hx rfl (hb hby d23_7) rfl rfl ?_
    refine XS.iloadN X13.here hx rfl (hb hby d23_8) rfl ?_
    show Steps p.tables e below (T13.setTop (mkF m 9 #[.val (.ref a1), .val (.int p2), .val (.ref a3)] [(.int p2), (.ref a1), (.int (gi p2.toNatClampNeg)), (.ref a3)])) _
    refine st15.trans ?_
    show Steps p.tables e below (T15.setTop (mkF m 12 #[.val (.ref a1), .val (.int p2), .val (.ref a3)] [(.int (own_inc p2 gn)), (.int (gi p2.toNatClampNeg)), (.ref a3)])) _
    refine XS.aloadN X15.here hx rfl (hb hby d23_12) rfl rfl ?_
    refine XS.iloadN X15.here hx rfl (hb hby d23_13) rfl ?_
    show Steps p.tables e below (T15.setTop (mkF m 14 #[.val (.ref a1), .val (.int p2), .val (.ref a3)] [(.int p2), (.ref a1), (.int (own_inc p2 gn)), (.int (gi p2.toNatClampNeg)), (.ref a3)])) _
    refine st16.trans ?_
    show Steps p.tables e below (T16.setTop (mkF m 17 #[.val (.ref a1), .val (.int p2), .val (.ref a3)] [(.int (own_rnd p2 gn)), (.int (own_inc p2 gn)), (.int (gi p2.toNatClampNeg)), (.ref a3)])) _
    refine XS.aloadN X16.here hx rfl (hb hby d23_17) rfl rfl ?_
    refine XS.iloadN X16.here hx rfl (hb hby d23_18) rfl ?_
    show Steps p.tables e below (T16.setTop (mkF m 19 #[.val (.ref a1), .val (.int p2), .val (.ref a3)] [(.int p2), (.ref a1), (.int (own_rnd p2 gn)), (.int (own_inc p2 gn)), (.int (gi p2.toNatClampNeg)), (.ref a3)])) _
    refine st17.trans ?_
    show Steps p.tables e below (T17.setTop (mkF m 22 #[.val (.ref a1), .val (.int p2), .val (.ref a3)] [(.int (own_hrd p2 gn)), (.int (own_rnd p2 gn)), (.int (own_inc p2 gn)), (.int (gi p2.toNatClampNeg)), (.ref a3)])) _
    refine st18.trans ?_
    exact kt
  show own_End p e below s (T18.setTop (mkF m 25 #[.val (.ref a1), .val (.int p2), .val (.ref a3)] [])) (Q23 Z a1 p2 a3 vi vn vs vm vz ui un ur uh vc gi gn bi bn br bh h0 n0) ({ frames := 2, cells := 0, slots := 0, locals := 29 } : Room).cells ({ frames := 2, cells := 0, slots := 0, locals := 29 } : Room).slots
  obtain ⟨fs, hr, hrun, hended, hW, hsame⟩ := X18.leave (v := none) (fun _ => rfl)
  refine ⟨_, _, ?_, hrun, hended, _, _, rfl, ?_, ⟨_, rfl⟩, hW, hsame.mono (by decide) (by decide)⟩
  · exact X18.returnOut hx Bd.returns (hb hby d23_25) hr
  · show Q23 Z a1 p2 a3 vi vn vs vm vz ui un ur uh vc gi gn bi bn br bh h0 n0 _ T18.heap _
    exact ⟨rfl, N18, K18, ⟨E_a3_19, F_ids_a3_20, F_incarnations_a3_21, F_rounds_a3_22, F_heard_a3_23, F_count_a3_24⟩, V18_0, V18_1, V18_2, V18_3⟩
theorem d9_0 : decode prog_25_method_10_code 0 = .ok (.iconst 0, 1) := by decide +kernel
theorem d9_1 : decode prog_25_method_10_code 1 = .ok (.istore_n 2, 1) := by decide +kernel
theorem d9_2 : decode prog_25_method_10_code 2 = .ok (.iload_n 2, 1) := by decide +kernel
theorem d9_3 : decode prog_25_method_10_code 3 = .ok (.aload_n 0, 1) := by decide +kernel
theorem d9_4 : decode prog_25_method_10_code 4 = .ok (.getfield 24, 3) := by decide +kernel
theorem d9_7 : decode prog_25_method_10_code 7 = .ok (.if_icmp .ge 44, 3) := by decide +kernel
theorem d9_10 : decode prog_25_method_10_code 10 = .ok (.aload_n 0, 1) := by decide +kernel
theorem d9_11 : decode prog_25_method_10_code 11 = .ok (.iload_n 2, 1) := by decide +kernel
theorem d9_12 : decode prog_25_method_10_code 12 = .ok (.iconst 4, 1) := by decide +kernel
theorem d9_13 : decode prog_25_method_10_code 13 = .ok (.invokevirtual 86, 3) := by decide +kernel
theorem d9_16 : decode prog_25_method_10_code 16 = .ok (.ifCond .eq 29, 3) := by decide +kernel
theorem d9_19 : decode prog_25_method_10_code 19 = .ok (.aload_n 0, 1) := by decide +kernel
theorem d9_20 : decode prog_25_method_10_code 20 = .ok (.getfield 17, 3) := by decide +kernel
theorem d9_23 : decode prog_25_method_10_code 23 = .ok (.iload_n 2, 1) := by decide +kernel
theorem d9_24 : decode prog_25_method_10_code 24 = .ok (.aload_n 0, 1) := by decide +kernel
theorem d9_25 : decode prog_25_method_10_code 25 = .ok (.getfield 17, 3) := by decide +kernel
theorem d9_28 : decode prog_25_method_10_code 28 = .ok (.iload_n 2, 1) := by decide +kernel
theorem d9_29 : decode prog_25_method_10_code 29 = .ok (.laload, 1) := by decide +kernel
theorem d9_30 : decode prog_25_method_10_code 30 = .ok (.ldc2_w 90, 3) := by decide +kernel
theorem d9_33 : decode prog_25_method_10_code 33 = .ok (.land, 1) := by decide +kernel
theorem d9_34 : decode prog_25_method_10_code 34 = .ok (.ldc2_w 92, 3) := by decide +kernel
theorem d9_37 : decode prog_25_method_10_code 37 = .ok (.lor, 1) := by decide +kernel
theorem d9_38 : decode prog_25_method_10_code 38 = .ok (.lastore, 1) := by decide +kernel
theorem d9_39 : decode prog_25_method_10_code 39 = .ok (.aload_n 0, 1) := by decide +kernel
theorem d9_40 : decode prog_25_method_10_code 40 = .ok (.iload_n 2, 1) := by decide +kernel
theorem d9_41 : decode prog_25_method_10_code 41 = .ok (.aload_n 1, 1) := by decide +kernel
theorem d9_42 : decode prog_25_method_10_code 42 = .ok (.invokevirtual 94, 3) := by decide +kernel
theorem d9_45 : decode prog_25_method_10_code 45 = .ok (.iinc 2 1, 3) := by decide +kernel
theorem d9_48 : decode prog_25_method_10_code 48 = .ok (.goto (-46), 3) := by decide +kernel
theorem d9_51 : decode prog_25_method_10_code 51 = .ok (.return_, 1) := by decide +kernel
theorem pn_9 : plainName "com/example/atoll/atoll/detect/HeldOrigins" = true := by first | (simp [plainName, overriddenIn]; done) | decide +kernel
theorem pd_9_0 : parseMethodDescriptor "(II)Z" = some ⟨[.int, .int], some .boolean⟩ := by decide +kernel
theorem pd_9_1 : parseMethodDescriptor "(ILcom/example/atoll/atoll/detect/Beacon$Builder;)V" = some ⟨[.int, (.object "com/example/atoll/atoll/detect/Beacon$Builder")], none⟩ := by decide +kernel
theorem ef_9 (m : MethodId) (x0 : Addr) (x1 : Addr) : entryFrame m #[(.ref x0), (.ref x1)] 3 = mkF m 0 #[.val (.ref x0), .val (.ref x1), .unset] [] := by first | (simp [entryFrame, mkF, argsToLocals, Value.category]; done) | rfl
def Q9 (Z : State) (a1 : Addr) (a2 : Addr) (vi : Addr) (vn : Addr) (vs : Addr) (vm : Addr) (ui : Addr) (un : Addr) (ur : Addr) (uh : Addr) (gi : Nat → Int32) (gn : Nat → Int64) (gs : Nat → Int64) (bi : Nat → Int32) (bn : Nat → Int32) (br : Nat → Int32) (bh : Nat → Int32) (h0 : Heap) (n0 : Nat) (v : Option Value) (h : Heap) (L : List Loc) : Prop := v = none ∧ Fr n0 L ∧ Keep h0 h [a2, vs, ui, un, ur, uh] ∧ own_Arr Z h vs .long (16 : Int32) (fun i => Value.long ((own_rel (own_rel gs (0 : Int32)) (1 : Int32)) i))
set_option maxRecDepth 65536 in
set_option maxHeartbeats 40000000 in
theorem rm9 (l : Launch) (Z : State) (a0 : Array Value) (hw : ∀ d ∈ tables_1, d.before a0 Z = true) (ws : List Jvm.Cond) (a1 : Addr) (a2 : Addr) (vi : Addr) (vn : Addr) (vs : Addr) (vm : Addr) (ui : Addr) (un : Addr) (ur : Addr) (uh : Addr) (gi : Nat → Int32) (gn : Nat → Int64) (gs : Nat → Int64) (bi : Nat → Int32) (bn : Nat → Int32) (br : Nat → Int32) (bh : Nat → Int32) (h0 : Heap) (n0 : Nat) (Z0 : n0 ≤ h0.size) (O_a1 : own_H Z h0 a1 vi vn vs vm (2 : Int32)) (O_a2 : own_B Z h0 a2 ui un ur uh (0 : Int32)) (V_vi : own_Arr Z h0 vi .int (16 : Int32) (fun i => Value.int (gi i))) (V_vn : own_Arr Z h0 vn .long (16 : Int32) (fun i => Value.long (gn i))) (V_vs : own_Arr Z h0 vs .long (16 : Int32) (fun i => Value.long (gs i))) (V_ui : own_Arr Z h0 ui .int (2 : Int32) (fun i => Value.int (bi i))) (V_un : own_Arr Z h0 un .int (2 : Int32) (fun i => Value.int (bn i))) (V_ur : own_Arr Z h0 ur .int (2 : Int32) (fun i => Value.int (br i))) (V_uh : own_Arr Z h0 uh .int (2 : Int32) (fun i => Value.int (bh i))) (ne_a1_a2 : a1 ≠ a2) (ne_a1_vs : a1 ≠ vs) (ne_a1_ui : a1 ≠ ui) (ne_a1_un : a1 ≠ un) (ne_a1_ur : a1 ≠ ur) (ne_a1_uh : a1 ≠ uh) (ne_vi_a2 : vi ≠ a2) (ne_vi_ui : vi ≠ ui) (ne_vi_un : vi ≠ un) (ne_vi_ur : vi ≠ ur) (ne_vi_uh : vi ≠ uh) (ne_vn_a2 : vn ≠ a2) (ne_vn_ui : vn ≠ ui) (ne_vn_un : vn ≠ un) (ne_vn_ur : vn ≠ ur) (ne_vn_uh : vn ≠ uh) (ne_vs_a2 : vs ≠ a2) (ne_vs_ui : vs ≠ ui) (ne_vs_un : vs ≠ un) (ne_vs_ur : vs ≠ ur) (ne_vs_uh : vs ≠ uh) (ne_vi_vs : vi ≠ vs) (ne_vn_vs : vn ≠ vs) (ne_a2_ui : a2 ≠ ui) (ne_a2_un : a2 ≠ un) (ne_a2_ur : a2 ≠ ur) (ne_a2_uh : a2 ≠ uh) (ne_ui_un : ui ≠ un) (ne_ui_ur : ui ≠ ur) (ne_ui_uh : ui ≠ uh) (ne_un_ur : un ≠ ur) (ne_un_uh : un ≠ uh) (ne_ur_uh : ur ≠ uh) (g_a2 : n0 ≤ a2) (g_vs : n0 ≤ vs) (g_ui : n0 ≤ ui) (g_un : n0 ≤ un) (g_ur : n0 ≤ ur) (g_uh : n0 ≤ uh) :
    MetFree l (⟨"com/example/atoll/atoll/detect/HeldOrigins", "relayQueued", "(Lcom/example/atoll/atoll/detect/Beacon$Builder;)V"⟩ : MethodName) (head1 (Jvm.Cond.code (⟨"com/example/atoll/atoll/detect/HeldOrigins", "relayQueued", "(Lcom/example/atoll/atoll/detect/Beacon$Builder;)V"⟩ : MethodName) prog_25_method_10_code 3 none :: ws) ({ frames := 3, cells := 0, slots := 0, locals := 43 } : Room)) (fun a U => a = #[(.ref a1), (.ref a2)] ∧ Z.Warmed39 U.vm ∧ U.heap = h0) (fun _ _ _ _ _ => True) (fun _ U o U' => ∃ v L, o = .returned v ∧ Q9 Z a1 a2 vi vn vs vm ui un ur uh gi gn gs bi bn br bh h0 n0 v U'.heap L ∧ FrameEnd U o U' L ({ frames := 3, cells := 0, slots := 0, locals := 43 } : Room).cells ({ frames := 3, cells := 0, slots := 0, locals := 43 } : Room).slots) := by
  refine MetFree.of_bodySF (plainFor_of_name pn_9) hisR ?_
  intro p e s m args below meth c s₁ Bd hml0 hP hK
  obtain ⟨rfl, hZ, hh⟩ := hP
  have hx := Bd.exec
  have hby := Bd.bytes
  have hml : c.maxLocals = 3 := hml0
  have hown : s.vm.findClass "com/example/atoll/atoll/detect/HeldOrigins" = some m.cls := findClass_of_methodNamed Bd.named
  have hnm := (name_of_methodNamed Bd.named Bd.method).1
  have X0 : Stand p l e ({ frames := 3, cells := 0, slots := 0, locals := 43 } : Room) s m #[(.ref a1), (.ref a2)] below meth c s₁ [] 0 0 := Stand.of_body Bd
  have e0 : s₁.heap = h0 := by rw [← hh, Bd.state]; rfl
  have N0 := Fr.nil n0
  show own_End p e below s (s₁.setTop (entryFrame m #[(.ref a1), (.ref a2)] 3)) (Q9 Z a1 a2 vi vn vs vm ui un ur uh gi gn gs bi bn br bh h0 n0) ({ frames := 3, cells := 0, slots := 0, locals := 43 } : Room).cells ({ frames := 3, cells := 0, slots := 0, locals := 43 } : Room).slots
  obtain ⟨E_a1_1, F_ids_a1_2, F_newest_a1_3, F_state_a1_4, F_mismatches_a1_5, F_size_a1_6⟩ := O_a1
  obtain ⟨E_a2_7, F_ids_a2_8, F_incarnations_a2_9, F_rounds_a2_10, F_heard_a2_11, F_count_a2_12⟩ := O_a2
  refine own_pre (A := s₁.setTop (mkF m 0 #[.val (.ref a1), .val (.ref a2), .unset] [])) (fun tt kt => castTop (ef_9 m a1 a2) kt) ?_
  show own_End p e below s (s₁.setTop (mkF m 0 #[.val (.ref a1), .val (.ref a2), .unset] [])) (Q9 Z a1 a2 vi vn vs vm ui un ur uh gi gn gs bi bn br bh h0 n0) ({ frames := 3, cells := 0, slots := 0, locals := 43 } : Room).cells ({ frames := 3, cells := 0, slots := 0, locals := 43 } : Room).slots
  obtain ⟨T13, X13, e13, st13⟩ := getF X0 hx hZ hown (host := "") (Or.inl (hw _ (List.mem_of_getElem? (i := 42) rfl))) Via.refl e0 F_size_a1_6 (g := (mkF m 4 #[.val (.ref a1), .val (.ref a2), .val (.int (0 : Int32))] [(.ref a1), (.int (0 : Int32))])) rfl rfl (hb hby d9_4)
  obtain ⟨cq14, q14, q14'⟩ := (E_a1_1).cell
  obtain ⟨_, _, ⟨T14, L14, k14, n14⟩, -, X14, ⟨Lc14, hQ14, l14, y14, z14⟩, st14⟩ := X13.privateBack hx (y := (⟨"com/example/atoll/atoll/detect/HeldOrigins", "is", "(II)Z"⟩ : MethodName)) hown (mvT hZ (hw _ (List.mem_of_getElem? (i := 72) rfl))) (mvT hZ (hw _ (List.mem_of_getElem? (i := 73) rfl))) (own_selPriv hZ (hw _ (List.mem_of_getElem? (i := 3) rfl)) (hw _ (List.mem_of_getElem? (i := 73) rfl)) (hw _ (List.mem_of_getElem? (i := 74) rfl)) (by decide)) (Cond.privateMethod_at (mvP hZ (hw _ (List.mem_of_getElem? (i := 74) rfl)) (args := #[]))) (mvT hZ (hw _ (List.mem_of_getElem? (i := 75) rfl))) (by decide) (backOf (W := 0) (rm10 l Z a0 hw [] a1 (0 : Int32) (4 : Int32) vi vn vs vm (2 : Int32) gs h0 n0 Z0 ⟨E_a1_1, F_ids_a1_2, F_newest_a1_3, F_state_a1_4, F_mismatches_a1_5, F_size_a1_6⟩ V_vs (by decide) (by decide)) hZ (hw _ (List.mem_of_getElem? (i := 75) rfl)) (hw _ (List.mem_of_getElem? (i := 4) rfl)) (by decide) (by decide)) (g := (mkF m 13 #[.val (.ref a1), .val (.ref a2), .val (.int (0 : Int32))] [(.int (4 : Int32)), (.int (0 : Int32)), (.ref a1)])) rfl (by rw [hml]; rfl) (Steps.refl _) (a := a1) (by rw [e13]; exact q14) q14' (argsL := [(.int (0 : Int32)), (.int (4 : Int32))]) (rest := []) (lenOf pd_9_0 rfl) rfl (by show 2 * 0 + _ ≤ _; exact Nat.le_of_eq rfl) (hb hby d9_13) (fun _ _ => ⟨rfl, e13, (by decide : 0 + 0 ≤ _), (by decide : 0 + 0 ≤ _)⟩)
  dsimp only [Pt.U, Pt.locs, Pt.cells, Pt.slots] at X14 l14 y14 z14 st14 hQ14
  subst l14 y14 z14
  obtain ⟨rfl, N14q, e14⟩ := hQ14
  have N14 := Fr.app N0 N14q
  refine own_pre (A := T14.setTop (mkF m 16 #[.val (.ref a1), .val (.ref a2), .val (.int (0 : Int32))] [(.int (own_is (0 : Int32) (4 : Int32) gs))])) (fun tt kt => ?_) ?_
  · show Steps p.tables e below (s₁.setTop (mkF m 0 #[.val (.ref a1), .val (.ref a2), .unset] [])) _
    refine XS.iconst X0.here hx rfl (hb hby d9_0) ?_
    refine XS.istoreN X0.here hx rfl (hb hby d9_1) rfl (l' := #[.val (.ref a1), .val (.ref a2), .val (.int (0 : Int32))]) rfl ?_
    refine XS.iloadN X0.here hx rfl (hb hby d9_2) rfl ?_
    refine XS.aloadN X0.here hx rfl (hb hby d9_3) rfl rfl ?_
    show Steps p.tables e below (s₁.setTop (mkF m 4 #[.val (.ref a1), .val (.ref a2), .val (.int (0 : Int32))] [(.ref a1), (.int (0 : Int32))])) _
    refine st13 _ ?_
    show Steps p.tables e below (T13.setTop (mkF m 7 #[.val (.ref a1), .val (.ref a2), .val (.int (0 : Int32))] [(.int (2 : Int32)), (.int (0 : Int32))])) _
    refine XS.icmpNo X13.here hx rfl (hb hby d9_7) rfl (tlt ((by decide) : (0 : Int32) < (2 : Int32))).2.1 ?_
    refine XS.aloadN X13.here hx rfl (hb hby d9_10) rfl rfl ?_
    refine XS.iloadN X13.here hx rfl (hb hby d9_11) rfl ?_
    refine XS.iconst X13.here hx rfl (hb hby d9_12) ?_
    show Steps p.tables e below (T13.setTop (mkF m 13 #[.val (.ref a1), .val (.ref a2), .val (.int (0 : Int32))] [(.int (4 : Int32)), (.int (0 : Int32)), (.ref a1)])) _
    refine st14.trans ?_
    exact kt
  show own_End p e below s (T14.setTop (mkF m 16 #[.val (.ref a1), .val (.ref a2), .val (.int (0 : Int32))] [(.int (own_is (0 : Int32) (4 : Int32) gs))])) (Q9 Z a1 a2 vi vn vs vm ui un ur uh gi gn gs bi bn br bh h0 n0) ({ frames := 3, cells := 0, slots := 0, locals := 43 } : Room).cells ({ frames := 3, cells := 0, slots := 0, locals := 43 } : Room).slots
  by_cases hc16_15 : (own_is (0 : Int32) (4 : Int32) gs) = (0 : Int32)
  · obtain ⟨T16, X16, e16, st16⟩ := getF X14 hx hZ hown (host := "") (Or.inl (hw _ (List.mem_of_getElem? (i := 42) rfl))) Via.refl e14 F_size_a1_6 (g := (mkF m 4 #[.val (.ref a1), .val (.ref a2), .val (.int (1 : Int32))] [(.ref a1), (.int (1 : Int32))])) rfl rfl (hb hby d9_4)
    obtain ⟨cq17, q17, q17'⟩ := (E_a1_1).cell
    obtain ⟨_, _, ⟨T17, L17, k17, n17⟩, -, X17, ⟨Lc17, hQ17, l17, y17, z17⟩, st17⟩ := X16.privateBack hx (y := (⟨"com/example/atoll/atoll/detect/HeldOrigins", "is", "(II)Z"⟩ : MethodName)) hown (mvT hZ (hw _ (List.mem_of_getElem? (i := 72) rfl))) (mvT hZ (hw _ (List.mem_of_getElem? (i := 73) rfl))) (own_selPriv hZ (hw _ (List.mem_of_getElem? (i := 3) rfl)) (hw _ (List.mem_of_getElem? (i := 73) rfl)) (hw _ (List.mem_of_getElem? (i := 74) rfl)) (by decide)) (Cond.privateMethod_at (mvP hZ (hw _ (List.mem_of_getElem? (i := 74) rfl)) (args := #[]))) (mvT hZ (hw _ (List.mem_of_getElem? (i := 75) rfl))) (by decide) (backOf (W := 0) (rm10 l Z a0 hw [] a1 (1 : Int32) (4 : Int32) vi vn vs vm (2 : Int32) gs h0 n0 Z0 ⟨E_a1_1, F_ids_a1_2, F_newest_a1_3, F_state_a1_4, F_mismatches_a1_5, F_size_a1_6⟩ V_vs (by decide) (by decide)) hZ (hw _ (List.mem_of_getElem? (i := 75) rfl)) (hw _ (List.mem_of_getElem? (i := 4) rfl)) (by decide) (by decide)) (g := (mkF m 13 #[.val (.ref a1), .val (.ref a2), .val (.int (1 : Int32))] [(.int (4 : Int32)), (.int (1 : Int32)), (.ref a1)])) rfl (by rw [hml]; rfl) (Steps.refl _) (a := a1) (by rw [e16]; exact q17) q17' (argsL := [(.int (1 : Int32)), (.int (4 : Int32))]) (rest := []) (lenOf pd_9_0 rfl) rfl (by show 2 * 0 + _ ≤ _; exact Nat.le_of_eq rfl) (hb hby d9_13) (fun _ _ => ⟨rfl, e16, (by decide : 0 + 0 ≤ _), (by decide : 0 + 0 ≤ _)⟩)
    dsimp only [Pt.U, Pt.locs, Pt.cells, Pt.slots] at X17 l17 y17 z17 st17 hQ17
    subst l17 y17 z17
    obtain ⟨rfl, N17q, e17⟩ := hQ17
    have N17 := Fr.app N14 N17q
    refine own_pre (A := T17.setTop (mkF m 16 #[.val (.ref a1), .val (.ref a2), .val (.int (1 : Int32))] [(.int (own_is (1 : Int32) (4 : Int32) gs))])) (fun tt kt => ?_) ?_
    · show Steps p.tables e below (T14.setTop (mkF m 16 #[.val (.ref a1), .val (.ref a2), .val (.int (0 : Int32))] [(.int (own_is (0 : Int32) (4 : Int32) gs))])) _
      refine XS.ifYes X14.here hx rfl (pc0 := 16) (pc' := 45) rfl (hb hby d9_16) rfl ((if0 _ _).trans (teq hc16_15).1) (by decide) (by decide) ?_
      refine XS.iinc X14.here hx rfl (hb hby d9_45) rfl (l' := #[.val (.ref a1), .val (.ref a2), .val (.int (1 : Int32))]) rfl ?_
      refine XS.goto X14.here hx rfl (pc0 := 48) (pc' := 2) rfl (hb hby d9_48) (by decide) (by decide) ?_
      refine XS.iloadN X14.here hx rfl (hb hby d9_2) rfl ?_
      show Steps p.tables e below (T14.setTop (mkF m 3 #[.val (.ref a1), .val (.ref a2), .val (.int (1 : Int32))] [(.int (1 : Int32))])) _
      refine XS.aloadN X14.here hx rfl (hb hby d9_3) rfl rfl ?_
      show Steps p.tables e below (T14.setTop (mkF m 4 #[.val (.ref a1), .val (.ref a2), .val (.int (1 : Int32))] [(.ref a1), (.int (1 : Int32))])) _
      refine st16 _ ?_
      show Steps p.tables e below (T16.setTop (mkF m 7 #[.val (.ref a1), .val (.ref a2), .val (.int (1 : Int32))] [(.int (2 : Int32)), (.int (1 : Int32))])) _
      refine XS.icmpNo X16.here hx rfl (hb hby d9_7) rfl (tlt ((by decide) : (1 : Int32) < (2 : Int32))).2.1 ?_
      refine XS.aloadN X16.here hx rfl (hb hby d9_10) rfl rfl ?_
      refine XS.iloadN X16.here hx rfl (hb hby d9_11) rfl ?_
      refine XS.iconst X16.here hx rfl (hb hby d9_12) ?_
      show Steps p.tables e below (T16.setTop (mkF m 13 #[.val (.ref a1), .val (.ref a2), .val (.int (1 : Int32))] [(.int (4 : Int32)), (.int (1 : Int32)), (.ref a1)])) _
      refine st17.trans ?_
      exact kt
    show own_End p e below s (T17.setTop (mkF m 16 #[.val (.ref a1), .val (.ref a2), .val (.int (1 : Int32))] [(.int (own_is (1 : Int32) (4 : Int32) gs))])) (Q9 Z a1 a2 vi vn vs vm ui un ur uh gi gn gs bi bn br bh h0 n0) ({ frames := 3, cells := 0, slots := 0, locals := 43 } : Room).cells ({ frames := 3, cells := 0, slots := 0, locals := 43 } : Room).slots
    by_cases hc16_18 : (own_is (1 : Int32) (4 : Int32) gs) = (0 : Int32)
    · obtain ⟨T19, X19, e19, st19⟩ := getF X17 hx hZ hown (host := "") (Or.inl (hw _ (List.mem_of_getElem? (i := 42) rfl))) Via.refl e17 F_size_a1_6 (g := (mkF m 4 #[.val (.ref a1), .val (.ref a2), .val (.int (2 : Int32))] [(.ref a1), (.int (2 : Int32))])) rfl rfl (hb hby d9_4)
      refine own_pre (A := T19.setTop (mkF m 51 #[.val (.ref a1), .val (.ref a2), .val (.int (2 : Int32))] [])) (fun tt kt => ?_) ?_
      · show Steps p.tables e below (T17.setTop (mkF m 16 #[.val (.ref a1), .val (.ref a2), .val (.int (1 : Int32))] [(.int (own_is (1 : Int32) (4 : Int32) gs))])) _
        refine XS.ifYes X17.here hx rfl (pc0 := 16) (pc' := 45) rfl (hb hby d9_16) rfl ((if0 _ _).trans (teq hc16_18).1) (by decide) (by decide) ?_
        refine XS.iinc X17.here hx rfl (hb hby d9_45) rfl (l' := #[.val (.ref a1), .val (.ref a2), .val (.int (2 : Int32))]) rfl ?_
        refine XS.goto X17.here hx rfl (pc0 := 48) (pc' := 2) rfl (hb hby d9_48) (by decide) (by decide) ?_
        refine XS.iloadN X17.here hx rfl (hb hby d9_2) rfl ?_
        show Steps p.tables e below (T17.setTop (mkF m 3 #[.val (.ref a1), .val (.ref a2), .val (.int (2 : Int32))] [(.int (2 : Int32))])) _
        refine XS.aloadN X17.here hx rfl (hb hby d9_3) rfl rfl ?_
        show Steps p.tables e below (T17.setTop (mkF m 4 #[.val (.ref a1), .val (.ref a2), .val (.int (2 : Int32))] [(.ref a1), (.int (2 : Int32))])) _
        refine st19 _ ?_
        show Steps p.tables e below (T19.setTop (mkF m 7 #[.val (.ref a1), .val (.ref a2), .val (.int (2 : Int32))] [(.int (2 : Int32)), (.int (2 : Int32))])) _
        refine XS.icmpYes X19.here hx rfl (pc0 := 7) (pc' := 51) rfl (hb hby d9_7) rfl (flt ((by decide) : ¬ ((2 : Int32) < (2 : Int32)))).2.1 (by decide) (by decide) ?_
        exact kt
      show own_End p e below s (T19.setTop (mkF m 51 #[.val (.ref a1), .val (.ref a2), .val (.int (2 : Int32))] [])) (Q9 Z a1 a2 vi vn vs vm ui un ur uh gi gn gs bi bn br bh h0 n0) ({ frames := 3, cells := 0, slots := 0, locals := 43 } : Room).cells ({ frames := 3, cells := 0, slots := 0, locals := 43 } : Room).slots
      obtain ⟨fs, hr, hrun, hended, hW, hsame⟩ := X19.leave (v := none) (fun _ => rfl)
      refine ⟨_, _, ?_, hrun, hended, _, _, rfl, ?_, ⟨_, rfl⟩, hW, hsame.mono (by decide) (by decide)⟩
      · exact X19.returnOut hx Bd.returns (hb hby d9_51) hr
      · show Q9 Z a1 a2 vi vn vs vm ui un ur uh gi gn gs bi bn br bh h0 n0 _ T19.heap _
        rw [e19]
        exact ⟨rfl, N17, (Keep.refl h0 _), (own_Arr.congr (w := Value.long) V_vs (fun i _ => by have e0 : own_rel gs (0 : Int32) = gs := if_pos hc16_15; have e1 : own_rel gs (1 : Int32) = gs := if_pos hc16_18; rw [e0, e1]))⟩
    · obtain ⟨T20, X20, e20, st20⟩ := getF X17 hx hZ hown (host := "") (Or.inl (hw _ (List.mem_of_getElem? (i := 17) rfl))) Via.refl e17 F_state_a1_4 (g := (mkF m 20 #[.val (.ref a1), .val (.ref a2), .val (.int (1 : Int32))] [(.ref a1)])) rfl rfl (hb hby d9_20)
      obtain ⟨T21, X21, e21, st21⟩ := getF X20 hx hZ hown (host := "") (Or.inl (hw _ (List.mem_of_getElem? (i := 17) rfl))) Via.refl e20 F_state_a1_4 (g := (mkF m 25 #[.val (.ref a1), .val (.ref a2), .val (.int (1 : Int32))] [(.ref a1), (.int (1 : Int32)), (.ref vs)])) rfl rfl (hb hby d9_25)
      obtain ⟨cl22, Ar22, S22, Nn22, G22⟩ := id V_vs
      have hin22 : ¬ ((1 : Int32) < 0 ∨ cl22.slots.size ≤ (1 : Int32).toNatClampNeg) := inb_of S22 (⟨by decide, by decide⟩ : ¬ (1 : Int32) < 0 ∧ (1 : Int32) < (16 : Int32))
      have hat22 : cl22.slots[(1 : Int32).toNatClampNeg]? = some (.long (gs 1)) := own_at S22 G22 hin22
      obtain ⟨cl23, Ar23, S23, Nn23, G23⟩ := id V_vs
      have hin23 : ¬ ((1 : Int32) < 0 ∨ cl23.slots.size ≤ (1 : Int32).toNatClampNeg) := inb_of S23 (⟨by decide, by decide⟩ : ¬ (1 : Int32) < 0 ∧ (1 : Int32) < (16 : Int32))
      obtain ⟨T24, h24, X24, e24, W24, st24⟩ := stJ X21 hx hZ e21 Ar23 (j := (1 : Int32)) hin23 (g := (mkF m 38 #[.val (.ref a1), .val (.ref a2), .val (.int (1 : Int32))] [(.long (((gs 1) &&& (-5 : Int64)) ||| (8 : Int64))), (.int (1 : Int32)), (.ref vs)])) rfl rfl (hb hby d9_38)
      have fE_a1_x24 := (E_a1_1.wr W24)
      have fF_a1_ids_x24 := (Fld.other W24 F_ids_a1_2 (Or.inl ne_a1_vs))
      have fF_a1_newest_x24 := (Fld.other W24 F_newest_a1_3 (Or.inl ne_a1_vs))
      have fF_a1_state_x24 := (Fld.other W24 F_state_a1_4 (Or.inl ne_a1_vs))
      have fF_a1_mismatches_x24 := (Fld.other W24 F_mismatches_a1_5 (Or.inl ne_a1_vs))
      have fF_a1_size_x24 := (Fld.other W24 F_size_a1_6 (Or.inl ne_a1_vs))
      have fE_a2_x24 := (E_a2_7.wr W24)
      have fF_a2_ids_x24 := (Fld.other W24 F_ids_a2_8 (Or.inl (Ne.symm ne_vs_a2)))
      have fF_a2_incarnations_x24 := (Fld.other W24 F_incarnations_a2_9 (Or.inl (Ne.symm ne_vs_a2)))
      have fF_a2_rounds_x24 := (Fld.other W24 F_rounds_a2_10 (Or.inl (Ne.symm ne_vs_a2)))
      have fF_a2_heard_x24 := (Fld.other W24 F_heard_a2_11 (Or.inl (Ne.symm ne_vs_a2)))
      have fF_a2_count_x24 := (Fld.other W24 F_count_a2_12 (Or.inl (Ne.symm ne_vs_a2)))
      have fA_vi_x24 := (V_vi.other W24 ne_vi_vs)
      have fA_vn_x24 := (V_vn.other W24 ne_vn_vs)
      have fA_ui_x24 := (V_ui.other W24 (Ne.symm ne_vs_ui))
      have fA_un_x24 := (V_un.other W24 (Ne.symm ne_vs_un))
      have fA_ur_x24 := (V_ur.other W24 (Ne.symm ne_vs_ur))
      have fA_uh_x24 := (V_uh.other W24 (Ne.symm ne_vs_uh))
      have V24 : own_Arr Z h24 vs .long (16 : Int32) (fun i => Value.long ((own_putJ gs (1 : Int32) (((gs 1) &&& (-5 : Int64)) ||| (8 : Int64))) i)) := own_Arr.set (w := Value.long) (g := gs) (x := (((gs 1) &&& (-5 : Int64)) ||| (8 : Int64))) V_vs W24 rfl (fun i => rfl)
      have N24 := Fr.snoc X24 N17 g_vs
      have K24 : Keep h0 h24 [a2, vs, ui, un, ur, uh] := Keep.wr (Keep.refl h0 _) W24 (Or.inl (List.mem_of_getElem? (i := 1) rfl))
      have Z24 : n0 ≤ h24.size := Nat.le_trans Z0 (Nat.le_of_eq W24.size.symm)
      obtain ⟨cq25, kq25, q25a, q25b, q25c⟩ := isOf hZ e24 fE_a1_x24
      obtain ⟨_, _, ⟨T25, L25, k25, n25⟩, -, X25, ⟨Lc25, hQ25, l25, y25, z25⟩, st25⟩ := X24.virtualBack hx (y := (⟨"com/example/atoll/atoll/detect/HeldOrigins", "tell", "(ILcom/example/atoll/atoll/detect/Beacon$Builder;)V"⟩ : MethodName)) (z := (⟨"com/example/atoll/atoll/detect/HeldOrigins", "tell", "(ILcom/example/atoll/atoll/detect/Beacon$Builder;)V"⟩ : MethodName)) hown (mvT hZ (hw _ (List.mem_of_getElem? (i := 135) rfl))) (mvT hZ (hw _ (List.mem_of_getElem? (i := 136) rfl))) (notFace_of_selects (args := #[]) (mvT hZ (hw _ (List.mem_of_getElem? (i := 138) rfl)))) (mvT hZ (hw _ (List.mem_of_getElem? (i := 138) rfl))) (mvT hZ (hw _ (List.mem_of_getElem? (i := 137) rfl))) (by decide) (backOf (W := 0) (rm23 l Z a0 hw [] a1 (1 : Int32) a2 vi vn vs vm (2 : Int32) ui un ur uh (0 : Int32) gi gn bi bn br bh h24 n0 Z24 ⟨fE_a1_x24, fF_a1_ids_x24, fF_a1_newest_x24, fF_a1_state_x24, fF_a1_mismatches_x24, fF_a1_size_x24⟩ ⟨fE_a2_x24, fF_a2_ids_x24, fF_a2_incarnations_x24, fF_a2_rounds_x24, fF_a2_heard_x24, fF_a2_count_x24⟩ fA_vi_x24 fA_vn_x24 fA_ui_x24 fA_un_x24 fA_ur_x24 fA_uh_x24 ne_a1_a2 ne_a1_ui ne_a1_un ne_a1_ur ne_a1_uh ne_vi_a2 ne_vn_a2 ne_vi_ui ne_vi_un ne_vi_ur ne_vi_uh ne_vn_ui ne_vn_un ne_vn_ur ne_vn_uh ne_a2_ui ne_a2_un ne_a2_ur ne_a2_uh ne_ui_un ne_ui_ur ne_ui_uh ne_un_ur ne_un_uh ne_ur_uh g_a2 g_ui g_un g_ur g_uh (by decide) (by decide) (by decide) (by decide)) hZ (hw _ (List.mem_of_getElem? (i := 139) rfl)) (hw _ (List.mem_of_getElem? (i := 4) rfl)) (by decide) (by decide)) q25a q25c (g := (mkF m 42 #[.val (.ref a1), .val (.ref a2), .val (.int (1 : Int32))] [(.ref a2), (.int (1 : Int32)), (.ref a1)])) rfl (by rw [hml]; rfl) (Steps.refl _) (argsL := [(.int (1 : Int32)), (.ref a2)]) (rest := []) (lenOf pd_9_1 rfl) rfl (by show 2 * 0 + _ ≤ _; exact Nat.le_of_eq rfl) (hb hby d9_42) (fun _ _ => ⟨rfl, e24, (by decide : 0 + 0 ≤ _), (by decide : 0 + 0 ≤ _)⟩)
      dsimp only [Pt.U, Pt.locs, Pt.cells, Pt.slots] at X25 l25 y25 z25 st25 hQ25
      subst l25 y25 z25
      obtain ⟨rfl, N25q, Kq25, O25_0, V25_0, V25_1, V25_2, V25_3⟩ := hQ25
      have N25 := Fr.app N24 N25q
      have fE_a1_x25 := (fE_a1_x24.keep Kq25)
      have fF_a1_ids_x25 := (fF_a1_ids_x24.keep Kq25 (ninS ne_a1_a2 (ninS ne_a1_ui (ninS ne_a1_un (ninS ne_a1_ur (ninS ne_a1_uh nin0))))))
      have fF_a1_newest_x25 := (fF_a1_newest_x24.keep Kq25 (ninS ne_a1_a2 (ninS ne_a1_ui (ninS ne_a1_un (ninS ne_a1_ur (ninS ne_a1_uh nin0))))))
      have fF_a1_state_x25 := (fF_a1_state_x24.keep Kq25 (ninS ne_a1_a2 (ninS ne_a1_ui (ninS ne_a1_un (ninS ne_a1_ur (ninS ne_a1_uh nin0))))))
      have fF_a1_mismatches_x25 := (fF_a1_mismatches_x24.keep Kq25 (ninS ne_a1_a2 (ninS ne_a1_ui (ninS ne_a1_un (ninS ne_a1_ur (ninS ne_a1_uh nin0))))))
      have fF_a1_size_x25 := (fF_a1_size_x24.keep Kq25 (ninS ne_a1_a2 (ninS ne_a1_ui (ninS ne_a1_un (ninS ne_a1_ur (ninS ne_a1_uh nin0))))))
      have fE_a2_x25 := (fE_a2_x24.keep Kq25)
      have fA_vi_x25 := (fA_vi_x24.keep Kq25 (ninS ne_vi_a2 (ninS ne_vi_ui (ninS ne_vi_un (ninS ne_vi_ur (ninS ne_vi_uh nin0))))))
      have fA_vn_x25 := (fA_vn_x24.keep Kq25 (ninS ne_vn_a2 (ninS ne_vn_ui (ninS ne_vn_un (ninS ne_vn_ur (ninS ne_vn_uh nin0))))))
      have fA_vs_x25 := (V24.keep Kq25 (ninS ne_vs_a2 (ninS ne_vs_ui (ninS ne_vs_un (ninS ne_vs_ur (ninS ne_vs_uh nin0))))))
      have K25 : Keep h0 T25.heap [a2, vs, ui, un, ur, uh] := Keep.trans K24 Kq25 (allS (Or.inl (List.mem_of_getElem? (i := 0) rfl)) (allS (Or.inl (List.mem_of_getElem? (i := 2) rfl)) (allS (Or.inl (List.mem_of_getElem? (i := 3) rfl)) (allS (Or.inl (List.mem_of_getElem? (i := 4) rfl)) (allS (Or.inl (List.mem_of_getElem? (i := 5) rfl)) all0)))))
      have Z25 : n0 ≤ T25.heap.size := Nat.le_trans Z24 Kq25.1
      obtain ⟨E_a2_26, F_ids_a2_27, F_incarnations_a2_28, F_rounds_a2_29, F_heard_a2_30, F_count_a2_31⟩ := O25_0
      obtain ⟨T32, X32, e32, st32⟩ := getF X25 hx hZ hown (host := "") (Or.inl (hw _ (List.mem_of_getElem? (i := 42) rfl))) Via.refl rfl fF_a1_size_x25 (g := (mkF m 4 #[.val (.ref a1), .val (.ref a2), .val (.int (2 : Int32))] [(.ref a1), (.int (2 : Int32))])) rfl rfl (hb hby d9_4)
      refine own_pre (A := T32.setTop (mkF m 51 #[.val (.ref a1), .val (.ref a2), .val (.int (2 : Int32))] [])) (fun tt kt => ?_) ?_
      · show Steps p.tables e below (T17.setTop (mkF m 16 #[.val (.ref a1), .val (.ref a2), .val (.int (1 : Int32))] [(.int (own_is (1 : Int32) (4 : Int32) gs))])) _
        refine XS.ifNo X17.here hx rfl (hb hby d9_16) rfl ((if0 _ _).trans (feq hc16_18).1) ?_
        refine XS.aloadN X17.here hx rfl (hb hby d9_19) rfl rfl ?_
        show Steps p.tables e below (T17.setTop (mkF m 20 #[.val (.ref a1), .val (.ref a2), .val (.int (1 : Int32))] [(.ref a1)])) _
        refine st20 _ ?_
        show Steps p.tables e below (T20.setTop (mkF m 23 #[.val (.ref a1), .val (.ref a2), .val (.int (1 : Int32))] [(.ref vs)])) _
        refine XS.iloadN X20.here hx rfl (hb hby d9_23) rfl ?_
        refine XS.aloadN X20.here hx rfl (hb hby d9_24) rfl rfl ?_
        show Steps p.tables e below (T20.setTop (mkF m 25 #[.val (.ref a1), .val (.ref a2), .val (.int (1 : Int32))] [(.ref a1), (.int (1 : Int32)), (.ref vs)])) _
        refine st21 _ ?_
        show Steps p.tables e below (T21.setTop (mkF m 28 #[.val (.ref a1), .val (.ref a2), .val (.int (1 : Int32))] [(.ref vs), (.int (1 : Int32)), (.ref vs)])) _
        refine XS.iloadN X21.here hx rfl (hb hby d9_28) rfl ?_
        show Steps p.tables e below (T21.setTop (mkF m 29 #[.val (.ref a1), .val (.ref a2), .val (.int (1 : Int32))] [(.int (1 : Int32)), (.ref vs), (.int (1 : Int32)), (.ref vs)])) _
        refine X21.laload hx (j := (1 : Int32)) (v := (.long (gs 1))) (by rw [e21]; exact Ar22.1) (State.isArrayOf_alike hZ.alike Ar22.2.1) Ar22.2.2 hin22 hat22 (g := (mkF m 29 #[.val (.ref a1), .val (.ref a2), .val (.int (1 : Int32))] [(.int (1 : Int32)), (.ref vs), (.int (1 : Int32)), (.ref vs)])) rfl rfl (hb hby d9_29) _ ?_
        show Steps p.tables e below (T21.setTop (mkF m 30 #[.val (.ref a1), .val (.ref a2), .val (.int (1 : Int32))] [(.long (gs 1)), (.int (1 : Int32)), (.ref vs)])) _
        refine X21.ldc2Long hx hown (mvT hZ (hw _ (List.mem_of_getElem? (i := 133) rfl))) (g := (mkF m 30 #[.val (.ref a1), .val (.ref a2), .val (.int (1 : Int32))] [(.long (gs 1)), (.int (1 : Int32)), (.ref vs)])) rfl (hb hby d9_30) _ ?_
        show Steps p.tables e below (T21.setTop (mkF m 33 #[.val (.ref a1), .val (.ref a2), .val (.int (1 : Int32))] [(.long (-5 : Int64)), (.long (gs 1)), (.int (1 : Int32)), (.ref vs)])) _
        refine XS.land X21.here hx rfl (hb hby d9_33) rfl ?_
        show Steps p.tables e below (T21.setTop (mkF m 34 #[.val (.ref a1), .val (.ref a2), .val (.int (1 : Int32))] [(.long ((gs 1) &&& (-5 : Int64))), (.int (1 : Int32)), (.ref vs)])) _
        refine X21.ldc2Long hx hown (mvT hZ (hw _ (List.mem_of_getElem? (i := 134) rfl))) (g := (mkF m 34 #[.val (.ref a1), .val (.ref a2), .val (.int (1 : Int32))] [(.long ((gs 1) &&& (-5 : Int64))), (.int (1 : Int32)), (.ref vs)])) rfl (hb hby d9_34) _ ?_
        show Steps p.tables e below (T21.setTop (mkF m 37 #[.val (.ref a1), .val (.ref a2), .val (.int (1 : Int32))] [(.long (8 : Int64)), (.long ((gs 1) &&& (-5 : Int64))), (.int (1 : Int32)), (.ref vs)])) _
        refine XS.lor X21.here hx rfl (hb hby d9_37) rfl ?_
        show Steps p.tables e below (T21.setTop (mkF m 38 #[.val (.ref a1), .val (.ref a2), .val (.int (1 : Int32))] [(.long (((gs 1) &&& (-5 : Int64)) ||| (8 : Int64))), (.int (1 : Int32)), (.ref vs)])) _
        refine st24 _ ?_
        show Steps p.tables e below (T24.setTop (mkF m 39 #[.val (.ref a1), .val (.ref a2), .val (.int (1 : Int32))] [])) _
        refine XS.aloadN X24.here hx rfl (hb hby d9_39) rfl rfl ?_
        refine XS.iloadN X24.here hx rfl (hb hby d9_40) rfl ?_
        refine XS.aloadN X24.here hx rfl (hb hby d9_41) rfl rfl ?_
        show Steps p.tables e below (T24.setTop (mkF m 42 #[.val (.ref a1), .val (.ref a2), .val (.int (1 : Int32))] [(.ref a2), (.int (1 : Int32)), (.ref a1)])) _
        refine st25.trans ?_
        show Steps p.tables e below (T25.setTop (mkF m 45 #[.val (.ref a1), .val (.ref a2), .val (.int (1 : Int32))] [])) _
        refine XS.iinc X25.here hx rfl (hb hby d9_45) rfl (l' := #[.val (.ref a1), .val (.ref a2), .val (.int (2 : Int32))]) rfl ?_
        refine XS.goto X25.here hx rfl (pc0 := 48) (pc' := 2) rfl (hb hby d9_48) (by decide) (by decide) ?_
        refine XS.iloadN X25.here hx rfl (hb hby d9_2) rfl ?_
        refine XS.aloadN X25.here hx rfl (hb hby d9_3) rfl rfl ?_
        show Steps p.tables e below (T25.setTop (mkF m 4 #[.val (.ref a1), .val (.ref a2), .val (.int (2 : Int32))] [(.ref a1), (.int (2 : Int32))])) _
        refine st32 _ ?_
        show Steps p.tables e below (T32.setTop (mkF m 7 #[.val (.ref a1), .val (.ref a2), .val (.int (2 : Int32))] [(.int (2 : Int32)), (.int (2 : Int32))])) _
        refine XS.icmpYes X32.here hx rfl (pc0 := 7) (pc' := 51) rfl (hb hby d9_7) rfl (flt ((by decide) : ¬ ((2 : Int32) < (2 : Int32)))).2.1 (by decide) (by decide) ?_
        exact kt
      show own_End p e below s (T32.setTop (mkF m 51 #[.val (.ref a1), .val (.ref a2), .val (.int (2 : Int32))] [])) (Q9 Z a1 a2 vi vn vs vm ui un ur uh gi gn gs bi bn br bh h0 n0) ({ frames := 3, cells := 0, slots := 0, locals := 43 } : Room).cells ({ frames := 3, cells := 0, slots := 0, locals := 43 } : Room).slots
      obtain ⟨fs, hr, hrun, hended, hW, hsame⟩ := X32.leave (v := none) (fun _ => rfl)
      refine ⟨_, _, ?_, hrun, hended, _, _, rfl, ?_, ⟨_, rfl⟩, hW, hsame.mono (by decide) (by decide)⟩
      · exact X32.returnOut hx Bd.returns (hb hby d9_51) hr
      · show Q9 Z a1 a2 vi vn vs vm ui un ur uh gi gn gs bi bn br bh h0 n0 _ T32.heap _
        rw [e32]
        exact ⟨rfl, N25, K25, (own_Arr.congr (w := Value.long) fA_vs_x25 (fun i _ => by have e0 : own_rel gs (0 : Int32) = gs := if_pos hc16_15; have e1 : own_rel gs (1 : Int32) = (own_putJ gs (1 : Int32) (((gs 1) &&& (-5 : Int64)) ||| (8 : Int64))) := if_neg hc16_18; rw [e0, e1]))⟩
  · obtain ⟨T33, X33, e33, st33⟩ := getF X14 hx hZ hown (host := "") (Or.inl (hw _ (List.mem_of_getElem? (i := 17) rfl))) Via.refl e14 F_state_a1_4 (g := (mkF m 20 #[.val (.ref a1), .val (.ref a2), .val (.int (0 : Int32))] [(.ref a1)])) rfl rfl (hb hby d9_20)
    obtain ⟨T34, X34, e34, st34⟩ := getF X33 hx hZ hown (host := "") (Or.inl (hw _ (List.mem_of_getElem? (i := 17) rfl))) Via.refl e33 F_state_a1_4 (g := (mkF m 25 #[.val (.ref a1), .val (.ref a2), .val (.int (0 : Int32))] [(.ref a1), (.int (0 : Int32)), (.ref vs)])) rfl rfl (hb hby d9_25)
    obtain ⟨cl35, Ar35, S35, Nn35, G35⟩ := id V_vs
    have hin35 : ¬ ((0 : Int32) < 0 ∨ cl35.slots.size ≤ (0 : Int32).toNatClampNeg) := inb_of S35 (⟨by decide, by decide⟩ : ¬ (0 : Int32) < 0 ∧ (0 : Int32) < (16 : Int32))
    have hat35 : cl35.slots[(0 : Int32).toNatClampNeg]? = some (.long (gs 0)) := own_at S35 G35 hin35
    obtain ⟨cl36, Ar36, S36, Nn36, G36⟩ := id V_vs
    have hin36 : ¬ ((0 : Int32) < 0 ∨ cl36.slots.size ≤ (0 : Int32).toNatClampNeg) := inb_of S36 (⟨by decide, by decide⟩ : ¬ (0 : Int32) < 0 ∧ (0 : Int32) < (16 : Int32))
    obtain ⟨T37, h37, X37, e37, W37, st37⟩ := stJ X34 hx hZ e34 Ar36 (j := (0 : Int32)) hin36 (g := (mkF m 38 #[.val (.ref a1), .val (.ref a2), .val (.int (0 : Int32))] [(.long (((gs 0) &&& (-5 : Int64)) ||| (8 : Int64))), (.int (0 : Int32)), (.ref vs)])) rfl rfl (hb hby d9_38)
    have fE_a1_x37 := (E_a1_1.wr W37)
    have fF_a1_ids_x37 := (Fld.other W37 F_ids_a1_2 (Or.inl ne_a1_vs))
    have fF_a1_newest_x37 := (Fld.other W37 F_newest_a1_3 (Or.inl ne_a1_vs))
    have fF_a1_state_x37 := (Fld.other W37 F_state_a1_4 (Or.inl ne_a1_vs))
    have fF_a1_mismatches_x37 := (Fld.other W37 F_mismatches_a1_5 (Or.inl ne_a1_vs))
    have fF_a1_size_x37 := (Fld.other W37 F_size_a1_6 (Or.inl ne_a1_vs))
    have fE_a2_x37 := (E_a2_7.wr W37)
    have fF_a2_ids_x37 := (Fld.other W37 F_ids_a2_8 (Or.inl (Ne.symm ne_vs_a2)))
    have fF_a2_incarnations_x37 := (Fld.other W37 F_incarnations_a2_9 (Or.inl (Ne.symm ne_vs_a2)))
    have fF_a2_rounds_x37 := (Fld.other W37 F_rounds_a2_10 (Or.inl (Ne.symm ne_vs_a2)))
    have fF_a2_heard_x37 := (Fld.other W37 F_heard_a2_11 (Or.inl (Ne.symm ne_vs_a2)))
    have fF_a2_count_x37 := (Fld.other W37 F_count_a2_12 (Or.inl (Ne.symm ne_vs_a2)))
    have fA_vi_x37 := (V_vi.other W37 ne_vi_vs)
    have fA_vn_x37 := (V_vn.other W37 ne_vn_vs)
    have fA_ui_x37 := (V_ui.other W37 (Ne.symm ne_vs_ui))
    have fA_un_x37 := (V_un.other W37 (Ne.symm ne_vs_un))
    have fA_ur_x37 := (V_ur.other W37 (Ne.symm ne_vs_ur))
    have fA_uh_x37 := (V_uh.other W37 (Ne.symm ne_vs_uh))
    have V37 : own_Arr Z h37 vs .long (16 : Int32) (fun i => Value.long ((own_putJ gs (0 : Int32) (((gs 0) &&& (-5 : Int64)) ||| (8 : Int64))) i)) := own_Arr.set (w := Value.long) (g := gs) (x := (((gs 0) &&& (-5 : Int64)) ||| (8 : Int64))) V_vs W37 rfl (fun i => rfl)
    have N37 := Fr.snoc X37 N14 g_vs
    have K37 : Keep h0 h37 [a2, vs, ui, un, ur, uh] := Keep.wr (Keep.refl h0 _) W37 (Or.inl (List.mem_of_getElem? (i := 1) rfl))
    have Z37 : n0 ≤ h37.size := Nat.le_trans Z0 (Nat.le_of_eq W37.size.symm)
    obtain ⟨cq38, kq38, q38a, q38b, q38c⟩ := isOf hZ e37 fE_a1_x37
    obtain ⟨_, _, ⟨T38, L38, k38, n38⟩, -, X38, ⟨Lc38, hQ38, l38, y38, z38⟩, st38⟩ := X37.virtualBack hx (y := (⟨"com/example/atoll/atoll/detect/HeldOrigins", "tell", "(ILcom/example/atoll/atoll/detect/Beacon$Builder;)V"⟩ : MethodName)) (z := (⟨"com/example/atoll/atoll/detect/HeldOrigins", "tell", "(ILcom/example/atoll/atoll/detect/Beacon$Builder;)V"⟩ : MethodName)) hown (mvT hZ (hw _ (List.mem_of_getElem? (i := 135) rfl))) (mvT hZ (hw _ (List.mem_of_getElem? (i := 136) rfl))) (notFace_of_selects (args := #[]) (mvT hZ (hw _ (List.mem_of_getElem? (i := 138) rfl)))) (mvT hZ (hw _ (List.mem_of_getElem? (i := 138) rfl))) (mvT hZ (hw _ (List.mem_of_getElem? (i := 137) rfl))) (by decide) (backOf (W := 0) (rm23 l Z a0 hw [] a1 (0 : Int32) a2 vi vn vs vm (2 : Int32) ui un ur uh (0 : Int32) gi gn bi bn br bh h37 n0 Z37 ⟨fE_a1_x37, fF_a1_ids_x37, fF_a1_newest_x37, fF_a1_state_x37, fF_a1_mismatches_x37, fF_a1_size_x37⟩ ⟨fE_a2_x37, fF_a2_ids_x37, fF_a2_incarnations_x37, fF_a2_rounds_x37, fF_a2_heard_x37, fF_a2_count_x37⟩ fA_vi_x37 fA_vn_x37 fA_ui_x37 fA_un_x37 fA_ur_x37 fA_uh_x37 ne_a1_a2 ne_a1_ui ne_a1_un ne_a1_ur ne_a1_uh ne_vi_a2 ne_vn_a2 ne_vi_ui ne_vi_un ne_vi_ur ne_vi_uh ne_vn_ui ne_vn_un ne_vn_ur ne_vn_uh ne_a2_ui ne_a2_un ne_a2_ur ne_a2_uh ne_ui_un ne_ui_ur ne_ui_uh ne_un_ur ne_un_uh ne_ur_uh g_a2 g_ui g_un g_ur g_uh (by decide) (by decide) (by decide) (by decide)) hZ (hw _ (List.mem_of_getElem? (i := 139) rfl)) (hw _ (List.mem_of_getElem? (i := 4) rfl)) (by decide) (by decide)) q38a q38c (g := (mkF m 42 #[.val (.ref a1), .val (.ref a2), .val (.int (0 : Int32))] [(.ref a2), (.int (0 : Int32)), (.ref a1)])) rfl (by rw [hml]; rfl) (Steps.refl _) (argsL := [(.int (0 : Int32)), (.ref a2)]) (rest := []) (lenOf pd_9_1 rfl) rfl (by show 2 * 0 + _ ≤ _; exact Nat.le_of_eq rfl) (hb hby d9_42) (fun _ _ => ⟨rfl, e37, (by decide : 0 + 0 ≤ _), (by decide : 0 + 0 ≤ _)⟩)
    dsimp only [Pt.U, Pt.locs, Pt.cells, Pt.slots] at X38 l38 y38 z38 st38 hQ38
    subst l38 y38 z38
    obtain ⟨rfl, N38q, Kq38, O38_0, V38_0, V38_1, V38_2, V38_3⟩ := hQ38
    have N38 := Fr.app N37 N38q
    have fE_a1_x38 := (fE_a1_x37.keep Kq38)
    have fF_a1_ids_x38 := (fF_a1_ids_x37.keep Kq38 (ninS ne_a1_a2 (ninS ne_a1_ui (ninS ne_a1_un (ninS ne_a1_ur (ninS ne_a1_uh nin0))))))
    have fF_a1_newest_x38 := (fF_a1_newest_x37.keep Kq38 (ninS ne_a1_a2 (ninS ne_a1_ui (ninS ne_a1_un (ninS ne_a1_ur (ninS ne_a1_uh nin0))))))
    have fF_a1_state_x38 := (fF_a1_state_x37.keep Kq38 (ninS ne_a1_a2 (ninS ne_a1_ui (ninS ne_a1_un (ninS ne_a1_ur (ninS ne_a1_uh nin0))))))
    have fF_a1_mismatches_x38 := (fF_a1_mismatches_x37.keep Kq38 (ninS ne_a1_a2 (ninS ne_a1_ui (ninS ne_a1_un (ninS ne_a1_ur (ninS ne_a1_uh nin0))))))
    have fF_a1_size_x38 := (fF_a1_size_x37.keep Kq38 (ninS ne_a1_a2 (ninS ne_a1_ui (ninS ne_a1_un (ninS ne_a1_ur (ninS ne_a1_uh nin0))))))
    have fE_a2_x38 := (fE_a2_x37.keep Kq38)
    have fA_vi_x38 := (fA_vi_x37.keep Kq38 (ninS ne_vi_a2 (ninS ne_vi_ui (ninS ne_vi_un (ninS ne_vi_ur (ninS ne_vi_uh nin0))))))
    have fA_vn_x38 := (fA_vn_x37.keep Kq38 (ninS ne_vn_a2 (ninS ne_vn_ui (ninS ne_vn_un (ninS ne_vn_ur (ninS ne_vn_uh nin0))))))
    have fA_vs_x38 := (V37.keep Kq38 (ninS ne_vs_a2 (ninS ne_vs_ui (ninS ne_vs_un (ninS ne_vs_ur (ninS ne_vs_uh nin0))))))
    have K38 : Keep h0 T38.heap [a2, vs, ui, un, ur, uh] := Keep.trans K37 Kq38 (allS (Or.inl (List.mem_of_getElem? (i := 0) rfl)) (allS (Or.inl (List.mem_of_getElem? (i := 2) rfl)) (allS (Or.inl (List.mem_of_getElem? (i := 3) rfl)) (allS (Or.inl (List.mem_of_getElem? (i := 4) rfl)) (allS (Or.inl (List.mem_of_getElem? (i := 5) rfl)) all0)))))
    have Z38 : n0 ≤ T38.heap.size := Nat.le_trans Z37 Kq38.1
    obtain ⟨E_a2_39, F_ids_a2_40, F_incarnations_a2_41, F_rounds_a2_42, F_heard_a2_43, F_count_a2_44⟩ := O38_0
    obtain ⟨T45, X45, e45, st45⟩ := getF X38 hx hZ hown (host := "") (Or.inl (hw _ (List.mem_of_getElem? (i := 42) rfl))) Via.refl rfl fF_a1_size_x38 (g := (mkF m 4 #[.val (.ref a1), .val (.ref a2), .val (.int (1 : Int32))] [(.ref a1), (.int (1 : Int32))])) rfl rfl (hb hby d9_4)
    obtain ⟨cq46, q46, q46'⟩ := (fE_a1_x38).cell
    obtain ⟨_, _, ⟨T46, L46, k46, n46⟩, -, X46, ⟨Lc46, hQ46, l46, y46, z46⟩, st46⟩ := X45.privateBack hx (y := (⟨"com/example/atoll/atoll/detect/HeldOrigins", "is", "(II)Z"⟩ : MethodName)) hown (mvT hZ (hw _ (List.mem_of_getElem? (i := 72) rfl))) (mvT hZ (hw _ (List.mem_of_getElem? (i := 73) rfl))) (own_selPriv hZ (hw _ (List.mem_of_getElem? (i := 3) rfl)) (hw _ (List.mem_of_getElem? (i := 73) rfl)) (hw _ (List.mem_of_getElem? (i := 74) rfl)) (by decide)) (Cond.privateMethod_at (mvP hZ (hw _ (List.mem_of_getElem? (i := 74) rfl)) (args := #[]))) (mvT hZ (hw _ (List.mem_of_getElem? (i := 75) rfl))) (by decide) (backOf (W := 0) (rm10 l Z a0 hw [] a1 (1 : Int32) (4 : Int32) vi vn vs vm (2 : Int32) (own_putJ gs (0 : Int32) (((gs 0) &&& (-5 : Int64)) ||| (8 : Int64))) T38.heap n0 Z38 ⟨fE_a1_x38, fF_a1_ids_x38, fF_a1_newest_x38, fF_a1_state_x38, fF_a1_mismatches_x38, fF_a1_size_x38⟩ fA_vs_x38 (by decide) (by decide)) hZ (hw _ (List.mem_of_getElem? (i := 75) rfl)) (hw _ (List.mem_of_getElem? (i := 4) rfl)) (by decide) (by decide)) (g := (mkF m 13 #[.val (.ref a1), .val (.ref a2), .val (.int (1 : Int32))] [(.int (4 : Int32)), (.int (1 : Int32)), (.ref a1)])) rfl (by rw [hml]; rfl) (Steps.refl _) (a := a1) (by rw [e45]; exact q46) q46' (argsL := [(.int (1 : Int32)), (.int (4 : Int32))]) (rest := []) (lenOf pd_9_0 rfl) rfl (by show 2 * 0 + _ ≤ _; exact Nat.le_of_eq rfl) (hb hby d9_13) (fun _ _ => ⟨rfl, e45, (by decide : 0 + 0 ≤ _), (by decide : 0 + 0 ≤ _)⟩)
    dsimp only [Pt.U, Pt.locs, Pt.cells, Pt.slots] at X46 l46 y46 z46 st46 hQ46
    subst l46 y46 z46
    obtain ⟨rfl, N46q, e46⟩ := hQ46
    have N46 := Fr.app N38 N46q
    refine own_pre (A := T46.setTop (mkF m 16 #[.val (.ref a1), .val (.ref a2), .val (.int (1 : Int32))] [(.int (own_is (1 : Int32) (4 : Int32) (own_putJ gs (0 : Int32) (((gs 0) &&& (-5 : Int64)) ||| (8 : Int64)))))])) (fun tt kt => ?_) ?_
    · show Steps p.tables e below (T14.setTop (mkF m 16 #[.val (.ref a1), .val (.ref a2), .val (.int (0 : Int32))] [(.int (own_is (0 : Int32) (4 : Int32) gs))])) _
      refine XS.ifNo X14.here hx rfl (hb hby d9_16) rfl ((if0 _ _).trans (feq hc16_15).1) ?_
      refine XS.aloadN X14.here hx rfl (hb hby d9_19) rfl rfl ?_
      show Steps p.tables e below (T14.setTop (mkF m 20 #[.val (.ref a1), .val (.ref a2), .val (.int (0 : Int32))] [(.ref a1)])) _
      refine st33 _ ?_
      show Steps p.tables e below (T33.setTop (mkF m 23 #[.val (.ref a1), .val (.ref a2), .val (.int (0 : Int32))] [(.ref vs)])) _
      refine XS.iloadN X33.here hx rfl (hb hby d9_23) rfl ?_
      refine XS.aloadN X33.here hx rfl (hb hby d9_24) rfl rfl ?_
      show Steps p.tables e below (T33.setTop (mkF m 25 #[.val (.ref a1), .val (.ref a2), .val (.int (0 : Int32))] [(.ref a1), (.int (0 : Int32)), (.ref vs)])) _
      refine st34 _ ?_
      show Steps p.tables e below (T34.setTop (mkF m 28 #[.val (.ref a1), .val (.ref a2), .val (.int (0 : Int32))] [(.ref vs), (.int (0 : Int32)), (.ref vs)])) _
      refine XS.iloadN X34.here hx rfl (hb hby d9_28) rfl ?_
      show Steps p.tables e below (T34.setTop (mkF m 29 #[.val (.ref a1), .val (.ref a2), .val (.int (0 : Int32))] [(.int (0 : Int32)), (.ref vs), (.int (0 : Int32)), (.ref vs)])) _
      refine X34.laload hx (j := (0 : Int32)) (v := (.long (gs 0))) (by rw [e34]; exact Ar35.1) (State.isArrayOf_alike hZ.alike Ar35.2.1) Ar35.2.2 hin35 hat35 (g := (mkF m 29 #[.val (.ref a1), .val (.ref a2), .val (.int (0 : Int32))] [(.int (0 : Int32)), (.ref vs), (.int (0 : Int32)), (.ref vs)])) rfl rfl (hb hby d9_29) _ ?_
      show Steps p.tables e below (T34.setTop (mkF m 30 #[.val (.ref a1), .val (.ref a2), .val (.int (0 : Int32))] [(.long (gs 0)), (.int (0 : Int32)), (.ref vs)])) _
      refine X34.ldc2Long hx hown (mvT hZ (hw _ (List.mem_of_getElem? (i := 133) rfl))) (g := (mkF m 30 #[.val (.ref a1), .val (.ref a2), .val (.int (0 : Int32))] [(.long (gs 0)), (.int (0 : Int32)), (.ref vs)])) rfl (hb hby d9_30) _ ?_
      show Steps p.tables e below (T34.setTop (mkF m 33 #[.val (.ref a1), .val (.ref a2), .val (.int (0 : Int32))] [(.long (-5 : Int64)), (.long (gs 0)), (.int (0 : Int32)), (.ref vs)])) _
      refine XS.land X34.here hx rfl (hb hby d9_33) rfl ?_
      show Steps p.tables e below (T34.setTop (mkF m 34 #[.val (.ref a1), .val (.ref a2), .val (.int (0 : Int32))] [(.long ((gs 0) &&& (-5 : Int64))), (.int (0 : Int32)), (.ref vs)])) _
      refine X34.ldc2Long hx hown (mvT hZ (hw _ (List.mem_of_getElem? (i := 134) rfl))) (g := (mkF m 34 #[.val (.ref a1), .val (.ref a2), .val (.int (0 : Int32))] [(.long ((gs 0) &&& (-5 : Int64))), (.int (0 : Int32)), (.ref vs)])) rfl (hb hby d9_34) _ ?_
      show Steps p.tables e below (T34.setTop (mkF m 37 #[.val (.ref a1), .val (.ref a2), .val (.int (0 : Int32))] [(.long (8 : Int64)), (.long ((gs 0) &&& (-5 : Int64))), (.int (0 : Int32)), (.ref vs)])) _
      refine XS.lor X34.here hx rfl (hb hby d9_37) rfl ?_
      show Steps p.tables e below (T34.setTop (mkF m 38 #[.val (.ref a1), .val (.ref a2), .val (.int (0 : Int32))] [(.long (((gs 0) &&& (-5 : Int64)) ||| (8 : Int64))), (.int (0 : Int32)), (.ref vs)])) _
      refine st37 _ ?_
      show Steps p.tables e below (T37.setTop (mkF m 39 #[.val (.ref a1), .val (.ref a2), .val (.int (0 : Int32))] [])) _
      refine XS.aloadN X37.here hx rfl (hb hby d9_39) rfl rfl ?_
      refine XS.iloadN X37.here hx rfl (hb hby d9_40) rfl ?_
      refine XS.aloadN X37.here hx rfl (hb hby d9_41) rfl rfl ?_
      show Steps p.tables e below (T37.setTop (mkF m 42 #[.val (.ref a1), .val (.ref a2), .val (.int (0 : Int32))] [(.ref a2), (.int (0 : Int32)), (.ref a1)])) _
      refine st38.trans ?_
      show Steps p.tables e below (T38.setTop (mkF m 45 #[.val (.ref a1), .val (.ref a2), .val (.int (0 : Int32))] [])) _
      refine XS.iinc X38.here hx rfl (hb hby d9_45) rfl (l' := #[.val (.ref a1), .val (.ref a2), .val (.int (1 : Int32))]) rfl ?_
      refine XS.goto X38.here hx rfl (pc0 := 48) (pc' := 2) rfl (hb hby d9_48) (by decide) (by decide) ?_
      refine XS.iloadN X38.here hx rfl (hb hby d9_2) rfl ?_
      refine XS.aloadN X38.here hx rfl (hb hby d9_3) rfl rfl ?_
      show Steps p.tables e below (T38.setTop (mkF m 4 #[.val (.ref a1), .val (.ref a2), .val (.int (1 : Int32))] [(.ref a1), (.int (1 : Int32))])) _
      refine st45 _ ?_
      show Steps p.tables e below (T45.setTop (mkF m 7 #[.val (.ref a1), .val (.ref a2), .val (.int (1 : Int32))] [(.int (2 : Int32)), (.int (1 : Int32))])) _
      refine XS.icmpNo X45.here hx rfl (hb hby d9_7) rfl (tlt ((by decide) : (1 : Int32) < (2 : Int32))).2.1 ?_
      refine XS.aloadN X45.here hx rfl (hb hby d9_10) rfl rfl ?_
      refine XS.iloadN X45.here hx rfl (hb hby d9_11) rfl ?_
      refine XS.iconst X45.here hx rfl (hb hby d9_12) ?_
      show Steps p.tables e below (T45.setTop (mkF m 13 #[.val (.ref a1), .val (.ref a2), .val (.int (1 : Int32))] [(.int (4 : Int32)), (.int (1 : Int32)), (.ref a1)])) _
      refine st46.trans ?_
      exact kt
    show own_End p e below s (T46.setTop (mkF m 16 #[.val (.ref a1), .val (.ref a2), .val (.int (1 : Int32))] [(.int (own_is (1 : Int32) (4 : Int32) (own_putJ gs (0 : Int32) (((gs 0) &&& (-5 : Int64)) ||| (8 : Int64)))))])) (Q9 Z a1 a2 vi vn vs vm ui un ur uh gi gn gs bi bn br bh h0 n0) ({ frames := 3, cells := 0, slots := 0, locals := 43 } : Room).cells ({ frames := 3, cells := 0, slots := 0, locals := 43 } : Room).slots
    by_cases hc16_47 : (own_is (1 : Int32) (4 : Int32) (own_putJ gs (0 : Int32) (((gs 0) &&& (-5 : Int64)) ||| (8 : Int64)))) = (0 : Int32)
    · obtain ⟨T48, X48, e48, st48⟩ := getF X46 hx hZ hown (host := "") (Or.inl (hw _ (List.mem_of_getElem? (i := 42) rfl))) Via.refl e46 fF_a1_size_x38 (g := (mkF m 4 #[.val (.ref a1), .val (.ref a2), .val (.int (2 : Int32))] [(.ref a1), (.int (2 : Int32))])) rfl rfl (hb hby d9_4)
      refine own_pre (A := T48.setTop (mkF m 51 #[.val (.ref a1), .val (.ref a2), .val (.int (2 : Int32))] [])) (fun tt kt => ?_) ?_
      · show Steps p.tables e below (T46.setTop (mkF m 16 #[.val (.ref a1), .val (.ref a2), .val (.int (1 : Int32))] [(.int (own_is (1 : Int32) (4 : Int32) (own_putJ gs (0 : Int32) (((gs 0) &&& (-5 : Int64)) ||| (8 : Int64)))))])) _
        refine XS.ifYes X46.here hx rfl (pc0 := 16) (pc' := 45) rfl (hb hby d9_16) rfl ((if0 _ _).trans (teq hc16_47).1) (by decide) (by decide) ?_
        refine XS.iinc X46.here hx rfl (hb hby d9_45) rfl (l' := #[.val (.ref a1), .val (.ref a2), .val (.int (2 : Int32))]) rfl ?_
        refine XS.goto X46.here hx rfl (pc0 := 48) (pc' := 2) rfl (hb hby d9_48) (by decide) (by decide) ?_
        refine XS.iloadN X46.here hx rfl (hb hby d9_2) rfl ?_
        show Steps p.tables e below (T46.setTop (mkF m 3 #[.val (.ref a1), .val (.ref a2), .val (.int (2 : Int32))] [(.int (2 : Int32))])) _
        refine XS.aloadN X46.here hx rfl (hb hby d9_3) rfl rfl ?_
        show Steps p.tables e below (T46.setTop (mkF m 4 #[.val (.ref a1), .val (.ref a2), .val (.int (2 : Int32))] [(.ref a1), (.int (2 : Int32))])) _
        refine st48 _ ?_
        show Steps p.tables e below (T48.setTop (mkF m 7 #[.val (.ref a1), .val (.ref a2), .val (.int (2 : Int32))] [(.int (2 : Int32)), (.int (2 : Int32))])) _
        refine XS.icmpYes X48.here hx rfl (pc0 := 7) (pc' := 51) rfl (hb hby d9_7) rfl (flt ((by decide) : ¬ ((2 : Int32) < (2 : Int32)))).2.1 (by decide) (by decide) ?_
        exact kt
      show own_End p e below s (T48.setTop (mkF m 51 #[.val (.ref a1), .val (.ref a2), .val (.int (2 : Int32))] [])) (Q9 Z a1 a2 vi vn vs vm ui un ur uh gi gn gs bi bn br bh h0 n0) ({ frames := 3, cells := 0, slots := 0, locals := 43 } : Room).cells ({ frames := 3, cells := 0, slots := 0, locals := 43 } : Room).slots
      obtain ⟨fs, hr, hrun, hended, hW, hsame⟩ := X48.leave (v := none) (fun _ => rfl)
      refine ⟨_, _, ?_, hrun, hended, _, _, rfl, ?_, ⟨_, rfl⟩, hW, hsame.mono (by decide) (by decide)⟩
      · exact X48.returnOut hx Bd.returns (hb hby d9_51) hr
      · show Q9 Z a1 a2 vi vn vs vm ui un ur uh gi gn gs bi bn br bh h0 n0 _ T48.heap _
        rw [e48]
        exact ⟨rfl, N46, K38, (own_Arr.congr (w := Value.long) fA_vs_x38 (fun i _ => by have e0 : own_rel gs (0 : Int32) = (own_putJ gs (0 : Int32) (((gs 0) &&& (-5 : Int64)) ||| (8 : Int64))) := if_neg hc16_15; have e1 : own_rel (own_putJ gs (0 : Int32) (((gs 0) &&& (-5 : Int64)) ||| (8 : Int64))) (1 : Int32) = (own_putJ gs (0 : Int32) (((gs 0) &&& (-5 : Int64)) ||| (8 : Int64))) := if_pos hc16_47; rw [e0, e1]))⟩
    · obtain ⟨T49, X49, e49, st49⟩ := getF X46 hx hZ hown (host := "") (Or.inl (hw _ (List.mem_of_getElem? (i := 17) rfl))) Via.refl e46 fF_a1_state_x38 (g := (mkF m 20 #[.val (.ref a1), .val (.ref a2), .val (.int (1 : Int32))] [(.ref a1)])) rfl rfl (hb hby d9_20)
      obtain ⟨T50, X50, e50, st50⟩ := getF X49 hx hZ hown (host := "") (Or.inl (hw _ (List.mem_of_getElem? (i := 17) rfl))) Via.refl e49 fF_a1_state_x38 (g := (mkF m 25 #[.val (.ref a1), .val (.ref a2), .val (.int (1 : Int32))] [(.ref a1), (.int (1 : Int32)), (.ref vs)])) rfl rfl (hb hby d9_25)
      obtain ⟨cl51, Ar51, S51, Nn51, G51⟩ := id fA_vs_x38
      have hin51 : ¬ ((1 : Int32) < 0 ∨ cl51.slots.size ≤ (1 : Int32).toNatClampNeg) := inb_of S51 (⟨by decide, by decide⟩ : ¬ (1 : Int32) < 0 ∧ (1 : Int32) < (16 : Int32))
      have hat51 : cl51.slots[(1 : Int32).toNatClampNeg]? = some (.long ((own_putJ gs (0 : Int32) (((gs 0) &&& (-5 : Int64)) ||| (8 : Int64))) 1)) := own_at S51 G51 hin51
      obtain ⟨cl52, Ar52, S52, Nn52, G52⟩ := id fA_vs_x38
      have hin52 : ¬ ((1 : Int32) < 0 ∨ cl52.slots.size ≤ (1 : Int32).toNatClampNeg) := inb_of S52 (⟨by decide, by decide⟩ : ¬ (1 : Int32) < 0 ∧ (1 : Int32) < (16 : Int32))
      obtain ⟨T53, h53, X53, e53, W53, st53⟩ := stJ X50 hx hZ e50 Ar52 (j := (1 : Int32)) hin52 (g := (mkF m 38 #[.val (.ref a1), .val (.ref a2), .val (.int (1 : Int32))] [(.long ((((own_putJ gs (0 : Int32) (((gs 0) &&& (-5 : Int64)) ||| (8 : Int64))) 1) &&& (-5 : Int64)) ||| (8 : Int64))), (.int (1 : Int32)), (.ref vs)])) rfl rfl (hb hby d9_38)
      have fE_a1_x53 := (fE_a1_x38.wr W53)
      have fF_a1_ids_x53 := (Fld.other W53 fF_a1_ids_x38 (Or.inl ne_a1_vs))
      have fF_a1_newest_x53 := (Fld.other W53 fF_a1_newest_x38 (Or.inl ne_a1_vs))
      have fF_a1_state_x53 := (Fld.other W53 fF_a1_state_x38 (Or.inl ne_a1_vs))
      have fF_a1_mismatches_x53 := (Fld.other W53 fF_a1_mismatches_x38 (Or.inl ne_a1_vs))
      have fF_a1_size_x53 := (Fld.other W53 fF_a1_size_x38 (Or.inl ne_a1_vs))
      have fE_a2_x53 := (E_a2_39.wr W53)
      have fA_vi_x53 := (fA_vi_x38.other W53 ne_vi_vs)
      have fA_vn_x53 := (fA_vn_x38.other W53 ne_vn_vs)
      have fF_a2_ids_x53 := (Fld.other W53 F_ids_a2_40 (Or.inl (Ne.symm ne_vs_a2)))
      have fF_a2_incarnations_x53 := (Fld.other W53 F_incarnations_a2_41 (Or.inl (Ne.symm ne_vs_a2)))
      have fF_a2_rounds_x53 := (Fld.other W53 F_rounds_a2_42 (Or.inl (Ne.symm ne_vs_a2)))
      have fF_a2_heard_x53 := (Fld.other W53 F_heard_a2_43 (Or.inl (Ne.symm ne_vs_a2)))
      have fF_a2_count_x53 := (Fld.other W53 F_count_a2_44 (Or.inl (Ne.symm ne_vs_a2)))
      have fA_ui_x53 := (V38_0.other W53 (Ne.symm ne_vs_ui))
      have fA_un_x53 := (V38_1.other W53 (Ne.symm ne_vs_un))
      have fA_ur_x53 := (V38_2.other W53 (Ne.symm ne_vs_ur))
      have fA_uh_x53 := (V38_3.other W53 (Ne.symm ne_vs_uh))
      have V53 : own_Arr Z h53 vs .long (16 : Int32) (fun i => Value.long ((own_putJ (own_putJ gs (0 : Int32) (((gs 0) &&& (-5 : Int64)) ||| (8 : Int64))) (1 : Int32) ((((own_putJ gs (0 : Int32) (((gs 0) &&& (-5 : Int64)) ||| (8 : Int64))) 1) &&& (-5 : Int64)) ||| (8 : Int64))) i)) := own_Arr.set (w := Value.long) (g := (own_putJ gs (0 : Int32) (((gs 0) &&& (-5 : Int64)) ||| (8 : Int64)))) (x := ((((own_putJ gs (0 : Int32) (((gs 0) &&& (-5 : Int64)) ||| (8 : Int64))) 1) &&& (-5 : Int64)) ||| (8 : Int64))) fA_vs_x38 W53 rfl (fun i => rfl)
      have N53 := Fr.snoc X53 N46 g_vs
      have K53 : Keep h0 h53 [a2, vs, ui, un, ur, uh] := Keep.wr K38 W53 (Or.inl (List.mem_of_getElem? (i := 1) rfl))
      have Z53 : n0 ≤ h53.size := Nat.le_trans Z38 (Nat.le_of_eq W53.size.symm)
      obtain ⟨cq54, kq54, q54a, q54b, q54c⟩ := isOf hZ e53 fE_a1_x53
      obtain ⟨_, _, ⟨T54, L54, k54, n54⟩, -, X54, ⟨Lc54, hQ54, l54, y54, z54⟩, st54⟩ := X53.virtualBack hx (y := (⟨"com/example/atoll/atoll/detect/HeldOrigins", "tell", "(ILcom/example/atoll/atoll/detect/Beacon$Builder;)V"⟩ : MethodName)) (z := (⟨"com/example/atoll/atoll/detect/HeldOrigins", "tell", "(ILcom/example/atoll/atoll/detect/Beacon$Builder;)V"⟩ : MethodName)) hown (mvT hZ (hw _ (List.mem_of_getElem? (i := 135) rfl))) (mvT hZ (hw _ (List.mem_of_getElem? (i := 136) rfl))) (notFace_of_selects (args := #[]) (mvT hZ (hw _ (List.mem_of_getElem? (i := 138) rfl)))) (mvT hZ (hw _ (List.mem_of_getElem? (i := 138) rfl))) (mvT hZ (hw _ (List.mem_of_getElem? (i := 137) rfl))) (by decide) (backOf (W := 0) (rm23 l Z a0 hw [] a1 (1 : Int32) a2 vi vn vs vm (2 : Int32) ui un ur uh (1 : Int32) gi gn (own_put bi (0 : Int32) (gi (0 : Int32).toNatClampNeg)) (own_put bn (0 : Int32) (own_inc (0 : Int32) gn)) (own_put br (0 : Int32) (own_rnd (0 : Int32) gn)) (own_put bh (0 : Int32) (own_hrd (0 : Int32) gn)) h53 n0 Z53 ⟨fE_a1_x53, fF_a1_ids_x53, fF_a1_newest_x53, fF_a1_state_x53, fF_a1_mismatches_x53, fF_a1_size_x53⟩ ⟨fE_a2_x53, fF_a2_ids_x53, fF_a2_incarnations_x53, fF_a2_rounds_x53, fF_a2_heard_x53, fF_a2_count_x53⟩ fA_vi_x53 fA_vn_x53 fA_ui_x53 fA_un_x53 fA_ur_x53 fA_uh_x53 ne_a1_a2 ne_a1_ui ne_a1_un ne_a1_ur ne_a1_uh ne_vi_a2 ne_vn_a2 ne_vi_ui ne_vi_un ne_vi_ur ne_vi_uh ne_vn_ui ne_vn_un ne_vn_ur ne_vn_uh ne_a2_ui ne_a2_un ne_a2_ur ne_a2_uh ne_ui_un ne_ui_ur ne_ui_uh ne_un_ur ne_un_uh ne_ur_uh g_a2 g_ui g_un g_ur g_uh (by decide) (by decide) (by decide) (by decide)) hZ (hw _ (List.mem_of_getElem? (i := 139) rfl)) (hw _ (List.mem_of_getElem? (i := 4) rfl)) (by decide) (by decide)) q54a q54c (g := (mkF m 42 #[.val (.ref a1), .val (.ref a2), .val (.int (1 : Int32))] [(.ref a2), (.int (1 : Int32)), (.ref a1)])) rfl (by rw [hml]; rfl) (Steps.refl _) (argsL := [(.int (1 : Int32)), (.ref a2)]) (rest := []) (lenOf pd_9_1 rfl) rfl (by show 2 * 0 + _ ≤ _; exact Nat.le_of_eq rfl) (hb hby d9_42) (fun _ _ => ⟨rfl, e53, (by decide : 0 + 0 ≤ _), (by decide : 0 + 0 ≤ _)⟩)
      dsimp only [Pt.U, Pt.locs, Pt.cells, Pt.slots] at X54 l54 y54 z54 st54 hQ54
      subst l54 y54 z54
      obtain ⟨rfl, N54q, Kq54, O54_0, V54_0, V54_1, V54_2, V54_3⟩ := hQ54
      have N54 := Fr.app N53 N54q
      have fE_a1_x54 := (fE_a1_x53.keep Kq54)
      have fF_a1_ids_x54 := (fF_a1_ids_x53.keep Kq54 (ninS ne_a1_a2 (ninS ne_a1_ui (ninS ne_a1_un (ninS ne_a1_ur (ninS ne_a1_uh nin0))))))
      have fF_a1_newest_x54 := (fF_a1_newest_x53.keep Kq54 (ninS ne_a1_a2 (ninS ne_a1_ui (ninS ne_a1_un (ninS ne_a1_ur (ninS ne_a1_uh nin0))))))
      have fF_a1_state_x54 := (fF_a1_state_x53.keep Kq54 (ninS ne_a1_a2 (ninS ne_a1_ui (ninS ne_a1_un (ninS ne_a1_ur (ninS ne_a1_uh nin0))))))
      have fF_a1_mismatches_x54 := (fF_a1_mismatches_x53.keep Kq54 (ninS ne_a1_a2 (ninS ne_a1_ui (ninS ne_a1_un (ninS ne_a1_ur (ninS ne_a1_uh nin0))))))
      have fF_a1_size_x54 := (fF_a1_size_x53.keep Kq54 (ninS ne_a1_a2 (ninS ne_a1_ui (ninS ne_a1_un (ninS ne_a1_ur (ninS ne_a1_uh nin0))))))
      have fE_a2_x54 := (fE_a2_x53.keep Kq54)
      have fA_vi_x54 := (fA_vi_x53.keep Kq54 (ninS ne_vi_a2 (ninS ne_vi_ui (ninS ne_vi_un (ninS ne_vi_ur (ninS ne_vi_uh nin0))))))
      have fA_vn_x54 := (fA_vn_x53.keep Kq54 (ninS ne_vn_a2 (ninS ne_vn_ui (ninS ne_vn_un (ninS ne_vn_ur (ninS ne_vn_uh nin0))))))
      have fA_vs_x54 := (V53.keep Kq54 (ninS ne_vs_a2 (ninS ne_vs_ui (ninS ne_vs_un (ninS ne_vs_ur (ninS ne_vs_uh nin0))))))
      have K54 : Keep h0 T54.heap [a2, vs, ui, un, ur, uh] := Keep.trans K53 Kq54 (allS (Or.inl (List.mem_of_getElem? (i := 0) rfl)) (allS (Or.inl (List.mem_of_getElem? (i := 2) rfl)) (allS (Or.inl (List.mem_of_getElem? (i := 3) rfl)) (allS (Or.inl (List.mem_of_getElem? (i := 4) rfl)) (allS (Or.inl (List.mem_of_getElem? (i := 5) rfl)) all0)))))
      have Z54 : n0 ≤ T54.heap.size := Nat.le_trans Z53 Kq54.1
      obtain ⟨E_a2_55, F_ids_a2_56, F_incarnations_a2_57, F_rounds_a2_58, F_heard_a2_59, F_count_a2_60⟩ := O54_0
      obtain ⟨T61, X61, e61, st61⟩ := getF X54 hx hZ hown (host := "") (Or.inl (hw _ (List.mem_of_getElem? (i := 42) rfl))) Via.refl rfl fF_a1_size_x54 (g := (mkF m 4 #[.val (.ref a1), .val (.ref a2), .val (.int (2 : Int32))] [(.ref a1), (.int (2 : Int32))])) rfl rfl (hb hby d9_4)
      refine own_pre (A := T61.setTop (mkF m 51 #[.val (.ref a1), .val (.ref a2), .val (.int (2 : Int32))] [])) (fun tt kt => ?_) ?_
      · show Steps p.tables e below (T46.setTop (mkF m 16 #[.val (.ref a1), .val (.ref a2), .val (.int (1 : Int32))] [(.int (own_is (1 : Int32) (4 : Int32) (own_putJ gs (0 : Int32) (((gs 0) &&& (-5 : Int64)) ||| (8 : Int64)))))])) _
        refine XS.ifNo X46.here hx rfl (hb hby d9_16) rfl ((if0 _ _).trans (feq hc16_47).1) ?_
        refine XS.aloadN X46.here hx rfl (hb hby d9_19) rfl rfl ?_
        show Steps p.tables e below (T46.setTop (mkF m 20 #[.val (.ref a1), .val (.ref a2), .val (.int (1 : Int32))] [(.ref a1)])) _
        refine st49 _ ?_
        show Steps p.tables e below (T49.setTop (mkF m 23 #[.val (.ref a1), .val (.ref a2), .val (.int (1 : Int32))] [(.ref vs)])) _
        refine XS.iloadN X49.here hx rfl (hb hby d9_23) rfl ?_
        refine XS.aloadN X49.here hx rfl (hb hby d9_24) rfl rfl ?_
        show Steps p.tables e below (T49.setTop (mkF m 25 #[.val (.ref a1), .val (.ref a2), .val (.int (1 : Int32))] [(.ref a1), (.int (1 : Int32)), (.ref vs)])) _
        refine st50 _ ?_
        show Steps p.tables e below (T50.setTop (mkF m 28 #[.val (.ref a1), .val (.ref a2), .val (.int (1 : Int32))] [(.ref vs), (.int (1 : Int32)), (.ref vs)])) _
        refine XS.iloadN X50.here hx rfl (hb hby d9_28) rfl ?_
        show Steps p.tables e below (T50.setTop (mkF m 29 #[.val (.ref a1), .val (.ref a2), .val (.int (1 : Int32))] [(.int (1 : Int32)), (.ref vs), (.int (1 : Int32)), (.ref vs)])) _
        refine X50.laload hx (j := (1 : Int32)) (v := (.long ((own_putJ gs (0 : Int32) (((gs 0) &&& (-5 : Int64)) ||| (8 : Int64))) 1))) (by rw [e50]; exact Ar51.1) (State.isArrayOf_alike hZ.alike Ar51.2.1) Ar51.2.2 hin51 hat51 (g := (mkF m 29 #[.val (.ref a1), .val (.ref a2), .val (.int (1 : Int32))] [(.int (1 : Int32)), (.ref vs), (.int (1 : Int32)), (.ref vs)])) rfl rfl (hb hby d9_29) _ ?_
        show Steps p.tables e below (T50.setTop (mkF m 30 #[.val (.ref a1), .val (.ref a2), .val (.int (1 : Int32))] [(.long ((own_putJ gs (0 : Int32) (((gs 0) &&& (-5 : Int64)) ||| (8 : Int64))) 1)), (.int (1 : Int32)), (.ref vs)])) _
        refine X50.ldc2Long hx hown (mvT hZ (hw _ (List.mem_of_getElem? (i := 133) rfl))) (g := (mkF m 30 #[.val (.ref a1), .val (.ref a2), .val (.int (1 : Int32))] [(.long ((own_putJ gs (0 : Int32) (((gs 0) &&& (-5 : Int64)) ||| (8 : Int64))) 1)), (.int (1 : Int32)), (.ref vs)])) rfl (hb hby d9_30) _ ?_
        show Steps p.tables e below (T50.setTop (mkF m 33 #[.val (.ref a1), .val (.ref a2), .val (.int (1 : Int32))] [(.long (-5 : Int64)), (.long ((own_putJ gs (0 : Int32) (((gs 0) &&& (-5 : Int64)) ||| (8 : Int64))) 1)), (.int (1 : Int32)), (.ref vs)])) _
        refine XS.land X50.here hx rfl (hb hby d9_33) rfl ?_
        show Steps p.tables e below (T50.setTop (mkF m 34 #[.val (.ref a1), .val (.ref a2), .val (.int (1 : Int32))] [(.long (((own_putJ gs (0 : Int32) (((gs 0) &&& (-5 : Int64)) ||| (8 : Int64))) 1) &&& (-5 : Int64))), (.int (1 : Int32)), (.ref vs)])) _
        refine X50.ldc2Long hx hown (mvT hZ (hw _ (List.mem_of_getElem? (i := 134) rfl))) (g := (mkF m 34 #[.val (.ref a1), .val (.ref a2), .val (.int (1 : Int32))] [(.long (((own_putJ gs (0 : Int32) (((gs 0) &&& (-5 : Int64)) ||| (8 : Int64))) 1) &&& (-5 : Int64))), (.int (1 : Int32)), (.ref vs)])) rfl (hb hby d9_34) _ ?_
        show Steps p.tables e below (T50.setTop (mkF m 37 #[.val (.ref a1), .val (.ref a2), .val (.int (1 : Int32))] [(.long (8 : Int64)), (.long (((own_putJ gs (0 : Int32) (((gs 0) &&& (-5 : Int64)) ||| (8 : Int64))) 1) &&& (-5 : Int64))), (.int (1 : Int32)), (.ref vs)])) _
        refine XS.lor X50.here hx rfl (hb hby d9_37) rfl ?_
        show Steps p.tables e below (T50.setTop (mkF m 38 #[.val (.ref a1), .val (.ref a2), .val (.int (1 : Int32))] [(.long ((((own_putJ gs (0 : Int32) (((gs 0) &&& (-5 : Int64)) ||| (8 : Int64))) 1) &&& (-5 : Int64)) ||| (8 : Int64))), (.int (1 : Int32)), (.ref vs)])) _
        refine st53 _ ?_
        show Steps p.tables e below (T53.setTop (mkF m 39 #[.val (.ref a1), .val (.ref a2), .val (.int (1 : Int32))] [])) _
        refine XS.aloadN X53.here hx rfl (hb hby d9_39) rfl rfl ?_
        refine XS.iloadN X53.here hx rfl (hb hby d9_40) rfl ?_
        refine XS.aloadN X53.here hx rfl (hb hby d9_41) rfl rfl ?_
        show Steps p.tables e below (T53.setTop (mkF m 42 #[.val (.ref a1), .val (.ref a2), .val (.int (1 : Int32))] [(.ref a2), (.int (1 : Int32)), (.ref a1)])) _
        refine st54.trans ?_
        show Steps p.tables e below (T54.setTop (mkF m 45 #[.val (.ref a1), .val (.ref a2), .val (.int (1 : Int32))] [])) _
        refine XS.iinc X54.here hx rfl (hb hby d9_45) rfl (l' := #[.val (.ref a1), .val (.ref a2), .val (.int (2 : Int32))]) rfl ?_
        refine XS.goto X54.here hx rfl (pc0 := 48) (pc' := 2) rfl (hb hby d9_48) (by decide) (by decide) ?_
        refine XS.iloadN X54.here hx rfl (hb hby d9_2) rfl ?_
        refine XS.aloadN X54.here hx rfl (hb hby d9_3) rfl rfl ?_
        show Steps p.tables e below (T54.setTop (mkF m 4 #[.val (.ref a1), .val (.ref a2), .val (.int (2 : Int32))] [(.ref a1), (.int (2 : Int32))])) _
        refine st61 _ ?_
        show Steps p.tables e below (T61.setTop (mkF m 7 #[.val (.ref a1), .val (.ref a2), .val (.int (2 : Int32))] [(.int (2 : Int32)), (.int (2 : Int32))])) _
        refine XS.icmpYes X61.here hx rfl (pc0 := 7) (pc' := 51) rfl (hb hby d9_7) rfl (flt ((by decide) : ¬ ((2 : Int32) < (2 : Int32)))).2.1 (by decide) (by decide) ?_
        exact kt
      show own_End p e below s (T61.setTop (mkF m 51 #[.val (.ref a1), .val (.ref a2), .val (.int (2 : Int32))] [])) (Q9 Z a1 a2 vi vn vs vm ui un ur uh gi gn gs bi bn br bh h0 n0) ({ frames := 3, cells := 0, slots := 0, locals := 43 } : Room).cells ({ frames := 3, cells := 0, slots := 0, locals := 43 } : Room).slots
      obtain ⟨fs, hr, hrun, hended, hW, hsame⟩ := X61.leave (v := none) (fun _ => rfl)
      refine ⟨_, _, ?_, hrun, hended, _, _, rfl, ?_, ⟨_, rfl⟩, hW, hsame.mono (by decide) (by decide)⟩
      · exact X61.returnOut hx Bd.returns (hb hby d9_51) hr
      · show Q9 Z a1 a2 vi vn vs vm ui un ur uh gi gn gs bi bn br bh h0 n0 _ T61.heap _
        rw [e61]
        exact ⟨rfl, N54, K54, (own_Arr.congr (w := Value.long) fA_vs_x54 (fun i _ => by have e0 : own_rel gs (0 : Int32) = (own_putJ gs (0 : Int32) (((gs 0) &&& (-5 : Int64)) ||| (8 : Int64))) := if_neg hc16_15; have e1 : own_rel (own_putJ gs (0 : Int32) (((gs 0) &&& (-5 : Int64)) ||| (8 : Int64))) (1 : Int32) = (own_putJ (own_putJ gs (0 : Int32) (((gs 0) &&& (-5 : Int64)) ||| (8 : Int64))) (1 : Int32) ((((own_putJ gs (0 : Int32) (((gs 0) &&& (-5 : Int64)) ||| (8 : Int64))) 1) &&& (-5 : Int64)) ||| (8 : Int64))) := if_neg hc16_47; rw [e0, e1]))⟩
def own_b0_g32 (p1 : Int32) (p2 : Int32) (p3 : Int32) (q4 : Int64) (p5 : Int32) (q6 : Int64) (rd : Int32) (ct : Int32) (ar : Int64) (pos : Int32) (fn : Int32) (fq : Int32) (fr : Int32) (fs : Int32) : Nat → Int32 := fun ii => (own_put (own_put (fun _ => (0 : Int32)) (0 : Int32) (5 : Int32)) (1 : Int32) (9 : Int32)) ii
def own_b0_g33 (p1 : Int32) (p2 : Int32) (p3 : Int32) (q4 : Int64) (p5 : Int32) (q6 : Int64) (rd : Int32) (ct : Int32) (ar : Int64) (pos : Int32) (fn : Int32) (fq : Int32) (fr : Int32) (fs : Int32) : Nat → Int64 := fun ii => (own_putJ (own_putJ (fun _ => (0 : Int64)) (0 : Int32) (0 : Int64)) (1 : Int32) (0 : Int64)) ii
def own_b0_g34 (p1 : Int32) (p2 : Int32) (p3 : Int32) (q4 : Int64) (p5 : Int32) (q6 : Int64) (rd : Int32) (ct : Int32) (ar : Int64) (pos : Int32) (fn : Int32) (fq : Int32) (fr : Int32) (fs : Int32) : Nat → Int64 := fun ii => (own_putJ (own_putJ (fun _ => (0 : Int64)) (0 : Int32) (0 : Int64)) (1 : Int32) (0 : Int64)) ii
def own_b0_g35 (p1 : Int32) (p2 : Int32) (p3 : Int32) (q4 : Int64) (p5 : Int32) (q6 : Int64) (rd : Int32) (ct : Int32) (ar : Int64) (pos : Int32) (fn : Int32) (fq : Int32) (fr : Int32) (fs : Int32) : Nat → Int32 := fun ii => (own_put (own_put (fun _ => (0 : Int32)) (0 : Int32) (0 : Int32)) (1 : Int32) (0 : Int32)) ii
def own_b0_g37 (p1 : Int32) (p2 : Int32) (p3 : Int32) (q4 : Int64) (p5 : Int32) (q6 : Int64) (rd : Int32) (ct : Int32) (ar : Int64) (pos : Int32) (fn : Int32) (fq : Int32) (fr : Int32) (fs : Int32) : Nat → Int64 := fun ii => (own_putJ (own_b0_g33 p1 p2 p3 q4 p5 q6 rd ct ar pos fn fq fr fs) (0 : Int32) (((((((q6.toUInt64 >>> ((32 : Int32) &&& 0x3f).toInt64.toUInt64).toInt64).toInt32).toInt64) <<< ((32 : Int32) &&& 0x3f).toInt64) ||| (((((q6.toInt32).toUInt32 >>> ((16 : Int32) &&& 31).toUInt32).toInt32).toInt64) <<< ((16 : Int32) &&& 0x3f).toInt64)) ||| (((q6.toInt32) &&& (65535 : Int32)).toInt64))) ii
def own_b0_g38 (p1 : Int32) (p2 : Int32) (p3 : Int32) (q4 : Int64) (p5 : Int32) (q6 : Int64) (rd : Int32) (ct : Int32) (ar : Int64) (pos : Int32) (fn : Int32) (fq : Int32) (fr : Int32) (fs : Int32) : Nat → Int64 := fun ii => (own_putJ (own_b0_g34 p1 p2 p3 q4 p5 q6 rd ct ar pos fn fq fr fs) (0 : Int32) ((((q6.toUInt64 >>> ((5 : Int32) &&& 0x3f).toInt64.toUInt64).toInt64) <<< ((4 : Int32) &&& 0x3f).toInt64) ||| (((own_b0_g34 p1 p2 p3 q4 p5 q6 rd ct ar pos fn fq fr fs) (0 : Int32).toNatClampNeg) &&& (15 : Int64)))) ii
def own_b0_g40 (p1 : Int32) (p2 : Int32) (p3 : Int32) (q4 : Int64) (p5 : Int32) (q6 : Int64) (rd : Int32) (ct : Int32) (ar : Int64) (pos : Int32) (fn : Int32) (fq : Int32) (fr : Int32) (fs : Int32) : Nat → Int64 := fun ii => (own_set (own_b0_g38 p1 p2 p3 q4 p5 q6 rd ct ar pos fn fq fr fs) (0 : Int32) (4 : Int32) fr) ii
def own_b0_g42 (p1 : Int32) (p2 : Int32) (p3 : Int32) (q4 : Int64) (p5 : Int32) (q6 : Int64) (rd : Int32) (ct : Int32) (ar : Int64) (pos : Int32) (fn : Int32) (fq : Int32) (fr : Int32) (fs : Int32) : Nat → Int64 := fun ii => (own_rel (own_rel (own_b0_g40 p1 p2 p3 q4 p5 q6 rd ct ar pos fn fq fr fs) (0 : Int32)) (1 : Int32)) ii
def own_b0_g44 (p1 : Int32) (p2 : Int32) (p3 : Int32) (q4 : Int64) (p5 : Int32) (q6 : Int64) (rd : Int32) (ct : Int32) (ar : Int64) (pos : Int32) (fn : Int32) (fq : Int32) (fr : Int32) (fs : Int32) : Nat → Int64 := fun ii => (own_set (own_b0_g42 p1 p2 p3 q4 p5 q6 rd ct ar pos fn fq fr fs) (0 : Int32) (4 : Int32) fq) ii
def own_b0_g46 (p1 : Int32) (p2 : Int32) (p3 : Int32) (q4 : Int64) (p5 : Int32) (q6 : Int64) (rd : Int32) (ct : Int32) (ar : Int64) (pos : Int32) (fn : Int32) (fq : Int32) (fr : Int32) (fs : Int32) : Nat → Int64 := fun ii => (own_set (own_b0_g44 p1 p2 p3 q4 p5 q6 rd ct ar pos fn fq fr fs) (0 : Int32) (1 : Int32) fn) ii
def own_b0_g48 (p1 : Int32) (p2 : Int32) (p3 : Int32) (q4 : Int64) (p5 : Int32) (q6 : Int64) (rd : Int32) (ct : Int32) (ar : Int64) (pos : Int32) (fn : Int32) (fq : Int32) (fr : Int32) (fs : Int32) : Nat → Int64 := fun ii => (own_set (own_b0_g46 p1 p2 p3 q4 p5 q6 rd ct ar pos fn fq fr fs) (0 : Int32) (2 : Int32) fs) ii
def own_b0_g50 (p1 : Int32) (p2 : Int32) (p3 : Int32) (q4 : Int64) (p5 : Int32) (q6 : Int64) (rd : Int32) (ct : Int32) (ar : Int64) (pos : Int32) (fn : Int32) (fq : Int32) (fr : Int32) (fs : Int32) : Nat → Int64 := fun ii => (own_putJ (own_b0_g37 p1 p2 p3 q4 p5 q6 rd ct ar pos fn fq fr fs) (0 : Int32) ((((p1.toInt64) <<< ((32 : Int32) &&& 0x3f).toInt64) ||| ((rd.toInt64) <<< ((16 : Int32) &&& 0x3f).toInt64)) ||| (ct.toInt64))) ii
def own_b0_g51 (p1 : Int32) (p2 : Int32) (p3 : Int32) (q4 : Int64) (p5 : Int32) (q6 : Int64) (rd : Int32) (ct : Int32) (ar : Int64) (pos : Int32) (fn : Int32) (fq : Int32) (fr : Int32) (fs : Int32) : Nat → Int64 := fun ii => (own_putJ (own_b0_g48 p1 p2 p3 q4 p5 q6 rd ct ar pos fn fq fr fs) (0 : Int32) ((ar <<< ((4 : Int32) &&& 0x3f).toInt64) ||| (((own_b0_g48 p1 p2 p3 q4 p5 q6 rd ct ar pos fn fq fr fs) (0 : Int32).toNatClampNeg) &&& (15 : Int64)))) ii
def own_law_87 (p1 : Int32) (p2 : Int32) (p3 : Int32) (q4 : Int64) (p5 : Int32) (q6 : Int64) (rd : Int32) (ct : Int32) (ar : Int64) (pos : Int32) (fn : Int32) (fq : Int32) (fr : Int32) (fs : Int32) : Int32 := (if (own_inc (0 : Int32) (own_b0_g50 p1 p2 p3 q4 p5 q6 rd ct ar pos fn fq fr fs)) = p1 then (if (own_rnd (0 : Int32) (own_b0_g50 p1 p2 p3 q4 p5 q6 rd ct ar pos fn fq fr fs)) = rd then (if (own_hrd (0 : Int32) (own_b0_g50 p1 p2 p3 q4 p5 q6 rd ct ar pos fn fq fr fs)) = ct then (if (own_arr (0 : Int32) (own_b0_g51 p1 p2 p3 q4 p5 q6 rd ct ar pos fn fq fr fs)) = ar then (if (own_named (0 : Int32) (own_b0_g51 p1 p2 p3 q4 p5 q6 rd ct ar pos fn fq fr fs)) = fn then (if (own_queued (0 : Int32) (own_b0_g51 p1 p2 p3 q4 p5 q6 rd ct ar pos fn fq fr fs)) = fq then (if (own_relayed (0 : Int32) (own_b0_g51 p1 p2 p3 q4 p5 q6 rd ct ar pos fn fq fr fs)) = fr then (if (own_any (own_b0_g51 p1 p2 p3 q4 p5 q6 rd ct ar pos fn fq fr fs)) = fs then (if (own_inc (1 : Int32) (own_b0_g50 p1 p2 p3 q4 p5 q6 rd ct ar pos fn fq fr fs)) = (0 : Int32) then (if (own_rnd (1 : Int32) (own_b0_g50 p1 p2 p3 q4 p5 q6 rd ct ar pos fn fq fr fs)) = (0 : Int32) then (if (own_arr (1 : Int32) (own_b0_g51 p1 p2 p3 q4 p5 q6 rd ct ar pos fn fq fr fs)) = (0 : Int64) then (1 : Int32) else (0 : Int32)) else (0 : Int32)) else (0 : Int32)) else (0 : Int32)) else (0 : Int32)) else (0 : Int32)) else (0 : Int32)) else (0 : Int32)) else (0 : Int32)) else (0 : Int32)) else (0 : Int32))
def own_law_72 (p1 : Int32) (p2 : Int32) (p3 : Int32) (q4 : Int64) (p5 : Int32) (q6 : Int64) (rd : Int32) (ct : Int32) (ar : Int64) (pos : Int32) (fn : Int32) (fq : Int32) (fr : Int32) : Int32 := (if (p5 &&& (16 : Int32)) = (0 : Int32) then (own_law_87 p1 p2 p3 q4 p5 q6 rd ct ar pos fn fq fr (0 : Int32)) else (own_law_87 p1 p2 p3 q4 p5 q6 rd ct ar pos fn fq fr (1 : Int32)))
def own_law_57 (p1 : Int32) (p2 : Int32) (p3 : Int32) (q4 : Int64) (p5 : Int32) (q6 : Int64) (rd : Int32) (ct : Int32) (ar : Int64) (pos : Int32) (fn : Int32) (fq : Int32) : Int32 := (if (p5 &&& (8 : Int32)) = (0 : Int32) then (own_law_72 p1 p2 p3 q4 p5 q6 rd ct ar pos fn fq (0 : Int32)) else (own_law_72 p1 p2 p3 q4 p5 q6 rd ct ar pos fn fq (1 : Int32)))
def own_law_43 (p1 : Int32) (p2 : Int32) (p3 : Int32) (q4 : Int64) (p5 : Int32) (q6 : Int64) (rd : Int32) (ct : Int32) (ar : Int64) (pos : Int32) (fn : Int32) : Int32 := (if (p5 &&& (4 : Int32)) = (0 : Int32) then (own_law_57 p1 p2 p3 q4 p5 q6 rd ct ar pos fn (0 : Int32)) else (own_law_57 p1 p2 p3 q4 p5 q6 rd ct ar pos fn (1 : Int32)))
def own_b0_g108 (p1 : Int32) (p2 : Int32) (p3 : Int32) (q4 : Int64) (p5 : Int32) (q6 : Int64) (rd : Int32) (ct : Int32) (ar : Int64) (pos : Int32) (fn : Int32) (fq : Int32) (fr : Int32) (fs : Int32) : Nat → Int32 := fun ii => (own_put (own_put (fun _ => (0 : Int32)) (0 : Int32) (5 : Int32)) (1 : Int32) (9 : Int32)) ii
def own_b0_g109 (p1 : Int32) (p2 : Int32) (p3 : Int32) (q4 : Int64) (p5 : Int32) (q6 : Int64) (rd : Int32) (ct : Int32) (ar : Int64) (pos : Int32) (fn : Int32) (fq : Int32) (fr : Int32) (fs : Int32) : Nat → Int64 := fun ii => (own_putJ (own_putJ (fun _ => (0 : Int64)) (0 : Int32) (0 : Int64)) (1 : Int32) (0 : Int64)) ii
def own_b0_g110 (p1 : Int32) (p2 : Int32) (p3 : Int32) (q4 : Int64) (p5 : Int32) (q6 : Int64) (rd : Int32) (ct : Int32) (ar : Int64) (pos : Int32) (fn : Int32) (fq : Int32) (fr : Int32) (fs : Int32) : Nat → Int64 := fun ii => (own_putJ (own_putJ (fun _ => (0 : Int64)) (0 : Int32) (0 : Int64)) (1 : Int32) (0 : Int64)) ii
def own_b0_g111 (p1 : Int32) (p2 : Int32) (p3 : Int32) (q4 : Int64) (p5 : Int32) (q6 : Int64) (rd : Int32) (ct : Int32) (ar : Int64) (pos : Int32) (fn : Int32) (fq : Int32) (fr : Int32) (fs : Int32) : Nat → Int32 := fun ii => (own_put (own_put (fun _ => (0 : Int32)) (0 : Int32) (0 : Int32)) (1 : Int32) (0 : Int32)) ii
def own_b0_g113 (p1 : Int32) (p2 : Int32) (p3 : Int32) (q4 : Int64) (p5 : Int32) (q6 : Int64) (rd : Int32) (ct : Int32) (ar : Int64) (pos : Int32) (fn : Int32) (fq : Int32) (fr : Int32) (fs : Int32) : Nat → Int64 := fun ii => (own_putJ (own_b0_g109 p1 p2 p3 q4 p5 q6 rd ct ar pos fn fq fr fs) (1 : Int32) (((((((q6.toUInt64 >>> ((32 : Int32) &&& 0x3f).toInt64.toUInt64).toInt64).toInt32).toInt64) <<< ((32 : Int32) &&& 0x3f).toInt64) ||| (((((q6.toInt32).toUInt32 >>> ((16 : Int32) &&& 31).toUInt32).toInt32).toInt64) <<< ((16 : Int32) &&& 0x3f).toInt64)) ||| (((q6.toInt32) &&& (65535 : Int32)).toInt64))) ii
def own_b0_g114 (p1 : Int32) (p2 : Int32) (p3 : Int32) (q4 : Int64) (p5 : Int32) (q6 : Int64) (rd : Int32) (ct : Int32) (ar : Int64) (pos : Int32) (fn : Int32) (fq : Int32) (fr : Int32) (fs : Int32) : Nat → Int64 := fun ii => (own_putJ (own_b0_g110 p1 p2 p3 q4 p5 q6 rd ct ar pos fn fq fr fs) (1 : Int32) ((((q6.toUInt64 >>> ((5 : Int32) &&& 0x3f).toInt64.toUInt64).toInt64) <<< ((4 : Int32) &&& 0x3f).toInt64) ||| (((own_b0_g110 p1 p2 p3 q4 p5 q6 rd ct ar pos fn fq fr fs) (1 : Int32).toNatClampNeg) &&& (15 : Int64)))) ii
def own_b0_g116 (p1 : Int32) (p2 : Int32) (p3 : Int32) (q4 : Int64) (p5 : Int32) (q6 : Int64) (rd : Int32) (ct : Int32) (ar : Int64) (pos : Int32) (fn : Int32) (fq : Int32) (fr : Int32) (fs : Int32) : Nat → Int64 := fun ii => (own_set (own_b0_g114 p1 p2 p3 q4 p5 q6 rd ct ar pos fn fq fr fs) (1 : Int32) (4 : Int32) fr) ii
def own_b0_g118 (p1 : Int32) (p2 : Int32) (p3 : Int32) (q4 : Int64) (p5 : Int32) (q6 : Int64) (rd : Int32) (ct : Int32) (ar : Int64) (pos : Int32) (fn : Int32) (fq : Int32) (fr : Int32) (fs : Int32) : Nat → Int64 := fun ii => (own_rel (own_rel (own_b0_g116 p1 p2 p3 q4 p5 q6 rd ct ar pos fn fq fr fs) (0 : Int32)) (1 : Int32)) ii
def own_b0_g120 (p1 : Int32) (p2 : Int32) (p3 : Int32) (q4 : Int64) (p5 : Int32) (q6 : Int64) (rd : Int32) (ct : Int32) (ar : Int64) (pos : Int32) (fn : Int32) (fq : Int32) (fr : Int32) (fs : Int32) : Nat → Int64 := fun ii => (own_set (own_b0_g118 p1 p2 p3 q4 p5 q6 rd ct ar pos fn fq fr fs) (1 : Int32) (4 : Int32) fq) ii
def own_b0_g122 (p1 : Int32) (p2 : Int32) (p3 : Int32) (q4 : Int64) (p5 : Int32) (q6 : Int64) (rd : Int32) (ct : Int32) (ar : Int64) (pos : Int32) (fn : Int32) (fq : Int32) (fr : Int32) (fs : Int32) : Nat → Int64 := fun ii => (own_set (own_b0_g120 p1 p2 p3 q4 p5 q6 rd ct ar pos fn fq fr fs) (1 : Int32) (1 : Int32) fn) ii
def own_b0_g124 (p1 : Int32) (p2 : Int32) (p3 : Int32) (q4 : Int64) (p5 : Int32) (q6 : Int64) (rd : Int32) (ct : Int32) (ar : Int64) (pos : Int32) (fn : Int32) (fq : Int32) (fr : Int32) (fs : Int32) : Nat → Int64 := fun ii => (own_set (own_b0_g122 p1 p2 p3 q4 p5 q6 rd ct ar pos fn fq fr fs) (1 : Int32) (2 : Int32) fs) ii
def own_b0_g126 (p1 : Int32) (p2 : Int32) (p3 : Int32) (q4 : Int64) (p5 : Int32) (q6 : Int64) (rd : Int32) (ct : Int32) (ar : Int64) (pos : Int32) (fn : Int32) (fq : Int32) (fr : Int32) (fs : Int32) : Nat → Int64 := fun ii => (own_putJ (own_b0_g113 p1 p2 p3 q4 p5 q6 rd ct ar pos fn fq fr fs) (1 : Int32) ((((p1.toInt64) <<< ((32 : Int32) &&& 0x3f).toInt64) ||| ((rd.toInt64) <<< ((16 : Int32) &&& 0x3f).toInt64)) ||| (ct.toInt64))) ii
def own_b0_g127 (p1 : Int32) (p2 : Int32) (p3 : Int32) (q4 : Int64) (p5 : Int32) (q6 : Int64) (rd : Int32) (ct : Int32) (ar : Int64) (pos : Int32) (fn : Int32) (fq : Int32) (fr : Int32) (fs : Int32) : Nat → Int64 := fun ii => (own_putJ (own_b0_g124 p1 p2 p3 q4 p5 q6 rd ct ar pos fn fq fr fs) (1 : Int32) ((ar <<< ((4 : Int32) &&& 0x3f).toInt64) ||| (((own_b0_g124 p1 p2 p3 q4 p5 q6 rd ct ar pos fn fq fr fs) (1 : Int32).toNatClampNeg) &&& (15 : Int64)))) ii
def own_law_87b (p1 : Int32) (p2 : Int32) (p3 : Int32) (q4 : Int64) (p5 : Int32) (q6 : Int64) (rd : Int32) (ct : Int32) (ar : Int64) (pos : Int32) (fn : Int32) (fq : Int32) (fr : Int32) (fs : Int32) : Int32 := (if (own_inc (1 : Int32) (own_b0_g126 p1 p2 p3 q4 p5 q6 rd ct ar pos fn fq fr fs)) = p1 then (if (own_rnd (1 : Int32) (own_b0_g126 p1 p2 p3 q4 p5 q6 rd ct ar pos fn fq fr fs)) = rd then (if (own_hrd (1 : Int32) (own_b0_g126 p1 p2 p3 q4 p5 q6 rd ct ar pos fn fq fr fs)) = ct then (if (own_arr (1 : Int32) (own_b0_g127 p1 p2 p3 q4 p5 q6 rd ct ar pos fn fq fr fs)) = ar then (if (own_named (1 : Int32) (own_b0_g127 p1 p2 p3 q4 p5 q6 rd ct ar pos fn fq fr fs)) = fn then (if (own_queued (1 : Int32) (own_b0_g127 p1 p2 p3 q4 p5 q6 rd ct ar pos fn fq fr fs)) = fq then (if (own_relayed (1 : Int32) (own_b0_g127 p1 p2 p3 q4 p5 q6 rd ct ar pos fn fq fr fs)) = fr then (if (own_any (own_b0_g127 p1 p2 p3 q4 p5 q6 rd ct ar pos fn fq fr fs)) = fs then (if (own_inc (0 : Int32) (own_b0_g126 p1 p2 p3 q4 p5 q6 rd ct ar pos fn fq fr fs)) = (0 : Int32) then (if (own_rnd (0 : Int32) (own_b0_g126 p1 p2 p3 q4 p5 q6 rd ct ar pos fn fq fr fs)) = (0 : Int32) then (if (own_arr (0 : Int32) (own_b0_g127 p1 p2 p3 q4 p5 q6 rd ct ar pos fn fq fr fs)) = (0 : Int64) then (1 : Int32) else (0 : Int32)) else (0 : Int32)) else (0 : Int32)) else (0 : Int32)) else (0 : Int32)) else (0 : Int32)) else (0 : Int32)) else (0 : Int32)) else (0 : Int32)) else (0 : Int32)) else (0 : Int32))
def own_law_72b (p1 : Int32) (p2 : Int32) (p3 : Int32) (q4 : Int64) (p5 : Int32) (q6 : Int64) (rd : Int32) (ct : Int32) (ar : Int64) (pos : Int32) (fn : Int32) (fq : Int32) (fr : Int32) : Int32 := (if (p5 &&& (16 : Int32)) = (0 : Int32) then (own_law_87b p1 p2 p3 q4 p5 q6 rd ct ar pos fn fq fr (0 : Int32)) else (own_law_87b p1 p2 p3 q4 p5 q6 rd ct ar pos fn fq fr (1 : Int32)))
def own_law_57b (p1 : Int32) (p2 : Int32) (p3 : Int32) (q4 : Int64) (p5 : Int32) (q6 : Int64) (rd : Int32) (ct : Int32) (ar : Int64) (pos : Int32) (fn : Int32) (fq : Int32) : Int32 := (if (p5 &&& (8 : Int32)) = (0 : Int32) then (own_law_72b p1 p2 p3 q4 p5 q6 rd ct ar pos fn fq (0 : Int32)) else (own_law_72b p1 p2 p3 q4 p5 q6 rd ct ar pos fn fq (1 : Int32)))
def own_law_43b (p1 : Int32) (p2 : Int32) (p3 : Int32) (q4 : Int64) (p5 : Int32) (q6 : Int64) (rd : Int32) (ct : Int32) (ar : Int64) (pos : Int32) (fn : Int32) : Int32 := (if (p5 &&& (4 : Int32)) = (0 : Int32) then (own_law_57b p1 p2 p3 q4 p5 q6 rd ct ar pos fn (0 : Int32)) else (own_law_57b p1 p2 p3 q4 p5 q6 rd ct ar pos fn (1 : Int32)))
def own_law_25 (p1 : Int32) (p2 : Int32) (p3 : Int32) (q4 : Int64) (p5 : Int32) (q6 : Int64) (rd : Int32) (ct : Int32) (ar : Int64) (pos : Int32) : Int32 := (if pos = (0 : Int32) then (if (p5 &&& (2 : Int32)) = (0 : Int32) then (own_law_43 p1 p2 p3 q4 p5 q6 rd ct ar pos (0 : Int32)) else (own_law_43 p1 p2 p3 q4 p5 q6 rd ct ar pos (1 : Int32))) else (if (p5 &&& (2 : Int32)) = (0 : Int32) then (own_law_43b p1 p2 p3 q4 p5 q6 rd ct ar pos (0 : Int32)) else (own_law_43b p1 p2 p3 q4 p5 q6 rd ct ar pos (1 : Int32))))
def own_law_19 (p1 : Int32) (p2 : Int32) (p3 : Int32) (q4 : Int64) (p5 : Int32) (q6 : Int64) (rd : Int32) (ct : Int32) (ar : Int64) : Int32 := (own_law_25 p1 p2 p3 q4 p5 q6 rd ct ar (p5 &&& (1 : Int32)))
def own_law_12 (p1 : Int32) (p2 : Int32) (p3 : Int32) (q4 : Int64) (p5 : Int32) (q6 : Int64) (rd : Int32) (ct : Int32) : Int32 := (own_law_19 p1 p2 p3 q4 p5 q6 rd ct (q4 &&& (576460752303423487 : Int64)))
def own_law_6 (p1 : Int32) (p2 : Int32) (p3 : Int32) (q4 : Int64) (p5 : Int32) (q6 : Int64) (rd : Int32) : Int32 := (own_law_12 p1 p2 p3 q4 p5 q6 rd (p3 &&& (65535 : Int32)))
def own_law (p1 : Int32) (p2 : Int32) (p3 : Int32) (q4 : Int64) (p5 : Int32) (q6 : Int64) : Int32 := (own_law_6 p1 p2 p3 q4 p5 q6 (p2 &&& (65535 : Int32)))
theorem pn_0 : plainName "com/example/atoll/atoll/detect/HeldOriginsSetNewsPinLaw" = true := by first | (simp [plainName, overriddenIn]; done) | decide +kernel
theorem pd_0_0 : parseMethodDescriptor "()V" = some ⟨[], none⟩ := by decide +kernel
theorem pd_0_1 : parseMethodDescriptor "(I)V" = some ⟨[.int], none⟩ := by decide +kernel
theorem pd_0_2 : parseMethodDescriptor "(II)V" = some ⟨[.int, .int], none⟩ := by decide +kernel
theorem pd_0_3 : parseMethodDescriptor "(IIIIJ)V" = some ⟨[.int, .int, .int, .int, .long], none⟩ := by decide +kernel
theorem pd_0_4 : parseMethodDescriptor "(IZ)V" = some ⟨[.int, .boolean], none⟩ := by decide +kernel
theorem pd_0_5 : parseMethodDescriptor "(Lcom/example/atoll/atoll/detect/Beacon$Builder;)V" = some ⟨[(.object "com/example/atoll/atoll/detect/Beacon$Builder")], none⟩ := by decide +kernel
theorem pd_0_6 : parseMethodDescriptor "(I)I" = some ⟨[.int], some .int⟩ := by decide +kernel
theorem pd_0_7 : parseMethodDescriptor "(I)J" = some ⟨[.int], some .long⟩ := by decide +kernel
theorem pd_0_8 : parseMethodDescriptor "(I)Z" = some ⟨[.int], some .boolean⟩ := by decide +kernel
theorem pd_0_9 : parseMethodDescriptor "()Z" = some ⟨[], some .boolean⟩ := by decide +kernel
theorem ef_0 (m : MethodId) (x0 : Int32) (x1 : Int32) (x2 : Int32) (x3 : Int64) (x4 : Int32) (x5 : Int64) : entryFrame m #[(.int x0), (.int x1), (.int x2), (.long x3), (.int x4), (.long x5)] maxLocals = mkF m 0 #[.val (.int x0), .val (.int x1), .val (.int x2), .val (.long x3), .second, .val (.int x4), .val (.long x5), .second, .unset, .unset, .unset, .unset, .unset, .unset, .unset, .unset, .unset, .unset, .unset, .unset] [] := by first | (simp [entryFrame, mkF, argsToLocals, Value.category, maxLocals]; done) | rfl
def Q0 (Z : State) (p1 : Int32) (p2 : Int32) (p3 : Int32) (q4 : Int64) (p5 : Int32) (q6 : Int64) (h0 : Heap) (n0 : Nat) (v : Option Value) (h : Heap) (L : List Loc) : Prop := v = some (.int (own_law p1 p2 p3 q4 p5 q6)) ∧ Fr n0 L
set_option maxRecDepth 65536 in
set_option maxHeartbeats 40000000 in
theorem rm0 (l : Launch) (Z : State) (a0 : Array Value) (hw : ∀ d ∈ tables_1, d.before a0 Z = true) (ws : List Jvm.Cond) (p1 : Int32) (p2 : Int32) (p3 : Int32) (q4 : Int64) (p5 : Int32) (q6 : Int64) (h0 : Heap) (n0 : Nat) (Z0 : n0 ≤ h0.size) :
    MetFree l x (head1 (Jvm.Cond.code x code maxLocals ret :: ws) room_1) (fun a U => a = #[(.int p1), (.int p2), (.int p3), (.long q4), (.int p5), (.long q6)] ∧ Z.Warmed39 U.vm ∧ U.heap = h0) (fun _ _ _ _ _ => True) (fun _ U o U' => ∃ v L, o = .returned v ∧ Q0 Z p1 p2 p3 q4 p5 q6 h0 n0 v U'.heap L ∧ FrameEnd U o U' L room_1.cells room_1.slots) := by
  refine MetFree.of_bodySF (plainFor_of_name pn_0) hisR ?_
  intro p e s m args below meth c s₁ Bd hml0 hP hK
  obtain ⟨rfl, hZ, hh⟩ := hP
  have hx := Bd.exec
  have hby := Bd.bytes
  have hml : c.maxLocals = 20 := hml0
  have hown : s.vm.findClass "com/example/atoll/atoll/detect/HeldOriginsSetNewsPinLaw" = some m.cls := findClass_of_methodNamed Bd.named
  have hnm := (name_of_methodNamed Bd.named Bd.method).1
  have X0 : Stand p l e room_1 s m #[(.int p1), (.int p2), (.int p3), (.long q4), (.int p5), (.long q6)] below meth c s₁ [] 0 0 := Stand.of_body Bd
  have e0 : s₁.heap = h0 := by rw [← hh, Bd.state]; rfl
  have N0 := Fr.nil n0
  show own_End p e below s (s₁.setTop (entryFrame m #[(.int p1), (.int p2), (.int p3), (.long q4), (.int p5), (.long q6)] maxLocals)) (Q0 Z p1 p2 p3 q4 p5 q6 h0 n0) room_1.cells room_1.slots
  refine own_pre (A := s₁.setTop (mkF m 0 #[.val (.int p1), .val (.int p2), .val (.int p3), .val (.long q4), .second, .val (.int p5), .val (.long q6), .second, .unset, .unset, .unset, .unset, .unset, .unset, .unset, .unset, .unset, .unset, .unset, .unset] [])) (fun tt kt => castTop (ef_0 m p1 p2 p3 q4 p5 q6) kt) ?_
  show own_End p e below s (s₁.setTop (mkF m 0 #[.val (.int p1), .val (.int p2), .val (.int p3), .val (.long q4), .second, .val (.int p5), .val (.long q6), .second, .unset, .unset, .unset, .unset, .unset, .unset, .unset, .unset, .unset, .unset, .unset, .unset] [])) (Q0 Z p1 p2 p3 q4 p5 q6 h0 n0) room_1.cells room_1.slots
  have hj : own_law p1 p2 p3 q4 p5 q6 = own_law p1 p2 p3 q4 p5 q6 := rfl
  refine own_pre (A := s₁.setTop (mkF m 6 #[.val (.int p1), .val (.int p2), .val (.int p3), .val (.long q4), .second, .val (.int p5), .val (.long q6), .second, .val (.int (p2 &&& (65535 : Int32))), .unset, .unset, .unset, .unset, .unset, .unset, .unset, .unset, .unset, .unset, .unset] [])) (fun tt kt => ?_) ?_
  · show Steps p.tables e below (s₁.setTop (mkF m 0 #[.val (.int p1), .val (.int p2), .val (.int p3), .val (.long q4), .second, .val (.int p5), .val (.long q6), .second, .unset, .unset, .unset, .unset, .unset, .unset, .unset, .unset, .unset, .unset, .unset, .unset] [])) _
    refine XS.iloadN X0.here hx rfl (hb hby at_0) rfl ?_
    show Steps p.tables e below (s₁.setTop (mkF m 1 #[.val (.int p1), .val (.int p2), .val (.int p3), .val (.long q4), .second, .val (.int p5), .val (.long q6), .second, .unset, .unset, .unset, .unset, .unset, .unset, .unset, .unset, .unset, .unset, .unset, .unset] [(.int p2)])) _
    refine X0.ldcInt hx hown (mvT hZ (hw _ (List.mem_of_getElem? (i := 0) rfl))) (g := (mkF m 1 #[.val (.int p1), .val (.int p2), .val (.int p3), .val (.long q4), .second, .val (.int p5), .val (.long q6), .second, .unset, .unset, .unset, .unset, .unset, .unset, .unset, .unset, .unset, .unset, .unset, .unset] [(.int p2)])) rfl (hb hby at_1) _ ?_
    show Steps p.tables e below (s₁.setTop (mkF m 3 #[.val (.int p1), .val (.int p2), .val (.int p3), .val (.long q4), .second, .val (.int p5), .val (.long q6), .second, .unset, .unset, .unset, .unset, .unset, .unset, .unset, .unset, .unset, .unset, .unset, .unset] [(.int (65535 : Int32)), (.int p2)])) _
    refine XS.iand X0.here hx rfl (hb hby at_3) rfl ?_
    refine XS.istore X0.here hx rfl (hb hby at_4) rfl (l' := #[.val (.int p1), .val (.int p2), .val (.int p3), .val (.long q4), .second, .val (.int p5), .val (.long q6), .second, .val (.int (p2 &&& (65535 : Int32))), .unset, .unset, .unset, .unset, .unset, .unset, .unset, .unset, .unset, .unset, .unset]) rfl ?_
    exact kt
  show own_End p e below s (s₁.setTop (mkF m 6 #[.val (.int p1), .val (.int p2), .val (.int p3), .val (.long q4), .second, .val (.int p5), .val (.long q6), .second, .val (.int (p2 &&& (65535 : Int32))), .unset, .unset, .unset, .unset, .unset, .unset, .unset, .unset, .unset, .unset, .unset] [])) (Q0 Z p1 p2 p3 q4 p5 q6 h0 n0) room_1.cells room_1.slots
  have j6 : ∀ (Tj6 : State) (Lj6 : List Loc) (Xj6 : Stand p l e room_1 s m #[(.int p1), (.int p2), (.int p3), (.long q4), (.int p5), (.long q6)] below meth c Tj6 Lj6 0 0) (ej6 : Tj6.heap = h0) (Nj6 : Fr n0 Lj6) (rd : Int32) , own_law p1 p2 p3 q4 p5 q6 = own_law_6 p1 p2 p3 q4 p5 q6 rd → own_End p e below s (Tj6.setTop (mkF m 6 #[.val (.int p1), .val (.int p2), .val (.int p3), .val (.long q4), .second, .val (.int p5), .val (.long q6), .second, .val (.int rd), .unset, .unset, .unset, .unset, .unset, .unset, .unset, .unset, .unset, .unset, .unset] [])) (Q0 Z p1 p2 p3 q4 p5 q6 h0 n0) room_1.cells room_1.slots := by
    intro Tj6 Lj6 Xj6 ej6 Nj6 rd  hj
    refine own_pre (A := Tj6.setTop (mkF m 12 #[.val (.int p1), .val (.int p2), .val (.int p3), .val (.long q4), .second, .val (.int p5), .val (.long q6), .second, .val (.int rd), .val (.int (p3 &&& (65535 : Int32))), .unset, .unset, .unset, .unset, .unset, .unset, .unset, .unset, .unset, .unset] [])) (fun tt kt => ?_) ?_
    · show Steps p.tables e below (Tj6.setTop (mkF m 6 #[.val (.int p1), .val (.int p2), .val (.int p3), .val (.long q4), .second, .val (.int p5), .val (.long q6), .second, .val (.int rd), .unset, .unset, .unset, .unset, .unset, .unset, .unset, .unset, .unset, .unset, .unset] [])) _
      refine XS.iloadN Xj6.here hx rfl (hb hby at_6) rfl ?_
      show Steps p.tables e below (Tj6.setTop (mkF m 7 #[.val (.int p1), .val (.int p2), .val (.int p3), .val (.long q4), .second, .val (.int p5), .val (.long q6), .second, .val (.int rd), .unset, .unset, .unset, .unset, .unset, .unset, .unset, .unset, .unset, .unset, .unset] [(.int p3)])) _
      refine Xj6.ldcInt hx hown (mvT hZ (hw _ (List.mem_of_getElem? (i := 0) rfl))) (g := (mkF m 7 #[.val (.int p1), .val (.int p2), .val (.int p3), .val (.long q4), .second, .val (.int p5), .val (.long q6), .second, .val (.int rd), .unset, .unset, .unset, .unset, .unset, .unset, .unset, .unset, .unset, .unset, .unset] [(.int p3)])) rfl (hb hby at_7) _ ?_
      show Steps p.tables e below (Tj6.setTop (mkF m 9 #[.val (.int p1), .val (.int p2), .val (.int p3), .val (.long q4), .second, .val (.int p5), .val (.long q6), .second, .val (.int rd), .unset, .unset, .unset, .unset, .unset, .unset, .unset, .unset, .unset, .unset, .unset] [(.int (65535 : Int32)), (.int p3)])) _
      refine XS.iand Xj6.here hx rfl (hb hby at_9) rfl ?_
      refine XS.istore Xj6.here hx rfl (hb hby at_10) rfl (l' := #[.val (.int p1), .val (.int p2), .val (.int p3), .val (.long q4), .second, .val (.int p5), .val (.long q6), .second, .val (.int rd), .val (.int (p3 &&& (65535 : Int32))), .unset, .unset, .unset, .unset, .unset, .unset, .unset, .unset, .unset, .unset]) rfl ?_
      exact kt
    show own_End p e below s (Tj6.setTop (mkF m 12 #[.val (.int p1), .val (.int p2), .val (.int p3), .val (.long q4), .second, .val (.int p5), .val (.long q6), .second, .val (.int rd), .val (.int (p3 &&& (65535 : Int32))), .unset, .unset, .unset, .unset, .unset, .unset, .unset, .unset, .unset, .unset] [])) (Q0 Z p1 p2 p3 q4 p5 q6 h0 n0) room_1.cells room_1.slots
    have j12 : ∀ (Tj12 : State) (Lj12 : List Loc) (Xj12 : Stand p l e room_1 s m #[(.int p1), (.int p2), (.int p3), (.long q4), (.int p5), (.long q6)] below meth c Tj12 Lj12 0 0) (ej12 : Tj12.heap = h0) (Nj12 : Fr n0 Lj12) (ct : Int32) , own_law p1 p2 p3 q4 p5 q6 = own_law_12 p1 p2 p3 q4 p5 q6 rd ct → own_End p e below s (Tj12.setTop (mkF m 12 #[.val (.int p1), .val (.int p2), .val (.int p3), .val (.long q4), .second, .val (.int p5), .val (.long q6), .second, .val (.int rd), .val (.int ct), .unset, .unset, .unset, .unset, .unset, .unset, .unset, .unset, .unset, .unset] [])) (Q0 Z p1 p2 p3 q4 p5 q6 h0 n0) room_1.cells room_1.slots := by
      intro Tj12 Lj12 Xj12 ej12 Nj12 ct  hj
      refine own_pre (A := Tj12.setTop (mkF m 19 #[.val (.int p1), .val (.int p2), .val (.int p3), .val (.long q4), .second, .val (.int p5), .val (.long q6), .second, .val (.int rd), .val (.int ct), .val (.long (q4 &&& (576460752303423487 : Int64))), .second, .unset, .unset, .unset, .unset, .unset, .unset, .unset, .unset] [])) (fun tt kt => ?_) ?_
      · show Steps p.tables e below (Tj12.setTop (mkF m 12 #[.val (.int p1), .val (.int p2), .val (.int p3), .val (.long q4), .second, .val (.int p5), .val (.long q6), .second, .val (.int rd), .val (.int ct), .unset, .unset, .unset, .unset, .unset, .unset, .unset, .unset, .unset, .unset] [])) _
        refine XS.lloadN Xj12.here hx rfl (hb hby at_12) rfl ?_
        show Steps p.tables e below (Tj12.setTop (mkF m 13 #[.val (.int p1), .val (.int p2), .val (.int p3), .val (.long q4), .second, .val (.int p5), .val (.long q6), .second, .val (.int rd), .val (.int ct), .unset, .unset, .unset, .unset, .unset, .unset, .unset, .unset, .unset, .unset] [(.long q4)])) _
        refine Xj12.ldc2Long hx hown (mvT hZ (hw _ (List.mem_of_getElem? (i := 1) rfl))) (g := (mkF m 13 #[.val (.int p1), .val (.int p2), .val (.int p3), .val (.long q4), .second, .val (.int p5), .val (.long q6), .second, .val (.int rd), .val (.int ct), .unset, .unset, .unset, .unset, .unset, .unset, .unset, .unset, .unset, .unset] [(.long q4)])) rfl (hb hby at_13) _ ?_
        show Steps p.tables e below (Tj12.setTop (mkF m 16 #[.val (.int p1), .val (.int p2), .val (.int p3), .val (.long q4), .second, .val (.int p5), .val (.long q6), .second, .val (.int rd), .val (.int ct), .unset, .unset, .unset, .unset, .unset, .unset, .unset, .unset, .unset, .unset] [(.long (576460752303423487 : Int64)), (.long q4)])) _
        refine XS.land Xj12.here hx rfl (hb hby at_16) rfl ?_
        refine XS.lstore Xj12.here hx rfl (hb hby at_17) rfl (l' := #[.val (.int p1), .val (.int p2), .val (.int p3), .val (.long q4), .second, .val (.int p5), .val (.long q6), .second, .val (.int rd), .val (.int ct), .val (.long (q4 &&& (576460752303423487 : Int64))), .second, .unset, .unset, .unset, .unset, .unset, .unset, .unset, .unset]) rfl ?_
        exact kt
      show own_End p e below s (Tj12.setTop (mkF m 19 #[.val (.int p1), .val (.int p2), .val (.int p3), .val (.long q4), .second, .val (.int p5), .val (.long q6), .second, .val (.int rd), .val (.int ct), .val (.long (q4 &&& (576460752303423487 : Int64))), .second, .unset, .unset, .unset, .unset, .unset, .unset, .unset, .unset] [])) (Q0 Z p1 p2 p3 q4 p5 q6 h0 n0) room_1.cells room_1.slots
      have j19 : ∀ (Tj19 : State) (Lj19 : List Loc) (Xj19 : Stand p l e room_1 s m #[(.int p1), (.int p2), (.int p3), (.long q4), (.int p5), (.long q6)] below meth c Tj19 Lj19 0 0) (ej19 : Tj19.heap = h0) (Nj19 : Fr n0 Lj19) (ar : Int64) , own_law p1 p2 p3 q4 p5 q6 = own_law_19 p1 p2 p3 q4 p5 q6 rd ct ar → own_End p e below s (Tj19.setTop (mkF m 19 #[.val (.int p1), .val (.int p2), .val (.int p3), .val (.long q4), .second, .val (.int p5), .val (.long q6), .second, .val (.int rd), .val (.int ct), .val (.long ar), .second, .unset, .unset, .unset, .unset, .unset, .unset, .unset, .unset] [])) (Q0 Z p1 p2 p3 q4 p5 q6 h0 n0) room_1.cells room_1.slots := by
        intro Tj19 Lj19 Xj19 ej19 Nj19 ar  hj
        refine own_pre (A := Tj19.setTop (mkF m 25 #[.val (.int p1), .val (.int p2), .val (.int p3), .val (.long q4), .second, .val (.int p5), .val (.long q6), .second, .val (.int rd), .val (.int ct), .val (.long ar), .second, .val (.int (p5 &&& (1 : Int32))), .unset, .unset, .unset, .unset, .unset, .unset, .unset] [])) (fun tt kt => ?_) ?_
        · show Steps p.tables e below (Tj19.setTop (mkF m 19 #[.val (.int p1), .val (.int p2), .val (.int p3), .val (.long q4), .second, .val (.int p5), .val (.long q6), .second, .val (.int rd), .val (.int ct), .val (.long ar), .second, .unset, .unset, .unset, .unset, .unset, .unset, .unset, .unset] [])) _
          refine XS.iload Xj19.here hx rfl (hb hby at_19) rfl ?_
          refine XS.iconst Xj19.here hx rfl (hb hby at_21) ?_
          refine XS.iand Xj19.here hx rfl (hb hby at_22) rfl ?_
          refine XS.istore Xj19.here hx rfl (hb hby at_23) rfl (l' := #[.val (.int p1), .val (.int p2), .val (.int p3), .val (.long q4), .second, .val (.int p5), .val (.long q6), .second, .val (.int rd), .val (.int ct), .val (.long ar), .second, .val (.int (p5 &&& (1 : Int32))), .unset, .unset, .unset, .unset, .unset, .unset, .unset]) rfl ?_
          exact kt
        show own_End p e below s (Tj19.setTop (mkF m 25 #[.val (.int p1), .val (.int p2), .val (.int p3), .val (.long q4), .second, .val (.int p5), .val (.long q6), .second, .val (.int rd), .val (.int ct), .val (.long ar), .second, .val (.int (p5 &&& (1 : Int32))), .unset, .unset, .unset, .unset, .unset, .unset, .unset] [])) (Q0 Z p1 p2 p3 q4 p5 q6 h0 n0) room_1.cells room_1.slots
        have j25 : ∀ (Tj25 : State) (Lj25 : List Loc) (Xj25 : Stand p l e room_1 s m #[(.int p1), (.int p2), (.int p3), (.long q4), (.int p5), (.long q6)] below meth c Tj25 Lj25 0 0) (ej25 : Tj25.heap = h0) (Nj25 : Fr n0 Lj25) (pos : Int32) (hpos : pos = 0 ∨ pos = 1), own_law p1 p2 p3 q4 p5 q6 = own_law_25 p1 p2 p3 q4 p5 q6 rd ct ar pos → own_End p e below s (Tj25.setTop (mkF m 25 #[.val (.int p1), .val (.int p2), .val (.int p3), .val (.long q4), .second, .val (.int p5), .val (.long q6), .second, .val (.int rd), .val (.int ct), .val (.long ar), .second, .val (.int pos), .unset, .unset, .unset, .unset, .unset, .unset, .unset] [])) (Q0 Z p1 p2 p3 q4 p5 q6 h0 n0) room_1.cells room_1.slots := by
          intro Tj25 Lj25 Xj25 ej25 Nj25 pos hpos hj
          refine own_pre (A := Tj25.setTop (mkF m 26 #[.val (.int p1), .val (.int p2), .val (.int p3), .val (.long q4), .second, .val (.int p5), .val (.long q6), .second, .val (.int rd), .val (.int ct), .val (.long ar), .second, .val (.int pos), .unset, .unset, .unset, .unset, .unset, .unset, .unset] [(.int (1 : Int32))])) (fun tt kt => ?_) ?_
          · show Steps p.tables e below (Tj25.setTop (mkF m 25 #[.val (.int p1), .val (.int p2), .val (.int p3), .val (.long q4), .second, .val (.int p5), .val (.long q6), .second, .val (.int rd), .val (.int ct), .val (.long ar), .second, .val (.int pos), .unset, .unset, .unset, .unset, .unset, .unset, .unset] [])) _
            refine XS.iconst Xj25.here hx rfl (hb hby at_25) ?_
            exact kt
          show own_End p e below s (Tj25.setTop (mkF m 26 #[.val (.int p1), .val (.int p2), .val (.int p3), .val (.long q4), .second, .val (.int p5), .val (.long q6), .second, .val (.int rd), .val (.int ct), .val (.long ar), .second, .val (.int pos), .unset, .unset, .unset, .unset, .unset, .unset, .unset] [(.int (1 : Int32))])) (Q0 Z p1 p2 p3 q4 p5 q6 h0 n0) room_1.cells room_1.slots
          by_cases hs1_0 : pos = (0 : Int32)
          · rw [hs1_0]
            refine own_pre (A := Tj25.setTop (mkF m 35 #[.val (.int p1), .val (.int p2), .val (.int p3), .val (.long q4), .second, .val (.int p5), .val (.long q6), .second, .val (.int rd), .val (.int ct), .val (.long ar), .second, .val (.int (0 : Int32)), .val (.int (1 : Int32)), .unset, .unset, .unset, .unset, .unset, .unset] [(.int (p5 &&& (2 : Int32)))])) (fun tt kt => ?_) ?_
            · show Steps p.tables e below (Tj25.setTop (mkF m 26 #[.val (.int p1), .val (.int p2), .val (.int p3), .val (.long q4), .second, .val (.int p5), .val (.long q6), .second, .val (.int rd), .val (.int ct), .val (.long ar), .second, .val (.int (0 : Int32)), .unset, .unset, .unset, .unset, .unset, .unset, .unset] [(.int (1 : Int32))])) _
              refine XS.iload Xj25.here hx rfl (hb hby at_26) rfl ?_
              refine XS.isub Xj25.here hx rfl (hb hby at_28) rfl ?_
              refine XS.istore Xj25.here hx rfl (hb hby at_29) rfl (l' := #[.val (.int p1), .val (.int p2), .val (.int p3), .val (.long q4), .second, .val (.int p5), .val (.long q6), .second, .val (.int rd), .val (.int ct), .val (.long ar), .second, .val (.int (0 : Int32)), .val (.int (1 : Int32)), .unset, .unset, .unset, .unset, .unset, .unset]) rfl ?_
              refine XS.iload Xj25.here hx rfl (hb hby at_31) rfl ?_
              refine XS.iconst Xj25.here hx rfl (hb hby at_33) ?_
              refine XS.iand Xj25.here hx rfl (hb hby at_34) rfl ?_
              exact kt
            show own_End p e below s (Tj25.setTop (mkF m 35 #[.val (.int p1), .val (.int p2), .val (.int p3), .val (.long q4), .second, .val (.int p5), .val (.long q6), .second, .val (.int rd), .val (.int ct), .val (.long ar), .second, .val (.int (0 : Int32)), .val (.int (1 : Int32)), .unset, .unset, .unset, .unset, .unset, .unset] [(.int (p5 &&& (2 : Int32)))])) (Q0 Z p1 p2 p3 q4 p5 q6 h0 n0) room_1.cells room_1.slots
            have j43 : ∀ (Tj43 : State) (Lj43 : List Loc) (Xj43 : Stand p l e room_1 s m #[(.int p1), (.int p2), (.int p3), (.long q4), (.int p5), (.long q6)] below meth c Tj43 Lj43 0 0) (ej43 : Tj43.heap = h0) (Nj43 : Fr n0 Lj43) (fn : Int32) , own_law p1 p2 p3 q4 p5 q6 = own_law_43 p1 p2 p3 q4 p5 q6 rd ct ar pos fn → own_End p e below s (Tj43.setTop (mkF m 43 #[.val (.int p1), .val (.int p2), .val (.int p3), .val (.long q4), .second, .val (.int p5), .val (.long q6), .second, .val (.int rd), .val (.int ct), .val (.long ar), .second, .val (.int (0 : Int32)), .val (.int (1 : Int32)), .unset, .unset, .unset, .unset, .unset, .unset] [(.int fn)])) (Q0 Z p1 p2 p3 q4 p5 q6 h0 n0) room_1.cells room_1.slots := by
              intro Tj43 Lj43 Xj43 ej43 Nj43 fn  hj
              refine own_pre (A := Tj43.setTop (mkF m 49 #[.val (.int p1), .val (.int p2), .val (.int p3), .val (.long q4), .second, .val (.int p5), .val (.long q6), .second, .val (.int rd), .val (.int ct), .val (.long ar), .second, .val (.int (0 : Int32)), .val (.int (1 : Int32)), .val (.int fn), .unset, .unset, .unset, .unset, .unset] [(.int (p5 &&& (4 : Int32)))])) (fun tt kt => ?_) ?_
              · show Steps p.tables e below (Tj43.setTop (mkF m 43 #[.val (.int p1), .val (.int p2), .val (.int p3), .val (.long q4), .second, .val (.int p5), .val (.long q6), .second, .val (.int rd), .val (.int ct), .val (.long ar), .second, .val (.int (0 : Int32)), .val (.int (1 : Int32)), .unset, .unset, .unset, .unset, .unset, .unset] [(.int fn)])) _
                refine XS.istore Xj43.here hx rfl (hb hby at_43) rfl (l' := #[.val (.int p1), .val (.int p2), .val (.int p3), .val (.long q4), .second, .val (.int p5), .val (.long q6), .second, .val (.int rd), .val (.int ct), .val (.long ar), .second, .val (.int (0 : Int32)), .val (.int (1 : Int32)), .val (.int fn), .unset, .unset, .unset, .unset, .unset]) rfl ?_
                refine XS.iload Xj43.here hx rfl (hb hby at_45) rfl ?_
                refine XS.iconst Xj43.here hx rfl (hb hby at_47) ?_
                refine XS.iand Xj43.here hx rfl (hb hby at_48) rfl ?_
                exact kt
              show own_End p e below s (Tj43.setTop (mkF m 49 #[.val (.int p1), .val (.int p2), .val (.int p3), .val (.long q4), .second, .val (.int p5), .val (.long q6), .second, .val (.int rd), .val (.int ct), .val (.long ar), .second, .val (.int (0 : Int32)), .val (.int (1 : Int32)), .val (.int fn), .unset, .unset, .unset, .unset, .unset] [(.int (p5 &&& (4 : Int32)))])) (Q0 Z p1 p2 p3 q4 p5 q6 h0 n0) room_1.cells room_1.slots
              have j57 : ∀ (Tj57 : State) (Lj57 : List Loc) (Xj57 : Stand p l e room_1 s m #[(.int p1), (.int p2), (.int p3), (.long q4), (.int p5), (.long q6)] below meth c Tj57 Lj57 0 0) (ej57 : Tj57.heap = h0) (Nj57 : Fr n0 Lj57) (fq : Int32) , own_law p1 p2 p3 q4 p5 q6 = own_law_57 p1 p2 p3 q4 p5 q6 rd ct ar pos fn fq → own_End p e below s (Tj57.setTop (mkF m 57 #[.val (.int p1), .val (.int p2), .val (.int p3), .val (.long q4), .second, .val (.int p5), .val (.long q6), .second, .val (.int rd), .val (.int ct), .val (.long ar), .second, .val (.int (0 : Int32)), .val (.int (1 : Int32)), .val (.int fn), .unset, .unset, .unset, .unset, .unset] [(.int fq)])) (Q0 Z p1 p2 p3 q4 p5 q6 h0 n0) room_1.cells room_1.slots := by
                intro Tj57 Lj57 Xj57 ej57 Nj57 fq  hj
                refine own_pre (A := Tj57.setTop (mkF m 64 #[.val (.int p1), .val (.int p2), .val (.int p3), .val (.long q4), .second, .val (.int p5), .val (.long q6), .second, .val (.int rd), .val (.int ct), .val (.long ar), .second, .val (.int (0 : Int32)), .val (.int (1 : Int32)), .val (.int fn), .val (.int fq), .unset, .unset, .unset, .unset] [(.int (p5 &&& (8 : Int32)))])) (fun tt kt => ?_) ?_
                · show Steps p.tables e below (Tj57.setTop (mkF m 57 #[.val (.int p1), .val (.int p2), .val (.int p3), .val (.long q4), .second, .val (.int p5), .val (.long q6), .second, .val (.int rd), .val (.int ct), .val (.long ar), .second, .val (.int (0 : Int32)), .val (.int (1 : Int32)), .val (.int fn), .unset, .unset, .unset, .unset, .unset] [(.int fq)])) _
                  refine XS.istore Xj57.here hx rfl (hb hby at_57) rfl (l' := #[.val (.int p1), .val (.int p2), .val (.int p3), .val (.long q4), .second, .val (.int p5), .val (.long q6), .second, .val (.int rd), .val (.int ct), .val (.long ar), .second, .val (.int (0 : Int32)), .val (.int (1 : Int32)), .val (.int fn), .val (.int fq), .unset, .unset, .unset, .unset]) rfl ?_
                  refine XS.iload Xj57.here hx rfl (hb hby at_59) rfl ?_
                  refine XS.bipush Xj57.here hx rfl (hb hby at_61) ?_
                  refine XS.iand Xj57.here hx rfl (hb hby at_63) rfl ?_
                  exact kt
                show own_End p e below s (Tj57.setTop (mkF m 64 #[.val (.int p1), .val (.int p2), .val (.int p3), .val (.long q4), .second, .val (.int p5), .val (.long q6), .second, .val (.int rd), .val (.int ct), .val (.long ar), .second, .val (.int (0 : Int32)), .val (.int (1 : Int32)), .val (.int fn), .val (.int fq), .unset, .unset, .unset, .unset] [(.int (p5 &&& (8 : Int32)))])) (Q0 Z p1 p2 p3 q4 p5 q6 h0 n0) room_1.cells room_1.slots
                have j72 : ∀ (Tj72 : State) (Lj72 : List Loc) (Xj72 : Stand p l e room_1 s m #[(.int p1), (.int p2), (.int p3), (.long q4), (.int p5), (.long q6)] below meth c Tj72 Lj72 0 0) (ej72 : Tj72.heap = h0) (Nj72 : Fr n0 Lj72) (fr : Int32) , own_law p1 p2 p3 q4 p5 q6 = own_law_72 p1 p2 p3 q4 p5 q6 rd ct ar pos fn fq fr → own_End p e below s (Tj72.setTop (mkF m 72 #[.val (.int p1), .val (.int p2), .val (.int p3), .val (.long q4), .second, .val (.int p5), .val (.long q6), .second, .val (.int rd), .val (.int ct), .val (.long ar), .second, .val (.int (0 : Int32)), .val (.int (1 : Int32)), .val (.int fn), .val (.int fq), .unset, .unset, .unset, .unset] [(.int fr)])) (Q0 Z p1 p2 p3 q4 p5 q6 h0 n0) room_1.cells room_1.slots := by
                  intro Tj72 Lj72 Xj72 ej72 Nj72 fr  hj
                  refine own_pre (A := Tj72.setTop (mkF m 79 #[.val (.int p1), .val (.int p2), .val (.int p3), .val (.long q4), .second, .val (.int p5), .val (.long q6), .second, .val (.int rd), .val (.int ct), .val (.long ar), .second, .val (.int (0 : Int32)), .val (.int (1 : Int32)), .val (.int fn), .val (.int fq), .val (.int fr), .unset, .unset, .unset] [(.int (p5 &&& (16 : Int32)))])) (fun tt kt => ?_) ?_
                  · show Steps p.tables e below (Tj72.setTop (mkF m 72 #[.val (.int p1), .val (.int p2), .val (.int p3), .val (.long q4), .second, .val (.int p5), .val (.long q6), .second, .val (.int rd), .val (.int ct), .val (.long ar), .second, .val (.int (0 : Int32)), .val (.int (1 : Int32)), .val (.int fn), .val (.int fq), .unset, .unset, .unset, .unset] [(.int fr)])) _
                    refine XS.istore Xj72.here hx rfl (hb hby at_72) rfl (l' := #[.val (.int p1), .val (.int p2), .val (.int p3), .val (.long q4), .second, .val (.int p5), .val (.long q6), .second, .val (.int rd), .val (.int ct), .val (.long ar), .second, .val (.int (0 : Int32)), .val (.int (1 : Int32)), .val (.int fn), .val (.int fq), .val (.int fr), .unset, .unset, .unset]) rfl ?_
                    refine XS.iload Xj72.here hx rfl (hb hby at_74) rfl ?_
                    refine XS.bipush Xj72.here hx rfl (hb hby at_76) ?_
                    refine XS.iand Xj72.here hx rfl (hb hby at_78) rfl ?_
                    exact kt
                  show own_End p e below s (Tj72.setTop (mkF m 79 #[.val (.int p1), .val (.int p2), .val (.int p3), .val (.long q4), .second, .val (.int p5), .val (.long q6), .second, .val (.int rd), .val (.int ct), .val (.long ar), .second, .val (.int (0 : Int32)), .val (.int (1 : Int32)), .val (.int fn), .val (.int fq), .val (.int fr), .unset, .unset, .unset] [(.int (p5 &&& (16 : Int32)))])) (Q0 Z p1 p2 p3 q4 p5 q6 h0 n0) room_1.cells room_1.slots
                  have j87 : ∀ (Tj87 : State) (Lj87 : List Loc) (Xj87 : Stand p l e room_1 s m #[(.int p1), (.int p2), (.int p3), (.long q4), (.int p5), (.long q6)] below meth c Tj87 Lj87 0 0) (ej87 : Tj87.heap = h0) (Nj87 : Fr n0 Lj87) (fs : Int32) , own_law p1 p2 p3 q4 p5 q6 = own_law_87 p1 p2 p3 q4 p5 q6 rd ct ar pos fn fq fr fs → own_End p e below s (Tj87.setTop (mkF m 87 #[.val (.int p1), .val (.int p2), .val (.int p3), .val (.long q4), .second, .val (.int p5), .val (.long q6), .second, .val (.int rd), .val (.int ct), .val (.long ar), .second, .val (.int (0 : Int32)), .val (.int (1 : Int32)), .val (.int fn), .val (.int fq), .val (.int fr), .unset, .unset, .unset] [(.int fs)])) (Q0 Z p1 p2 p3 q4 p5 q6 h0 n0) room_1.cells room_1.slots := by
                    intro Tj87 Lj87 Xj87 ej87 Nj87 fs  hj
                    obtain ⟨T2, h2, X2, e2, E2, A2, D2, -, st2⟩ := newO Xj87 hx hZ hown (hw _ (List.mem_of_getElem? (i := 2) rfl)) (hw _ (List.mem_of_getElem? (i := 3) rfl)) (hw _ (List.mem_of_getElem? (i := 4) rfl)) ej87 (g := (mkF m 89 #[.val (.int p1), .val (.int p2), .val (.int p3), .val (.long q4), .second, .val (.int p5), .val (.long q6), .second, .val (.int rd), .val (.int ct), .val (.long ar), .second, .val (.int (0 : Int32)), .val (.int (1 : Int32)), .val (.int fn), .val (.int fq), .val (.int fr), .val (.int fs), .unset, .unset] [])) rfl (hb hby at_89) (by decide) (by decide)
                    obtain ⟨b2, g2⟩ : ∃ z, z = h0.size := ⟨_, rfl⟩
                    rw [← g2] at A2 D2 st2
                    have g_b2 : n0 ≤ b2 := Nat.le_trans Z0 (Nat.le_of_eq g2.symm)
                    have sz_b2 : h0.size ≤ b2 := Nat.le_trans (show Keep h0 h0 [] from (Keep.refl h0 _)).1 (Nat.le_of_eq g2.symm)
                    have K2 : Keep h0 h2 [] := Keep.ext (Keep.refl h0 _) E2
                    have Z2 : n0 ≤ h2.size := Nat.le_trans Z0 E2.1
                    have F_ids_b2 : Fld Z h2 b2 "com/example/atoll/atoll/detect/HeldOrigins" "ids" "[I" .null := D2 (Or.inl (hw _ (List.mem_of_getElem? (i := 13) rfl))) (ty := (.array .int)) (by decide)
                    have F_newest_b2 : Fld Z h2 b2 "com/example/atoll/atoll/detect/HeldOrigins" "newest" "[J" .null := D2 (Or.inl (hw _ (List.mem_of_getElem? (i := 16) rfl))) (ty := (.array .long)) (by decide)
                    have F_state_b2 : Fld Z h2 b2 "com/example/atoll/atoll/detect/HeldOrigins" "state" "[J" .null := D2 (Or.inl (hw _ (List.mem_of_getElem? (i := 18) rfl))) (ty := (.array .long)) (by decide)
                    have F_mismatches_b2 : Fld Z h2 b2 "com/example/atoll/atoll/detect/HeldOrigins" "mismatches" "[B" .null := D2 (Or.inl (hw _ (List.mem_of_getElem? (i := 21) rfl))) (ty := (.array .byte)) (by decide)
                    have F_size_b2 : Fld Z h2 b2 "com/example/atoll/atoll/detect/HeldOrigins" "size" "I" (.int (0 : Int32)) := D2 (Or.inl (hw _ (List.mem_of_getElem? (i := 43) rfl))) (ty := .int) (by decide)
                    obtain ⟨_, _, ⟨T3, L3, k3, n3⟩, -, X3, ⟨Lc3, hQ3, l3, y3, z3⟩, st3⟩ := X2.specialBack hx (y := (⟨"com/example/atoll/atoll/detect/HeldOrigins", "<init>", "()V"⟩ : MethodName)) rfl hown (mvT hZ (hw _ (List.mem_of_getElem? (i := 5) rfl))) (mvT hZ (hw _ (List.mem_of_getElem? (i := 6) rfl))) (mvT hZ (hw _ (List.mem_of_getElem? (i := 7) rfl))) (by decide) (backOf (W := 1) (rm1 l Z a0 hw [] b2 (0 : Int32) h2 n0 Z2 ⟨A2, F_ids_b2, F_newest_b2, F_state_b2, F_mismatches_b2, F_size_b2⟩ g_b2) hZ (hw _ (List.mem_of_getElem? (i := 7) rfl)) (hw _ (List.mem_of_getElem? (i := 4) rfl)) (by decide) (by decide)) (g := (mkF m 93 #[.val (.int p1), .val (.int p2), .val (.int p3), .val (.long q4), .second, .val (.int p5), .val (.long q6), .second, .val (.int rd), .val (.int ct), .val (.long ar), .second, .val (.int (0 : Int32)), .val (.int (1 : Int32)), .val (.int fn), .val (.int fq), .val (.int fr), .val (.int fs), .unset, .unset] [(.ref b2), (.ref b2)])) rfl (by rw [hml]; rfl) (Steps.refl _) (a := b2) (argsL := []) (rest := [(.ref b2)]) (lenOf pd_0_0 rfl) rfl (by show 2 * 0 + _ ≤ _; exact Nat.le_of_eq rfl) (hb hby at_93) (fun _ _ => ⟨rfl, e2, (by decide : 1 + 4 ≤ _), (by decide : 5 + 64 ≤ _)⟩)
                    dsimp only [Pt.U, Pt.locs, Pt.cells, Pt.slots] at X3 l3 y3 z3 st3 hQ3
                    subst l3 y3 z3
                    obtain ⟨rfl, N3q, c3_xi, c3_xn, c3_xs, c3_xm, Kq3, O3_0, szq_c3_xi, P3_xi_0, szq_c3_xn, P3_xn_0, szq_c3_xs, P3_xs_0, szq_c3_xm, P3_xm_0, ne_c3_xi_c3_xn, ne_c3_xi_c3_xs, ne_c3_xi_c3_xm, ne_c3_xn_c3_xs, ne_c3_xn_c3_xm, ne_c3_xs_c3_xm⟩ := hQ3
                    have ne_b2_c3_xi : b2 ≠ c3_xi := Nat.ne_of_lt (Nat.lt_of_lt_of_le A2.lt szq_c3_xi)
                    have g_c3_xi : n0 ≤ c3_xi := Nat.le_trans Z2 szq_c3_xi
                    have sz_c3_xi : h0.size ≤ c3_xi := Nat.le_trans (show Keep h0 h2 [] from K2).1 szq_c3_xi
                    have ne_b2_c3_xn : b2 ≠ c3_xn := Nat.ne_of_lt (Nat.lt_of_lt_of_le A2.lt szq_c3_xn)
                    have g_c3_xn : n0 ≤ c3_xn := Nat.le_trans Z2 szq_c3_xn
                    have sz_c3_xn : h0.size ≤ c3_xn := Nat.le_trans (show Keep h0 h2 [] from K2).1 szq_c3_xn
                    have ne_b2_c3_xs : b2 ≠ c3_xs := Nat.ne_of_lt (Nat.lt_of_lt_of_le A2.lt szq_c3_xs)
                    have g_c3_xs : n0 ≤ c3_xs := Nat.le_trans Z2 szq_c3_xs
                    have sz_c3_xs : h0.size ≤ c3_xs := Nat.le_trans (show Keep h0 h2 [] from K2).1 szq_c3_xs
                    have ne_b2_c3_xm : b2 ≠ c3_xm := Nat.ne_of_lt (Nat.lt_of_lt_of_le A2.lt szq_c3_xm)
                    have g_c3_xm : n0 ≤ c3_xm := Nat.le_trans Z2 szq_c3_xm
                    have sz_c3_xm : h0.size ≤ c3_xm := Nat.le_trans (show Keep h0 h2 [] from K2).1 szq_c3_xm
                    have N3 := Fr.app Nj87 N3q
                    have fE_b2_x3 := (A2.keep Kq3)
                    have K3 : Keep h0 T3.heap [] := Keep.trans K2 Kq3 (allS (Or.inr sz_b2) all0)
                    have Z3 : n0 ≤ T3.heap.size := Nat.le_trans Z2 Kq3.1
                    obtain ⟨E_b2_4, F_ids_b2_5, F_newest_b2_6, F_state_b2_7, F_mismatches_b2_8, F_size_b2_9⟩ := O3_0
                    obtain ⟨T10, h10, X10, e10, E10, A10, D10, -, st10⟩ := newO X3 hx hZ hown (hw _ (List.mem_of_getElem? (i := 22) rfl)) (hw _ (List.mem_of_getElem? (i := 23) rfl)) (hw _ (List.mem_of_getElem? (i := 24) rfl)) rfl (g := (mkF m 98 #[.val (.int p1), .val (.int p2), .val (.int p3), .val (.long q4), .second, .val (.int p5), .val (.long q6), .second, .val (.int rd), .val (.int ct), .val (.long ar), .second, .val (.int (0 : Int32)), .val (.int (1 : Int32)), .val (.int fn), .val (.int fq), .val (.int fr), .val (.int fs), .val (.ref b2), .unset] [])) rfl (hb hby at_98) (by decide) (by decide)
                    obtain ⟨b10, g10⟩ : ∃ z, z = T3.heap.size := ⟨_, rfl⟩
                    rw [← g10] at A10 D10 st10
                    have ne_c3_xm_b10 : c3_xm ≠ b10 := Nat.ne_of_lt (Nat.lt_of_lt_of_le P3_xm_0.lt (Nat.le_of_eq g10.symm))
                    have ne_c3_xi_b10 : c3_xi ≠ b10 := Nat.ne_of_lt (Nat.lt_of_lt_of_le P3_xi_0.lt (Nat.le_of_eq g10.symm))
                    have ne_c3_xn_b10 : c3_xn ≠ b10 := Nat.ne_of_lt (Nat.lt_of_lt_of_le P3_xn_0.lt (Nat.le_of_eq g10.symm))
                    have ne_c3_xs_b10 : c3_xs ≠ b10 := Nat.ne_of_lt (Nat.lt_of_lt_of_le P3_xs_0.lt (Nat.le_of_eq g10.symm))
                    have ne_b2_b10 : b2 ≠ b10 := Nat.ne_of_lt (Nat.lt_of_lt_of_le E_b2_4.lt (Nat.le_of_eq g10.symm))
                    have g_b10 : n0 ≤ b10 := Nat.le_trans Z3 (Nat.le_of_eq g10.symm)
                    have sz_b10 : h0.size ≤ b10 := Nat.le_trans (show Keep h0 T3.heap [] from K3).1 (Nat.le_of_eq g10.symm)
                    have fE_b2_x10 := (E_b2_4.ext E10)
                    have fA_c3_xi_x10 := (P3_xi_0.ext E10)
                    have fA_c3_xn_x10 := (P3_xn_0.ext E10)
                    have fA_c3_xs_x10 := (P3_xs_0.ext E10)
                    have fA_c3_xm_x10 := (P3_xm_0.ext E10)
                    have fF_b2_ids_x10 := (F_ids_b2_5.ext E10)
                    have fF_b2_newest_x10 := (F_newest_b2_6.ext E10)
                    have fF_b2_state_x10 := (F_state_b2_7.ext E10)
                    have fF_b2_mismatches_x10 := (F_mismatches_b2_8.ext E10)
                    have fF_b2_size_x10 := (F_size_b2_9.ext E10)
                    have K10 : Keep h0 h10 [] := Keep.ext K3 E10
                    have Z10 : n0 ≤ h10.size := Nat.le_trans Z3 E10.1
                    have F_ids_b10 : Fld Z h10 b10 "com/example/atoll/atoll/detect/Beacon$Builder" "ids" "[I" .null := D10 (Or.inr (hw _ (List.mem_of_getElem? (i := 30) rfl))) (ty := (.array .int)) (by decide)
                    have F_incarnations_b10 : Fld Z h10 b10 "com/example/atoll/atoll/detect/Beacon$Builder" "incarnations" "[I" .null := D10 (Or.inr (hw _ (List.mem_of_getElem? (i := 32) rfl))) (ty := (.array .int)) (by decide)
                    have F_rounds_b10 : Fld Z h10 b10 "com/example/atoll/atoll/detect/Beacon$Builder" "rounds" "[I" .null := D10 (Or.inr (hw _ (List.mem_of_getElem? (i := 34) rfl))) (ty := (.array .int)) (by decide)
                    have F_heard_b10 : Fld Z h10 b10 "com/example/atoll/atoll/detect/Beacon$Builder" "heard" "[I" .null := D10 (Or.inr (hw _ (List.mem_of_getElem? (i := 36) rfl))) (ty := (.array .int)) (by decide)
                    have F_count_b10 : Fld Z h10 b10 "com/example/atoll/atoll/detect/Beacon$Builder" "count" "I" (.int (0 : Int32)) := D10 (Or.inl (hw _ (List.mem_of_getElem? (i := 149) rfl))) (ty := .int) (by decide)
                    obtain ⟨_, _, ⟨T11, L11, k11, n11⟩, -, X11, ⟨Lc11, hQ11, l11, y11, z11⟩, st11⟩ := X10.specialBack hx (y := (⟨"com/example/atoll/atoll/detect/Beacon$Builder", "<init>", "(I)V"⟩ : MethodName)) rfl hown (mvT hZ (hw _ (List.mem_of_getElem? (i := 25) rfl))) (mvT hZ (hw _ (List.mem_of_getElem? (i := 26) rfl))) (mvT hZ (hw _ (List.mem_of_getElem? (i := 27) rfl))) (by decide) (backOf (W := 1) (rm3 l Z a0 hw [] b10 (0 : Int32) h10 n0 Z10 ⟨A10, F_ids_b10, F_incarnations_b10, F_rounds_b10, F_heard_b10, F_count_b10⟩ g_b10) hZ (hw _ (List.mem_of_getElem? (i := 27) rfl)) (hw _ (List.mem_of_getElem? (i := 24) rfl)) (by decide) (by decide)) (g := (mkF m 103 #[.val (.int p1), .val (.int p2), .val (.int p3), .val (.long q4), .second, .val (.int p5), .val (.long q6), .second, .val (.int rd), .val (.int ct), .val (.long ar), .second, .val (.int (0 : Int32)), .val (.int (1 : Int32)), .val (.int fn), .val (.int fq), .val (.int fr), .val (.int fs), .val (.ref b2), .unset] [(.int (2 : Int32)), (.ref b10), (.ref b10)])) rfl (by rw [hml]; rfl) (Steps.refl _) (a := b10) (argsL := [(.int (2 : Int32))]) (rest := [(.ref b10)]) (lenOf pd_0_1 rfl) rfl (by show 2 * 0 + _ ≤ _; exact Nat.le_of_eq rfl) (hb hby at_103) (fun _ _ => ⟨rfl, e10, (by decide : 6 + 4 ≤ _), (by decide : 74 + 8 ≤ _)⟩)
                    dsimp only [Pt.U, Pt.locs, Pt.cells, Pt.slots] at X11 l11 y11 z11 st11 hQ11
                    subst l11 y11 z11
                    obtain ⟨rfl, N11q, c11_xi, c11_xn, c11_xr, c11_xh, Kq11, O11_0, szq_c11_xi, P11_xi_0, szq_c11_xn, P11_xn_0, szq_c11_xr, P11_xr_0, szq_c11_xh, P11_xh_0, ne_c11_xi_c11_xn, ne_c11_xi_c11_xr, ne_c11_xi_c11_xh, ne_c11_xn_c11_xr, ne_c11_xn_c11_xh, ne_c11_xr_c11_xh⟩ := hQ11
                    have ne_b10_c11_xi : b10 ≠ c11_xi := Nat.ne_of_lt (Nat.lt_of_lt_of_le A10.lt szq_c11_xi)
                    have ne_b2_c11_xi : b2 ≠ c11_xi := Nat.ne_of_lt (Nat.lt_of_lt_of_le fE_b2_x10.lt szq_c11_xi)
                    have ne_c3_xi_c11_xi : c3_xi ≠ c11_xi := Nat.ne_of_lt (Nat.lt_of_lt_of_le fA_c3_xi_x10.lt szq_c11_xi)
                    have ne_c3_xm_c11_xi : c3_xm ≠ c11_xi := Nat.ne_of_lt (Nat.lt_of_lt_of_le fA_c3_xm_x10.lt szq_c11_xi)
                    have ne_c3_xn_c11_xi : c3_xn ≠ c11_xi := Nat.ne_of_lt (Nat.lt_of_lt_of_le fA_c3_xn_x10.lt szq_c11_xi)
                    have ne_c3_xs_c11_xi : c3_xs ≠ c11_xi := Nat.ne_of_lt (Nat.lt_of_lt_of_le fA_c3_xs_x10.lt szq_c11_xi)
                    have g_c11_xi : n0 ≤ c11_xi := Nat.le_trans Z10 szq_c11_xi
                    have sz_c11_xi : h0.size ≤ c11_xi := Nat.le_trans (show Keep h0 h10 [] from K10).1 szq_c11_xi
                    have ne_b10_c11_xn : b10 ≠ c11_xn := Nat.ne_of_lt (Nat.lt_of_lt_of_le A10.lt szq_c11_xn)
                    have ne_b2_c11_xn : b2 ≠ c11_xn := Nat.ne_of_lt (Nat.lt_of_lt_of_le fE_b2_x10.lt szq_c11_xn)
                    have ne_c3_xi_c11_xn : c3_xi ≠ c11_xn := Nat.ne_of_lt (Nat.lt_of_lt_of_le fA_c3_xi_x10.lt szq_c11_xn)
                    have ne_c3_xm_c11_xn : c3_xm ≠ c11_xn := Nat.ne_of_lt (Nat.lt_of_lt_of_le fA_c3_xm_x10.lt szq_c11_xn)
                    have ne_c3_xn_c11_xn : c3_xn ≠ c11_xn := Nat.ne_of_lt (Nat.lt_of_lt_of_le fA_c3_xn_x10.lt szq_c11_xn)
                    have ne_c3_xs_c11_xn : c3_xs ≠ c11_xn := Nat.ne_of_lt (Nat.lt_of_lt_of_le fA_c3_xs_x10.lt szq_c11_xn)
                    have g_c11_xn : n0 ≤ c11_xn := Nat.le_trans Z10 szq_c11_xn
                    have sz_c11_xn : h0.size ≤ c11_xn := Nat.le_trans (show Keep h0 h10 [] from K10).1 szq_c11_xn
                    have ne_b10_c11_xr : b10 ≠ c11_xr := Nat.ne_of_lt (Nat.lt_of_lt_of_le A10.lt szq_c11_xr)
                    have ne_b2_c11_xr : b2 ≠ c11_xr := Nat.ne_of_lt (Nat.lt_of_lt_of_le fE_b2_x10.lt szq_c11_xr)
                    have ne_c3_xi_c11_xr : c3_xi ≠ c11_xr := Nat.ne_of_lt (Nat.lt_of_lt_of_le fA_c3_xi_x10.lt szq_c11_xr)
                    have ne_c3_xm_c11_xr : c3_xm ≠ c11_xr := Nat.ne_of_lt (Nat.lt_of_lt_of_le fA_c3_xm_x10.lt szq_c11_xr)
                    have ne_c3_xn_c11_xr : c3_xn ≠ c11_xr := Nat.ne_of_lt (Nat.lt_of_lt_of_le fA_c3_xn_x10.lt szq_c11_xr)
                    have ne_c3_xs_c11_xr : c3_xs ≠ c11_xr := Nat.ne_of_lt (Nat.lt_of_lt_of_le fA_c3_xs_x10.lt szq_c11_xr)
                    have g_c11_xr : n0 ≤ c11_xr := Nat.le_trans Z10 szq_c11_xr
                    have sz_c11_xr : h0.size ≤ c11_xr := Nat.le_trans (show Keep h0 h10 [] from K10).1 szq_c11_xr
                    have ne_b10_c11_xh : b10 ≠ c11_xh := Nat.ne_of_lt (Nat.lt_of_lt_of_le A10.lt szq_c11_xh)
                    have ne_b2_c11_xh : b2 ≠ c11_xh := Nat.ne_of_lt (Nat.lt_of_lt_of_le fE_b2_x10.lt szq_c11_xh)
                    have ne_c3_xi_c11_xh : c3_xi ≠ c11_xh := Nat.ne_of_lt (Nat.lt_of_lt_of_le fA_c3_xi_x10.lt szq_c11_xh)
                    have ne_c3_xm_c11_xh : c3_xm ≠ c11_xh := Nat.ne_of_lt (Nat.lt_of_lt_of_le fA_c3_xm_x10.lt szq_c11_xh)
                    have ne_c3_xn_c11_xh : c3_xn ≠ c11_xh := Nat.ne_of_lt (Nat.lt_of_lt_of_le fA_c3_xn_x10.lt szq_c11_xh)
                    have ne_c3_xs_c11_xh : c3_xs ≠ c11_xh := Nat.ne_of_lt (Nat.lt_of_lt_of_le fA_c3_xs_x10.lt szq_c11_xh)
                    have g_c11_xh : n0 ≤ c11_xh := Nat.le_trans Z10 szq_c11_xh
                    have sz_c11_xh : h0.size ≤ c11_xh := Nat.le_trans (show Keep h0 h10 [] from K10).1 szq_c11_xh
                    have N11 := Fr.app N3 N11q
                    have fE_b2_x11 := (fE_b2_x10.keep Kq11)
                    have fA_c3_xi_x11 := (fA_c3_xi_x10.keep Kq11 (ninS ne_c3_xi_b10 nin0))
                    have fA_c3_xn_x11 := (fA_c3_xn_x10.keep Kq11 (ninS ne_c3_xn_b10 nin0))
                    have fA_c3_xs_x11 := (fA_c3_xs_x10.keep Kq11 (ninS ne_c3_xs_b10 nin0))
                    have fA_c3_xm_x11 := (fA_c3_xm_x10.keep Kq11 (ninS ne_c3_xm_b10 nin0))
                    have fF_b2_ids_x11 := (fF_b2_ids_x10.keep Kq11 (ninS ne_b2_b10 nin0))
                    have fF_b2_newest_x11 := (fF_b2_newest_x10.keep Kq11 (ninS ne_b2_b10 nin0))
                    have fF_b2_state_x11 := (fF_b2_state_x10.keep Kq11 (ninS ne_b2_b10 nin0))
                    have fF_b2_mismatches_x11 := (fF_b2_mismatches_x10.keep Kq11 (ninS ne_b2_b10 nin0))
                    have fF_b2_size_x11 := (fF_b2_size_x10.keep Kq11 (ninS ne_b2_b10 nin0))
                    have fE_b10_x11 := (A10.keep Kq11)
                    have K11 : Keep h0 T11.heap [] := Keep.trans K10 Kq11 (allS (Or.inr sz_b10) all0)
                    have Z11 : n0 ≤ T11.heap.size := Nat.le_trans Z10 Kq11.1
                    obtain ⟨E_b10_12, F_ids_b10_13, F_incarnations_b10_14, F_rounds_b10_15, F_heard_b10_16, F_count_b10_17⟩ := O11_0
                    obtain ⟨cq18, kq18, q18a, q18b, q18c⟩ := isOf hZ rfl fE_b2_x11
                    obtain ⟨_, _, ⟨T18, L18, k18, n18⟩, -, X18, ⟨Lc18, hQ18, l18, y18, z18⟩, st18⟩ := X11.virtualBack hx (y := (⟨"com/example/atoll/atoll/detect/HeldOrigins", "add", "(II)V"⟩ : MethodName)) (z := (⟨"com/example/atoll/atoll/detect/HeldOrigins", "add", "(II)V"⟩ : MethodName)) hown (mvT hZ (hw _ (List.mem_of_getElem? (i := 37) rfl))) (mvT hZ (hw _ (List.mem_of_getElem? (i := 38) rfl))) (notFace_of_selects (args := #[]) (mvT hZ (hw _ (List.mem_of_getElem? (i := 40) rfl)))) (mvT hZ (hw _ (List.mem_of_getElem? (i := 40) rfl))) (mvT hZ (hw _ (List.mem_of_getElem? (i := 39) rfl))) (by decide) (backOf (W := 0) (rm4k0 l Z a0 hw [] b2 (5 : Int32) c3_xi c3_xn c3_xs c3_xm (fun _ => (0 : Int32)) (fun _ => (0 : Int64)) (fun _ => (0 : Int64)) (fun _ => (0 : Int32)) T11.heap n0 Z11 ⟨fE_b2_x11, fF_b2_ids_x11, fF_b2_newest_x11, fF_b2_state_x11, fF_b2_mismatches_x11, fF_b2_size_x11⟩ fA_c3_xi_x11 fA_c3_xn_x11 fA_c3_xs_x11 fA_c3_xm_x11 ne_b2_c3_xi ne_b2_c3_xn ne_b2_c3_xs ne_b2_c3_xm ne_c3_xi_c3_xn ne_c3_xi_c3_xs ne_c3_xi_c3_xm ne_c3_xn_c3_xs ne_c3_xn_c3_xm ne_c3_xs_c3_xm g_b2 g_c3_xi g_c3_xn g_c3_xs g_c3_xm (fun _ => rfl)) hZ (hw _ (List.mem_of_getElem? (i := 41) rfl)) (hw _ (List.mem_of_getElem? (i := 4) rfl)) (by decide) (by decide)) q18a q18c (g := (mkF m 112 #[.val (.int p1), .val (.int p2), .val (.int p3), .val (.long q4), .second, .val (.int p5), .val (.long q6), .second, .val (.int rd), .val (.int ct), .val (.long ar), .second, .val (.int (0 : Int32)), .val (.int (1 : Int32)), .val (.int fn), .val (.int fq), .val (.int fr), .val (.int fs), .val (.ref b2), .val (.ref b10)] [(.int (5 : Int32)), (.int (0 : Int32)), (.ref b2)])) rfl (by rw [hml]; rfl) (Steps.refl _) (argsL := [(.int (0 : Int32)), (.int (5 : Int32))]) (rest := []) (lenOf pd_0_2 rfl) rfl (by show 2 * 0 + _ ≤ _; exact Nat.le_of_eq rfl) (hb hby at_112) (fun _ _ => ⟨rfl, rfl, (by decide : 10 + 0 ≤ _), (by decide : 82 + 0 ≤ _)⟩)
                    dsimp only [Pt.U, Pt.locs, Pt.cells, Pt.slots] at X18 l18 y18 z18 st18 hQ18
                    subst l18 y18 z18
                    obtain ⟨rfl, N18q, Kq18, O18_0, V18_0, V18_1, V18_2, V18_3⟩ := hQ18
                    have N18 := Fr.app N11 N18q
                    have fE_b2_x18 := (fE_b2_x11.keep Kq18)
                    have fE_b10_x18 := (E_b10_12.keep Kq18)
                    have fA_c11_xi_x18 := (P11_xi_0.keep Kq18 (ninS (Ne.symm ne_b2_c11_xi) (ninS (Ne.symm ne_c3_xi_c11_xi) (ninS (Ne.symm ne_c3_xn_c11_xi) (ninS (Ne.symm ne_c3_xs_c11_xi) (ninS (Ne.symm ne_c3_xm_c11_xi) nin0))))))
                    have fA_c11_xn_x18 := (P11_xn_0.keep Kq18 (ninS (Ne.symm ne_b2_c11_xn) (ninS (Ne.symm ne_c3_xi_c11_xn) (ninS (Ne.symm ne_c3_xn_c11_xn) (ninS (Ne.symm ne_c3_xs_c11_xn) (ninS (Ne.symm ne_c3_xm_c11_xn) nin0))))))
                    have fA_c11_xr_x18 := (P11_xr_0.keep Kq18 (ninS (Ne.symm ne_b2_c11_xr) (ninS (Ne.symm ne_c3_xi_c11_xr) (ninS (Ne.symm ne_c3_xn_c11_xr) (ninS (Ne.symm ne_c3_xs_c11_xr) (ninS (Ne.symm ne_c3_xm_c11_xr) nin0))))))
                    have fA_c11_xh_x18 := (P11_xh_0.keep Kq18 (ninS (Ne.symm ne_b2_c11_xh) (ninS (Ne.symm ne_c3_xi_c11_xh) (ninS (Ne.symm ne_c3_xn_c11_xh) (ninS (Ne.symm ne_c3_xs_c11_xh) (ninS (Ne.symm ne_c3_xm_c11_xh) nin0))))))
                    have fF_b10_ids_x18 := (F_ids_b10_13.keep Kq18 (ninS (Ne.symm ne_b2_b10) (ninS (Ne.symm ne_c3_xi_b10) (ninS (Ne.symm ne_c3_xn_b10) (ninS (Ne.symm ne_c3_xs_b10) (ninS (Ne.symm ne_c3_xm_b10) nin0))))))
                    have fF_b10_incarnations_x18 := (F_incarnations_b10_14.keep Kq18 (ninS (Ne.symm ne_b2_b10) (ninS (Ne.symm ne_c3_xi_b10) (ninS (Ne.symm ne_c3_xn_b10) (ninS (Ne.symm ne_c3_xs_b10) (ninS (Ne.symm ne_c3_xm_b10) nin0))))))
                    have fF_b10_rounds_x18 := (F_rounds_b10_15.keep Kq18 (ninS (Ne.symm ne_b2_b10) (ninS (Ne.symm ne_c3_xi_b10) (ninS (Ne.symm ne_c3_xn_b10) (ninS (Ne.symm ne_c3_xs_b10) (ninS (Ne.symm ne_c3_xm_b10) nin0))))))
                    have fF_b10_heard_x18 := (F_heard_b10_16.keep Kq18 (ninS (Ne.symm ne_b2_b10) (ninS (Ne.symm ne_c3_xi_b10) (ninS (Ne.symm ne_c3_xn_b10) (ninS (Ne.symm ne_c3_xs_b10) (ninS (Ne.symm ne_c3_xm_b10) nin0))))))
                    have fF_b10_count_x18 := (F_count_b10_17.keep Kq18 (ninS (Ne.symm ne_b2_b10) (ninS (Ne.symm ne_c3_xi_b10) (ninS (Ne.symm ne_c3_xn_b10) (ninS (Ne.symm ne_c3_xs_b10) (ninS (Ne.symm ne_c3_xm_b10) nin0))))))
                    have K18 : Keep h0 T18.heap [] := Keep.trans K11 Kq18 (allS (Or.inr sz_b2) (allS (Or.inr sz_c3_xi) (allS (Or.inr sz_c3_xn) (allS (Or.inr sz_c3_xs) (allS (Or.inr sz_c3_xm) all0)))))
                    have Z18 : n0 ≤ T18.heap.size := Nat.le_trans Z11 Kq18.1
                    obtain ⟨E_b2_19, F_ids_b2_20, F_newest_b2_21, F_state_b2_22, F_mismatches_b2_23, F_size_b2_24⟩ := O18_0
                    obtain ⟨cq25, kq25, q25a, q25b, q25c⟩ := isOf hZ rfl E_b2_19
                    obtain ⟨_, _, ⟨T25, L25, k25, n25⟩, -, X25, ⟨Lc25, hQ25, l25, y25, z25⟩, st25⟩ := X18.virtualBack hx (y := (⟨"com/example/atoll/atoll/detect/HeldOrigins", "add", "(II)V"⟩ : MethodName)) (z := (⟨"com/example/atoll/atoll/detect/HeldOrigins", "add", "(II)V"⟩ : MethodName)) hown (mvT hZ (hw _ (List.mem_of_getElem? (i := 37) rfl))) (mvT hZ (hw _ (List.mem_of_getElem? (i := 38) rfl))) (notFace_of_selects (args := #[]) (mvT hZ (hw _ (List.mem_of_getElem? (i := 40) rfl)))) (mvT hZ (hw _ (List.mem_of_getElem? (i := 40) rfl))) (mvT hZ (hw _ (List.mem_of_getElem? (i := 39) rfl))) (by decide) (backOf (W := 0) (rm4k1 l Z a0 hw [] b2 (9 : Int32) c3_xi c3_xn c3_xs c3_xm (own_put (fun _ => (0 : Int32)) (0 : Int32) (5 : Int32)) (own_putJ (fun _ => (0 : Int64)) (0 : Int32) (0 : Int64)) (own_putJ (fun _ => (0 : Int64)) (0 : Int32) (0 : Int64)) (own_put (fun _ => (0 : Int32)) (0 : Int32) (0 : Int32)) T18.heap n0 Z18 ⟨E_b2_19, F_ids_b2_20, F_newest_b2_21, F_state_b2_22, F_mismatches_b2_23, F_size_b2_24⟩ V18_0 V18_1 V18_2 V18_3 ne_b2_c3_xi ne_b2_c3_xn ne_b2_c3_xs ne_b2_c3_xm ne_c3_xi_c3_xn ne_c3_xi_c3_xs ne_c3_xi_c3_xm ne_c3_xn_c3_xs ne_c3_xn_c3_xm ne_c3_xs_c3_xm g_b2 g_c3_xi g_c3_xn g_c3_xs g_c3_xm (own_fitb _ (fun _ => rfl))) hZ (hw _ (List.mem_of_getElem? (i := 41) rfl)) (hw _ (List.mem_of_getElem? (i := 4) rfl)) (by decide) (by decide)) q25a q25c (g := (mkF m 120 #[.val (.int p1), .val (.int p2), .val (.int p3), .val (.long q4), .second, .val (.int p5), .val (.long q6), .second, .val (.int rd), .val (.int ct), .val (.long ar), .second, .val (.int (0 : Int32)), .val (.int (1 : Int32)), .val (.int fn), .val (.int fq), .val (.int fr), .val (.int fs), .val (.ref b2), .val (.ref b10)] [(.int (9 : Int32)), (.int (1 : Int32)), (.ref b2)])) rfl (by rw [hml]; rfl) (Steps.refl _) (argsL := [(.int (1 : Int32)), (.int (9 : Int32))]) (rest := []) (lenOf pd_0_2 rfl) rfl (by show 2 * 0 + _ ≤ _; exact Nat.le_of_eq rfl) (hb hby at_120) (fun _ _ => ⟨rfl, rfl, (by decide : 10 + 0 ≤ _), (by decide : 82 + 0 ≤ _)⟩)
                    dsimp only [Pt.U, Pt.locs, Pt.cells, Pt.slots] at X25 l25 y25 z25 st25 hQ25
                    subst l25 y25 z25
                    obtain ⟨rfl, N25q, Kq25, O25_0, V25_0, V25_1, V25_2, V25_3⟩ := hQ25
                    have N25 := Fr.app N18 N25q
                    have fE_b2_x25 := (E_b2_19.keep Kq25)
                    have fE_b10_x25 := (fE_b10_x18.keep Kq25)
                    have fA_c11_xi_x25 := (fA_c11_xi_x18.keep Kq25 (ninS (Ne.symm ne_b2_c11_xi) (ninS (Ne.symm ne_c3_xi_c11_xi) (ninS (Ne.symm ne_c3_xn_c11_xi) (ninS (Ne.symm ne_c3_xs_c11_xi) (ninS (Ne.symm ne_c3_xm_c11_xi) nin0))))))
                    have fA_c11_xn_x25 := (fA_c11_xn_x18.keep Kq25 (ninS (Ne.symm ne_b2_c11_xn) (ninS (Ne.symm ne_c3_xi_c11_xn) (ninS (Ne.symm ne_c3_xn_c11_xn) (ninS (Ne.symm ne_c3_xs_c11_xn) (ninS (Ne.symm ne_c3_xm_c11_xn) nin0))))))
                    have fA_c11_xr_x25 := (fA_c11_xr_x18.keep Kq25 (ninS (Ne.symm ne_b2_c11_xr) (ninS (Ne.symm ne_c3_xi_c11_xr) (ninS (Ne.symm ne_c3_xn_c11_xr) (ninS (Ne.symm ne_c3_xs_c11_xr) (ninS (Ne.symm ne_c3_xm_c11_xr) nin0))))))
                    have fA_c11_xh_x25 := (fA_c11_xh_x18.keep Kq25 (ninS (Ne.symm ne_b2_c11_xh) (ninS (Ne.symm ne_c3_xi_c11_xh) (ninS (Ne.symm ne_c3_xn_c11_xh) (ninS (Ne.symm ne_c3_xs_c11_xh) (ninS (Ne.symm ne_c3_xm_c11_xh) nin0))))))
                    have fF_b10_ids_x25 := (fF_b10_ids_x18.keep Kq25 (ninS (Ne.symm ne_b2_b10) (ninS (Ne.symm ne_c3_xi_b10) (ninS (Ne.symm ne_c3_xn_b10) (ninS (Ne.symm ne_c3_xs_b10) (ninS (Ne.symm ne_c3_xm_b10) nin0))))))
                    have fF_b10_incarnations_x25 := (fF_b10_incarnations_x18.keep Kq25 (ninS (Ne.symm ne_b2_b10) (ninS (Ne.symm ne_c3_xi_b10) (ninS (Ne.symm ne_c3_xn_b10) (ninS (Ne.symm ne_c3_xs_b10) (ninS (Ne.symm ne_c3_xm_b10) nin0))))))
                    have fF_b10_rounds_x25 := (fF_b10_rounds_x18.keep Kq25 (ninS (Ne.symm ne_b2_b10) (ninS (Ne.symm ne_c3_xi_b10) (ninS (Ne.symm ne_c3_xn_b10) (ninS (Ne.symm ne_c3_xs_b10) (ninS (Ne.symm ne_c3_xm_b10) nin0))))))
                    have fF_b10_heard_x25 := (fF_b10_heard_x18.keep Kq25 (ninS (Ne.symm ne_b2_b10) (ninS (Ne.symm ne_c3_xi_b10) (ninS (Ne.symm ne_c3_xn_b10) (ninS (Ne.symm ne_c3_xs_b10) (ninS (Ne.symm ne_c3_xm_b10) nin0))))))
                    have fF_b10_count_x25 := (fF_b10_count_x18.keep Kq25 (ninS (Ne.symm ne_b2_b10) (ninS (Ne.symm ne_c3_xi_b10) (ninS (Ne.symm ne_c3_xn_b10) (ninS (Ne.symm ne_c3_xs_b10) (ninS (Ne.symm ne_c3_xm_b10) nin0))))))
                    have K25 : Keep h0 T25.heap [] := Keep.trans K18 Kq25 (allS (Or.inr sz_b2) (allS (Or.inr sz_c3_xi) (allS (Or.inr sz_c3_xn) (allS (Or.inr sz_c3_xs) (allS (Or.inr sz_c3_xm) all0)))))
                    have Z25 : n0 ≤ T25.heap.size := Nat.le_trans Z18 Kq25.1
                    obtain ⟨E_b2_26, F_ids_b2_27, F_newest_b2_28, F_state_b2_29, F_mismatches_b2_30, F_size_b2_31⟩ := O25_0
                    have V25_0a : own_Arr Z T25.heap c3_xi .int (16 : Int32) (fun i => Value.int ((own_b0_g32 p1 p2 p3 q4 p5 q6 rd ct ar pos fn fq fr fs) i)) := V25_0
                    have V25_1a : own_Arr Z T25.heap c3_xn .long (16 : Int32) (fun i => Value.long ((own_b0_g33 p1 p2 p3 q4 p5 q6 rd ct ar pos fn fq fr fs) i)) := V25_1
                    have V25_2a : own_Arr Z T25.heap c3_xs .long (16 : Int32) (fun i => Value.long ((own_b0_g34 p1 p2 p3 q4 p5 q6 rd ct ar pos fn fq fr fs) i)) := V25_2
                    have V25_3a : own_Arr Z T25.heap c3_xm .byte (16 : Int32) (fun i => Value.int ((own_b0_g35 p1 p2 p3 q4 p5 q6 rd ct ar pos fn fq fr fs) i)) := V25_3
                    obtain ⟨cq36, kq36, q36a, q36b, q36c⟩ := isOf hZ rfl E_b2_26
                    obtain ⟨_, _, ⟨T36, L36, k36, n36⟩, -, X36, ⟨Lc36, hQ36, l36, y36, z36⟩, st36⟩ := X25.virtualBack hx (y := (⟨"com/example/atoll/atoll/detect/HeldOrigins", "setNews", "(IIIIJ)V"⟩ : MethodName)) (z := (⟨"com/example/atoll/atoll/detect/HeldOrigins", "setNews", "(IIIIJ)V"⟩ : MethodName)) hown (mvT hZ (hw _ (List.mem_of_getElem? (i := 52) rfl))) (mvT hZ (hw _ (List.mem_of_getElem? (i := 53) rfl))) (notFace_of_selects (args := #[]) (mvT hZ (hw _ (List.mem_of_getElem? (i := 55) rfl)))) (mvT hZ (hw _ (List.mem_of_getElem? (i := 55) rfl))) (mvT hZ (hw _ (List.mem_of_getElem? (i := 54) rfl))) (by decide) (backOf (W := 0) (rm6 l Z a0 hw [] b2 (0 : Int32) (((q6.toUInt64 >>> ((32 : Int32) &&& 0x3f).toInt64.toUInt64).toInt64).toInt32) (((q6.toInt32).toUInt32 >>> ((16 : Int32) &&& 31).toUInt32).toInt32) ((q6.toInt32) &&& (65535 : Int32)) ((q6.toUInt64 >>> ((5 : Int32) &&& 0x3f).toInt64.toUInt64).toInt64) c3_xi c3_xn c3_xs c3_xm (2 : Int32) (own_b0_g33 p1 p2 p3 q4 p5 q6 rd ct ar pos fn fq fr fs) (own_b0_g34 p1 p2 p3 q4 p5 q6 rd ct ar pos fn fq fr fs) T25.heap n0 Z25 ⟨E_b2_26, F_ids_b2_27, F_newest_b2_28, F_state_b2_29, F_mismatches_b2_30, F_size_b2_31⟩ V25_1a V25_2a ne_b2_c3_xn ne_b2_c3_xs ne_c3_xn_c3_xs g_c3_xn g_c3_xs (by decide) (by decide)) hZ (hw _ (List.mem_of_getElem? (i := 56) rfl)) (hw _ (List.mem_of_getElem? (i := 4) rfl)) (by decide) (by decide)) q36a q36c (g := (mkF m 149 #[.val (.int p1), .val (.int p2), .val (.int p3), .val (.long q4), .second, .val (.int p5), .val (.long q6), .second, .val (.int rd), .val (.int ct), .val (.long ar), .second, .val (.int (0 : Int32)), .val (.int (1 : Int32)), .val (.int fn), .val (.int fq), .val (.int fr), .val (.int fs), .val (.ref b2), .val (.ref b10)] [(.long ((q6.toUInt64 >>> ((5 : Int32) &&& 0x3f).toInt64.toUInt64).toInt64)), (.int ((q6.toInt32) &&& (65535 : Int32))), (.int (((q6.toInt32).toUInt32 >>> ((16 : Int32) &&& 31).toUInt32).toInt32)), (.int (((q6.toUInt64 >>> ((32 : Int32) &&& 0x3f).toInt64.toUInt64).toInt64).toInt32)), (.int (0 : Int32)), (.ref b2)])) rfl (by rw [hml]; rfl) (Steps.refl _) (argsL := [(.int (0 : Int32)), (.int (((q6.toUInt64 >>> ((32 : Int32) &&& 0x3f).toInt64.toUInt64).toInt64).toInt32)), (.int (((q6.toInt32).toUInt32 >>> ((16 : Int32) &&& 31).toUInt32).toInt32)), (.int ((q6.toInt32) &&& (65535 : Int32))), (.long ((q6.toUInt64 >>> ((5 : Int32) &&& 0x3f).toInt64.toUInt64).toInt64))]) (rest := []) (lenOf pd_0_3 rfl) rfl (by show 2 * 0 + _ ≤ _; exact Nat.le_of_eq rfl) (hb hby at_149) (fun _ _ => ⟨rfl, rfl, (by decide : 10 + 0 ≤ _), (by decide : 82 + 0 ≤ _)⟩)
                    dsimp only [Pt.U, Pt.locs, Pt.cells, Pt.slots] at X36 l36 y36 z36 st36 hQ36
                    subst l36 y36 z36
                    obtain ⟨rfl, N36q, Kq36, V36_0, V36_1⟩ := hQ36
                    have N36 := Fr.app N25 N36q
                    have fE_b2_x36 := (E_b2_26.keep Kq36)
                    have fE_b10_x36 := (fE_b10_x25.keep Kq36)
                    have fA_c11_xi_x36 := (fA_c11_xi_x25.keep Kq36 (ninS (Ne.symm ne_c3_xn_c11_xi) (ninS (Ne.symm ne_c3_xs_c11_xi) nin0)))
                    have fA_c11_xn_x36 := (fA_c11_xn_x25.keep Kq36 (ninS (Ne.symm ne_c3_xn_c11_xn) (ninS (Ne.symm ne_c3_xs_c11_xn) nin0)))
                    have fA_c11_xr_x36 := (fA_c11_xr_x25.keep Kq36 (ninS (Ne.symm ne_c3_xn_c11_xr) (ninS (Ne.symm ne_c3_xs_c11_xr) nin0)))
                    have fA_c11_xh_x36 := (fA_c11_xh_x25.keep Kq36 (ninS (Ne.symm ne_c3_xn_c11_xh) (ninS (Ne.symm ne_c3_xs_c11_xh) nin0)))
                    have fF_b10_ids_x36 := (fF_b10_ids_x25.keep Kq36 (ninS (Ne.symm ne_c3_xn_b10) (ninS (Ne.symm ne_c3_xs_b10) nin0)))
                    have fF_b10_incarnations_x36 := (fF_b10_incarnations_x25.keep Kq36 (ninS (Ne.symm ne_c3_xn_b10) (ninS (Ne.symm ne_c3_xs_b10) nin0)))
                    have fF_b10_rounds_x36 := (fF_b10_rounds_x25.keep Kq36 (ninS (Ne.symm ne_c3_xn_b10) (ninS (Ne.symm ne_c3_xs_b10) nin0)))
                    have fF_b10_heard_x36 := (fF_b10_heard_x25.keep Kq36 (ninS (Ne.symm ne_c3_xn_b10) (ninS (Ne.symm ne_c3_xs_b10) nin0)))
                    have fF_b10_count_x36 := (fF_b10_count_x25.keep Kq36 (ninS (Ne.symm ne_c3_xn_b10) (ninS (Ne.symm ne_c3_xs_b10) nin0)))
                    have fF_b2_ids_x36 := (F_ids_b2_27.keep Kq36 (ninS ne_b2_c3_xn (ninS ne_b2_c3_xs nin0)))
                    have fF_b2_newest_x36 := (F_newest_b2_28.keep Kq36 (ninS ne_b2_c3_xn (ninS ne_b2_c3_xs nin0)))
                    have fF_b2_state_x36 := (F_state_b2_29.keep Kq36 (ninS ne_b2_c3_xn (ninS ne_b2_c3_xs nin0)))
                    have fF_b2_mismatches_x36 := (F_mismatches_b2_30.keep Kq36 (ninS ne_b2_c3_xn (ninS ne_b2_c3_xs nin0)))
                    have fF_b2_size_x36 := (F_size_b2_31.keep Kq36 (ninS ne_b2_c3_xn (ninS ne_b2_c3_xs nin0)))
                    have fA_c3_xi_x36 := (V25_0a.keep Kq36 (ninS ne_c3_xi_c3_xn (ninS ne_c3_xi_c3_xs nin0)))
                    have fA_c3_xm_x36 := (V25_3a.keep Kq36 (ninS (Ne.symm ne_c3_xn_c3_xm) (ninS (Ne.symm ne_c3_xs_c3_xm) nin0)))
                    have K36 : Keep h0 T36.heap [] := Keep.trans K25 Kq36 (allS (Or.inr sz_c3_xn) (allS (Or.inr sz_c3_xs) all0))
                    have Z36 : n0 ≤ T36.heap.size := Nat.le_trans Z25 Kq36.1
                    have V36_0a : own_Arr Z T36.heap c3_xn .long (16 : Int32) (fun i => Value.long ((own_b0_g37 p1 p2 p3 q4 p5 q6 rd ct ar pos fn fq fr fs) i)) := V36_0
                    have V36_1a : own_Arr Z T36.heap c3_xs .long (16 : Int32) (fun i => Value.long ((own_b0_g38 p1 p2 p3 q4 p5 q6 rd ct ar pos fn fq fr fs) i)) := V36_1
                    obtain ⟨cq39, kq39, q39a, q39b, q39c⟩ := isOf hZ rfl fE_b2_x36
                    obtain ⟨_, _, ⟨T39, L39, k39, n39⟩, -, X39, ⟨Lc39, hQ39, l39, y39, z39⟩, st39⟩ := X36.virtualBack hx (y := (⟨"com/example/atoll/atoll/detect/HeldOrigins", "setQueued", "(IZ)V"⟩ : MethodName)) (z := (⟨"com/example/atoll/atoll/detect/HeldOrigins", "setQueued", "(IZ)V"⟩ : MethodName)) hown (mvT hZ (hw _ (List.mem_of_getElem? (i := 58) rfl))) (mvT hZ (hw _ (List.mem_of_getElem? (i := 59) rfl))) (notFace_of_selects (args := #[]) (mvT hZ (hw _ (List.mem_of_getElem? (i := 61) rfl)))) (mvT hZ (hw _ (List.mem_of_getElem? (i := 61) rfl))) (mvT hZ (hw _ (List.mem_of_getElem? (i := 60) rfl))) (by decide) (backOf (W := 0) (rm7 l Z a0 hw [] b2 (0 : Int32) fr c3_xi c3_xn c3_xs c3_xm (2 : Int32) (own_b0_g38 p1 p2 p3 q4 p5 q6 rd ct ar pos fn fq fr fs) T36.heap n0 Z36 ⟨fE_b2_x36, fF_b2_ids_x36, fF_b2_newest_x36, fF_b2_state_x36, fF_b2_mismatches_x36, fF_b2_size_x36⟩ V36_1a ne_b2_c3_xs g_c3_xs (by decide) (by decide)) hZ (hw _ (List.mem_of_getElem? (i := 62) rfl)) (hw _ (List.mem_of_getElem? (i := 4) rfl)) (by decide) (by decide)) q39a q39c (g := (mkF m 158 #[.val (.int p1), .val (.int p2), .val (.int p3), .val (.long q4), .second, .val (.int p5), .val (.long q6), .second, .val (.int rd), .val (.int ct), .val (.long ar), .second, .val (.int (0 : Int32)), .val (.int (1 : Int32)), .val (.int fn), .val (.int fq), .val (.int fr), .val (.int fs), .val (.ref b2), .val (.ref b10)] [(.int fr), (.int (0 : Int32)), (.ref b2)])) rfl (by rw [hml]; rfl) (Steps.refl _) (argsL := [(.int (0 : Int32)), (.int fr)]) (rest := []) (lenOf pd_0_4 rfl) rfl (by show 2 * 0 + _ ≤ _; exact Nat.le_of_eq rfl) (hb hby at_158) (fun _ _ => ⟨rfl, rfl, (by decide : 10 + 0 ≤ _), (by decide : 82 + 0 ≤ _)⟩)
                    dsimp only [Pt.U, Pt.locs, Pt.cells, Pt.slots] at X39 l39 y39 z39 st39 hQ39
                    subst l39 y39 z39
                    obtain ⟨rfl, N39q, Kq39, V39_0⟩ := hQ39
                    have N39 := Fr.app N36 N39q
                    have fE_b2_x39 := (fE_b2_x36.keep Kq39)
                    have fE_b10_x39 := (fE_b10_x36.keep Kq39)
                    have fA_c11_xi_x39 := (fA_c11_xi_x36.keep Kq39 (ninS (Ne.symm ne_c3_xs_c11_xi) nin0))
                    have fA_c11_xn_x39 := (fA_c11_xn_x36.keep Kq39 (ninS (Ne.symm ne_c3_xs_c11_xn) nin0))
                    have fA_c11_xr_x39 := (fA_c11_xr_x36.keep Kq39 (ninS (Ne.symm ne_c3_xs_c11_xr) nin0))
                    have fA_c11_xh_x39 := (fA_c11_xh_x36.keep Kq39 (ninS (Ne.symm ne_c3_xs_c11_xh) nin0))
                    have fF_b10_ids_x39 := (fF_b10_ids_x36.keep Kq39 (ninS (Ne.symm ne_c3_xs_b10) nin0))
                    have fF_b10_incarnations_x39 := (fF_b10_incarnations_x36.keep Kq39 (ninS (Ne.symm ne_c3_xs_b10) nin0))
                    have fF_b10_rounds_x39 := (fF_b10_rounds_x36.keep Kq39 (ninS (Ne.symm ne_c3_xs_b10) nin0))
                    have fF_b10_heard_x39 := (fF_b10_heard_x36.keep Kq39 (ninS (Ne.symm ne_c3_xs_b10) nin0))
                    have fF_b10_count_x39 := (fF_b10_count_x36.keep Kq39 (ninS (Ne.symm ne_c3_xs_b10) nin0))
                    have fF_b2_ids_x39 := (fF_b2_ids_x36.keep Kq39 (ninS ne_b2_c3_xs nin0))
                    have fF_b2_newest_x39 := (fF_b2_newest_x36.keep Kq39 (ninS ne_b2_c3_xs nin0))
                    have fF_b2_state_x39 := (fF_b2_state_x36.keep Kq39 (ninS ne_b2_c3_xs nin0))
                    have fF_b2_mismatches_x39 := (fF_b2_mismatches_x36.keep Kq39 (ninS ne_b2_c3_xs nin0))
                    have fF_b2_size_x39 := (fF_b2_size_x36.keep Kq39 (ninS ne_b2_c3_xs nin0))
                    have fA_c3_xi_x39 := (fA_c3_xi_x36.keep Kq39 (ninS ne_c3_xi_c3_xs nin0))
                    have fA_c3_xm_x39 := (fA_c3_xm_x36.keep Kq39 (ninS (Ne.symm ne_c3_xs_c3_xm) nin0))
                    have fA_c3_xn_x39 := (V36_0a.keep Kq39 (ninS ne_c3_xn_c3_xs nin0))
                    have K39 : Keep h0 T39.heap [] := Keep.trans K36 Kq39 (allS (Or.inr sz_c3_xs) all0)
                    have Z39 : n0 ≤ T39.heap.size := Nat.le_trans Z36 Kq39.1
                    have V39_0a : own_Arr Z T39.heap c3_xs .long (16 : Int32) (fun i => Value.long ((own_b0_g40 p1 p2 p3 q4 p5 q6 rd ct ar pos fn fq fr fs) i)) := V39_0
                    obtain ⟨cq41, kq41, q41a, q41b, q41c⟩ := isOf hZ rfl fE_b2_x39
                    obtain ⟨_, _, ⟨T41, L41, k41, n41⟩, -, X41, ⟨Lc41, hQ41, l41, y41, z41⟩, st41⟩ := X39.virtualBack hx (y := (⟨"com/example/atoll/atoll/detect/HeldOrigins", "relayQueued", "(Lcom/example/atoll/atoll/detect/Beacon$Builder;)V"⟩ : MethodName)) (z := (⟨"com/example/atoll/atoll/detect/HeldOrigins", "relayQueued", "(Lcom/example/atoll/atoll/detect/Beacon$Builder;)V"⟩ : MethodName)) hown (mvT hZ (hw _ (List.mem_of_getElem? (i := 67) rfl))) (mvT hZ (hw _ (List.mem_of_getElem? (i := 68) rfl))) (notFace_of_selects (args := #[]) (mvT hZ (hw _ (List.mem_of_getElem? (i := 70) rfl)))) (mvT hZ (hw _ (List.mem_of_getElem? (i := 70) rfl))) (mvT hZ (hw _ (List.mem_of_getElem? (i := 69) rfl))) (by decide) (backOf (W := 0) (rm9 l Z a0 hw [] b2 b10 c3_xi c3_xn c3_xs c3_xm c11_xi c11_xn c11_xr c11_xh (own_b0_g32 p1 p2 p3 q4 p5 q6 rd ct ar pos fn fq fr fs) (own_b0_g37 p1 p2 p3 q4 p5 q6 rd ct ar pos fn fq fr fs) (own_b0_g40 p1 p2 p3 q4 p5 q6 rd ct ar pos fn fq fr fs) (fun _ => (0 : Int32)) (fun _ => (0 : Int32)) (fun _ => (0 : Int32)) (fun _ => (0 : Int32)) T39.heap n0 Z39 ⟨fE_b2_x39, fF_b2_ids_x39, fF_b2_newest_x39, fF_b2_state_x39, fF_b2_mismatches_x39, fF_b2_size_x39⟩ ⟨fE_b10_x39, fF_b10_ids_x39, fF_b10_incarnations_x39, fF_b10_rounds_x39, fF_b10_heard_x39, fF_b10_count_x39⟩ fA_c3_xi_x39 fA_c3_xn_x39 V39_0a fA_c11_xi_x39 fA_c11_xn_x39 fA_c11_xr_x39 fA_c11_xh_x39 ne_b2_b10 ne_b2_c3_xs ne_b2_c11_xi ne_b2_c11_xn ne_b2_c11_xr ne_b2_c11_xh ne_c3_xi_b10 ne_c3_xi_c11_xi ne_c3_xi_c11_xn ne_c3_xi_c11_xr ne_c3_xi_c11_xh ne_c3_xn_b10 ne_c3_xn_c11_xi ne_c3_xn_c11_xn ne_c3_xn_c11_xr ne_c3_xn_c11_xh ne_c3_xs_b10 ne_c3_xs_c11_xi ne_c3_xs_c11_xn ne_c3_xs_c11_xr ne_c3_xs_c11_xh ne_c3_xi_c3_xs ne_c3_xn_c3_xs ne_b10_c11_xi ne_b10_c11_xn ne_b10_c11_xr ne_b10_c11_xh ne_c11_xi_c11_xn ne_c11_xi_c11_xr ne_c11_xi_c11_xh ne_c11_xn_c11_xr ne_c11_xn_c11_xh ne_c11_xr_c11_xh g_b10 g_c3_xs g_c11_xi g_c11_xn g_c11_xr g_c11_xh) hZ (hw _ (List.mem_of_getElem? (i := 71) rfl)) (hw _ (List.mem_of_getElem? (i := 4) rfl)) (by decide) (by decide)) q41a q41c (g := (mkF m 165 #[.val (.int p1), .val (.int p2), .val (.int p3), .val (.long q4), .second, .val (.int p5), .val (.long q6), .second, .val (.int rd), .val (.int ct), .val (.long ar), .second, .val (.int (0 : Int32)), .val (.int (1 : Int32)), .val (.int fn), .val (.int fq), .val (.int fr), .val (.int fs), .val (.ref b2), .val (.ref b10)] [(.ref b10), (.ref b2)])) rfl (by rw [hml]; rfl) (Steps.refl _) (argsL := [(.ref b10)]) (rest := []) (lenOf pd_0_5 rfl) rfl (by show 2 * 0 + _ ≤ _; exact Nat.le_of_eq rfl) (hb hby at_165) (fun _ _ => ⟨rfl, rfl, (by decide : 10 + 0 ≤ _), (by decide : 82 + 0 ≤ _)⟩)
                    dsimp only [Pt.U, Pt.locs, Pt.cells, Pt.slots] at X41 l41 y41 z41 st41 hQ41
                    subst l41 y41 z41
                    obtain ⟨rfl, N41q, Kq41, V41_0⟩ := hQ41
                    have N41 := Fr.app N39 N41q
                    have fE_b2_x41 := (fE_b2_x39.keep Kq41)
                    have fE_b10_x41 := (fE_b10_x39.keep Kq41)
                    have fF_b2_ids_x41 := (fF_b2_ids_x39.keep Kq41 (ninS ne_b2_b10 (ninS ne_b2_c3_xs (ninS ne_b2_c11_xi (ninS ne_b2_c11_xn (ninS ne_b2_c11_xr (ninS ne_b2_c11_xh nin0)))))))
                    have fF_b2_newest_x41 := (fF_b2_newest_x39.keep Kq41 (ninS ne_b2_b10 (ninS ne_b2_c3_xs (ninS ne_b2_c11_xi (ninS ne_b2_c11_xn (ninS ne_b2_c11_xr (ninS ne_b2_c11_xh nin0)))))))
                    have fF_b2_state_x41 := (fF_b2_state_x39.keep Kq41 (ninS ne_b2_b10 (ninS ne_b2_c3_xs (ninS ne_b2_c11_xi (ninS ne_b2_c11_xn (ninS ne_b2_c11_xr (ninS ne_b2_c11_xh nin0)))))))
                    have fF_b2_mismatches_x41 := (fF_b2_mismatches_x39.keep Kq41 (ninS ne_b2_b10 (ninS ne_b2_c3_xs (ninS ne_b2_c11_xi (ninS ne_b2_c11_xn (ninS ne_b2_c11_xr (ninS ne_b2_c11_xh nin0)))))))
                    have fF_b2_size_x41 := (fF_b2_size_x39.keep Kq41 (ninS ne_b2_b10 (ninS ne_b2_c3_xs (ninS ne_b2_c11_xi (ninS ne_b2_c11_xn (ninS ne_b2_c11_xr (ninS ne_b2_c11_xh nin0)))))))
                    have fA_c3_xi_x41 := (fA_c3_xi_x39.keep Kq41 (ninS ne_c3_xi_b10 (ninS ne_c3_xi_c3_xs (ninS ne_c3_xi_c11_xi (ninS ne_c3_xi_c11_xn (ninS ne_c3_xi_c11_xr (ninS ne_c3_xi_c11_xh nin0)))))))
                    have fA_c3_xm_x41 := (fA_c3_xm_x39.keep Kq41 (ninS ne_c3_xm_b10 (ninS (Ne.symm ne_c3_xs_c3_xm) (ninS ne_c3_xm_c11_xi (ninS ne_c3_xm_c11_xn (ninS ne_c3_xm_c11_xr (ninS ne_c3_xm_c11_xh nin0)))))))
                    have fA_c3_xn_x41 := (fA_c3_xn_x39.keep Kq41 (ninS ne_c3_xn_b10 (ninS ne_c3_xn_c3_xs (ninS ne_c3_xn_c11_xi (ninS ne_c3_xn_c11_xn (ninS ne_c3_xn_c11_xr (ninS ne_c3_xn_c11_xh nin0)))))))
                    have K41 : Keep h0 T41.heap [] := Keep.trans K39 Kq41 (allS (Or.inr sz_b10) (allS (Or.inr sz_c3_xs) (allS (Or.inr sz_c11_xi) (allS (Or.inr sz_c11_xn) (allS (Or.inr sz_c11_xr) (allS (Or.inr sz_c11_xh) all0))))))
                    have Z41 : n0 ≤ T41.heap.size := Nat.le_trans Z39 Kq41.1
                    have V41_0a : own_Arr Z T41.heap c3_xs .long (16 : Int32) (fun i => Value.long ((own_b0_g42 p1 p2 p3 q4 p5 q6 rd ct ar pos fn fq fr fs) i)) := V41_0
                    obtain ⟨cq43, kq43, q43a, q43b, q43c⟩ := isOf hZ rfl fE_b2_x41
                    obtain ⟨_, _, ⟨T43, L43, k43, n43⟩, -, X43, ⟨Lc43, hQ43, l43, y43, z43⟩, st43⟩ := X41.virtualBack hx (y := (⟨"com/example/atoll/atoll/detect/HeldOrigins", "setQueued", "(IZ)V"⟩ : MethodName)) (z := (⟨"com/example/atoll/atoll/detect/HeldOrigins", "setQueued", "(IZ)V"⟩ : MethodName)) hown (mvT hZ (hw _ (List.mem_of_getElem? (i := 58) rfl))) (mvT hZ (hw _ (List.mem_of_getElem? (i := 59) rfl))) (notFace_of_selects (args := #[]) (mvT hZ (hw _ (List.mem_of_getElem? (i := 61) rfl)))) (mvT hZ (hw _ (List.mem_of_getElem? (i := 61) rfl))) (mvT hZ (hw _ (List.mem_of_getElem? (i := 60) rfl))) (by decide) (backOf (W := 0) (rm7 l Z a0 hw [] b2 (0 : Int32) fq c3_xi c3_xn c3_xs c3_xm (2 : Int32) (own_b0_g42 p1 p2 p3 q4 p5 q6 rd ct ar pos fn fq fr fs) T41.heap n0 Z41 ⟨fE_b2_x41, fF_b2_ids_x41, fF_b2_newest_x41, fF_b2_state_x41, fF_b2_mismatches_x41, fF_b2_size_x41⟩ V41_0a ne_b2_c3_xs g_c3_xs (by decide) (by decide)) hZ (hw _ (List.mem_of_getElem? (i := 62) rfl)) (hw _ (List.mem_of_getElem? (i := 4) rfl)) (by decide) (by decide)) q43a q43c (g := (mkF m 174 #[.val (.int p1), .val (.int p2), .val (.int p3), .val (.long q4), .second, .val (.int p5), .val (.long q6), .second, .val (.int rd), .val (.int ct), .val (.long ar), .second, .val (.int (0 : Int32)), .val (.int (1 : Int32)), .val (.int fn), .val (.int fq), .val (.int fr), .val (.int fs), .val (.ref b2), .val (.ref b10)] [(.int fq), (.int (0 : Int32)), (.ref b2)])) rfl (by rw [hml]; rfl) (Steps.refl _) (argsL := [(.int (0 : Int32)), (.int fq)]) (rest := []) (lenOf pd_0_4 rfl) rfl (by show 2 * 0 + _ ≤ _; exact Nat.le_of_eq rfl) (hb hby at_174) (fun _ _ => ⟨rfl, rfl, (by decide : 10 + 0 ≤ _), (by decide : 82 + 0 ≤ _)⟩)
                    dsimp only [Pt.U, Pt.locs, Pt.cells, Pt.slots] at X43 l43 y43 z43 st43 hQ43
                    subst l43 y43 z43
                    obtain ⟨rfl, N43q, Kq43, V43_0⟩ := hQ43
                    have N43 := Fr.app N41 N43q
                    have fE_b2_x43 := (fE_b2_x41.keep Kq43)
                    have fE_b10_x43 := (fE_b10_x41.keep Kq43)
                    have fF_b2_ids_x43 := (fF_b2_ids_x41.keep Kq43 (ninS ne_b2_c3_xs nin0))
                    have fF_b2_newest_x43 := (fF_b2_newest_x41.keep Kq43 (ninS ne_b2_c3_xs nin0))
                    have fF_b2_state_x43 := (fF_b2_state_x41.keep Kq43 (ninS ne_b2_c3_xs nin0))
                    have fF_b2_mismatches_x43 := (fF_b2_mismatches_x41.keep Kq43 (ninS ne_b2_c3_xs nin0))
                    have fF_b2_size_x43 := (fF_b2_size_x41.keep Kq43 (ninS ne_b2_c3_xs nin0))
                    have fA_c3_xi_x43 := (fA_c3_xi_x41.keep Kq43 (ninS ne_c3_xi_c3_xs nin0))
                    have fA_c3_xm_x43 := (fA_c3_xm_x41.keep Kq43 (ninS (Ne.symm ne_c3_xs_c3_xm) nin0))
                    have fA_c3_xn_x43 := (fA_c3_xn_x41.keep Kq43 (ninS ne_c3_xn_c3_xs nin0))
                    have K43 : Keep h0 T43.heap [] := Keep.trans K41 Kq43 (allS (Or.inr sz_c3_xs) all0)
                    have Z43 : n0 ≤ T43.heap.size := Nat.le_trans Z41 Kq43.1
                    have V43_0a : own_Arr Z T43.heap c3_xs .long (16 : Int32) (fun i => Value.long ((own_b0_g44 p1 p2 p3 q4 p5 q6 rd ct ar pos fn fq fr fs) i)) := V43_0
                    obtain ⟨cq45, kq45, q45a, q45b, q45c⟩ := isOf hZ rfl fE_b2_x43
                    obtain ⟨_, _, ⟨T45, L45, k45, n45⟩, -, X45, ⟨Lc45, hQ45, l45, y45, z45⟩, st45⟩ := X43.virtualBack hx (y := (⟨"com/example/atoll/atoll/detect/HeldOrigins", "setNamed", "(IZ)V"⟩ : MethodName)) (z := (⟨"com/example/atoll/atoll/detect/HeldOrigins", "setNamed", "(IZ)V"⟩ : MethodName)) hown (mvT hZ (hw _ (List.mem_of_getElem? (i := 76) rfl))) (mvT hZ (hw _ (List.mem_of_getElem? (i := 77) rfl))) (notFace_of_selects (args := #[]) (mvT hZ (hw _ (List.mem_of_getElem? (i := 79) rfl)))) (mvT hZ (hw _ (List.mem_of_getElem? (i := 79) rfl))) (mvT hZ (hw _ (List.mem_of_getElem? (i := 78) rfl))) (by decide) (backOf (W := 0) (rm11 l Z a0 hw [] b2 (0 : Int32) fn c3_xi c3_xn c3_xs c3_xm (2 : Int32) (own_b0_g44 p1 p2 p3 q4 p5 q6 rd ct ar pos fn fq fr fs) T43.heap n0 Z43 ⟨fE_b2_x43, fF_b2_ids_x43, fF_b2_newest_x43, fF_b2_state_x43, fF_b2_mismatches_x43, fF_b2_size_x43⟩ V43_0a ne_b2_c3_xs g_c3_xs (by decide) (by decide)) hZ (hw _ (List.mem_of_getElem? (i := 80) rfl)) (hw _ (List.mem_of_getElem? (i := 4) rfl)) (by decide) (by decide)) q45a q45c (g := (mkF m 183 #[.val (.int p1), .val (.int p2), .val (.int p3), .val (.long q4), .second, .val (.int p5), .val (.long q6), .second, .val (.int rd), .val (.int ct), .val (.long ar), .second, .val (.int (0 : Int32)), .val (.int (1 : Int32)), .val (.int fn), .val (.int fq), .val (.int fr), .val (.int fs), .val (.ref b2), .val (.ref b10)] [(.int fn), (.int (0 : Int32)), (.ref b2)])) rfl (by rw [hml]; rfl) (Steps.refl _) (argsL := [(.int (0 : Int32)), (.int fn)]) (rest := []) (lenOf pd_0_4 rfl) rfl (by show 2 * 0 + _ ≤ _; exact Nat.le_of_eq rfl) (hb hby at_183) (fun _ _ => ⟨rfl, rfl, (by decide : 10 + 0 ≤ _), (by decide : 82 + 0 ≤ _)⟩)
                    dsimp only [Pt.U, Pt.locs, Pt.cells, Pt.slots] at X45 l45 y45 z45 st45 hQ45
                    subst l45 y45 z45
                    obtain ⟨rfl, N45q, Kq45, V45_0⟩ := hQ45
                    have N45 := Fr.app N43 N45q
                    have fE_b2_x45 := (fE_b2_x43.keep Kq45)
                    have fE_b10_x45 := (fE_b10_x43.keep Kq45)
                    have fF_b2_ids_x45 := (fF_b2_ids_x43.keep Kq45 (ninS ne_b2_c3_xs nin0))
                    have fF_b2_newest_x45 := (fF_b2_newest_x43.keep Kq45 (ninS ne_b2_c3_xs nin0))
                    have fF_b2_state_x45 := (fF_b2_state_x43.keep Kq45 (ninS ne_b2_c3_xs nin0))
                    have fF_b2_mismatches_x45 := (fF_b2_mismatches_x43.keep Kq45 (ninS ne_b2_c3_xs nin0))
                    have fF_b2_size_x45 := (fF_b2_size_x43.keep Kq45 (ninS ne_b2_c3_xs nin0))
                    have fA_c3_xi_x45 := (fA_c3_xi_x43.keep Kq45 (ninS ne_c3_xi_c3_xs nin0))
                    have fA_c3_xm_x45 := (fA_c3_xm_x43.keep Kq45 (ninS (Ne.symm ne_c3_xs_c3_xm) nin0))
                    have fA_c3_xn_x45 := (fA_c3_xn_x43.keep Kq45 (ninS ne_c3_xn_c3_xs nin0))
                    have K45 : Keep h0 T45.heap [] := Keep.trans K43 Kq45 (allS (Or.inr sz_c3_xs) all0)
                    have Z45 : n0 ≤ T45.heap.size := Nat.le_trans Z43 Kq45.1
                    have V45_0a : own_Arr Z T45.heap c3_xs .long (16 : Int32) (fun i => Value.long ((own_b0_g46 p1 p2 p3 q4 p5 q6 rd ct ar pos fn fq fr fs) i)) := V45_0
                    obtain ⟨cq47, kq47, q47a, q47b, q47c⟩ := isOf hZ rfl fE_b2_x45
                    obtain ⟨_, _, ⟨T47, L47, k47, n47⟩, -, X47, ⟨Lc47, hQ47, l47, y47, z47⟩, st47⟩ := X45.virtualBack hx (y := (⟨"com/example/atoll/atoll/detect/HeldOrigins", "setHoldsSelf", "(IZ)V"⟩ : MethodName)) (z := (⟨"com/example/atoll/atoll/detect/HeldOrigins", "setHoldsSelf", "(IZ)V"⟩ : MethodName)) hown (mvT hZ (hw _ (List.mem_of_getElem? (i := 81) rfl))) (mvT hZ (hw _ (List.mem_of_getElem? (i := 82) rfl))) (notFace_of_selects (args := #[]) (mvT hZ (hw _ (List.mem_of_getElem? (i := 84) rfl)))) (mvT hZ (hw _ (List.mem_of_getElem? (i := 84) rfl))) (mvT hZ (hw _ (List.mem_of_getElem? (i := 83) rfl))) (by decide) (backOf (W := 0) (rm12 l Z a0 hw [] b2 (0 : Int32) fs c3_xi c3_xn c3_xs c3_xm (2 : Int32) (own_b0_g46 p1 p2 p3 q4 p5 q6 rd ct ar pos fn fq fr fs) T45.heap n0 Z45 ⟨fE_b2_x45, fF_b2_ids_x45, fF_b2_newest_x45, fF_b2_state_x45, fF_b2_mismatches_x45, fF_b2_size_x45⟩ V45_0a ne_b2_c3_xs g_c3_xs (by decide) (by decide)) hZ (hw _ (List.mem_of_getElem? (i := 85) rfl)) (hw _ (List.mem_of_getElem? (i := 4) rfl)) (by decide) (by decide)) q47a q47c (g := (mkF m 192 #[.val (.int p1), .val (.int p2), .val (.int p3), .val (.long q4), .second, .val (.int p5), .val (.long q6), .second, .val (.int rd), .val (.int ct), .val (.long ar), .second, .val (.int (0 : Int32)), .val (.int (1 : Int32)), .val (.int fn), .val (.int fq), .val (.int fr), .val (.int fs), .val (.ref b2), .val (.ref b10)] [(.int fs), (.int (0 : Int32)), (.ref b2)])) rfl (by rw [hml]; rfl) (Steps.refl _) (argsL := [(.int (0 : Int32)), (.int fs)]) (rest := []) (lenOf pd_0_4 rfl) rfl (by show 2 * 0 + _ ≤ _; exact Nat.le_of_eq rfl) (hb hby at_192) (fun _ _ => ⟨rfl, rfl, (by decide : 10 + 0 ≤ _), (by decide : 82 + 0 ≤ _)⟩)
                    dsimp only [Pt.U, Pt.locs, Pt.cells, Pt.slots] at X47 l47 y47 z47 st47 hQ47
                    subst l47 y47 z47
                    obtain ⟨rfl, N47q, Kq47, V47_0⟩ := hQ47
                    have N47 := Fr.app N45 N47q
                    have fE_b2_x47 := (fE_b2_x45.keep Kq47)
                    have fE_b10_x47 := (fE_b10_x45.keep Kq47)
                    have fF_b2_ids_x47 := (fF_b2_ids_x45.keep Kq47 (ninS ne_b2_c3_xs nin0))
                    have fF_b2_newest_x47 := (fF_b2_newest_x45.keep Kq47 (ninS ne_b2_c3_xs nin0))
                    have fF_b2_state_x47 := (fF_b2_state_x45.keep Kq47 (ninS ne_b2_c3_xs nin0))
                    have fF_b2_mismatches_x47 := (fF_b2_mismatches_x45.keep Kq47 (ninS ne_b2_c3_xs nin0))
                    have fF_b2_size_x47 := (fF_b2_size_x45.keep Kq47 (ninS ne_b2_c3_xs nin0))
                    have fA_c3_xi_x47 := (fA_c3_xi_x45.keep Kq47 (ninS ne_c3_xi_c3_xs nin0))
                    have fA_c3_xm_x47 := (fA_c3_xm_x45.keep Kq47 (ninS (Ne.symm ne_c3_xs_c3_xm) nin0))
                    have fA_c3_xn_x47 := (fA_c3_xn_x45.keep Kq47 (ninS ne_c3_xn_c3_xs nin0))
                    have K47 : Keep h0 T47.heap [] := Keep.trans K45 Kq47 (allS (Or.inr sz_c3_xs) all0)
                    have Z47 : n0 ≤ T47.heap.size := Nat.le_trans Z45 Kq47.1
                    have V47_0a : own_Arr Z T47.heap c3_xs .long (16 : Int32) (fun i => Value.long ((own_b0_g48 p1 p2 p3 q4 p5 q6 rd ct ar pos fn fq fr fs) i)) := V47_0
                    obtain ⟨cq49, kq49, q49a, q49b, q49c⟩ := isOf hZ rfl fE_b2_x47
                    obtain ⟨_, _, ⟨T49, L49, k49, n49⟩, -, X49, ⟨Lc49, hQ49, l49, y49, z49⟩, st49⟩ := X47.virtualBack hx (y := (⟨"com/example/atoll/atoll/detect/HeldOrigins", "setNews", "(IIIIJ)V"⟩ : MethodName)) (z := (⟨"com/example/atoll/atoll/detect/HeldOrigins", "setNews", "(IIIIJ)V"⟩ : MethodName)) hown (mvT hZ (hw _ (List.mem_of_getElem? (i := 52) rfl))) (mvT hZ (hw _ (List.mem_of_getElem? (i := 53) rfl))) (notFace_of_selects (args := #[]) (mvT hZ (hw _ (List.mem_of_getElem? (i := 55) rfl)))) (mvT hZ (hw _ (List.mem_of_getElem? (i := 55) rfl))) (mvT hZ (hw _ (List.mem_of_getElem? (i := 54) rfl))) (by decide) (backOf (W := 0) (rm6 l Z a0 hw [] b2 (0 : Int32) p1 rd ct ar c3_xi c3_xn c3_xs c3_xm (2 : Int32) (own_b0_g37 p1 p2 p3 q4 p5 q6 rd ct ar pos fn fq fr fs) (own_b0_g48 p1 p2 p3 q4 p5 q6 rd ct ar pos fn fq fr fs) T47.heap n0 Z47 ⟨fE_b2_x47, fF_b2_ids_x47, fF_b2_newest_x47, fF_b2_state_x47, fF_b2_mismatches_x47, fF_b2_size_x47⟩ fA_c3_xn_x47 V47_0a ne_b2_c3_xn ne_b2_c3_xs ne_c3_xn_c3_xs g_c3_xn g_c3_xs (by decide) (by decide)) hZ (hw _ (List.mem_of_getElem? (i := 56) rfl)) (hw _ (List.mem_of_getElem? (i := 4) rfl)) (by decide) (by decide)) q49a q49c (g := (mkF m 206 #[.val (.int p1), .val (.int p2), .val (.int p3), .val (.long q4), .second, .val (.int p5), .val (.long q6), .second, .val (.int rd), .val (.int ct), .val (.long ar), .second, .val (.int (0 : Int32)), .val (.int (1 : Int32)), .val (.int fn), .val (.int fq), .val (.int fr), .val (.int fs), .val (.ref b2), .val (.ref b10)] [(.long ar), (.int ct), (.int rd), (.int p1), (.int (0 : Int32)), (.ref b2)])) rfl (by rw [hml]; rfl) (Steps.refl _) (argsL := [(.int (0 : Int32)), (.int p1), (.int rd), (.int ct), (.long ar)]) (rest := []) (lenOf pd_0_3 rfl) rfl (by show 2 * 0 + _ ≤ _; exact Nat.le_of_eq rfl) (hb hby at_206) (fun _ _ => ⟨rfl, rfl, (by decide : 10 + 0 ≤ _), (by decide : 82 + 0 ≤ _)⟩)
                    dsimp only [Pt.U, Pt.locs, Pt.cells, Pt.slots] at X49 l49 y49 z49 st49 hQ49
                    subst l49 y49 z49
                    obtain ⟨rfl, N49q, Kq49, V49_0, V49_1⟩ := hQ49
                    have N49 := Fr.app N47 N49q
                    have fE_b2_x49 := (fE_b2_x47.keep Kq49)
                    have fE_b10_x49 := (fE_b10_x47.keep Kq49)
                    have fF_b2_ids_x49 := (fF_b2_ids_x47.keep Kq49 (ninS ne_b2_c3_xn (ninS ne_b2_c3_xs nin0)))
                    have fF_b2_newest_x49 := (fF_b2_newest_x47.keep Kq49 (ninS ne_b2_c3_xn (ninS ne_b2_c3_xs nin0)))
                    have fF_b2_state_x49 := (fF_b2_state_x47.keep Kq49 (ninS ne_b2_c3_xn (ninS ne_b2_c3_xs nin0)))
                    have fF_b2_mismatches_x49 := (fF_b2_mismatches_x47.keep Kq49 (ninS ne_b2_c3_xn (ninS ne_b2_c3_xs nin0)))
                    have fF_b2_size_x49 := (fF_b2_size_x47.keep Kq49 (ninS ne_b2_c3_xn (ninS ne_b2_c3_xs nin0)))
                    have fA_c3_xi_x49 := (fA_c3_xi_x47.keep Kq49 (ninS ne_c3_xi_c3_xn (ninS ne_c3_xi_c3_xs nin0)))
                    have fA_c3_xm_x49 := (fA_c3_xm_x47.keep Kq49 (ninS (Ne.symm ne_c3_xn_c3_xm) (ninS (Ne.symm ne_c3_xs_c3_xm) nin0)))
                    have K49 : Keep h0 T49.heap [] := Keep.trans K47 Kq49 (allS (Or.inr sz_c3_xn) (allS (Or.inr sz_c3_xs) all0))
                    have Z49 : n0 ≤ T49.heap.size := Nat.le_trans Z47 Kq49.1
                    have V49_0a : own_Arr Z T49.heap c3_xn .long (16 : Int32) (fun i => Value.long ((own_b0_g50 p1 p2 p3 q4 p5 q6 rd ct ar pos fn fq fr fs) i)) := V49_0
                    have V49_1a : own_Arr Z T49.heap c3_xs .long (16 : Int32) (fun i => Value.long ((own_b0_g51 p1 p2 p3 q4 p5 q6 rd ct ar pos fn fq fr fs) i)) := V49_1
                    obtain ⟨cq52, kq52, q52a, q52b, q52c⟩ := isOf hZ rfl fE_b2_x49
                    obtain ⟨_, _, ⟨T52, L52, k52, n52⟩, -, X52, ⟨Lc52, hQ52, l52, y52, z52⟩, st52⟩ := X49.virtualBack hx (y := (⟨"com/example/atoll/atoll/detect/HeldOrigins", "incarnation", "(I)I"⟩ : MethodName)) (z := (⟨"com/example/atoll/atoll/detect/HeldOrigins", "incarnation", "(I)I"⟩ : MethodName)) hown (mvT hZ (hw _ (List.mem_of_getElem? (i := 86) rfl))) (mvT hZ (hw _ (List.mem_of_getElem? (i := 87) rfl))) (notFace_of_selects (args := #[]) (mvT hZ (hw _ (List.mem_of_getElem? (i := 89) rfl)))) (mvT hZ (hw _ (List.mem_of_getElem? (i := 89) rfl))) (mvT hZ (hw _ (List.mem_of_getElem? (i := 88) rfl))) (by decide) (backOf (W := 0) (rm13 l Z a0 hw [] b2 (0 : Int32) c3_xi c3_xn c3_xs c3_xm (2 : Int32) (own_b0_g50 p1 p2 p3 q4 p5 q6 rd ct ar pos fn fq fr fs) T49.heap n0 Z49 ⟨fE_b2_x49, fF_b2_ids_x49, fF_b2_newest_x49, fF_b2_state_x49, fF_b2_mismatches_x49, fF_b2_size_x49⟩ V49_0a (by decide) (by decide)) hZ (hw _ (List.mem_of_getElem? (i := 90) rfl)) (hw _ (List.mem_of_getElem? (i := 4) rfl)) (by decide) (by decide)) q52a q52c (g := (mkF m 213 #[.val (.int p1), .val (.int p2), .val (.int p3), .val (.long q4), .second, .val (.int p5), .val (.long q6), .second, .val (.int rd), .val (.int ct), .val (.long ar), .second, .val (.int (0 : Int32)), .val (.int (1 : Int32)), .val (.int fn), .val (.int fq), .val (.int fr), .val (.int fs), .val (.ref b2), .val (.ref b10)] [(.int (0 : Int32)), (.ref b2)])) rfl (by rw [hml]; rfl) (Steps.refl _) (argsL := [(.int (0 : Int32))]) (rest := []) (lenOf pd_0_6 rfl) rfl (by show 2 * 0 + _ ≤ _; exact Nat.le_of_eq rfl) (hb hby at_213) (fun _ _ => ⟨rfl, rfl, (by decide : 10 + 0 ≤ _), (by decide : 82 + 0 ≤ _)⟩)
                    dsimp only [Pt.U, Pt.locs, Pt.cells, Pt.slots] at X52 l52 y52 z52 st52 hQ52
                    subst l52 y52 z52
                    obtain ⟨rfl, N52q, e52⟩ := hQ52
                    have N52 := Fr.app N49 N52q
                    refine own_pre (A := T52.setTop (mkF m 217 #[.val (.int p1), .val (.int p2), .val (.int p3), .val (.long q4), .second, .val (.int p5), .val (.long q6), .second, .val (.int rd), .val (.int ct), .val (.long ar), .second, .val (.int (0 : Int32)), .val (.int (1 : Int32)), .val (.int fn), .val (.int fq), .val (.int fr), .val (.int fs), .val (.ref b2), .val (.ref b10)] [(.int p1), (.int (own_inc (0 : Int32) (own_b0_g50 p1 p2 p3 q4 p5 q6 rd ct ar pos fn fq fr fs)))])) (fun tt kt => ?_) ?_
                    · show Steps p.tables e below (Tj87.setTop (mkF m 87 #[.val (.int p1), .val (.int p2), .val (.int p3), .val (.long q4), .second, .val (.int p5), .val (.long q6), .second, .val (.int rd), .val (.int ct), .val (.long ar), .second, .val (.int (0 : Int32)), .val (.int (1 : Int32)), .val (.int fn), .val (.int fq), .val (.int fr), .unset, .unset, .unset] [(.int fs)])) _
                      refine XS.istore Xj87.here hx rfl (hb hby at_87) rfl (l' := #[.val (.int p1), .val (.int p2), .val (.int p3), .val (.long q4), .second, .val (.int p5), .val (.long q6), .second, .val (.int rd), .val (.int ct), .val (.long ar), .second, .val (.int (0 : Int32)), .val (.int (1 : Int32)), .val (.int fn), .val (.int fq), .val (.int fr), .val (.int fs), .unset, .unset]) rfl ?_
                      show Steps p.tables e below (Tj87.setTop (mkF m 89 #[.val (.int p1), .val (.int p2), .val (.int p3), .val (.long q4), .second, .val (.int p5), .val (.long q6), .second, .val (.int rd), .val (.int ct), .val (.long ar), .second, .val (.int (0 : Int32)), .val (.int (1 : Int32)), .val (.int fn), .val (.int fq), .val (.int fr), .val (.int fs), .unset, .unset] [])) _
                      refine st2 _ ?_
                      show Steps p.tables e below (T2.setTop (mkF m 92 #[.val (.int p1), .val (.int p2), .val (.int p3), .val (.long q4), .second, .val (.int p5), .val (.long q6), .second, .val (.int rd), .val (.int ct), .val (.long ar), .second, .val (.int (0 : Int32)), .val (.int (1 : Int32)), .val (.int fn), .val (.int fq), .val (.int fr), .val (.int fs), .unset, .unset] [(.ref b2)])) _
                      refine XS.dup X2.here hx rfl (hb hby at_92) rfl rfl ?_
                      show Steps p.tables e below (T2.setTop (mkF m 93 #[.val (.int p1), .val (.int p2), .val (.int p3), .val (.long q4), .second, .val (.int p5), .val (.long q6), .second, .val (.int rd), .val (.int ct), .val (.long ar), .second, .val (.int (0 : Int32)), .val (.int (1 : Int32)), .val (.int fn), .val (.int fq), .val (.int fr), .val (.int fs), .unset, .unset] [(.ref b2), (.ref b2)])) _
                      refine st3.trans ?_
                      show Steps p.tables e below (T3.setTop (mkF m 96 #[.val (.int p1), .val (.int p2), .val (.int p3), .val (.long q4), .second, .val (.int p5), .val (.long q6), .second, .val (.int rd), .val (.int ct), .val (.long ar), .second, .val (.int (0 : Int32)), .val (.int (1 : Int32)), .val (.int fn), .val (.int fq), .val (.int fr), .val (.int fs), .unset, .unset] [(.ref b2)])) _
                      refine XS.astore X3.here hx rfl (hb hby at_96) rfl rfl (l' := #[.val (.int p1), .val (.int p2), .val (.int p3), .val (.long q4), .second, .val (.int p5), .val (.long q6), .second, .val (.int rd), .val (.int ct), .val (.long ar), .second, .val (.int (0 : Int32)), .val (.int (1 : Int32)), .val (.int fn), .val (.int fq), .val (.int fr), .val (.int fs), .val (.ref b2), .unset]) rfl ?_
                      show Steps p.tables e below (T3.setTop (mkF m 98 #[.val (.int p1), .val (.int p2), .val (.int p3), .val (.long q4), .second, .val (.int p5), .val (.long q6), .second, .val (.int rd), .val (.int ct), .val (.long ar), .second, .val (.int (0 : Int32)), .val (.int (1 : Int32)), .val (.int fn), .val (.int fq), .val (.int fr), .val (.int fs), .val (.ref b2), .unset] [])) _
                      refine st10 _ ?_
                      show Steps p.tables e below (T10.setTop (mkF m 101 #[.val (.int p1), .val (.int p2), .val (.int p3), .val (.long q4), .second, .val (.int p5), .val (.long q6), .second, .val (.int rd), .val (.int ct), .val (.long ar), .second, .val (.int (0 : Int32)), .val (.int (1 : Int32)), .val (.int fn), .val (.int fq), .val (.int fr), .val (.int fs), .val (.ref b2), .unset] [(.ref b10)])) _
                      refine XS.dup X10.here hx rfl (hb hby at_101) rfl rfl ?_
                      refine XS.iconst X10.here hx rfl (hb hby at_102) ?_
                      show Steps p.tables e below (T10.setTop (mkF m 103 #[.val (.int p1), .val (.int p2), .val (.int p3), .val (.long q4), .second, .val (.int p5), .val (.long q6), .second, .val (.int rd), .val (.int ct), .val (.long ar), .second, .val (.int (0 : Int32)), .val (.int (1 : Int32)), .val (.int fn), .val (.int fq), .val (.int fr), .val (.int fs), .val (.ref b2), .unset] [(.int (2 : Int32)), (.ref b10), (.ref b10)])) _
                      refine st11.trans ?_
                      show Steps p.tables e below (T11.setTop (mkF m 106 #[.val (.int p1), .val (.int p2), .val (.int p3), .val (.long q4), .second, .val (.int p5), .val (.long q6), .second, .val (.int rd), .val (.int ct), .val (.long ar), .second, .val (.int (0 : Int32)), .val (.int (1 : Int32)), .val (.int fn), .val (.int fq), .val (.int fr), .val (.int fs), .val (.ref b2), .unset] [(.ref b10)])) _
                      refine XS.astore X11.here hx rfl (hb hby at_106) rfl rfl (l' := #[.val (.int p1), .val (.int p2), .val (.int p3), .val (.long q4), .second, .val (.int p5), .val (.long q6), .second, .val (.int rd), .val (.int ct), .val (.long ar), .second, .val (.int (0 : Int32)), .val (.int (1 : Int32)), .val (.int fn), .val (.int fq), .val (.int fr), .val (.int fs), .val (.ref b2), .val (.ref b10)]) rfl ?_
                      refine XS.aload X11.here hx rfl (hb hby at_108) rfl rfl ?_
                      refine XS.iconst X11.here hx rfl (hb hby at_110) ?_
                      refine XS.iconst X11.here hx rfl (hb hby at_111) ?_
                      show Steps p.tables e below (T11.setTop (mkF m 112 #[.val (.int p1), .val (.int p2), .val (.int p3), .val (.long q4), .second, .val (.int p5), .val (.long q6), .second, .val (.int rd), .val (.int ct), .val (.long ar), .second, .val (.int (0 : Int32)), .val (.int (1 : Int32)), .val (.int fn), .val (.int fq), .val (.int fr), .val (.int fs), .val (.ref b2), .val (.ref b10)] [(.int (5 : Int32)), (.int (0 : Int32)), (.ref b2)])) _
                      refine st18.trans ?_
                      show Steps p.tables e below (T18.setTop (mkF m 115 #[.val (.int p1), .val (.int p2), .val (.int p3), .val (.long q4), .second, .val (.int p5), .val (.long q6), .second, .val (.int rd), .val (.int ct), .val (.long ar), .second, .val (.int (0 : Int32)), .val (.int (1 : Int32)), .val (.int fn), .val (.int fq), .val (.int fr), .val (.int fs), .val (.ref b2), .val (.ref b10)] [])) _
                      refine XS.aload X18.here hx rfl (hb hby at_115) rfl rfl ?_
                      refine XS.iconst X18.here hx rfl (hb hby at_117) ?_
                      refine XS.bipush X18.here hx rfl (hb hby at_118) ?_
                      show Steps p.tables e below (T18.setTop (mkF m 120 #[.val (.int p1), .val (.int p2), .val (.int p3), .val (.long q4), .second, .val (.int p5), .val (.long q6), .second, .val (.int rd), .val (.int ct), .val (.long ar), .second, .val (.int (0 : Int32)), .val (.int (1 : Int32)), .val (.int fn), .val (.int fq), .val (.int fr), .val (.int fs), .val (.ref b2), .val (.ref b10)] [(.int (9 : Int32)), (.int (1 : Int32)), (.ref b2)])) _
                      refine st25.trans ?_
                      show Steps p.tables e below (T25.setTop (mkF m 123 #[.val (.int p1), .val (.int p2), .val (.int p3), .val (.long q4), .second, .val (.int p5), .val (.long q6), .second, .val (.int rd), .val (.int ct), .val (.long ar), .second, .val (.int (0 : Int32)), .val (.int (1 : Int32)), .val (.int fn), .val (.int fq), .val (.int fr), .val (.int fs), .val (.ref b2), .val (.ref b10)] [])) _
                      refine XS.aload X25.here hx rfl (hb hby at_123) rfl rfl ?_
                      refine XS.iload X25.here hx rfl (hb hby at_125) rfl ?_
                      refine XS.lload X25.here hx rfl (hb hby at_127) rfl ?_
                      refine XS.bipush X25.here hx rfl (hb hby at_129) ?_
                      refine XS.lushr X25.here hx rfl (hb hby at_131) rfl ?_
                      refine XS.l2i X25.here hx rfl (hb hby at_132) rfl ?_
                      refine XS.lload X25.here hx rfl (hb hby at_133) rfl ?_
                      show Steps p.tables e below (T25.setTop (mkF m 135 #[.val (.int p1), .val (.int p2), .val (.int p3), .val (.long q4), .second, .val (.int p5), .val (.long q6), .second, .val (.int rd), .val (.int ct), .val (.long ar), .second, .val (.int (0 : Int32)), .val (.int (1 : Int32)), .val (.int fn), .val (.int fq), .val (.int fr), .val (.int fs), .val (.ref b2), .val (.ref b10)] [(.long q6), (.int (((q6.toUInt64 >>> ((32 : Int32) &&& 0x3f).toInt64.toUInt64).toInt64).toInt32)), (.int (0 : Int32)), (.ref b2)])) _
                      refine XS.l2i X25.here hx rfl (hb hby at_135) rfl ?_
                      refine XS.bipush X25.here hx rfl (hb hby at_136) ?_
                      refine XS.iushr X25.here hx rfl (hb hby at_138) rfl ?_
                      refine XS.lload X25.here hx rfl (hb hby at_139) rfl ?_
                      refine XS.l2i X25.here hx rfl (hb hby at_141) rfl ?_
                      show Steps p.tables e below (T25.setTop (mkF m 142 #[.val (.int p1), .val (.int p2), .val (.int p3), .val (.long q4), .second, .val (.int p5), .val (.long q6), .second, .val (.int rd), .val (.int ct), .val (.long ar), .second, .val (.int (0 : Int32)), .val (.int (1 : Int32)), .val (.int fn), .val (.int fq), .val (.int fr), .val (.int fs), .val (.ref b2), .val (.ref b10)] [(.int (q6.toInt32)), (.int (((q6.toInt32).toUInt32 >>> ((16 : Int32) &&& 31).toUInt32).toInt32)), (.int (((q6.toUInt64 >>> ((32 : Int32) &&& 0x3f).toInt64.toUInt64).toInt64).toInt32)), (.int (0 : Int32)), (.ref b2)])) _
                      refine X25.ldcInt hx hown (mvT hZ (hw _ (List.mem_of_getElem? (i := 0) rfl))) (g := (mkF m 142 #[.val (.int p1), .val (.int p2), .val (.int p3), .val (.long q4), .second, .val (.int p5), .val (.long q6), .second, .val (.int rd), .val (.int ct), .val (.long ar), .second, .val (.int (0 : Int32)), .val (.int (1 : Int32)), .val (.int fn), .val (.int fq), .val (.int fr), .val (.int fs), .val (.ref b2), .val (.ref b10)] [(.int (q6.toInt32)), (.int (((q6.toInt32).toUInt32 >>> ((16 : Int32) &&& 31).toUInt32).toInt32)), (.int (((q6.toUInt64 >>> ((32 : Int32) &&& 0x3f).toInt64.toUInt64).toInt64).toInt32)), (.int (0 : Int32)), (.ref b2)])) rfl (hb hby at_142) _ ?_
                      show Steps p.tables e below (T25.setTop (mkF m 144 #[.val (.int p1), .val (.int p2), .val (.int p3), .val (.long q4), .second, .val (.int p5), .val (.long q6), .second, .val (.int rd), .val (.int ct), .val (.long ar), .second, .val (.int (0 : Int32)), .val (.int (1 : Int32)), .val (.int fn), .val (.int fq), .val (.int fr), .val (.int fs), .val (.ref b2), .val (.ref b10)] [(.int (65535 : Int32)), (.int (q6.toInt32)), (.int (((q6.toInt32).toUInt32 >>> ((16 : Int32) &&& 31).toUInt32).toInt32)), (.int (((q6.toUInt64 >>> ((32 : Int32) &&& 0x3f).toInt64.toUInt64).toInt64).toInt32)), (.int (0 : Int32)), (.ref b2)])) _
                      refine XS.iand X25.here hx rfl (hb hby at_144) rfl ?_
                      refine XS.lload X25.here hx rfl (hb hby at_145) rfl ?_
                      refine XS.iconst X25.here hx rfl (hb hby at_147) ?_
                      refine XS.lushr X25.here hx rfl (hb hby at_148) rfl ?_
                      show Steps p.tables e below (T25.setTop (mkF m 149 #[.val (.int p1), .val (.int p2), .val (.int p3), .val (.long q4), .second, .val (.int p5), .val (.long q6), .second, .val (.int rd), .val (.int ct), .val (.long ar), .second, .val (.int (0 : Int32)), .val (.int (1 : Int32)), .val (.int fn), .val (.int fq), .val (.int fr), .val (.int fs), .val (.ref b2), .val (.ref b10)] [(.long ((q6.toUInt64 >>> ((5 : Int32) &&& 0x3f).toInt64.toUInt64).toInt64)), (.int ((q6.toInt32) &&& (65535 : Int32))), (.int (((q6.toInt32).toUInt32 >>> ((16 : Int32) &&& 31).toUInt32).toInt32)), (.int (((q6.toUInt64 >>> ((32 : Int32) &&& 0x3f).toInt64.toUInt64).toInt64).toInt32)), (.int (0 : Int32)), (.ref b2)])) _
                      refine st36.trans ?_
                      show Steps p.tables e below (T36.setTop (mkF m 152 #[.val (.int p1), .val (.int p2), .val (.int p3), .val (.long q4), .second, .val (.int p5), .val (.long q6), .second, .val (.int rd), .val (.int ct), .val (.long ar), .second, .val (.int (0 : Int32)), .val (.int (1 : Int32)), .val (.int fn), .val (.int fq), .val (.int fr), .val (.int fs), .val (.ref b2), .val (.ref b10)] [])) _
                      refine XS.aload X36.here hx rfl (hb hby at_152) rfl rfl ?_
                      refine XS.iload X36.here hx rfl (hb hby at_154) rfl ?_
                      refine XS.iload X36.here hx rfl (hb hby at_156) rfl ?_
                      show Steps p.tables e below (T36.setTop (mkF m 158 #[.val (.int p1), .val (.int p2), .val (.int p3), .val (.long q4), .second, .val (.int p5), .val (.long q6), .second, .val (.int rd), .val (.int ct), .val (.long ar), .second, .val (.int (0 : Int32)), .val (.int (1 : Int32)), .val (.int fn), .val (.int fq), .val (.int fr), .val (.int fs), .val (.ref b2), .val (.ref b10)] [(.int fr), (.int (0 : Int32)), (.ref b2)])) _
                      refine st39.trans ?_
                      show Steps p.tables e below (T39.setTop (mkF m 161 #[.val (.int p1), .val (.int p2), .val (.int p3), .val (.long q4), .second, .val (.int p5), .val (.long q6), .second, .val (.int rd), .val (.int ct), .val (.long ar), .second, .val (.int (0 : Int32)), .val (.int (1 : Int32)), .val (.int fn), .val (.int fq), .val (.int fr), .val (.int fs), .val (.ref b2), .val (.ref b10)] [])) _
                      refine XS.aload X39.here hx rfl (hb hby at_161) rfl rfl ?_
                      refine XS.aload X39.here hx rfl (hb hby at_163) rfl rfl ?_
                      show Steps p.tables e below (T39.setTop (mkF m 165 #[.val (.int p1), .val (.int p2), .val (.int p3), .val (.long q4), .second, .val (.int p5), .val (.long q6), .second, .val (.int rd), .val (.int ct), .val (.long ar), .second, .val (.int (0 : Int32)), .val (.int (1 : Int32)), .val (.int fn), .val (.int fq), .val (.int fr), .val (.int fs), .val (.ref b2), .val (.ref b10)] [(.ref b10), (.ref b2)])) _
                      refine st41.trans ?_
                      show Steps p.tables e below (T41.setTop (mkF m 168 #[.val (.int p1), .val (.int p2), .val (.int p3), .val (.long q4), .second, .val (.int p5), .val (.long q6), .second, .val (.int rd), .val (.int ct), .val (.long ar), .second, .val (.int (0 : Int32)), .val (.int (1 : Int32)), .val (.int fn), .val (.int fq), .val (.int fr), .val (.int fs), .val (.ref b2), .val (.ref b10)] [])) _
                      refine XS.aload X41.here hx rfl (hb hby at_168) rfl rfl ?_
                      refine XS.iload X41.here hx rfl (hb hby at_170) rfl ?_
                      refine XS.iload X41.here hx rfl (hb hby at_172) rfl ?_
                      show Steps p.tables e below (T41.setTop (mkF m 174 #[.val (.int p1), .val (.int p2), .val (.int p3), .val (.long q4), .second, .val (.int p5), .val (.long q6), .second, .val (.int rd), .val (.int ct), .val (.long ar), .second, .val (.int (0 : Int32)), .val (.int (1 : Int32)), .val (.int fn), .val (.int fq), .val (.int fr), .val (.int fs), .val (.ref b2), .val (.ref b10)] [(.int fq), (.int (0 : Int32)), (.ref b2)])) _
                      refine st43.trans ?_
                      show Steps p.tables e below (T43.setTop (mkF m 177 #[.val (.int p1), .val (.int p2), .val (.int p3), .val (.long q4), .second, .val (.int p5), .val (.long q6), .second, .val (.int rd), .val (.int ct), .val (.long ar), .second, .val (.int (0 : Int32)), .val (.int (1 : Int32)), .val (.int fn), .val (.int fq), .val (.int fr), .val (.int fs), .val (.ref b2), .val (.ref b10)] [])) _
                      refine XS.aload X43.here hx rfl (hb hby at_177) rfl rfl ?_
                      refine XS.iload X43.here hx rfl (hb hby at_179) rfl ?_
                      refine XS.iload X43.here hx rfl (hb hby at_181) rfl ?_
                      show Steps p.tables e below (T43.setTop (mkF m 183 #[.val (.int p1), .val (.int p2), .val (.int p3), .val (.long q4), .second, .val (.int p5), .val (.long q6), .second, .val (.int rd), .val (.int ct), .val (.long ar), .second, .val (.int (0 : Int32)), .val (.int (1 : Int32)), .val (.int fn), .val (.int fq), .val (.int fr), .val (.int fs), .val (.ref b2), .val (.ref b10)] [(.int fn), (.int (0 : Int32)), (.ref b2)])) _
                      refine st45.trans ?_
                      show Steps p.tables e below (T45.setTop (mkF m 186 #[.val (.int p1), .val (.int p2), .val (.int p3), .val (.long q4), .second, .val (.int p5), .val (.long q6), .second, .val (.int rd), .val (.int ct), .val (.long ar), .second, .val (.int (0 : Int32)), .val (.int (1 : Int32)), .val (.int fn), .val (.int fq), .val (.int fr), .val (.int fs), .val (.ref b2), .val (.ref b10)] [])) _
                      refine XS.aload X45.here hx rfl (hb hby at_186) rfl rfl ?_
                      refine XS.iload X45.here hx rfl (hb hby at_188) rfl ?_
                      refine XS.iload X45.here hx rfl (hb hby at_190) rfl ?_
                      show Steps p.tables e below (T45.setTop (mkF m 192 #[.val (.int p1), .val (.int p2), .val (.int p3), .val (.long q4), .second, .val (.int p5), .val (.long q6), .second, .val (.int rd), .val (.int ct), .val (.long ar), .second, .val (.int (0 : Int32)), .val (.int (1 : Int32)), .val (.int fn), .val (.int fq), .val (.int fr), .val (.int fs), .val (.ref b2), .val (.ref b10)] [(.int fs), (.int (0 : Int32)), (.ref b2)])) _
                      refine st47.trans ?_
                      show Steps p.tables e below (T47.setTop (mkF m 195 #[.val (.int p1), .val (.int p2), .val (.int p3), .val (.long q4), .second, .val (.int p5), .val (.long q6), .second, .val (.int rd), .val (.int ct), .val (.long ar), .second, .val (.int (0 : Int32)), .val (.int (1 : Int32)), .val (.int fn), .val (.int fq), .val (.int fr), .val (.int fs), .val (.ref b2), .val (.ref b10)] [])) _
                      refine XS.aload X47.here hx rfl (hb hby at_195) rfl rfl ?_
                      refine XS.iload X47.here hx rfl (hb hby at_197) rfl ?_
                      refine XS.iloadN X47.here hx rfl (hb hby at_199) rfl ?_
                      refine XS.iload X47.here hx rfl (hb hby at_200) rfl ?_
                      refine XS.iload X47.here hx rfl (hb hby at_202) rfl ?_
                      refine XS.lload X47.here hx rfl (hb hby at_204) rfl ?_
                      show Steps p.tables e below (T47.setTop (mkF m 206 #[.val (.int p1), .val (.int p2), .val (.int p3), .val (.long q4), .second, .val (.int p5), .val (.long q6), .second, .val (.int rd), .val (.int ct), .val (.long ar), .second, .val (.int (0 : Int32)), .val (.int (1 : Int32)), .val (.int fn), .val (.int fq), .val (.int fr), .val (.int fs), .val (.ref b2), .val (.ref b10)] [(.long ar), (.int ct), (.int rd), (.int p1), (.int (0 : Int32)), (.ref b2)])) _
                      refine st49.trans ?_
                      show Steps p.tables e below (T49.setTop (mkF m 209 #[.val (.int p1), .val (.int p2), .val (.int p3), .val (.long q4), .second, .val (.int p5), .val (.long q6), .second, .val (.int rd), .val (.int ct), .val (.long ar), .second, .val (.int (0 : Int32)), .val (.int (1 : Int32)), .val (.int fn), .val (.int fq), .val (.int fr), .val (.int fs), .val (.ref b2), .val (.ref b10)] [])) _
                      refine XS.aload X49.here hx rfl (hb hby at_209) rfl rfl ?_
                      refine XS.iload X49.here hx rfl (hb hby at_211) rfl ?_
                      show Steps p.tables e below (T49.setTop (mkF m 213 #[.val (.int p1), .val (.int p2), .val (.int p3), .val (.long q4), .second, .val (.int p5), .val (.long q6), .second, .val (.int rd), .val (.int ct), .val (.long ar), .second, .val (.int (0 : Int32)), .val (.int (1 : Int32)), .val (.int fn), .val (.int fq), .val (.int fr), .val (.int fs), .val (.ref b2), .val (.ref b10)] [(.int (0 : Int32)), (.ref b2)])) _
                      refine st52.trans ?_
                      show Steps p.tables e below (T52.setTop (mkF m 216 #[.val (.int p1), .val (.int p2), .val (.int p3), .val (.long q4), .second, .val (.int p5), .val (.long q6), .second, .val (.int rd), .val (.int ct), .val (.long ar), .second, .val (.int (0 : Int32)), .val (.int (1 : Int32)), .val (.int fn), .val (.int fq), .val (.int fr), .val (.int fs), .val (.ref b2), .val (.ref b10)] [(.int (own_inc (0 : Int32) (own_b0_g50 p1 p2 p3 q4 p5 q6 rd ct ar pos fn fq fr fs)))])) _
                      refine XS.iloadN X52.here hx rfl (hb hby at_216) rfl ?_
                      exact kt
                    show own_End p e below s (T52.setTop (mkF m 217 #[.val (.int p1), .val (.int p2), .val (.int p3), .val (.long q4), .second, .val (.int p5), .val (.long q6), .second, .val (.int rd), .val (.int ct), .val (.long ar), .second, .val (.int (0 : Int32)), .val (.int (1 : Int32)), .val (.int fn), .val (.int fq), .val (.int fr), .val (.int fs), .val (.ref b2), .val (.ref b10)] [(.int p1), (.int (own_inc (0 : Int32) (own_b0_g50 p1 p2 p3 q4 p5 q6 rd ct ar pos fn fq fr fs)))])) (Q0 Z p1 p2 p3 q4 p5 q6 h0 n0) room_1.cells room_1.slots
                    by_cases hc217_53 : (own_inc (0 : Int32) (own_b0_g50 p1 p2 p3 q4 p5 q6 rd ct ar pos fn fq fr fs)) = p1
                    · obtain ⟨cq54, kq54, q54a, q54b, q54c⟩ := isOf hZ e52 fE_b2_x49
                      obtain ⟨_, _, ⟨T54, L54, k54, n54⟩, -, X54, ⟨Lc54, hQ54, l54, y54, z54⟩, st54⟩ := X52.virtualBack hx (y := (⟨"com/example/atoll/atoll/detect/HeldOrigins", "round", "(I)I"⟩ : MethodName)) (z := (⟨"com/example/atoll/atoll/detect/HeldOrigins", "round", "(I)I"⟩ : MethodName)) hown (mvT hZ (hw _ (List.mem_of_getElem? (i := 94) rfl))) (mvT hZ (hw _ (List.mem_of_getElem? (i := 95) rfl))) (notFace_of_selects (args := #[]) (mvT hZ (hw _ (List.mem_of_getElem? (i := 97) rfl)))) (mvT hZ (hw _ (List.mem_of_getElem? (i := 97) rfl))) (mvT hZ (hw _ (List.mem_of_getElem? (i := 96) rfl))) (by decide) (backOf (W := 0) (rm15 l Z a0 hw [] b2 (0 : Int32) c3_xi c3_xn c3_xs c3_xm (2 : Int32) (own_b0_g50 p1 p2 p3 q4 p5 q6 rd ct ar pos fn fq fr fs) T49.heap n0 Z49 ⟨fE_b2_x49, fF_b2_ids_x49, fF_b2_newest_x49, fF_b2_state_x49, fF_b2_mismatches_x49, fF_b2_size_x49⟩ V49_0a (by decide) (by decide)) hZ (hw _ (List.mem_of_getElem? (i := 98) rfl)) (hw _ (List.mem_of_getElem? (i := 4) rfl)) (by decide) (by decide)) q54a q54c (g := (mkF m 224 #[.val (.int p1), .val (.int p2), .val (.int p3), .val (.long q4), .second, .val (.int p5), .val (.long q6), .second, .val (.int rd), .val (.int ct), .val (.long ar), .second, .val (.int (0 : Int32)), .val (.int (1 : Int32)), .val (.int fn), .val (.int fq), .val (.int fr), .val (.int fs), .val (.ref b2), .val (.ref b10)] [(.int (0 : Int32)), (.ref b2)])) rfl (by rw [hml]; rfl) (Steps.refl _) (argsL := [(.int (0 : Int32))]) (rest := []) (lenOf pd_0_6 rfl) rfl (by show 2 * 0 + _ ≤ _; exact Nat.le_of_eq rfl) (hb hby at_224) (fun _ _ => ⟨rfl, e52, (by decide : 10 + 0 ≤ _), (by decide : 82 + 0 ≤ _)⟩)
                      dsimp only [Pt.U, Pt.locs, Pt.cells, Pt.slots] at X54 l54 y54 z54 st54 hQ54
                      subst l54 y54 z54
                      obtain ⟨rfl, N54q, e54⟩ := hQ54
                      have N54 := Fr.app N52 N54q
                      refine own_pre (A := T54.setTop (mkF m 229 #[.val (.int p1), .val (.int p2), .val (.int p3), .val (.long q4), .second, .val (.int p5), .val (.long q6), .second, .val (.int rd), .val (.int ct), .val (.long ar), .second, .val (.int (0 : Int32)), .val (.int (1 : Int32)), .val (.int fn), .val (.int fq), .val (.int fr), .val (.int fs), .val (.ref b2), .val (.ref b10)] [(.int rd), (.int (own_rnd (0 : Int32) (own_b0_g50 p1 p2 p3 q4 p5 q6 rd ct ar pos fn fq fr fs)))])) (fun tt kt => ?_) ?_
                      · show Steps p.tables e below (T52.setTop (mkF m 217 #[.val (.int p1), .val (.int p2), .val (.int p3), .val (.long q4), .second, .val (.int p5), .val (.long q6), .second, .val (.int rd), .val (.int ct), .val (.long ar), .second, .val (.int (0 : Int32)), .val (.int (1 : Int32)), .val (.int fn), .val (.int fq), .val (.int fr), .val (.int fs), .val (.ref b2), .val (.ref b10)] [(.int p1), (.int (own_inc (0 : Int32) (own_b0_g50 p1 p2 p3 q4 p5 q6 rd ct ar pos fn fq fr fs)))])) _
                        refine XS.icmpNo X52.here hx rfl (hb hby at_217) rfl (teq hc217_53).2 ?_
                        refine XS.aload X52.here hx rfl (hb hby at_220) rfl rfl ?_
                        refine XS.iload X52.here hx rfl (hb hby at_222) rfl ?_
                        show Steps p.tables e below (T52.setTop (mkF m 224 #[.val (.int p1), .val (.int p2), .val (.int p3), .val (.long q4), .second, .val (.int p5), .val (.long q6), .second, .val (.int rd), .val (.int ct), .val (.long ar), .second, .val (.int (0 : Int32)), .val (.int (1 : Int32)), .val (.int fn), .val (.int fq), .val (.int fr), .val (.int fs), .val (.ref b2), .val (.ref b10)] [(.int (0 : Int32)), (.ref b2)])) _
                        refine st54.trans ?_
                        show Steps p.tables e below (T54.setTop (mkF m 227 #[.val (.int p1), .val (.int p2), .val (.int p3), .val (.long q4), .second, .val (.int p5), .val (.long q6), .second, .val (.int rd), .val (.int ct), .val (.long ar), .second, .val (.int (0 : Int32)), .val (.int (1 : Int32)), .val (.int fn), .val (.int fq), .val (.int fr), .val (.int fs), .val (.ref b2), .val (.ref b10)] [(.int (own_rnd (0 : Int32) (own_b0_g50 p1 p2 p3 q4 p5 q6 rd ct ar pos fn fq fr fs)))])) _
                        refine XS.iload X54.here hx rfl (hb hby at_227) rfl ?_
                        exact kt
                      show own_End p e below s (T54.setTop (mkF m 229 #[.val (.int p1), .val (.int p2), .val (.int p3), .val (.long q4), .second, .val (.int p5), .val (.long q6), .second, .val (.int rd), .val (.int ct), .val (.long ar), .second, .val (.int (0 : Int32)), .val (.int (1 : Int32)), .val (.int fn), .val (.int fq), .val (.int fr), .val (.int fs), .val (.ref b2), .val (.ref b10)] [(.int rd), (.int (own_rnd (0 : Int32) (own_b0_g50 p1 p2 p3 q4 p5 q6 rd ct ar pos fn fq fr fs)))])) (Q0 Z p1 p2 p3 q4 p5 q6 h0 n0) room_1.cells room_1.slots
                      by_cases hc229_55 : (own_rnd (0 : Int32) (own_b0_g50 p1 p2 p3 q4 p5 q6 rd ct ar pos fn fq fr fs)) = rd
                      · obtain ⟨cq56, kq56, q56a, q56b, q56c⟩ := isOf hZ e54 fE_b2_x49
                        obtain ⟨_, _, ⟨T56, L56, k56, n56⟩, -, X56, ⟨Lc56, hQ56, l56, y56, z56⟩, st56⟩ := X54.virtualBack hx (y := (⟨"com/example/atoll/atoll/detect/HeldOrigins", "heard", "(I)I"⟩ : MethodName)) (z := (⟨"com/example/atoll/atoll/detect/HeldOrigins", "heard", "(I)I"⟩ : MethodName)) hown (mvT hZ (hw _ (List.mem_of_getElem? (i := 102) rfl))) (mvT hZ (hw _ (List.mem_of_getElem? (i := 103) rfl))) (notFace_of_selects (args := #[]) (mvT hZ (hw _ (List.mem_of_getElem? (i := 105) rfl)))) (mvT hZ (hw _ (List.mem_of_getElem? (i := 105) rfl))) (mvT hZ (hw _ (List.mem_of_getElem? (i := 104) rfl))) (by decide) (backOf (W := 0) (rm17 l Z a0 hw [] b2 (0 : Int32) c3_xi c3_xn c3_xs c3_xm (2 : Int32) (own_b0_g50 p1 p2 p3 q4 p5 q6 rd ct ar pos fn fq fr fs) T49.heap n0 Z49 ⟨fE_b2_x49, fF_b2_ids_x49, fF_b2_newest_x49, fF_b2_state_x49, fF_b2_mismatches_x49, fF_b2_size_x49⟩ V49_0a (by decide) (by decide)) hZ (hw _ (List.mem_of_getElem? (i := 106) rfl)) (hw _ (List.mem_of_getElem? (i := 4) rfl)) (by decide) (by decide)) q56a q56c (g := (mkF m 236 #[.val (.int p1), .val (.int p2), .val (.int p3), .val (.long q4), .second, .val (.int p5), .val (.long q6), .second, .val (.int rd), .val (.int ct), .val (.long ar), .second, .val (.int (0 : Int32)), .val (.int (1 : Int32)), .val (.int fn), .val (.int fq), .val (.int fr), .val (.int fs), .val (.ref b2), .val (.ref b10)] [(.int (0 : Int32)), (.ref b2)])) rfl (by rw [hml]; rfl) (Steps.refl _) (argsL := [(.int (0 : Int32))]) (rest := []) (lenOf pd_0_6 rfl) rfl (by show 2 * 0 + _ ≤ _; exact Nat.le_of_eq rfl) (hb hby at_236) (fun _ _ => ⟨rfl, e54, (by decide : 10 + 0 ≤ _), (by decide : 82 + 0 ≤ _)⟩)
                        dsimp only [Pt.U, Pt.locs, Pt.cells, Pt.slots] at X56 l56 y56 z56 st56 hQ56
                        subst l56 y56 z56
                        obtain ⟨rfl, N56q, e56⟩ := hQ56
                        have N56 := Fr.app N54 N56q
                        refine own_pre (A := T56.setTop (mkF m 241 #[.val (.int p1), .val (.int p2), .val (.int p3), .val (.long q4), .second, .val (.int p5), .val (.long q6), .second, .val (.int rd), .val (.int ct), .val (.long ar), .second, .val (.int (0 : Int32)), .val (.int (1 : Int32)), .val (.int fn), .val (.int fq), .val (.int fr), .val (.int fs), .val (.ref b2), .val (.ref b10)] [(.int ct), (.int (own_hrd (0 : Int32) (own_b0_g50 p1 p2 p3 q4 p5 q6 rd ct ar pos fn fq fr fs)))])) (fun tt kt => ?_) ?_
                        · show Steps p.tables e below (T54.setTop (mkF m 229 #[.val (.int p1), .val (.int p2), .val (.int p3), .val (.long q4), .second, .val (.int p5), .val (.long q6), .second, .val (.int rd), .val (.int ct), .val (.long ar), .second, .val (.int (0 : Int32)), .val (.int (1 : Int32)), .val (.int fn), .val (.int fq), .val (.int fr), .val (.int fs), .val (.ref b2), .val (.ref b10)] [(.int rd), (.int (own_rnd (0 : Int32) (own_b0_g50 p1 p2 p3 q4 p5 q6 rd ct ar pos fn fq fr fs)))])) _
                          refine XS.icmpNo X54.here hx rfl (hb hby at_229) rfl (teq hc229_55).2 ?_
                          refine XS.aload X54.here hx rfl (hb hby at_232) rfl rfl ?_
                          refine XS.iload X54.here hx rfl (hb hby at_234) rfl ?_
                          show Steps p.tables e below (T54.setTop (mkF m 236 #[.val (.int p1), .val (.int p2), .val (.int p3), .val (.long q4), .second, .val (.int p5), .val (.long q6), .second, .val (.int rd), .val (.int ct), .val (.long ar), .second, .val (.int (0 : Int32)), .val (.int (1 : Int32)), .val (.int fn), .val (.int fq), .val (.int fr), .val (.int fs), .val (.ref b2), .val (.ref b10)] [(.int (0 : Int32)), (.ref b2)])) _
                          refine st56.trans ?_
                          show Steps p.tables e below (T56.setTop (mkF m 239 #[.val (.int p1), .val (.int p2), .val (.int p3), .val (.long q4), .second, .val (.int p5), .val (.long q6), .second, .val (.int rd), .val (.int ct), .val (.long ar), .second, .val (.int (0 : Int32)), .val (.int (1 : Int32)), .val (.int fn), .val (.int fq), .val (.int fr), .val (.int fs), .val (.ref b2), .val (.ref b10)] [(.int (own_hrd (0 : Int32) (own_b0_g50 p1 p2 p3 q4 p5 q6 rd ct ar pos fn fq fr fs)))])) _
                          refine XS.iload X56.here hx rfl (hb hby at_239) rfl ?_
                          exact kt
                        show own_End p e below s (T56.setTop (mkF m 241 #[.val (.int p1), .val (.int p2), .val (.int p3), .val (.long q4), .second, .val (.int p5), .val (.long q6), .second, .val (.int rd), .val (.int ct), .val (.long ar), .second, .val (.int (0 : Int32)), .val (.int (1 : Int32)), .val (.int fn), .val (.int fq), .val (.int fr), .val (.int fs), .val (.ref b2), .val (.ref b10)] [(.int ct), (.int (own_hrd (0 : Int32) (own_b0_g50 p1 p2 p3 q4 p5 q6 rd ct ar pos fn fq fr fs)))])) (Q0 Z p1 p2 p3 q4 p5 q6 h0 n0) room_1.cells room_1.slots
                        by_cases hc241_57 : (own_hrd (0 : Int32) (own_b0_g50 p1 p2 p3 q4 p5 q6 rd ct ar pos fn fq fr fs)) = ct
                        · obtain ⟨cq58, kq58, q58a, q58b, q58c⟩ := isOf hZ e56 fE_b2_x49
                          obtain ⟨_, _, ⟨T58, L58, k58, n58⟩, -, X58, ⟨Lc58, hQ58, l58, y58, z58⟩, st58⟩ := X56.virtualBack hx (y := (⟨"com/example/atoll/atoll/detect/HeldOrigins", "arrived", "(I)J"⟩ : MethodName)) (z := (⟨"com/example/atoll/atoll/detect/HeldOrigins", "arrived", "(I)J"⟩ : MethodName)) hown (mvT hZ (hw _ (List.mem_of_getElem? (i := 108) rfl))) (mvT hZ (hw _ (List.mem_of_getElem? (i := 109) rfl))) (notFace_of_selects (args := #[]) (mvT hZ (hw _ (List.mem_of_getElem? (i := 111) rfl)))) (mvT hZ (hw _ (List.mem_of_getElem? (i := 111) rfl))) (mvT hZ (hw _ (List.mem_of_getElem? (i := 110) rfl))) (by decide) (backOf (W := 0) (rm18 l Z a0 hw [] b2 (0 : Int32) c3_xi c3_xn c3_xs c3_xm (2 : Int32) (own_b0_g51 p1 p2 p3 q4 p5 q6 rd ct ar pos fn fq fr fs) T49.heap n0 Z49 ⟨fE_b2_x49, fF_b2_ids_x49, fF_b2_newest_x49, fF_b2_state_x49, fF_b2_mismatches_x49, fF_b2_size_x49⟩ V49_1a (by decide) (by decide)) hZ (hw _ (List.mem_of_getElem? (i := 112) rfl)) (hw _ (List.mem_of_getElem? (i := 4) rfl)) (by decide) (by decide)) q58a q58c (g := (mkF m 248 #[.val (.int p1), .val (.int p2), .val (.int p3), .val (.long q4), .second, .val (.int p5), .val (.long q6), .second, .val (.int rd), .val (.int ct), .val (.long ar), .second, .val (.int (0 : Int32)), .val (.int (1 : Int32)), .val (.int fn), .val (.int fq), .val (.int fr), .val (.int fs), .val (.ref b2), .val (.ref b10)] [(.int (0 : Int32)), (.ref b2)])) rfl (by rw [hml]; rfl) (Steps.refl _) (argsL := [(.int (0 : Int32))]) (rest := []) (lenOf pd_0_7 rfl) rfl (by show 2 * 0 + _ ≤ _; exact Nat.le_of_eq rfl) (hb hby at_248) (fun _ _ => ⟨rfl, e56, (by decide : 10 + 0 ≤ _), (by decide : 82 + 0 ≤ _)⟩)
                          dsimp only [Pt.U, Pt.locs, Pt.cells, Pt.slots] at X58 l58 y58 z58 st58 hQ58
                          subst l58 y58 z58
                          obtain ⟨rfl, N58q, e58⟩ := hQ58
                          have N58 := Fr.app N56 N58q
                          refine own_pre (A := T58.setTop (mkF m 254 #[.val (.int p1), .val (.int p2), .val (.int p3), .val (.long q4), .second, .val (.int p5), .val (.long q6), .second, .val (.int rd), .val (.int ct), .val (.long ar), .second, .val (.int (0 : Int32)), .val (.int (1 : Int32)), .val (.int fn), .val (.int fq), .val (.int fr), .val (.int fs), .val (.ref b2), .val (.ref b10)] [(.int (lcmpW (own_arr (0 : Int32) (own_b0_g51 p1 p2 p3 q4 p5 q6 rd ct ar pos fn fq fr fs)) ar))])) (fun tt kt => ?_) ?_
                          · show Steps p.tables e below (T56.setTop (mkF m 241 #[.val (.int p1), .val (.int p2), .val (.int p3), .val (.long q4), .second, .val (.int p5), .val (.long q6), .second, .val (.int rd), .val (.int ct), .val (.long ar), .second, .val (.int (0 : Int32)), .val (.int (1 : Int32)), .val (.int fn), .val (.int fq), .val (.int fr), .val (.int fs), .val (.ref b2), .val (.ref b10)] [(.int ct), (.int (own_hrd (0 : Int32) (own_b0_g50 p1 p2 p3 q4 p5 q6 rd ct ar pos fn fq fr fs)))])) _
                            refine XS.icmpNo X56.here hx rfl (hb hby at_241) rfl (teq hc241_57).2 ?_
                            refine XS.aload X56.here hx rfl (hb hby at_244) rfl rfl ?_
                            refine XS.iload X56.here hx rfl (hb hby at_246) rfl ?_
                            show Steps p.tables e below (T56.setTop (mkF m 248 #[.val (.int p1), .val (.int p2), .val (.int p3), .val (.long q4), .second, .val (.int p5), .val (.long q6), .second, .val (.int rd), .val (.int ct), .val (.long ar), .second, .val (.int (0 : Int32)), .val (.int (1 : Int32)), .val (.int fn), .val (.int fq), .val (.int fr), .val (.int fs), .val (.ref b2), .val (.ref b10)] [(.int (0 : Int32)), (.ref b2)])) _
                            refine st58.trans ?_
                            show Steps p.tables e below (T58.setTop (mkF m 251 #[.val (.int p1), .val (.int p2), .val (.int p3), .val (.long q4), .second, .val (.int p5), .val (.long q6), .second, .val (.int rd), .val (.int ct), .val (.long ar), .second, .val (.int (0 : Int32)), .val (.int (1 : Int32)), .val (.int fn), .val (.int fq), .val (.int fr), .val (.int fs), .val (.ref b2), .val (.ref b10)] [(.long (own_arr (0 : Int32) (own_b0_g51 p1 p2 p3 q4 p5 q6 rd ct ar pos fn fq fr fs)))])) _
                            refine XS.lload X58.here hx rfl (hb hby at_251) rfl ?_
                            refine XS.lcmp X58.here hx rfl (hb hby at_253) rfl ?_
                            exact kt
                          show own_End p e below s (T58.setTop (mkF m 254 #[.val (.int p1), .val (.int p2), .val (.int p3), .val (.long q4), .second, .val (.int p5), .val (.long q6), .second, .val (.int rd), .val (.int ct), .val (.long ar), .second, .val (.int (0 : Int32)), .val (.int (1 : Int32)), .val (.int fn), .val (.int fq), .val (.int fr), .val (.int fs), .val (.ref b2), .val (.ref b10)] [(.int (lcmpW (own_arr (0 : Int32) (own_b0_g51 p1 p2 p3 q4 p5 q6 rd ct ar pos fn fq fr fs)) ar))])) (Q0 Z p1 p2 p3 q4 p5 q6 h0 n0) room_1.cells room_1.slots
                          by_cases hc254_59 : (own_arr (0 : Int32) (own_b0_g51 p1 p2 p3 q4 p5 q6 rd ct ar pos fn fq fr fs)) = ar
                          · obtain ⟨cq60, kq60, q60a, q60b, q60c⟩ := isOf hZ e58 fE_b2_x49
                            obtain ⟨_, _, ⟨T60, L60, k60, n60⟩, -, X60, ⟨Lc60, hQ60, l60, y60, z60⟩, st60⟩ := X58.virtualBack hx (y := (⟨"com/example/atoll/atoll/detect/HeldOrigins", "named", "(I)Z"⟩ : MethodName)) (z := (⟨"com/example/atoll/atoll/detect/HeldOrigins", "named", "(I)Z"⟩ : MethodName)) hown (mvT hZ (hw _ (List.mem_of_getElem? (i := 113) rfl))) (mvT hZ (hw _ (List.mem_of_getElem? (i := 114) rfl))) (notFace_of_selects (args := #[]) (mvT hZ (hw _ (List.mem_of_getElem? (i := 116) rfl)))) (mvT hZ (hw _ (List.mem_of_getElem? (i := 116) rfl))) (mvT hZ (hw _ (List.mem_of_getElem? (i := 115) rfl))) (by decide) (backOf (W := 0) (rm19 l Z a0 hw [] b2 (0 : Int32) c3_xi c3_xn c3_xs c3_xm (2 : Int32) (own_b0_g51 p1 p2 p3 q4 p5 q6 rd ct ar pos fn fq fr fs) T49.heap n0 Z49 ⟨fE_b2_x49, fF_b2_ids_x49, fF_b2_newest_x49, fF_b2_state_x49, fF_b2_mismatches_x49, fF_b2_size_x49⟩ V49_1a (by decide) (by decide)) hZ (hw _ (List.mem_of_getElem? (i := 117) rfl)) (hw _ (List.mem_of_getElem? (i := 4) rfl)) (by decide) (by decide)) q60a q60c (g := (mkF m 261 #[.val (.int p1), .val (.int p2), .val (.int p3), .val (.long q4), .second, .val (.int p5), .val (.long q6), .second, .val (.int rd), .val (.int ct), .val (.long ar), .second, .val (.int (0 : Int32)), .val (.int (1 : Int32)), .val (.int fn), .val (.int fq), .val (.int fr), .val (.int fs), .val (.ref b2), .val (.ref b10)] [(.int (0 : Int32)), (.ref b2)])) rfl (by rw [hml]; rfl) (Steps.refl _) (argsL := [(.int (0 : Int32))]) (rest := []) (lenOf pd_0_8 rfl) rfl (by show 2 * 0 + _ ≤ _; exact Nat.le_of_eq rfl) (hb hby at_261) (fun _ _ => ⟨rfl, e58, (by decide : 10 + 0 ≤ _), (by decide : 82 + 0 ≤ _)⟩)
                            dsimp only [Pt.U, Pt.locs, Pt.cells, Pt.slots] at X60 l60 y60 z60 st60 hQ60
                            subst l60 y60 z60
                            obtain ⟨rfl, N60q, e60⟩ := hQ60
                            have N60 := Fr.app N58 N60q
                            refine own_pre (A := T60.setTop (mkF m 266 #[.val (.int p1), .val (.int p2), .val (.int p3), .val (.long q4), .second, .val (.int p5), .val (.long q6), .second, .val (.int rd), .val (.int ct), .val (.long ar), .second, .val (.int (0 : Int32)), .val (.int (1 : Int32)), .val (.int fn), .val (.int fq), .val (.int fr), .val (.int fs), .val (.ref b2), .val (.ref b10)] [(.int fn), (.int (own_named (0 : Int32) (own_b0_g51 p1 p2 p3 q4 p5 q6 rd ct ar pos fn fq fr fs)))])) (fun tt kt => ?_) ?_
                            · show Steps p.tables e below (T58.setTop (mkF m 254 #[.val (.int p1), .val (.int p2), .val (.int p3), .val (.long q4), .second, .val (.int p5), .val (.long q6), .second, .val (.int rd), .val (.int ct), .val (.long ar), .second, .val (.int (0 : Int32)), .val (.int (1 : Int32)), .val (.int fn), .val (.int fq), .val (.int fr), .val (.int fs), .val (.ref b2), .val (.ref b10)] [(.int (lcmpW (own_arr (0 : Int32) (own_b0_g51 p1 p2 p3 q4 p5 q6 rd ct ar pos fn fq fr fs)) ar))])) _
                              refine XS.ifNo X58.here hx rfl (hb hby at_254) rfl ((if0 _ _).trans (teq ((lw_eq (own_arr (0 : Int32) (own_b0_g51 p1 p2 p3 q4 p5 q6 rd ct ar pos fn fq fr fs)) ar).mpr hc254_59)).2) ?_
                              refine XS.aload X58.here hx rfl (hb hby at_257) rfl rfl ?_
                              refine XS.iload X58.here hx rfl (hb hby at_259) rfl ?_
                              show Steps p.tables e below (T58.setTop (mkF m 261 #[.val (.int p1), .val (.int p2), .val (.int p3), .val (.long q4), .second, .val (.int p5), .val (.long q6), .second, .val (.int rd), .val (.int ct), .val (.long ar), .second, .val (.int (0 : Int32)), .val (.int (1 : Int32)), .val (.int fn), .val (.int fq), .val (.int fr), .val (.int fs), .val (.ref b2), .val (.ref b10)] [(.int (0 : Int32)), (.ref b2)])) _
                              refine st60.trans ?_
                              show Steps p.tables e below (T60.setTop (mkF m 264 #[.val (.int p1), .val (.int p2), .val (.int p3), .val (.long q4), .second, .val (.int p5), .val (.long q6), .second, .val (.int rd), .val (.int ct), .val (.long ar), .second, .val (.int (0 : Int32)), .val (.int (1 : Int32)), .val (.int fn), .val (.int fq), .val (.int fr), .val (.int fs), .val (.ref b2), .val (.ref b10)] [(.int (own_named (0 : Int32) (own_b0_g51 p1 p2 p3 q4 p5 q6 rd ct ar pos fn fq fr fs)))])) _
                              refine XS.iload X60.here hx rfl (hb hby at_264) rfl ?_
                              exact kt
                            show own_End p e below s (T60.setTop (mkF m 266 #[.val (.int p1), .val (.int p2), .val (.int p3), .val (.long q4), .second, .val (.int p5), .val (.long q6), .second, .val (.int rd), .val (.int ct), .val (.long ar), .second, .val (.int (0 : Int32)), .val (.int (1 : Int32)), .val (.int fn), .val (.int fq), .val (.int fr), .val (.int fs), .val (.ref b2), .val (.ref b10)] [(.int fn), (.int (own_named (0 : Int32) (own_b0_g51 p1 p2 p3 q4 p5 q6 rd ct ar pos fn fq fr fs)))])) (Q0 Z p1 p2 p3 q4 p5 q6 h0 n0) room_1.cells room_1.slots
                            by_cases hc266_61 : (own_named (0 : Int32) (own_b0_g51 p1 p2 p3 q4 p5 q6 rd ct ar pos fn fq fr fs)) = fn
                            · obtain ⟨cq62, kq62, q62a, q62b, q62c⟩ := isOf hZ e60 fE_b2_x49
                              obtain ⟨_, _, ⟨T62, L62, k62, n62⟩, -, X62, ⟨Lc62, hQ62, l62, y62, z62⟩, st62⟩ := X60.virtualBack hx (y := (⟨"com/example/atoll/atoll/detect/HeldOrigins", "queued", "(I)Z"⟩ : MethodName)) (z := (⟨"com/example/atoll/atoll/detect/HeldOrigins", "queued", "(I)Z"⟩ : MethodName)) hown (mvT hZ (hw _ (List.mem_of_getElem? (i := 118) rfl))) (mvT hZ (hw _ (List.mem_of_getElem? (i := 119) rfl))) (notFace_of_selects (args := #[]) (mvT hZ (hw _ (List.mem_of_getElem? (i := 121) rfl)))) (mvT hZ (hw _ (List.mem_of_getElem? (i := 121) rfl))) (mvT hZ (hw _ (List.mem_of_getElem? (i := 120) rfl))) (by decide) (backOf (W := 0) (rm20 l Z a0 hw [] b2 (0 : Int32) c3_xi c3_xn c3_xs c3_xm (2 : Int32) (own_b0_g51 p1 p2 p3 q4 p5 q6 rd ct ar pos fn fq fr fs) T49.heap n0 Z49 ⟨fE_b2_x49, fF_b2_ids_x49, fF_b2_newest_x49, fF_b2_state_x49, fF_b2_mismatches_x49, fF_b2_size_x49⟩ V49_1a (by decide) (by decide)) hZ (hw _ (List.mem_of_getElem? (i := 122) rfl)) (hw _ (List.mem_of_getElem? (i := 4) rfl)) (by decide) (by decide)) q62a q62c (g := (mkF m 273 #[.val (.int p1), .val (.int p2), .val (.int p3), .val (.long q4), .second, .val (.int p5), .val (.long q6), .second, .val (.int rd), .val (.int ct), .val (.long ar), .second, .val (.int (0 : Int32)), .val (.int (1 : Int32)), .val (.int fn), .val (.int fq), .val (.int fr), .val (.int fs), .val (.ref b2), .val (.ref b10)] [(.int (0 : Int32)), (.ref b2)])) rfl (by rw [hml]; rfl) (Steps.refl _) (argsL := [(.int (0 : Int32))]) (rest := []) (lenOf pd_0_8 rfl) rfl (by show 2 * 0 + _ ≤ _; exact Nat.le_of_eq rfl) (hb hby at_273) (fun _ _ => ⟨rfl, e60, (by decide : 10 + 0 ≤ _), (by decide : 82 + 0 ≤ _)⟩)
                              dsimp only [Pt.U, Pt.locs, Pt.cells, Pt.slots] at X62 l62 y62 z62 st62 hQ62
                              subst l62 y62 z62
                              obtain ⟨rfl, N62q, e62⟩ := hQ62
                              have N62 := Fr.app N60 N62q
                              refine own_pre (A := T62.setTop (mkF m 278 #[.val (.int p1), .val (.int p2), .val (.int p3), .val (.long q4), .second, .val (.int p5), .val (.long q6), .second, .val (.int rd), .val (.int ct), .val (.long ar), .second, .val (.int (0 : Int32)), .val (.int (1 : Int32)), .val (.int fn), .val (.int fq), .val (.int fr), .val (.int fs), .val (.ref b2), .val (.ref b10)] [(.int fq), (.int (own_queued (0 : Int32) (own_b0_g51 p1 p2 p3 q4 p5 q6 rd ct ar pos fn fq fr fs)))])) (fun tt kt => ?_) ?_
                              · show Steps p.tables e below (T60.setTop (mkF m 266 #[.val (.int p1), .val (.int p2), .val (.int p3), .val (.long q4), .second, .val (.int p5), .val (.long q6), .second, .val (.int rd), .val (.int ct), .val (.long ar), .second, .val (.int (0 : Int32)), .val (.int (1 : Int32)), .val (.int fn), .val (.int fq), .val (.int fr), .val (.int fs), .val (.ref b2), .val (.ref b10)] [(.int fn), (.int (own_named (0 : Int32) (own_b0_g51 p1 p2 p3 q4 p5 q6 rd ct ar pos fn fq fr fs)))])) _
                                refine XS.icmpNo X60.here hx rfl (hb hby at_266) rfl (teq hc266_61).2 ?_
                                refine XS.aload X60.here hx rfl (hb hby at_269) rfl rfl ?_
                                refine XS.iload X60.here hx rfl (hb hby at_271) rfl ?_
                                show Steps p.tables e below (T60.setTop (mkF m 273 #[.val (.int p1), .val (.int p2), .val (.int p3), .val (.long q4), .second, .val (.int p5), .val (.long q6), .second, .val (.int rd), .val (.int ct), .val (.long ar), .second, .val (.int (0 : Int32)), .val (.int (1 : Int32)), .val (.int fn), .val (.int fq), .val (.int fr), .val (.int fs), .val (.ref b2), .val (.ref b10)] [(.int (0 : Int32)), (.ref b2)])) _
                                refine st62.trans ?_
                                show Steps p.tables e below (T62.setTop (mkF m 276 #[.val (.int p1), .val (.int p2), .val (.int p3), .val (.long q4), .second, .val (.int p5), .val (.long q6), .second, .val (.int rd), .val (.int ct), .val (.long ar), .second, .val (.int (0 : Int32)), .val (.int (1 : Int32)), .val (.int fn), .val (.int fq), .val (.int fr), .val (.int fs), .val (.ref b2), .val (.ref b10)] [(.int (own_queued (0 : Int32) (own_b0_g51 p1 p2 p3 q4 p5 q6 rd ct ar pos fn fq fr fs)))])) _
                                refine XS.iload X62.here hx rfl (hb hby at_276) rfl ?_
                                exact kt
                              show own_End p e below s (T62.setTop (mkF m 278 #[.val (.int p1), .val (.int p2), .val (.int p3), .val (.long q4), .second, .val (.int p5), .val (.long q6), .second, .val (.int rd), .val (.int ct), .val (.long ar), .second, .val (.int (0 : Int32)), .val (.int (1 : Int32)), .val (.int fn), .val (.int fq), .val (.int fr), .val (.int fs), .val (.ref b2), .val (.ref b10)] [(.int fq), (.int (own_queued (0 : Int32) (own_b0_g51 p1 p2 p3 q4 p5 q6 rd ct ar pos fn fq fr fs)))])) (Q0 Z p1 p2 p3 q4 p5 q6 h0 n0) room_1.cells room_1.slots
                              by_cases hc278_63 : (own_queued (0 : Int32) (own_b0_g51 p1 p2 p3 q4 p5 q6 rd ct ar pos fn fq fr fs)) = fq
                              · obtain ⟨cq64, kq64, q64a, q64b, q64c⟩ := isOf hZ e62 fE_b2_x49
                                obtain ⟨_, _, ⟨T64, L64, k64, n64⟩, -, X64, ⟨Lc64, hQ64, l64, y64, z64⟩, st64⟩ := X62.virtualBack hx (y := (⟨"com/example/atoll/atoll/detect/HeldOrigins", "relayed", "(I)Z"⟩ : MethodName)) (z := (⟨"com/example/atoll/atoll/detect/HeldOrigins", "relayed", "(I)Z"⟩ : MethodName)) hown (mvT hZ (hw _ (List.mem_of_getElem? (i := 123) rfl))) (mvT hZ (hw _ (List.mem_of_getElem? (i := 124) rfl))) (notFace_of_selects (args := #[]) (mvT hZ (hw _ (List.mem_of_getElem? (i := 126) rfl)))) (mvT hZ (hw _ (List.mem_of_getElem? (i := 126) rfl))) (mvT hZ (hw _ (List.mem_of_getElem? (i := 125) rfl))) (by decide) (backOf (W := 0) (rm21 l Z a0 hw [] b2 (0 : Int32) c3_xi c3_xn c3_xs c3_xm (2 : Int32) (own_b0_g51 p1 p2 p3 q4 p5 q6 rd ct ar pos fn fq fr fs) T49.heap n0 Z49 ⟨fE_b2_x49, fF_b2_ids_x49, fF_b2_newest_x49, fF_b2_state_x49, fF_b2_mismatches_x49, fF_b2_size_x49⟩ V49_1a (by decide) (by decide)) hZ (hw _ (List.mem_of_getElem? (i := 127) rfl)) (hw _ (List.mem_of_getElem? (i := 4) rfl)) (by decide) (by decide)) q64a q64c (g := (mkF m 285 #[.val (.int p1), .val (.int p2), .val (.int p3), .val (.long q4), .second, .val (.int p5), .val (.long q6), .second, .val (.int rd), .val (.int ct), .val (.long ar), .second, .val (.int (0 : Int32)), .val (.int (1 : Int32)), .val (.int fn), .val (.int fq), .val (.int fr), .val (.int fs), .val (.ref b2), .val (.ref b10)] [(.int (0 : Int32)), (.ref b2)])) rfl (by rw [hml]; rfl) (Steps.refl _) (argsL := [(.int (0 : Int32))]) (rest := []) (lenOf pd_0_8 rfl) rfl (by show 2 * 0 + _ ≤ _; exact Nat.le_of_eq rfl) (hb hby at_285) (fun _ _ => ⟨rfl, e62, (by decide : 10 + 0 ≤ _), (by decide : 82 + 0 ≤ _)⟩)
                                dsimp only [Pt.U, Pt.locs, Pt.cells, Pt.slots] at X64 l64 y64 z64 st64 hQ64
                                subst l64 y64 z64
                                obtain ⟨rfl, N64q, e64⟩ := hQ64
                                have N64 := Fr.app N62 N64q
                                refine own_pre (A := T64.setTop (mkF m 290 #[.val (.int p1), .val (.int p2), .val (.int p3), .val (.long q4), .second, .val (.int p5), .val (.long q6), .second, .val (.int rd), .val (.int ct), .val (.long ar), .second, .val (.int (0 : Int32)), .val (.int (1 : Int32)), .val (.int fn), .val (.int fq), .val (.int fr), .val (.int fs), .val (.ref b2), .val (.ref b10)] [(.int fr), (.int (own_relayed (0 : Int32) (own_b0_g51 p1 p2 p3 q4 p5 q6 rd ct ar pos fn fq fr fs)))])) (fun tt kt => ?_) ?_
                                · show Steps p.tables e below (T62.setTop (mkF m 278 #[.val (.int p1), .val (.int p2), .val (.int p3), .val (.long q4), .second, .val (.int p5), .val (.long q6), .second, .val (.int rd), .val (.int ct), .val (.long ar), .second, .val (.int (0 : Int32)), .val (.int (1 : Int32)), .val (.int fn), .val (.int fq), .val (.int fr), .val (.int fs), .val (.ref b2), .val (.ref b10)] [(.int fq), (.int (own_queued (0 : Int32) (own_b0_g51 p1 p2 p3 q4 p5 q6 rd ct ar pos fn fq fr fs)))])) _
                                  refine XS.icmpNo X62.here hx rfl (hb hby at_278) rfl (teq hc278_63).2 ?_
                                  refine XS.aload X62.here hx rfl (hb hby at_281) rfl rfl ?_
                                  refine XS.iload X62.here hx rfl (hb hby at_283) rfl ?_
                                  show Steps p.tables e below (T62.setTop (mkF m 285 #[.val (.int p1), .val (.int p2), .val (.int p3), .val (.long q4), .second, .val (.int p5), .val (.long q6), .second, .val (.int rd), .val (.int ct), .val (.long ar), .second, .val (.int (0 : Int32)), .val (.int (1 : Int32)), .val (.int fn), .val (.int fq), .val (.int fr), .val (.int fs), .val (.ref b2), .val (.ref b10)] [(.int (0 : Int32)), (.ref b2)])) _
                                  refine st64.trans ?_
                                  show Steps p.tables e below (T64.setTop (mkF m 288 #[.val (.int p1), .val (.int p2), .val (.int p3), .val (.long q4), .second, .val (.int p5), .val (.long q6), .second, .val (.int rd), .val (.int ct), .val (.long ar), .second, .val (.int (0 : Int32)), .val (.int (1 : Int32)), .val (.int fn), .val (.int fq), .val (.int fr), .val (.int fs), .val (.ref b2), .val (.ref b10)] [(.int (own_relayed (0 : Int32) (own_b0_g51 p1 p2 p3 q4 p5 q6 rd ct ar pos fn fq fr fs)))])) _
                                  refine XS.iload X64.here hx rfl (hb hby at_288) rfl ?_
                                  exact kt
                                show own_End p e below s (T64.setTop (mkF m 290 #[.val (.int p1), .val (.int p2), .val (.int p3), .val (.long q4), .second, .val (.int p5), .val (.long q6), .second, .val (.int rd), .val (.int ct), .val (.long ar), .second, .val (.int (0 : Int32)), .val (.int (1 : Int32)), .val (.int fn), .val (.int fq), .val (.int fr), .val (.int fs), .val (.ref b2), .val (.ref b10)] [(.int fr), (.int (own_relayed (0 : Int32) (own_b0_g51 p1 p2 p3 q4 p5 q6 rd ct ar pos fn fq fr fs)))])) (Q0 Z p1 p2 p3 q4 p5 q6 h0 n0) room_1.cells room_1.slots
                                by_cases hc290_65 : (own_relayed (0 : Int32) (own_b0_g51 p1 p2 p3 q4 p5 q6 rd ct ar pos fn fq fr fs)) = fr
                                · obtain ⟨cq66, kq66, q66a, q66b, q66c⟩ := isOf hZ e64 fE_b2_x49
                                  obtain ⟨_, _, ⟨T66, L66, k66, n66⟩, -, X66, ⟨Lc66, hQ66, l66, y66, z66⟩, st66⟩ := X64.virtualBack hx (y := (⟨"com/example/atoll/atoll/detect/HeldOrigins", "anyHoldsSelf", "()Z"⟩ : MethodName)) (z := (⟨"com/example/atoll/atoll/detect/HeldOrigins", "anyHoldsSelf", "()Z"⟩ : MethodName)) hown (mvT hZ (hw _ (List.mem_of_getElem? (i := 128) rfl))) (mvT hZ (hw _ (List.mem_of_getElem? (i := 129) rfl))) (notFace_of_selects (args := #[]) (mvT hZ (hw _ (List.mem_of_getElem? (i := 131) rfl)))) (mvT hZ (hw _ (List.mem_of_getElem? (i := 131) rfl))) (mvT hZ (hw _ (List.mem_of_getElem? (i := 130) rfl))) (by decide) (backOf (W := 0) (rm22 l Z a0 hw [] b2 c3_xi c3_xn c3_xs c3_xm (own_b0_g51 p1 p2 p3 q4 p5 q6 rd ct ar pos fn fq fr fs) T49.heap n0 Z49 ⟨fE_b2_x49, fF_b2_ids_x49, fF_b2_newest_x49, fF_b2_state_x49, fF_b2_mismatches_x49, fF_b2_size_x49⟩ V49_1a) hZ (hw _ (List.mem_of_getElem? (i := 132) rfl)) (hw _ (List.mem_of_getElem? (i := 4) rfl)) (by decide) (by decide)) q66a q66c (g := (mkF m 295 #[.val (.int p1), .val (.int p2), .val (.int p3), .val (.long q4), .second, .val (.int p5), .val (.long q6), .second, .val (.int rd), .val (.int ct), .val (.long ar), .second, .val (.int (0 : Int32)), .val (.int (1 : Int32)), .val (.int fn), .val (.int fq), .val (.int fr), .val (.int fs), .val (.ref b2), .val (.ref b10)] [(.ref b2)])) rfl (by rw [hml]; rfl) (Steps.refl _) (argsL := []) (rest := []) (lenOf pd_0_9 rfl) rfl (by show 2 * 0 + _ ≤ _; exact Nat.le_of_eq rfl) (hb hby at_295) (fun _ _ => ⟨rfl, e64, (by decide : 10 + 0 ≤ _), (by decide : 82 + 0 ≤ _)⟩)
                                  dsimp only [Pt.U, Pt.locs, Pt.cells, Pt.slots] at X66 l66 y66 z66 st66 hQ66
                                  subst l66 y66 z66
                                  obtain ⟨rfl, N66q, e66⟩ := hQ66
                                  have N66 := Fr.app N64 N66q
                                  refine own_pre (A := T66.setTop (mkF m 300 #[.val (.int p1), .val (.int p2), .val (.int p3), .val (.long q4), .second, .val (.int p5), .val (.long q6), .second, .val (.int rd), .val (.int ct), .val (.long ar), .second, .val (.int (0 : Int32)), .val (.int (1 : Int32)), .val (.int fn), .val (.int fq), .val (.int fr), .val (.int fs), .val (.ref b2), .val (.ref b10)] [(.int fs), (.int (own_any (own_b0_g51 p1 p2 p3 q4 p5 q6 rd ct ar pos fn fq fr fs)))])) (fun tt kt => ?_) ?_
                                  · show Steps p.tables e below (T64.setTop (mkF m 290 #[.val (.int p1), .val (.int p2), .val (.int p3), .val (.long q4), .second, .val (.int p5), .val (.long q6), .second, .val (.int rd), .val (.int ct), .val (.long ar), .second, .val (.int (0 : Int32)), .val (.int (1 : Int32)), .val (.int fn), .val (.int fq), .val (.int fr), .val (.int fs), .val (.ref b2), .val (.ref b10)] [(.int fr), (.int (own_relayed (0 : Int32) (own_b0_g51 p1 p2 p3 q4 p5 q6 rd ct ar pos fn fq fr fs)))])) _
                                    refine XS.icmpNo X64.here hx rfl (hb hby at_290) rfl (teq hc290_65).2 ?_
                                    refine XS.aload X64.here hx rfl (hb hby at_293) rfl rfl ?_
                                    show Steps p.tables e below (T64.setTop (mkF m 295 #[.val (.int p1), .val (.int p2), .val (.int p3), .val (.long q4), .second, .val (.int p5), .val (.long q6), .second, .val (.int rd), .val (.int ct), .val (.long ar), .second, .val (.int (0 : Int32)), .val (.int (1 : Int32)), .val (.int fn), .val (.int fq), .val (.int fr), .val (.int fs), .val (.ref b2), .val (.ref b10)] [(.ref b2)])) _
                                    refine st66.trans ?_
                                    show Steps p.tables e below (T66.setTop (mkF m 298 #[.val (.int p1), .val (.int p2), .val (.int p3), .val (.long q4), .second, .val (.int p5), .val (.long q6), .second, .val (.int rd), .val (.int ct), .val (.long ar), .second, .val (.int (0 : Int32)), .val (.int (1 : Int32)), .val (.int fn), .val (.int fq), .val (.int fr), .val (.int fs), .val (.ref b2), .val (.ref b10)] [(.int (own_any (own_b0_g51 p1 p2 p3 q4 p5 q6 rd ct ar pos fn fq fr fs)))])) _
                                    refine XS.iload X66.here hx rfl (hb hby at_298) rfl ?_
                                    exact kt
                                  show own_End p e below s (T66.setTop (mkF m 300 #[.val (.int p1), .val (.int p2), .val (.int p3), .val (.long q4), .second, .val (.int p5), .val (.long q6), .second, .val (.int rd), .val (.int ct), .val (.long ar), .second, .val (.int (0 : Int32)), .val (.int (1 : Int32)), .val (.int fn), .val (.int fq), .val (.int fr), .val (.int fs), .val (.ref b2), .val (.ref b10)] [(.int fs), (.int (own_any (own_b0_g51 p1 p2 p3 q4 p5 q6 rd ct ar pos fn fq fr fs)))])) (Q0 Z p1 p2 p3 q4 p5 q6 h0 n0) room_1.cells room_1.slots
                                  by_cases hc300_67 : (own_any (own_b0_g51 p1 p2 p3 q4 p5 q6 rd ct ar pos fn fq fr fs)) = fs
                                  · obtain ⟨cq68, kq68, q68a, q68b, q68c⟩ := isOf hZ e66 fE_b2_x49
                                    obtain ⟨_, _, ⟨T68, L68, k68, n68⟩, -, X68, ⟨Lc68, hQ68, l68, y68, z68⟩, st68⟩ := X66.virtualBack hx (y := (⟨"com/example/atoll/atoll/detect/HeldOrigins", "incarnation", "(I)I"⟩ : MethodName)) (z := (⟨"com/example/atoll/atoll/detect/HeldOrigins", "incarnation", "(I)I"⟩ : MethodName)) hown (mvT hZ (hw _ (List.mem_of_getElem? (i := 86) rfl))) (mvT hZ (hw _ (List.mem_of_getElem? (i := 87) rfl))) (notFace_of_selects (args := #[]) (mvT hZ (hw _ (List.mem_of_getElem? (i := 89) rfl)))) (mvT hZ (hw _ (List.mem_of_getElem? (i := 89) rfl))) (mvT hZ (hw _ (List.mem_of_getElem? (i := 88) rfl))) (by decide) (backOf (W := 0) (rm13 l Z a0 hw [] b2 (1 : Int32) c3_xi c3_xn c3_xs c3_xm (2 : Int32) (own_b0_g50 p1 p2 p3 q4 p5 q6 rd ct ar pos fn fq fr fs) T49.heap n0 Z49 ⟨fE_b2_x49, fF_b2_ids_x49, fF_b2_newest_x49, fF_b2_state_x49, fF_b2_mismatches_x49, fF_b2_size_x49⟩ V49_0a (by decide) (by decide)) hZ (hw _ (List.mem_of_getElem? (i := 90) rfl)) (hw _ (List.mem_of_getElem? (i := 4) rfl)) (by decide) (by decide)) q68a q68c (g := (mkF m 307 #[.val (.int p1), .val (.int p2), .val (.int p3), .val (.long q4), .second, .val (.int p5), .val (.long q6), .second, .val (.int rd), .val (.int ct), .val (.long ar), .second, .val (.int (0 : Int32)), .val (.int (1 : Int32)), .val (.int fn), .val (.int fq), .val (.int fr), .val (.int fs), .val (.ref b2), .val (.ref b10)] [(.int (1 : Int32)), (.ref b2)])) rfl (by rw [hml]; rfl) (Steps.refl _) (argsL := [(.int (1 : Int32))]) (rest := []) (lenOf pd_0_6 rfl) rfl (by show 2 * 0 + _ ≤ _; exact Nat.le_of_eq rfl) (hb hby at_307) (fun _ _ => ⟨rfl, e66, (by decide : 10 + 0 ≤ _), (by decide : 82 + 0 ≤ _)⟩)
                                    dsimp only [Pt.U, Pt.locs, Pt.cells, Pt.slots] at X68 l68 y68 z68 st68 hQ68
                                    subst l68 y68 z68
                                    obtain ⟨rfl, N68q, e68⟩ := hQ68
                                    have N68 := Fr.app N66 N68q
                                    refine own_pre (A := T68.setTop (mkF m 310 #[.val (.int p1), .val (.int p2), .val (.int p3), .val (.long q4), .second, .val (.int p5), .val (.long q6), .second, .val (.int rd), .val (.int ct), .val (.long ar), .second, .val (.int (0 : Int32)), .val (.int (1 : Int32)), .val (.int fn), .val (.int fq), .val (.int fr), .val (.int fs), .val (.ref b2), .val (.ref b10)] [(.int (own_inc (1 : Int32) (own_b0_g50 p1 p2 p3 q4 p5 q6 rd ct ar pos fn fq fr fs)))])) (fun tt kt => ?_) ?_
                                    · show Steps p.tables e below (T66.setTop (mkF m 300 #[.val (.int p1), .val (.int p2), .val (.int p3), .val (.long q4), .second, .val (.int p5), .val (.long q6), .second, .val (.int rd), .val (.int ct), .val (.long ar), .second, .val (.int (0 : Int32)), .val (.int (1 : Int32)), .val (.int fn), .val (.int fq), .val (.int fr), .val (.int fs), .val (.ref b2), .val (.ref b10)] [(.int fs), (.int (own_any (own_b0_g51 p1 p2 p3 q4 p5 q6 rd ct ar pos fn fq fr fs)))])) _
                                      refine XS.icmpNo X66.here hx rfl (hb hby at_300) rfl (teq hc300_67).2 ?_
                                      refine XS.aload X66.here hx rfl (hb hby at_303) rfl rfl ?_
                                      refine XS.iload X66.here hx rfl (hb hby at_305) rfl ?_
                                      show Steps p.tables e below (T66.setTop (mkF m 307 #[.val (.int p1), .val (.int p2), .val (.int p3), .val (.long q4), .second, .val (.int p5), .val (.long q6), .second, .val (.int rd), .val (.int ct), .val (.long ar), .second, .val (.int (0 : Int32)), .val (.int (1 : Int32)), .val (.int fn), .val (.int fq), .val (.int fr), .val (.int fs), .val (.ref b2), .val (.ref b10)] [(.int (1 : Int32)), (.ref b2)])) _
                                      refine st68.trans ?_
                                      exact kt
                                    show own_End p e below s (T68.setTop (mkF m 310 #[.val (.int p1), .val (.int p2), .val (.int p3), .val (.long q4), .second, .val (.int p5), .val (.long q6), .second, .val (.int rd), .val (.int ct), .val (.long ar), .second, .val (.int (0 : Int32)), .val (.int (1 : Int32)), .val (.int fn), .val (.int fq), .val (.int fr), .val (.int fs), .val (.ref b2), .val (.ref b10)] [(.int (own_inc (1 : Int32) (own_b0_g50 p1 p2 p3 q4 p5 q6 rd ct ar pos fn fq fr fs)))])) (Q0 Z p1 p2 p3 q4 p5 q6 h0 n0) room_1.cells room_1.slots
                                    by_cases hc310_69 : (own_inc (1 : Int32) (own_b0_g50 p1 p2 p3 q4 p5 q6 rd ct ar pos fn fq fr fs)) = (0 : Int32)
                                    · obtain ⟨cq70, kq70, q70a, q70b, q70c⟩ := isOf hZ e68 fE_b2_x49
                                      obtain ⟨_, _, ⟨T70, L70, k70, n70⟩, -, X70, ⟨Lc70, hQ70, l70, y70, z70⟩, st70⟩ := X68.virtualBack hx (y := (⟨"com/example/atoll/atoll/detect/HeldOrigins", "round", "(I)I"⟩ : MethodName)) (z := (⟨"com/example/atoll/atoll/detect/HeldOrigins", "round", "(I)I"⟩ : MethodName)) hown (mvT hZ (hw _ (List.mem_of_getElem? (i := 94) rfl))) (mvT hZ (hw _ (List.mem_of_getElem? (i := 95) rfl))) (notFace_of_selects (args := #[]) (mvT hZ (hw _ (List.mem_of_getElem? (i := 97) rfl)))) (mvT hZ (hw _ (List.mem_of_getElem? (i := 97) rfl))) (mvT hZ (hw _ (List.mem_of_getElem? (i := 96) rfl))) (by decide) (backOf (W := 0) (rm15 l Z a0 hw [] b2 (1 : Int32) c3_xi c3_xn c3_xs c3_xm (2 : Int32) (own_b0_g50 p1 p2 p3 q4 p5 q6 rd ct ar pos fn fq fr fs) T49.heap n0 Z49 ⟨fE_b2_x49, fF_b2_ids_x49, fF_b2_newest_x49, fF_b2_state_x49, fF_b2_mismatches_x49, fF_b2_size_x49⟩ V49_0a (by decide) (by decide)) hZ (hw _ (List.mem_of_getElem? (i := 98) rfl)) (hw _ (List.mem_of_getElem? (i := 4) rfl)) (by decide) (by decide)) q70a q70c (g := (mkF m 317 #[.val (.int p1), .val (.int p2), .val (.int p3), .val (.long q4), .second, .val (.int p5), .val (.long q6), .second, .val (.int rd), .val (.int ct), .val (.long ar), .second, .val (.int (0 : Int32)), .val (.int (1 : Int32)), .val (.int fn), .val (.int fq), .val (.int fr), .val (.int fs), .val (.ref b2), .val (.ref b10)] [(.int (1 : Int32)), (.ref b2)])) rfl (by rw [hml]; rfl) (Steps.refl _) (argsL := [(.int (1 : Int32))]) (rest := []) (lenOf pd_0_6 rfl) rfl (by show 2 * 0 + _ ≤ _; exact Nat.le_of_eq rfl) (hb hby at_317) (fun _ _ => ⟨rfl, e68, (by decide : 10 + 0 ≤ _), (by decide : 82 + 0 ≤ _)⟩)
                                      dsimp only [Pt.U, Pt.locs, Pt.cells, Pt.slots] at X70 l70 y70 z70 st70 hQ70
                                      subst l70 y70 z70
                                      obtain ⟨rfl, N70q, e70⟩ := hQ70
                                      have N70 := Fr.app N68 N70q
                                      refine own_pre (A := T70.setTop (mkF m 320 #[.val (.int p1), .val (.int p2), .val (.int p3), .val (.long q4), .second, .val (.int p5), .val (.long q6), .second, .val (.int rd), .val (.int ct), .val (.long ar), .second, .val (.int (0 : Int32)), .val (.int (1 : Int32)), .val (.int fn), .val (.int fq), .val (.int fr), .val (.int fs), .val (.ref b2), .val (.ref b10)] [(.int (own_rnd (1 : Int32) (own_b0_g50 p1 p2 p3 q4 p5 q6 rd ct ar pos fn fq fr fs)))])) (fun tt kt => ?_) ?_
                                      · show Steps p.tables e below (T68.setTop (mkF m 310 #[.val (.int p1), .val (.int p2), .val (.int p3), .val (.long q4), .second, .val (.int p5), .val (.long q6), .second, .val (.int rd), .val (.int ct), .val (.long ar), .second, .val (.int (0 : Int32)), .val (.int (1 : Int32)), .val (.int fn), .val (.int fq), .val (.int fr), .val (.int fs), .val (.ref b2), .val (.ref b10)] [(.int (own_inc (1 : Int32) (own_b0_g50 p1 p2 p3 q4 p5 q6 rd ct ar pos fn fq fr fs)))])) _
                                        refine XS.ifNo X68.here hx rfl (hb hby at_310) rfl ((if0 _ _).trans (teq hc310_69).2) ?_
                                        refine XS.aload X68.here hx rfl (hb hby at_313) rfl rfl ?_
                                        refine XS.iload X68.here hx rfl (hb hby at_315) rfl ?_
                                        show Steps p.tables e below (T68.setTop (mkF m 317 #[.val (.int p1), .val (.int p2), .val (.int p3), .val (.long q4), .second, .val (.int p5), .val (.long q6), .second, .val (.int rd), .val (.int ct), .val (.long ar), .second, .val (.int (0 : Int32)), .val (.int (1 : Int32)), .val (.int fn), .val (.int fq), .val (.int fr), .val (.int fs), .val (.ref b2), .val (.ref b10)] [(.int (1 : Int32)), (.ref b2)])) _
                                        refine st70.trans ?_
                                        exact kt
                                      show own_End p e below s (T70.setTop (mkF m 320 #[.val (.int p1), .val (.int p2), .val (.int p3), .val (.long q4), .second, .val (.int p5), .val (.long q6), .second, .val (.int rd), .val (.int ct), .val (.long ar), .second, .val (.int (0 : Int32)), .val (.int (1 : Int32)), .val (.int fn), .val (.int fq), .val (.int fr), .val (.int fs), .val (.ref b2), .val (.ref b10)] [(.int (own_rnd (1 : Int32) (own_b0_g50 p1 p2 p3 q4 p5 q6 rd ct ar pos fn fq fr fs)))])) (Q0 Z p1 p2 p3 q4 p5 q6 h0 n0) room_1.cells room_1.slots
                                      by_cases hc320_71 : (own_rnd (1 : Int32) (own_b0_g50 p1 p2 p3 q4 p5 q6 rd ct ar pos fn fq fr fs)) = (0 : Int32)
                                      · obtain ⟨cq72, kq72, q72a, q72b, q72c⟩ := isOf hZ e70 fE_b2_x49
                                        obtain ⟨_, _, ⟨T72, L72, k72, n72⟩, -, X72, ⟨Lc72, hQ72, l72, y72, z72⟩, st72⟩ := X70.virtualBack hx (y := (⟨"com/example/atoll/atoll/detect/HeldOrigins", "arrived", "(I)J"⟩ : MethodName)) (z := (⟨"com/example/atoll/atoll/detect/HeldOrigins", "arrived", "(I)J"⟩ : MethodName)) hown (mvT hZ (hw _ (List.mem_of_getElem? (i := 108) rfl))) (mvT hZ (hw _ (List.mem_of_getElem? (i := 109) rfl))) (notFace_of_selects (args := #[]) (mvT hZ (hw _ (List.mem_of_getElem? (i := 111) rfl)))) (mvT hZ (hw _ (List.mem_of_getElem? (i := 111) rfl))) (mvT hZ (hw _ (List.mem_of_getElem? (i := 110) rfl))) (by decide) (backOf (W := 0) (rm18 l Z a0 hw [] b2 (1 : Int32) c3_xi c3_xn c3_xs c3_xm (2 : Int32) (own_b0_g51 p1 p2 p3 q4 p5 q6 rd ct ar pos fn fq fr fs) T49.heap n0 Z49 ⟨fE_b2_x49, fF_b2_ids_x49, fF_b2_newest_x49, fF_b2_state_x49, fF_b2_mismatches_x49, fF_b2_size_x49⟩ V49_1a (by decide) (by decide)) hZ (hw _ (List.mem_of_getElem? (i := 112) rfl)) (hw _ (List.mem_of_getElem? (i := 4) rfl)) (by decide) (by decide)) q72a q72c (g := (mkF m 327 #[.val (.int p1), .val (.int p2), .val (.int p3), .val (.long q4), .second, .val (.int p5), .val (.long q6), .second, .val (.int rd), .val (.int ct), .val (.long ar), .second, .val (.int (0 : Int32)), .val (.int (1 : Int32)), .val (.int fn), .val (.int fq), .val (.int fr), .val (.int fs), .val (.ref b2), .val (.ref b10)] [(.int (1 : Int32)), (.ref b2)])) rfl (by rw [hml]; rfl) (Steps.refl _) (argsL := [(.int (1 : Int32))]) (rest := []) (lenOf pd_0_7 rfl) rfl (by show 2 * 0 + _ ≤ _; exact Nat.le_of_eq rfl) (hb hby at_327) (fun _ _ => ⟨rfl, e70, (by decide : 10 + 0 ≤ _), (by decide : 82 + 0 ≤ _)⟩)
                                        dsimp only [Pt.U, Pt.locs, Pt.cells, Pt.slots] at X72 l72 y72 z72 st72 hQ72
                                        subst l72 y72 z72
                                        obtain ⟨rfl, N72q, e72⟩ := hQ72
                                        have N72 := Fr.app N70 N72q
                                        refine own_pre (A := T72.setTop (mkF m 332 #[.val (.int p1), .val (.int p2), .val (.int p3), .val (.long q4), .second, .val (.int p5), .val (.long q6), .second, .val (.int rd), .val (.int ct), .val (.long ar), .second, .val (.int (0 : Int32)), .val (.int (1 : Int32)), .val (.int fn), .val (.int fq), .val (.int fr), .val (.int fs), .val (.ref b2), .val (.ref b10)] [(.int (lcmpW (own_arr (1 : Int32) (own_b0_g51 p1 p2 p3 q4 p5 q6 rd ct ar pos fn fq fr fs)) (0 : Int64)))])) (fun tt kt => ?_) ?_
                                        · show Steps p.tables e below (T70.setTop (mkF m 320 #[.val (.int p1), .val (.int p2), .val (.int p3), .val (.long q4), .second, .val (.int p5), .val (.long q6), .second, .val (.int rd), .val (.int ct), .val (.long ar), .second, .val (.int (0 : Int32)), .val (.int (1 : Int32)), .val (.int fn), .val (.int fq), .val (.int fr), .val (.int fs), .val (.ref b2), .val (.ref b10)] [(.int (own_rnd (1 : Int32) (own_b0_g50 p1 p2 p3 q4 p5 q6 rd ct ar pos fn fq fr fs)))])) _
                                          refine XS.ifNo X70.here hx rfl (hb hby at_320) rfl ((if0 _ _).trans (teq hc320_71).2) ?_
                                          refine XS.aload X70.here hx rfl (hb hby at_323) rfl rfl ?_
                                          refine XS.iload X70.here hx rfl (hb hby at_325) rfl ?_
                                          show Steps p.tables e below (T70.setTop (mkF m 327 #[.val (.int p1), .val (.int p2), .val (.int p3), .val (.long q4), .second, .val (.int p5), .val (.long q6), .second, .val (.int rd), .val (.int ct), .val (.long ar), .second, .val (.int (0 : Int32)), .val (.int (1 : Int32)), .val (.int fn), .val (.int fq), .val (.int fr), .val (.int fs), .val (.ref b2), .val (.ref b10)] [(.int (1 : Int32)), (.ref b2)])) _
                                          refine st72.trans ?_
                                          show Steps p.tables e below (T72.setTop (mkF m 330 #[.val (.int p1), .val (.int p2), .val (.int p3), .val (.long q4), .second, .val (.int p5), .val (.long q6), .second, .val (.int rd), .val (.int ct), .val (.long ar), .second, .val (.int (0 : Int32)), .val (.int (1 : Int32)), .val (.int fn), .val (.int fq), .val (.int fr), .val (.int fs), .val (.ref b2), .val (.ref b10)] [(.long (own_arr (1 : Int32) (own_b0_g51 p1 p2 p3 q4 p5 q6 rd ct ar pos fn fq fr fs)))])) _
                                          refine XS.lconst X72.here hx rfl (hb hby at_330) ?_
                                          refine XS.lcmp X72.here hx rfl (hb hby at_331) rfl ?_
                                          exact kt
                                        show own_End p e below s (T72.setTop (mkF m 332 #[.val (.int p1), .val (.int p2), .val (.int p3), .val (.long q4), .second, .val (.int p5), .val (.long q6), .second, .val (.int rd), .val (.int ct), .val (.long ar), .second, .val (.int (0 : Int32)), .val (.int (1 : Int32)), .val (.int fn), .val (.int fq), .val (.int fr), .val (.int fs), .val (.ref b2), .val (.ref b10)] [(.int (lcmpW (own_arr (1 : Int32) (own_b0_g51 p1 p2 p3 q4 p5 q6 rd ct ar pos fn fq fr fs)) (0 : Int64)))])) (Q0 Z p1 p2 p3 q4 p5 q6 h0 n0) room_1.cells room_1.slots
                                        by_cases hc332_73 : (own_arr (1 : Int32) (own_b0_g51 p1 p2 p3 q4 p5 q6 rd ct ar pos fn fq fr fs)) = (0 : Int64)
                                        · refine own_pre (A := T72.setTop (mkF m 340 #[.val (.int p1), .val (.int p2), .val (.int p3), .val (.long q4), .second, .val (.int p5), .val (.long q6), .second, .val (.int rd), .val (.int ct), .val (.long ar), .second, .val (.int (0 : Int32)), .val (.int (1 : Int32)), .val (.int fn), .val (.int fq), .val (.int fr), .val (.int fs), .val (.ref b2), .val (.ref b10)] [(.int (1 : Int32))])) (fun tt kt => ?_) ?_
                                          · show Steps p.tables e below (T72.setTop (mkF m 332 #[.val (.int p1), .val (.int p2), .val (.int p3), .val (.long q4), .second, .val (.int p5), .val (.long q6), .second, .val (.int rd), .val (.int ct), .val (.long ar), .second, .val (.int (0 : Int32)), .val (.int (1 : Int32)), .val (.int fn), .val (.int fq), .val (.int fr), .val (.int fs), .val (.ref b2), .val (.ref b10)] [(.int (lcmpW (own_arr (1 : Int32) (own_b0_g51 p1 p2 p3 q4 p5 q6 rd ct ar pos fn fq fr fs)) (0 : Int64)))])) _
                                            refine XS.ifNo X72.here hx rfl (hb hby at_332) rfl ((if0 _ _).trans (teq ((lw_eq (own_arr (1 : Int32) (own_b0_g51 p1 p2 p3 q4 p5 q6 rd ct ar pos fn fq fr fs)) (0 : Int64)).mpr hc332_73)).2) ?_
                                            refine XS.iconst X72.here hx rfl (hb hby at_335) ?_
                                            refine XS.goto X72.here hx rfl (pc0 := 336) (pc' := 340) rfl (hb hby at_336) (by decide) (by decide) ?_
                                            exact kt
                                          show own_End p e below s (T72.setTop (mkF m 340 #[.val (.int p1), .val (.int p2), .val (.int p3), .val (.long q4), .second, .val (.int p5), .val (.long q6), .second, .val (.int rd), .val (.int ct), .val (.long ar), .second, .val (.int (0 : Int32)), .val (.int (1 : Int32)), .val (.int fn), .val (.int fq), .val (.int fr), .val (.int fs), .val (.ref b2), .val (.ref b10)] [(.int (1 : Int32))])) (Q0 Z p1 p2 p3 q4 p5 q6 h0 n0) room_1.cells room_1.slots
                                          have hv : (own_law p1 p2 p3 q4 p5 q6) = (1 : Int32) := hj.trans (by simp only [own_law_87, if_pos hc217_53, if_pos hc229_55, if_pos hc241_57, if_pos hc254_59, if_pos hc266_61, if_pos hc278_63, if_pos hc290_65, if_pos hc300_67, if_pos hc310_69, if_pos hc320_71, if_pos hc332_73])
                                          obtain ⟨fs, hr, hrun, hended, hW, hsame⟩ := X72.leave (v := some (.int (1 : Int32))) (fun h => by rw [Bd.returns] at h; cases h)
                                          refine ⟨_, _, ?_, hrun, hended, _, _, rfl, ?_, ⟨_, rfl⟩, hW, hsame.mono (by decide) (by decide)⟩
                                          · exact retN X72 hx (t := .boolean) Bd.returns (by simp) (hb hby at_340) hr
                                          · show Q0 Z p1 p2 p3 q4 p5 q6 h0 n0 _ T72.heap _
                                            rw [e72]
                                            exact ⟨(congrArg (fun z => some (Value.int z)) hv.symm), N72⟩
                                        · refine own_pre (A := T72.setTop (mkF m 340 #[.val (.int p1), .val (.int p2), .val (.int p3), .val (.long q4), .second, .val (.int p5), .val (.long q6), .second, .val (.int rd), .val (.int ct), .val (.long ar), .second, .val (.int (0 : Int32)), .val (.int (1 : Int32)), .val (.int fn), .val (.int fq), .val (.int fr), .val (.int fs), .val (.ref b2), .val (.ref b10)] [(.int (0 : Int32))])) (fun tt kt => ?_) ?_
                                          · show Steps p.tables e below (T72.setTop (mkF m 332 #[.val (.int p1), .val (.int p2), .val (.int p3), .val (.long q4), .second, .val (.int p5), .val (.long q6), .second, .val (.int rd), .val (.int ct), .val (.long ar), .second, .val (.int (0 : Int32)), .val (.int (1 : Int32)), .val (.int fn), .val (.int fq), .val (.int fr), .val (.int fs), .val (.ref b2), .val (.ref b10)] [(.int (lcmpW (own_arr (1 : Int32) (own_b0_g51 p1 p2 p3 q4 p5 q6 rd ct ar pos fn fq fr fs)) (0 : Int64)))])) _
                                            refine XS.ifYes X72.here hx rfl (pc0 := 332) (pc' := 339) rfl (hb hby at_332) rfl ((if0 _ _).trans (feq (fun q => hc332_73 ((lw_eq (own_arr (1 : Int32) (own_b0_g51 p1 p2 p3 q4 p5 q6 rd ct ar pos fn fq fr fs)) (0 : Int64)).mp q))).2) (by decide) (by decide) ?_
                                            refine XS.iconst X72.here hx rfl (hb hby at_339) ?_
                                            exact kt
                                          show own_End p e below s (T72.setTop (mkF m 340 #[.val (.int p1), .val (.int p2), .val (.int p3), .val (.long q4), .second, .val (.int p5), .val (.long q6), .second, .val (.int rd), .val (.int ct), .val (.long ar), .second, .val (.int (0 : Int32)), .val (.int (1 : Int32)), .val (.int fn), .val (.int fq), .val (.int fr), .val (.int fs), .val (.ref b2), .val (.ref b10)] [(.int (0 : Int32))])) (Q0 Z p1 p2 p3 q4 p5 q6 h0 n0) room_1.cells room_1.slots
                                          have hv : (own_law p1 p2 p3 q4 p5 q6) = (0 : Int32) := hj.trans (by simp only [own_law_87, if_pos hc217_53, if_pos hc229_55, if_pos hc241_57, if_pos hc254_59, if_pos hc266_61, if_pos hc278_63, if_pos hc290_65, if_pos hc300_67, if_pos hc310_69, if_pos hc320_71, if_neg hc332_73])
                                          obtain ⟨fs, hr, hrun, hended, hW, hsame⟩ := X72.leave (v := some (.int (0 : Int32))) (fun h => by rw [Bd.returns] at h; cases h)
                                          refine ⟨_, _, ?_, hrun, hended, _, _, rfl, ?_, ⟨_, rfl⟩, hW, hsame.mono (by decide) (by decide)⟩
                                          · exact retN X72 hx (t := .boolean) Bd.returns (by simp) (hb hby at_340) hr
                                          · show Q0 Z p1 p2 p3 q4 p5 q6 h0 n0 _ T72.heap _
                                            rw [e72]
                                            exact ⟨(congrArg (fun z => some (Value.int z)) hv.symm), N72⟩
                                      · refine own_pre (A := T70.setTop (mkF m 340 #[.val (.int p1), .val (.int p2), .val (.int p3), .val (.long q4), .second, .val (.int p5), .val (.long q6), .second, .val (.int rd), .val (.int ct), .val (.long ar), .second, .val (.int (0 : Int32)), .val (.int (1 : Int32)), .val (.int fn), .val (.int fq), .val (.int fr), .val (.int fs), .val (.ref b2), .val (.ref b10)] [(.int (0 : Int32))])) (fun tt kt => ?_) ?_
                                        · show Steps p.tables e below (T70.setTop (mkF m 320 #[.val (.int p1), .val (.int p2), .val (.int p3), .val (.long q4), .second, .val (.int p5), .val (.long q6), .second, .val (.int rd), .val (.int ct), .val (.long ar), .second, .val (.int (0 : Int32)), .val (.int (1 : Int32)), .val (.int fn), .val (.int fq), .val (.int fr), .val (.int fs), .val (.ref b2), .val (.ref b10)] [(.int (own_rnd (1 : Int32) (own_b0_g50 p1 p2 p3 q4 p5 q6 rd ct ar pos fn fq fr fs)))])) _
                                          refine XS.ifYes X70.here hx rfl (pc0 := 320) (pc' := 339) rfl (hb hby at_320) rfl ((if0 _ _).trans (feq hc320_71).2) (by decide) (by decide) ?_
                                          refine XS.iconst X70.here hx rfl (hb hby at_339) ?_
                                          exact kt
                                        show own_End p e below s (T70.setTop (mkF m 340 #[.val (.int p1), .val (.int p2), .val (.int p3), .val (.long q4), .second, .val (.int p5), .val (.long q6), .second, .val (.int rd), .val (.int ct), .val (.long ar), .second, .val (.int (0 : Int32)), .val (.int (1 : Int32)), .val (.int fn), .val (.int fq), .val (.int fr), .val (.int fs), .val (.ref b2), .val (.ref b10)] [(.int (0 : Int32))])) (Q0 Z p1 p2 p3 q4 p5 q6 h0 n0) room_1.cells room_1.slots
                                        have hv : (own_law p1 p2 p3 q4 p5 q6) = (0 : Int32) := hj.trans (by simp only [own_law_87, if_pos hc217_53, if_pos hc229_55, if_pos hc241_57, if_pos hc254_59, if_pos hc266_61, if_pos hc278_63, if_pos hc290_65, if_pos hc300_67, if_pos hc310_69, if_neg hc320_71])
                                        obtain ⟨fs, hr, hrun, hended, hW, hsame⟩ := X70.leave (v := some (.int (0 : Int32))) (fun h => by rw [Bd.returns] at h; cases h)
                                        refine ⟨_, _, ?_, hrun, hended, _, _, rfl, ?_, ⟨_, rfl⟩, hW, hsame.mono (by decide) (by decide)⟩
                                        · exact retN X70 hx (t := .boolean) Bd.returns (by simp) (hb hby at_340) hr
                                        · show Q0 Z p1 p2 p3 q4 p5 q6 h0 n0 _ T70.heap _
                                          rw [e70]
                                          exact ⟨(congrArg (fun z => some (Value.int z)) hv.symm), N70⟩
                                    · refine own_pre (A := T68.setTop (mkF m 340 #[.val (.int p1), .val (.int p2), .val (.int p3), .val (.long q4), .second, .val (.int p5), .val (.long q6), .second, .val (.int rd), .val (.int ct), .val (.long ar), .second, .val (.int (0 : Int32)), .val (.int (1 : Int32)), .val (.int fn), .val (.int fq), .val (.int fr), .val (.int fs), .val (.ref b2), .val (.ref b10)] [(.int (0 : Int32))])) (fun tt kt => ?_) ?_
                                      · show Steps p.tables e below (T68.setTop (mkF m 310 #[.val (.int p1), .val (.int p2), .val (.int p3), .val (.long q4), .second, .val (.int p5), .val (.long q6), .second, .val (.int rd), .val (.int ct), .val (.long ar), .second, .val (.int (0 : Int32)), .val (.int (1 : Int32)), .val (.int fn), .val (.int fq), .val (.int fr), .val (.int fs), .val (.ref b2), .val (.ref b10)] [(.int (own_inc (1 : Int32) (own_b0_g50 p1 p2 p3 q4 p5 q6 rd ct ar pos fn fq fr fs)))])) _
                                        refine XS.ifYes X68.here hx rfl (pc0 := 310) (pc' := 339) rfl (hb hby at_310) rfl ((if0 _ _).trans (feq hc310_69).2) (by decide) (by decide) ?_
                                        refine XS.iconst X68.here hx rfl (hb hby at_339) ?_
                                        exact kt
                                      show own_End p e below s (T68.setTop (mkF m 340 #[.val (.int p1), .val (.int p2), .val (.int p3), .val (.long q4), .second, .val (.int p5), .val (.long q6), .second, .val (.int rd), .val (.int ct), .val (.long ar), .second, .val (.int (0 : Int32)), .val (.int (1 : Int32)), .val (.int fn), .val (.int fq), .val (.int fr), .val (.int fs), .val (.ref b2), .val (.ref b10)] [(.int (0 : Int32))])) (Q0 Z p1 p2 p3 q4 p5 q6 h0 n0) room_1.cells room_1.slots
                                      have hv : (own_law p1 p2 p3 q4 p5 q6) = (0 : Int32) := hj.trans (by simp only [own_law_87, if_pos hc217_53, if_pos hc229_55, if_pos hc241_57, if_pos hc254_59, if_pos hc266_61, if_pos hc278_63, if_pos hc290_65, if_pos hc300_67, if_neg hc310_69])
                                      obtain ⟨fs, hr, hrun, hended, hW, hsame⟩ := X68.leave (v := some (.int (0 : Int32))) (fun h => by rw [Bd.returns] at h; cases h)
                                      refine ⟨_, _, ?_, hrun, hended, _, _, rfl, ?_, ⟨_, rfl⟩, hW, hsame.mono (by decide) (by decide)⟩
                                      · exact retN X68 hx (t := .boolean) Bd.returns (by simp) (hb hby at_340) hr
                                      · show Q0 Z p1 p2 p3 q4 p5 q6 h0 n0 _ T68.heap _
                                        rw [e68]
                                        exact ⟨(congrArg (fun z => some (Value.int z)) hv.symm), N68⟩
                                  · refine own_pre (A := T66.setTop (mkF m 340 #[.val (.int p1), .val (.int p2), .val (.int p3), .val (.long q4), .second, .val (.int p5), .val (.long q6), .second, .val (.int rd), .val (.int ct), .val (.long ar), .second, .val (.int (0 : Int32)), .val (.int (1 : Int32)), .val (.int fn), .val (.int fq), .val (.int fr), .val (.int fs), .val (.ref b2), .val (.ref b10)] [(.int (0 : Int32))])) (fun tt kt => ?_) ?_
                                    · show Steps p.tables e below (T66.setTop (mkF m 300 #[.val (.int p1), .val (.int p2), .val (.int p3), .val (.long q4), .second, .val (.int p5), .val (.long q6), .second, .val (.int rd), .val (.int ct), .val (.long ar), .second, .val (.int (0 : Int32)), .val (.int (1 : Int32)), .val (.int fn), .val (.int fq), .val (.int fr), .val (.int fs), .val (.ref b2), .val (.ref b10)] [(.int fs), (.int (own_any (own_b0_g51 p1 p2 p3 q4 p5 q6 rd ct ar pos fn fq fr fs)))])) _
                                      refine XS.icmpYes X66.here hx rfl (pc0 := 300) (pc' := 339) rfl (hb hby at_300) rfl (feq hc300_67).2 (by decide) (by decide) ?_
                                      refine XS.iconst X66.here hx rfl (hb hby at_339) ?_
                                      exact kt
                                    show own_End p e below s (T66.setTop (mkF m 340 #[.val (.int p1), .val (.int p2), .val (.int p3), .val (.long q4), .second, .val (.int p5), .val (.long q6), .second, .val (.int rd), .val (.int ct), .val (.long ar), .second, .val (.int (0 : Int32)), .val (.int (1 : Int32)), .val (.int fn), .val (.int fq), .val (.int fr), .val (.int fs), .val (.ref b2), .val (.ref b10)] [(.int (0 : Int32))])) (Q0 Z p1 p2 p3 q4 p5 q6 h0 n0) room_1.cells room_1.slots
                                    have hv : (own_law p1 p2 p3 q4 p5 q6) = (0 : Int32) := hj.trans (by simp only [own_law_87, if_pos hc217_53, if_pos hc229_55, if_pos hc241_57, if_pos hc254_59, if_pos hc266_61, if_pos hc278_63, if_pos hc290_65, if_neg hc300_67])
                                    obtain ⟨fs, hr, hrun, hended, hW, hsame⟩ := X66.leave (v := some (.int (0 : Int32))) (fun h => by rw [Bd.returns] at h; cases h)
                                    refine ⟨_, _, ?_, hrun, hended, _, _, rfl, ?_, ⟨_, rfl⟩, hW, hsame.mono (by decide) (by decide)⟩
                                    · exact retN X66 hx (t := .boolean) Bd.returns (by simp) (hb hby at_340) hr
                                    · show Q0 Z p1 p2 p3 q4 p5 q6 h0 n0 _ T66.heap _
                                      rw [e66]
                                      exact ⟨(congrArg (fun z => some (Value.int z)) hv.symm), N66⟩
                                · refine own_pre (A := T64.setTop (mkF m 340 #[.val (.int p1), .val (.int p2), .val (.int p3), .val (.long q4), .second, .val (.int p5), .val (.long q6), .second, .val (.int rd), .val (.int ct), .val (.long ar), .second, .val (.int (0 : Int32)), .val (.int (1 : Int32)), .val (.int fn), .val (.int fq), .val (.int fr), .val (.int fs), .val (.ref b2), .val (.ref b10)] [(.int (0 : Int32))])) (fun tt kt => ?_) ?_
                                  · show Steps p.tables e below (T64.setTop (mkF m 290 #[.val (.int p1), .val (.int p2), .val (.int p3), .val (.long q4), .second, .val (.int p5), .val (.long q6), .second, .val (.int rd), .val (.int ct), .val (.long ar), .second, .val (.int (0 : Int32)), .val (.int (1 : Int32)), .val (.int fn), .val (.int fq), .val (.int fr), .val (.int fs), .val (.ref b2), .val (.ref b10)] [(.int fr), (.int (own_relayed (0 : Int32) (own_b0_g51 p1 p2 p3 q4 p5 q6 rd ct ar pos fn fq fr fs)))])) _
                                    refine XS.icmpYes X64.here hx rfl (pc0 := 290) (pc' := 339) rfl (hb hby at_290) rfl (feq hc290_65).2 (by decide) (by decide) ?_
                                    refine XS.iconst X64.here hx rfl (hb hby at_339) ?_
                                    exact kt
                                  show own_End p e below s (T64.setTop (mkF m 340 #[.val (.int p1), .val (.int p2), .val (.int p3), .val (.long q4), .second, .val (.int p5), .val (.long q6), .second, .val (.int rd), .val (.int ct), .val (.long ar), .second, .val (.int (0 : Int32)), .val (.int (1 : Int32)), .val (.int fn), .val (.int fq), .val (.int fr), .val (.int fs), .val (.ref b2), .val (.ref b10)] [(.int (0 : Int32))])) (Q0 Z p1 p2 p3 q4 p5 q6 h0 n0) room_1.cells room_1.slots
                                  have hv : (own_law p1 p2 p3 q4 p5 q6) = (0 : Int32) := hj.trans (by simp only [own_law_87, if_pos hc217_53, if_pos hc229_55, if_pos hc241_57, if_pos hc254_59, if_pos hc266_61, if_pos hc278_63, if_neg hc290_65])
                                  obtain ⟨fs, hr, hrun, hended, hW, hsame⟩ := X64.leave (v := some (.int (0 : Int32))) (fun h => by rw [Bd.returns] at h; cases h)
                                  refine ⟨_, _, ?_, hrun, hended, _, _, rfl, ?_, ⟨_, rfl⟩, hW, hsame.mono (by decide) (by decide)⟩
                                  · exact retN X64 hx (t := .boolean) Bd.returns (by simp) (hb hby at_340) hr
                                  · show Q0 Z p1 p2 p3 q4 p5 q6 h0 n0 _ T64.heap _
                                    rw [e64]
                                    exact ⟨(congrArg (fun z => some (Value.int z)) hv.symm), N64⟩
                              · refine own_pre (A := T62.setTop (mkF m 340 #[.val (.int p1), .val (.int p2), .val (.int p3), .val (.long q4), .second, .val (.int p5), .val (.long q6), .second, .val (.int rd), .val (.int ct), .val (.long ar), .second, .val (.int (0 : Int32)), .val (.int (1 : Int32)), .val (.int fn), .val (.int fq), .val (.int fr), .val (.int fs), .val (.ref b2), .val (.ref b10)] [(.int (0 : Int32))])) (fun tt kt => ?_) ?_
                                · show Steps p.tables e below (T62.setTop (mkF m 278 #[.val (.int p1), .val (.int p2), .val (.int p3), .val (.long q4), .second, .val (.int p5), .val (.long q6), .second, .val (.int rd), .val (.int ct), .val (.long ar), .second, .val (.int (0 : Int32)), .val (.int (1 : Int32)), .val (.int fn), .val (.int fq), .val (.int fr), .val (.int fs), .val (.ref b2), .val (.ref b10)] [(.int fq), (.int (own_queued (0 : Int32) (own_b0_g51 p1 p2 p3 q4 p5 q6 rd ct ar pos fn fq fr fs)))])) _
                                  refine XS.icmpYes X62.here hx rfl (pc0 := 278) (pc' := 339) rfl (hb hby at_278) rfl (feq hc278_63).2 (by decide) (by decide) ?_
                                  refine XS.iconst X62.here hx rfl (hb hby at_339) ?_
                                  exact kt
                                show own_End p e below s (T62.setTop (mkF m 340 #[.val (.int p1), .val (.int p2), .val (.int p3), .val (.long q4), .second, .val (.int p5), .val (.long q6), .second, .val (.int rd), .val (.int ct), .val (.long ar), .second, .val (.int (0 : Int32)), .val (.int (1 : Int32)), .val (.int fn), .val (.int fq), .val (.int fr), .val (.int fs), .val (.ref b2), .val (.ref b10)] [(.int (0 : Int32))])) (Q0 Z p1 p2 p3 q4 p5 q6 h0 n0) room_1.cells room_1.slots
                                have hv : (own_law p1 p2 p3 q4 p5 q6) = (0 : Int32) := hj.trans (by simp only [own_law_87, if_pos hc217_53, if_pos hc229_55, if_pos hc241_57, if_pos hc254_59, if_pos hc266_61, if_neg hc278_63])
                                obtain ⟨fs, hr, hrun, hended, hW, hsame⟩ := X62.leave (v := some (.int (0 : Int32))) (fun h => by rw [Bd.returns] at h; cases h)
                                refine ⟨_, _, ?_, hrun, hended, _, _, rfl, ?_, ⟨_, rfl⟩, hW, hsame.mono (by decide) (by decide)⟩
                                · exact retN X62 hx (t := .boolean) Bd.returns (by simp) (hb hby at_340) hr
                                · show Q0 Z p1 p2 p3 q4 p5 q6 h0 n0 _ T62.heap _
                                  rw [e62]
                                  exact ⟨(congrArg (fun z => some (Value.int z)) hv.symm), N62⟩
                            · refine own_pre (A := T60.setTop (mkF m 340 #[.val (.int p1), .val (.int p2), .val (.int p3), .val (.long q4), .second, .val (.int p5), .val (.long q6), .second, .val (.int rd), .val (.int ct), .val (.long ar), .second, .val (.int (0 : Int32)), .val (.int (1 : Int32)), .val (.int fn), .val (.int fq), .val (.int fr), .val (.int fs), .val (.ref b2), .val (.ref b10)] [(.int (0 : Int32))])) (fun tt kt => ?_) ?_
                              · show Steps p.tables e below (T60.setTop (mkF m 266 #[.val (.int p1), .val (.int p2), .val (.int p3), .val (.long q4), .second, .val (.int p5), .val (.long q6), .second, .val (.int rd), .val (.int ct), .val (.long ar), .second, .val (.int (0 : Int32)), .val (.int (1 : Int32)), .val (.int fn), .val (.int fq), .val (.int fr), .val (.int fs), .val (.ref b2), .val (.ref b10)] [(.int fn), (.int (own_named (0 : Int32) (own_b0_g51 p1 p2 p3 q4 p5 q6 rd ct ar pos fn fq fr fs)))])) _
                                refine XS.icmpYes X60.here hx rfl (pc0 := 266) (pc' := 339) rfl (hb hby at_266) rfl (feq hc266_61).2 (by decide) (by decide) ?_
                                refine XS.iconst X60.here hx rfl (hb hby at_339) ?_
                                exact kt
                              show own_End p e below s (T60.setTop (mkF m 340 #[.val (.int p1), .val (.int p2), .val (.int p3), .val (.long q4), .second, .val (.int p5), .val (.long q6), .second, .val (.int rd), .val (.int ct), .val (.long ar), .second, .val (.int (0 : Int32)), .val (.int (1 : Int32)), .val (.int fn), .val (.int fq), .val (.int fr), .val (.int fs), .val (.ref b2), .val (.ref b10)] [(.int (0 : Int32))])) (Q0 Z p1 p2 p3 q4 p5 q6 h0 n0) room_1.cells room_1.slots
                              have hv : (own_law p1 p2 p3 q4 p5 q6) = (0 : Int32) := hj.trans (by simp only [own_law_87, if_pos hc217_53, if_pos hc229_55, if_pos hc241_57, if_pos hc254_59, if_neg hc266_61])
                              obtain ⟨fs, hr, hrun, hended, hW, hsame⟩ := X60.leave (v := some (.int (0 : Int32))) (fun h => by rw [Bd.returns] at h; cases h)
                              refine ⟨_, _, ?_, hrun, hended, _, _, rfl, ?_, ⟨_, rfl⟩, hW, hsame.mono (by decide) (by decide)⟩
                              · exact retN X60 hx (t := .boolean) Bd.returns (by simp) (hb hby at_340) hr
                              · show Q0 Z p1 p2 p3 q4 p5 q6 h0 n0 _ T60.heap _
                                rw [e60]
                                exact ⟨(congrArg (fun z => some (Value.int z)) hv.symm), N60⟩
                          · refine own_pre (A := T58.setTop (mkF m 340 #[.val (.int p1), .val (.int p2), .val (.int p3), .val (.long q4), .second, .val (.int p5), .val (.long q6), .second, .val (.int rd), .val (.int ct), .val (.long ar), .second, .val (.int (0 : Int32)), .val (.int (1 : Int32)), .val (.int fn), .val (.int fq), .val (.int fr), .val (.int fs), .val (.ref b2), .val (.ref b10)] [(.int (0 : Int32))])) (fun tt kt => ?_) ?_
                            · show Steps p.tables e below (T58.setTop (mkF m 254 #[.val (.int p1), .val (.int p2), .val (.int p3), .val (.long q4), .second, .val (.int p5), .val (.long q6), .second, .val (.int rd), .val (.int ct), .val (.long ar), .second, .val (.int (0 : Int32)), .val (.int (1 : Int32)), .val (.int fn), .val (.int fq), .val (.int fr), .val (.int fs), .val (.ref b2), .val (.ref b10)] [(.int (lcmpW (own_arr (0 : Int32) (own_b0_g51 p1 p2 p3 q4 p5 q6 rd ct ar pos fn fq fr fs)) ar))])) _
                              refine XS.ifYes X58.here hx rfl (pc0 := 254) (pc' := 339) rfl (hb hby at_254) rfl ((if0 _ _).trans (feq (fun q => hc254_59 ((lw_eq (own_arr (0 : Int32) (own_b0_g51 p1 p2 p3 q4 p5 q6 rd ct ar pos fn fq fr fs)) ar).mp q))).2) (by decide) (by decide) ?_
                              refine XS.iconst X58.here hx rfl (hb hby at_339) ?_
                              exact kt
                            show own_End p e below s (T58.setTop (mkF m 340 #[.val (.int p1), .val (.int p2), .val (.int p3), .val (.long q4), .second, .val (.int p5), .val (.long q6), .second, .val (.int rd), .val (.int ct), .val (.long ar), .second, .val (.int (0 : Int32)), .val (.int (1 : Int32)), .val (.int fn), .val (.int fq), .val (.int fr), .val (.int fs), .val (.ref b2), .val (.ref b10)] [(.int (0 : Int32))])) (Q0 Z p1 p2 p3 q4 p5 q6 h0 n0) room_1.cells room_1.slots
                            have hv : (own_law p1 p2 p3 q4 p5 q6) = (0 : Int32) := hj.trans (by simp only [own_law_87, if_pos hc217_53, if_pos hc229_55, if_pos hc241_57, if_neg hc254_59])
                            obtain ⟨fs, hr, hrun, hended, hW, hsame⟩ := X58.leave (v := some (.int (0 : Int32))) (fun h => by rw [Bd.returns] at h; cases h)
                            refine ⟨_, _, ?_, hrun, hended, _, _, rfl, ?_, ⟨_, rfl⟩, hW, hsame.mono (by decide) (by decide)⟩
                            · exact retN X58 hx (t := .boolean) Bd.returns (by simp) (hb hby at_340) hr
                            · show Q0 Z p1 p2 p3 q4 p5 q6 h0 n0 _ T58.heap _
                              rw [e58]
                              exact ⟨(congrArg (fun z => some (Value.int z)) hv.symm), N58⟩
                        · refine own_pre (A := T56.setTop (mkF m 340 #[.val (.int p1), .val (.int p2), .val (.int p3), .val (.long q4), .second, .val (.int p5), .val (.long q6), .second, .val (.int rd), .val (.int ct), .val (.long ar), .second, .val (.int (0 : Int32)), .val (.int (1 : Int32)), .val (.int fn), .val (.int fq), .val (.int fr), .val (.int fs), .val (.ref b2), .val (.ref b10)] [(.int (0 : Int32))])) (fun tt kt => ?_) ?_
                          · show Steps p.tables e below (T56.setTop (mkF m 241 #[.val (.int p1), .val (.int p2), .val (.int p3), .val (.long q4), .second, .val (.int p5), .val (.long q6), .second, .val (.int rd), .val (.int ct), .val (.long ar), .second, .val (.int (0 : Int32)), .val (.int (1 : Int32)), .val (.int fn), .val (.int fq), .val (.int fr), .val (.int fs), .val (.ref b2), .val (.ref b10)] [(.int ct), (.int (own_hrd (0 : Int32) (own_b0_g50 p1 p2 p3 q4 p5 q6 rd ct ar pos fn fq fr fs)))])) _
                            refine XS.icmpYes X56.here hx rfl (pc0 := 241) (pc' := 339) rfl (hb hby at_241) rfl (feq hc241_57).2 (by decide) (by decide) ?_
                            refine XS.iconst X56.here hx rfl (hb hby at_339) ?_
                            exact kt
                          show own_End p e below s (T56.setTop (mkF m 340 #[.val (.int p1), .val (.int p2), .val (.int p3), .val (.long q4), .second, .val (.int p5), .val (.long q6), .second, .val (.int rd), .val (.int ct), .val (.long ar), .second, .val (.int (0 : Int32)), .val (.int (1 : Int32)), .val (.int fn), .val (.int fq), .val (.int fr), .val (.int fs), .val (.ref b2), .val (.ref b10)] [(.int (0 : Int32))])) (Q0 Z p1 p2 p3 q4 p5 q6 h0 n0) room_1.cells room_1.slots
                          have hv : (own_law p1 p2 p3 q4 p5 q6) = (0 : Int32) := hj.trans (by simp only [own_law_87, if_pos hc217_53, if_pos hc229_55, if_neg hc241_57])
                          obtain ⟨fs, hr, hrun, hended, hW, hsame⟩ := X56.leave (v := some (.int (0 : Int32))) (fun h => by rw [Bd.returns] at h; cases h)
                          refine ⟨_, _, ?_, hrun, hended, _, _, rfl, ?_, ⟨_, rfl⟩, hW, hsame.mono (by decide) (by decide)⟩
                          · exact retN X56 hx (t := .boolean) Bd.returns (by simp) (hb hby at_340) hr
                          · show Q0 Z p1 p2 p3 q4 p5 q6 h0 n0 _ T56.heap _
                            rw [e56]
                            exact ⟨(congrArg (fun z => some (Value.int z)) hv.symm), N56⟩
                      · refine own_pre (A := T54.setTop (mkF m 340 #[.val (.int p1), .val (.int p2), .val (.int p3), .val (.long q4), .second, .val (.int p5), .val (.long q6), .second, .val (.int rd), .val (.int ct), .val (.long ar), .second, .val (.int (0 : Int32)), .val (.int (1 : Int32)), .val (.int fn), .val (.int fq), .val (.int fr), .val (.int fs), .val (.ref b2), .val (.ref b10)] [(.int (0 : Int32))])) (fun tt kt => ?_) ?_
                        · show Steps p.tables e below (T54.setTop (mkF m 229 #[.val (.int p1), .val (.int p2), .val (.int p3), .val (.long q4), .second, .val (.int p5), .val (.long q6), .second, .val (.int rd), .val (.int ct), .val (.long ar), .second, .val (.int (0 : Int32)), .val (.int (1 : Int32)), .val (.int fn), .val (.int fq), .val (.int fr), .val (.int fs), .val (.ref b2), .val (.ref b10)] [(.int rd), (.int (own_rnd (0 : Int32) (own_b0_g50 p1 p2 p3 q4 p5 q6 rd ct ar pos fn fq fr fs)))])) _
                          refine XS.icmpYes X54.here hx rfl (pc0 := 229) (pc' := 339) rfl (hb hby at_229) rfl (feq hc229_55).2 (by decide) (by decide) ?_
                          refine XS.iconst X54.here hx rfl (hb hby at_339) ?_
                          exact kt
                        show own_End p e below s (T54.setTop (mkF m 340 #[.val (.int p1), .val (.int p2), .val (.int p3), .val (.long q4), .second, .val (.int p5), .val (.long q6), .second, .val (.int rd), .val (.int ct), .val (.long ar), .second, .val (.int (0 : Int32)), .val (.int (1 : Int32)), .val (.int fn), .val (.int fq), .val (.int fr), .val (.int fs), .val (.ref b2), .val (.ref b10)] [(.int (0 : Int32))])) (Q0 Z p1 p2 p3 q4 p5 q6 h0 n0) room_1.cells room_1.slots
                        have hv : (own_law p1 p2 p3 q4 p5 q6) = (0 : Int32) := hj.trans (by simp only [own_law_87, if_pos hc217_53, if_neg hc229_55])
                        obtain ⟨fs, hr, hrun, hended, hW, hsame⟩ := X54.leave (v := some (.int (0 : Int32))) (fun h => by rw [Bd.returns] at h; cases h)
                        refine ⟨_, _, ?_, hrun, hended, _, _, rfl, ?_, ⟨_, rfl⟩, hW, hsame.mono (by decide) (by decide)⟩
                        · exact retN X54 hx (t := .boolean) Bd.returns (by simp) (hb hby at_340) hr
                        · show Q0 Z p1 p2 p3 q4 p5 q6 h0 n0 _ T54.heap _
                          rw [e54]
                          exact ⟨(congrArg (fun z => some (Value.int z)) hv.symm), N54⟩
                    · refine own_pre (A := T52.setTop (mkF m 340 #[.val (.int p1), .val (.int p2), .val (.int p3), .val (.long q4), .second, .val (.int p5), .val (.long q6), .second, .val (.int rd), .val (.int ct), .val (.long ar), .second, .val (.int (0 : Int32)), .val (.int (1 : Int32)), .val (.int fn), .val (.int fq), .val (.int fr), .val (.int fs), .val (.ref b2), .val (.ref b10)] [(.int (0 : Int32))])) (fun tt kt => ?_) ?_
                      · show Steps p.tables e below (T52.setTop (mkF m 217 #[.val (.int p1), .val (.int p2), .val (.int p3), .val (.long q4), .second, .val (.int p5), .val (.long q6), .second, .val (.int rd), .val (.int ct), .val (.long ar), .second, .val (.int (0 : Int32)), .val (.int (1 : Int32)), .val (.int fn), .val (.int fq), .val (.int fr), .val (.int fs), .val (.ref b2), .val (.ref b10)] [(.int p1), (.int (own_inc (0 : Int32) (own_b0_g50 p1 p2 p3 q4 p5 q6 rd ct ar pos fn fq fr fs)))])) _
                        refine XS.icmpYes X52.here hx rfl (pc0 := 217) (pc' := 339) rfl (hb hby at_217) rfl (feq hc217_53).2 (by decide) (by decide) ?_
                        refine XS.iconst X52.here hx rfl (hb hby at_339) ?_
                        exact kt
                      show own_End p e below s (T52.setTop (mkF m 340 #[.val (.int p1), .val (.int p2), .val (.int p3), .val (.long q4), .second, .val (.int p5), .val (.long q6), .second, .val (.int rd), .val (.int ct), .val (.long ar), .second, .val (.int (0 : Int32)), .val (.int (1 : Int32)), .val (.int fn), .val (.int fq), .val (.int fr), .val (.int fs), .val (.ref b2), .val (.ref b10)] [(.int (0 : Int32))])) (Q0 Z p1 p2 p3 q4 p5 q6 h0 n0) room_1.cells room_1.slots
                      have hv : (own_law p1 p2 p3 q4 p5 q6) = (0 : Int32) := hj.trans (by simp only [own_law_87, if_neg hc217_53])
                      obtain ⟨fs, hr, hrun, hended, hW, hsame⟩ := X52.leave (v := some (.int (0 : Int32))) (fun h => by rw [Bd.returns] at h; cases h)
                      refine ⟨_, _, ?_, hrun, hended, _, _, rfl, ?_, ⟨_, rfl⟩, hW, hsame.mono (by decide) (by decide)⟩
                      · exact retN X52 hx (t := .boolean) Bd.returns (by simp) (hb hby at_340) hr
                      · show Q0 Z p1 p2 p3 q4 p5 q6 h0 n0 _ T52.heap _
                        rw [e52]
                        exact ⟨(congrArg (fun z => some (Value.int z)) hv.symm), N52⟩
                  by_cases hc79_74 : (p5 &&& (16 : Int32)) = (0 : Int32)
                  · refine own_pre (A := Tj72.setTop (mkF m 87 #[.val (.int p1), .val (.int p2), .val (.int p3), .val (.long q4), .second, .val (.int p5), .val (.long q6), .second, .val (.int rd), .val (.int ct), .val (.long ar), .second, .val (.int (0 : Int32)), .val (.int (1 : Int32)), .val (.int fn), .val (.int fq), .val (.int fr), .unset, .unset, .unset] [(.int (0 : Int32))])) (fun tt kt => ?_) ?_
                    · show Steps p.tables e below (Tj72.setTop (mkF m 79 #[.val (.int p1), .val (.int p2), .val (.int p3), .val (.long q4), .second, .val (.int p5), .val (.long q6), .second, .val (.int rd), .val (.int ct), .val (.long ar), .second, .val (.int (0 : Int32)), .val (.int (1 : Int32)), .val (.int fn), .val (.int fq), .val (.int fr), .unset, .unset, .unset] [(.int (p5 &&& (16 : Int32)))])) _
                      refine XS.ifYes Xj72.here hx rfl (pc0 := 79) (pc' := 86) rfl (hb hby at_79) rfl ((if0 _ _).trans (teq hc79_74).1) (by decide) (by decide) ?_
                      refine XS.iconst Xj72.here hx rfl (hb hby at_86) ?_
                      exact kt
                    show own_End p e below s (Tj72.setTop (mkF m 87 #[.val (.int p1), .val (.int p2), .val (.int p3), .val (.long q4), .second, .val (.int p5), .val (.long q6), .second, .val (.int rd), .val (.int ct), .val (.long ar), .second, .val (.int (0 : Int32)), .val (.int (1 : Int32)), .val (.int fn), .val (.int fq), .val (.int fr), .unset, .unset, .unset] [(.int (0 : Int32))])) (Q0 Z p1 p2 p3 q4 p5 q6 h0 n0) room_1.cells room_1.slots
                    exact j87 _ _ Xj72 ej72 Nj72 (0 : Int32)  (hj.trans (by simp only [own_law_72, if_pos hc79_74]))
                  · refine own_pre (A := Tj72.setTop (mkF m 87 #[.val (.int p1), .val (.int p2), .val (.int p3), .val (.long q4), .second, .val (.int p5), .val (.long q6), .second, .val (.int rd), .val (.int ct), .val (.long ar), .second, .val (.int (0 : Int32)), .val (.int (1 : Int32)), .val (.int fn), .val (.int fq), .val (.int fr), .unset, .unset, .unset] [(.int (1 : Int32))])) (fun tt kt => ?_) ?_
                    · show Steps p.tables e below (Tj72.setTop (mkF m 79 #[.val (.int p1), .val (.int p2), .val (.int p3), .val (.long q4), .second, .val (.int p5), .val (.long q6), .second, .val (.int rd), .val (.int ct), .val (.long ar), .second, .val (.int (0 : Int32)), .val (.int (1 : Int32)), .val (.int fn), .val (.int fq), .val (.int fr), .unset, .unset, .unset] [(.int (p5 &&& (16 : Int32)))])) _
                      refine XS.ifNo Xj72.here hx rfl (hb hby at_79) rfl ((if0 _ _).trans (feq hc79_74).1) ?_
                      refine XS.iconst Xj72.here hx rfl (hb hby at_82) ?_
                      refine XS.goto Xj72.here hx rfl (pc0 := 83) (pc' := 87) rfl (hb hby at_83) (by decide) (by decide) ?_
                      exact kt
                    show own_End p e below s (Tj72.setTop (mkF m 87 #[.val (.int p1), .val (.int p2), .val (.int p3), .val (.long q4), .second, .val (.int p5), .val (.long q6), .second, .val (.int rd), .val (.int ct), .val (.long ar), .second, .val (.int (0 : Int32)), .val (.int (1 : Int32)), .val (.int fn), .val (.int fq), .val (.int fr), .unset, .unset, .unset] [(.int (1 : Int32))])) (Q0 Z p1 p2 p3 q4 p5 q6 h0 n0) room_1.cells room_1.slots
                    exact j87 _ _ Xj72 ej72 Nj72 (1 : Int32)  (hj.trans (by simp only [own_law_72, if_neg hc79_74]))
                by_cases hc64_75 : (p5 &&& (8 : Int32)) = (0 : Int32)
                · refine own_pre (A := Tj57.setTop (mkF m 72 #[.val (.int p1), .val (.int p2), .val (.int p3), .val (.long q4), .second, .val (.int p5), .val (.long q6), .second, .val (.int rd), .val (.int ct), .val (.long ar), .second, .val (.int (0 : Int32)), .val (.int (1 : Int32)), .val (.int fn), .val (.int fq), .unset, .unset, .unset, .unset] [(.int (0 : Int32))])) (fun tt kt => ?_) ?_
                  · show Steps p.tables e below (Tj57.setTop (mkF m 64 #[.val (.int p1), .val (.int p2), .val (.int p3), .val (.long q4), .second, .val (.int p5), .val (.long q6), .second, .val (.int rd), .val (.int ct), .val (.long ar), .second, .val (.int (0 : Int32)), .val (.int (1 : Int32)), .val (.int fn), .val (.int fq), .unset, .unset, .unset, .unset] [(.int (p5 &&& (8 : Int32)))])) _
                    refine XS.ifYes Xj57.here hx rfl (pc0 := 64) (pc' := 71) rfl (hb hby at_64) rfl ((if0 _ _).trans (teq hc64_75).1) (by decide) (by decide) ?_
                    refine XS.iconst Xj57.here hx rfl (hb hby at_71) ?_
                    exact kt
                  show own_End p e below s (Tj57.setTop (mkF m 72 #[.val (.int p1), .val (.int p2), .val (.int p3), .val (.long q4), .second, .val (.int p5), .val (.long q6), .second, .val (.int rd), .val (.int ct), .val (.long ar), .second, .val (.int (0 : Int32)), .val (.int (1 : Int32)), .val (.int fn), .val (.int fq), .unset, .unset, .unset, .unset] [(.int (0 : Int32))])) (Q0 Z p1 p2 p3 q4 p5 q6 h0 n0) room_1.cells room_1.slots
                  exact j72 _ _ Xj57 ej57 Nj57 (0 : Int32)  (hj.trans (by simp only [own_law_57, if_pos hc64_75]))
                · refine own_pre (A := Tj57.setTop (mkF m 72 #[.val (.int p1), .val (.int p2), .val (.int p3), .val (.long q4), .second, .val (.int p5), .val (.long q6), .second, .val (.int rd), .val (.int ct), .val (.long ar), .second, .val (.int (0 : Int32)), .val (.int (1 : Int32)), .val (.int fn), .val (.int fq), .unset, .unset, .unset, .unset] [(.int (1 : Int32))])) (fun tt kt => ?_) ?_
                  · show Steps p.tables e below (Tj57.setTop (mkF m 64 #[.val (.int p1), .val (.int p2), .val (.int p3), .val (.long q4), .second, .val (.int p5), .val (.long q6), .second, .val (.int rd), .val (.int ct), .val (.long ar), .second, .val (.int (0 : Int32)), .val (.int (1 : Int32)), .val (.int fn), .val (.int fq), .unset, .unset, .unset, .unset] [(.int (p5 &&& (8 : Int32)))])) _
                    refine XS.ifNo Xj57.here hx rfl (hb hby at_64) rfl ((if0 _ _).trans (feq hc64_75).1) ?_
                    refine XS.iconst Xj57.here hx rfl (hb hby at_67) ?_
                    refine XS.goto Xj57.here hx rfl (pc0 := 68) (pc' := 72) rfl (hb hby at_68) (by decide) (by decide) ?_
                    exact kt
                  show own_End p e below s (Tj57.setTop (mkF m 72 #[.val (.int p1), .val (.int p2), .val (.int p3), .val (.long q4), .second, .val (.int p5), .val (.long q6), .second, .val (.int rd), .val (.int ct), .val (.long ar), .second, .val (.int (0 : Int32)), .val (.int (1 : Int32)), .val (.int fn), .val (.int fq), .unset, .unset, .unset, .unset] [(.int (1 : Int32))])) (Q0 Z p1 p2 p3 q4 p5 q6 h0 n0) room_1.cells room_1.slots
                  exact j72 _ _ Xj57 ej57 Nj57 (1 : Int32)  (hj.trans (by simp only [own_law_57, if_neg hc64_75]))
              by_cases hc49_76 : (p5 &&& (4 : Int32)) = (0 : Int32)
              · refine own_pre (A := Tj43.setTop (mkF m 57 #[.val (.int p1), .val (.int p2), .val (.int p3), .val (.long q4), .second, .val (.int p5), .val (.long q6), .second, .val (.int rd), .val (.int ct), .val (.long ar), .second, .val (.int (0 : Int32)), .val (.int (1 : Int32)), .val (.int fn), .unset, .unset, .unset, .unset, .unset] [(.int (0 : Int32))])) (fun tt kt => ?_) ?_
                · show Steps p.tables e below (Tj43.setTop (mkF m 49 #[.val (.int p1), .val (.int p2), .val (.int p3), .val (.long q4), .second, .val (.int p5), .val (.long q6), .second, .val (.int rd), .val (.int ct), .val (.long ar), .second, .val (.int (0 : Int32)), .val (.int (1 : Int32)), .val (.int fn), .unset, .unset, .unset, .unset, .unset] [(.int (p5 &&& (4 : Int32)))])) _
                  refine XS.ifYes Xj43.here hx rfl (pc0 := 49) (pc' := 56) rfl (hb hby at_49) rfl ((if0 _ _).trans (teq hc49_76).1) (by decide) (by decide) ?_
                  refine XS.iconst Xj43.here hx rfl (hb hby at_56) ?_
                  exact kt
                show own_End p e below s (Tj43.setTop (mkF m 57 #[.val (.int p1), .val (.int p2), .val (.int p3), .val (.long q4), .second, .val (.int p5), .val (.long q6), .second, .val (.int rd), .val (.int ct), .val (.long ar), .second, .val (.int (0 : Int32)), .val (.int (1 : Int32)), .val (.int fn), .unset, .unset, .unset, .unset, .unset] [(.int (0 : Int32))])) (Q0 Z p1 p2 p3 q4 p5 q6 h0 n0) room_1.cells room_1.slots
                exact j57 _ _ Xj43 ej43 Nj43 (0 : Int32)  (hj.trans (by simp only [own_law_43, if_pos hc49_76]))
              · refine own_pre (A := Tj43.setTop (mkF m 57 #[.val (.int p1), .val (.int p2), .val (.int p3), .val (.long q4), .second, .val (.int p5), .val (.long q6), .second, .val (.int rd), .val (.int ct), .val (.long ar), .second, .val (.int (0 : Int32)), .val (.int (1 : Int32)), .val (.int fn), .unset, .unset, .unset, .unset, .unset] [(.int (1 : Int32))])) (fun tt kt => ?_) ?_
                · show Steps p.tables e below (Tj43.setTop (mkF m 49 #[.val (.int p1), .val (.int p2), .val (.int p3), .val (.long q4), .second, .val (.int p5), .val (.long q6), .second, .val (.int rd), .val (.int ct), .val (.long ar), .second, .val (.int (0 : Int32)), .val (.int (1 : Int32)), .val (.int fn), .unset, .unset, .unset, .unset, .unset] [(.int (p5 &&& (4 : Int32)))])) _
                  refine XS.ifNo Xj43.here hx rfl (hb hby at_49) rfl ((if0 _ _).trans (feq hc49_76).1) ?_
                  refine XS.iconst Xj43.here hx rfl (hb hby at_52) ?_
                  refine XS.goto Xj43.here hx rfl (pc0 := 53) (pc' := 57) rfl (hb hby at_53) (by decide) (by decide) ?_
                  exact kt
                show own_End p e below s (Tj43.setTop (mkF m 57 #[.val (.int p1), .val (.int p2), .val (.int p3), .val (.long q4), .second, .val (.int p5), .val (.long q6), .second, .val (.int rd), .val (.int ct), .val (.long ar), .second, .val (.int (0 : Int32)), .val (.int (1 : Int32)), .val (.int fn), .unset, .unset, .unset, .unset, .unset] [(.int (1 : Int32))])) (Q0 Z p1 p2 p3 q4 p5 q6 h0 n0) room_1.cells room_1.slots
                exact j57 _ _ Xj43 ej43 Nj43 (1 : Int32)  (hj.trans (by simp only [own_law_43, if_neg hc49_76]))
            by_cases hc35_77 : (p5 &&& (2 : Int32)) = (0 : Int32)
            · refine own_pre (A := Tj25.setTop (mkF m 43 #[.val (.int p1), .val (.int p2), .val (.int p3), .val (.long q4), .second, .val (.int p5), .val (.long q6), .second, .val (.int rd), .val (.int ct), .val (.long ar), .second, .val (.int (0 : Int32)), .val (.int (1 : Int32)), .unset, .unset, .unset, .unset, .unset, .unset] [(.int (0 : Int32))])) (fun tt kt => ?_) ?_
              · show Steps p.tables e below (Tj25.setTop (mkF m 35 #[.val (.int p1), .val (.int p2), .val (.int p3), .val (.long q4), .second, .val (.int p5), .val (.long q6), .second, .val (.int rd), .val (.int ct), .val (.long ar), .second, .val (.int (0 : Int32)), .val (.int (1 : Int32)), .unset, .unset, .unset, .unset, .unset, .unset] [(.int (p5 &&& (2 : Int32)))])) _
                refine XS.ifYes Xj25.here hx rfl (pc0 := 35) (pc' := 42) rfl (hb hby at_35) rfl ((if0 _ _).trans (teq hc35_77).1) (by decide) (by decide) ?_
                refine XS.iconst Xj25.here hx rfl (hb hby at_42) ?_
                exact kt
              show own_End p e below s (Tj25.setTop (mkF m 43 #[.val (.int p1), .val (.int p2), .val (.int p3), .val (.long q4), .second, .val (.int p5), .val (.long q6), .second, .val (.int rd), .val (.int ct), .val (.long ar), .second, .val (.int (0 : Int32)), .val (.int (1 : Int32)), .unset, .unset, .unset, .unset, .unset, .unset] [(.int (0 : Int32))])) (Q0 Z p1 p2 p3 q4 p5 q6 h0 n0) room_1.cells room_1.slots
              exact j43 _ _ Xj25 ej25 Nj25 (0 : Int32)  (hj.trans (by simp only [own_law_25, if_pos hs1_0, if_pos hc35_77]))
            · refine own_pre (A := Tj25.setTop (mkF m 43 #[.val (.int p1), .val (.int p2), .val (.int p3), .val (.long q4), .second, .val (.int p5), .val (.long q6), .second, .val (.int rd), .val (.int ct), .val (.long ar), .second, .val (.int (0 : Int32)), .val (.int (1 : Int32)), .unset, .unset, .unset, .unset, .unset, .unset] [(.int (1 : Int32))])) (fun tt kt => ?_) ?_
              · show Steps p.tables e below (Tj25.setTop (mkF m 35 #[.val (.int p1), .val (.int p2), .val (.int p3), .val (.long q4), .second, .val (.int p5), .val (.long q6), .second, .val (.int rd), .val (.int ct), .val (.long ar), .second, .val (.int (0 : Int32)), .val (.int (1 : Int32)), .unset, .unset, .unset, .unset, .unset, .unset] [(.int (p5 &&& (2 : Int32)))])) _
                refine XS.ifNo Xj25.here hx rfl (hb hby at_35) rfl ((if0 _ _).trans (feq hc35_77).1) ?_
                refine XS.iconst Xj25.here hx rfl (hb hby at_38) ?_
                refine XS.goto Xj25.here hx rfl (pc0 := 39) (pc' := 43) rfl (hb hby at_39) (by decide) (by decide) ?_
                exact kt
              show own_End p e below s (Tj25.setTop (mkF m 43 #[.val (.int p1), .val (.int p2), .val (.int p3), .val (.long q4), .second, .val (.int p5), .val (.long q6), .second, .val (.int rd), .val (.int ct), .val (.long ar), .second, .val (.int (0 : Int32)), .val (.int (1 : Int32)), .unset, .unset, .unset, .unset, .unset, .unset] [(.int (1 : Int32))])) (Q0 Z p1 p2 p3 q4 p5 q6 h0 n0) room_1.cells room_1.slots
              exact j43 _ _ Xj25 ej25 Nj25 (1 : Int32)  (hj.trans (by simp only [own_law_25, if_pos hs1_0, if_neg hc35_77]))
          have hs1_1 : pos = (1 : Int32) := (hpos.resolve_left hs1_0)
          rw [hs1_1]
          refine own_pre (A := Tj25.setTop (mkF m 35 #[.val (.int p1), .val (.int p2), .val (.int p3), .val (.long q4), .second, .val (.int p5), .val (.long q6), .second, .val (.int rd), .val (.int ct), .val (.long ar), .second, .val (.int (1 : Int32)), .val (.int (0 : Int32)), .unset, .unset, .unset, .unset, .unset, .unset] [(.int (p5 &&& (2 : Int32)))])) (fun tt kt => ?_) ?_
          · show Steps p.tables e below (Tj25.setTop (mkF m 26 #[.val (.int p1), .val (.int p2), .val (.int p3), .val (.long q4), .second, .val (.int p5), .val (.long q6), .second, .val (.int rd), .val (.int ct), .val (.long ar), .second, .val (.int (1 : Int32)), .unset, .unset, .unset, .unset, .unset, .unset, .unset] [(.int (1 : Int32))])) _
            refine XS.iload Xj25.here hx rfl (hb hby at_26) rfl ?_
            refine XS.isub Xj25.here hx rfl (hb hby at_28) rfl ?_
            refine XS.istore Xj25.here hx rfl (hb hby at_29) rfl (l' := #[.val (.int p1), .val (.int p2), .val (.int p3), .val (.long q4), .second, .val (.int p5), .val (.long q6), .second, .val (.int rd), .val (.int ct), .val (.long ar), .second, .val (.int (1 : Int32)), .val (.int (0 : Int32)), .unset, .unset, .unset, .unset, .unset, .unset]) rfl ?_
            refine XS.iload Xj25.here hx rfl (hb hby at_31) rfl ?_
            refine XS.iconst Xj25.here hx rfl (hb hby at_33) ?_
            refine XS.iand Xj25.here hx rfl (hb hby at_34) rfl ?_
            exact kt
          show own_End p e below s (Tj25.setTop (mkF m 35 #[.val (.int p1), .val (.int p2), .val (.int p3), .val (.long q4), .second, .val (.int p5), .val (.long q6), .second, .val (.int rd), .val (.int ct), .val (.long ar), .second, .val (.int (1 : Int32)), .val (.int (0 : Int32)), .unset, .unset, .unset, .unset, .unset, .unset] [(.int (p5 &&& (2 : Int32)))])) (Q0 Z p1 p2 p3 q4 p5 q6 h0 n0) room_1.cells room_1.slots
          have j43 : ∀ (Tj43 : State) (Lj43 : List Loc) (Xj43 : Stand p l e room_1 s m #[(.int p1), (.int p2), (.int p3), (.long q4), (.int p5), (.long q6)] below meth c Tj43 Lj43 0 0) (ej43 : Tj43.heap = h0) (Nj43 : Fr n0 Lj43) (fn : Int32) , own_law p1 p2 p3 q4 p5 q6 = own_law_43b p1 p2 p3 q4 p5 q6 rd ct ar pos fn → own_End p e below s (Tj43.setTop (mkF m 43 #[.val (.int p1), .val (.int p2), .val (.int p3), .val (.long q4), .second, .val (.int p5), .val (.long q6), .second, .val (.int rd), .val (.int ct), .val (.long ar), .second, .val (.int (1 : Int32)), .val (.int (0 : Int32)), .unset, .unset, .unset, .unset, .unset, .unset] [(.int fn)])) (Q0 Z p1 p2 p3 q4 p5 q6 h0 n0) room_1.cells room_1.slots := by
            intro Tj43 Lj43 Xj43 ej43 Nj43 fn  hj
            refine own_pre (A := Tj43.setTop (mkF m 49 #[.val (.int p1), .val (.int p2), .val (.int p3), .val (.long q4), .second, .val (.int p5), .val (.long q6), .second, .val (.int rd), .val (.int ct), .val (.long ar), .second, .val (.int (1 : Int32)), .val (.int (0 : Int32)), .val (.int fn), .unset, .unset, .unset, .unset, .unset] [(.int (p5 &&& (4 : Int32)))])) (fun tt kt => ?_) ?_
            · show Steps p.tables e below (Tj43.setTop (mkF m 43 #[.val (.int p1), .val (.int p2), .val (.int p3), .val (.long q4), .second, .val (.int p5), .val (.long q6), .second, .val (.int rd), .val (.int ct), .val (.long ar), .second, .val (.int (1 : Int32)), .val (.int (0 : Int32)), .unset, .unset, .unset, .unset, .unset, .unset] [(.int fn)])) _
              refine XS.istore Xj43.here hx rfl (hb hby at_43) rfl (l' := #[.val (.int p1), .val (.int p2), .val (.int p3), .val (.long q4), .second, .val (.int p5), .val (.long q6), .second, .val (.int rd), .val (.int ct), .val (.long ar), .second, .val (.int (1 : Int32)), .val (.int (0 : Int32)), .val (.int fn), .unset, .unset, .unset, .unset, .unset]) rfl ?_
              refine XS.iload Xj43.here hx rfl (hb hby at_45) rfl ?_
              refine XS.iconst Xj43.here hx rfl (hb hby at_47) ?_
              refine XS.iand Xj43.here hx rfl (hb hby at_48) rfl ?_
              exact kt
            show own_End p e below s (Tj43.setTop (mkF m 49 #[.val (.int p1), .val (.int p2), .val (.int p3), .val (.long q4), .second, .val (.int p5), .val (.long q6), .second, .val (.int rd), .val (.int ct), .val (.long ar), .second, .val (.int (1 : Int32)), .val (.int (0 : Int32)), .val (.int fn), .unset, .unset, .unset, .unset, .unset] [(.int (p5 &&& (4 : Int32)))])) (Q0 Z p1 p2 p3 q4 p5 q6 h0 n0) room_1.cells room_1.slots
            have j57 : ∀ (Tj57 : State) (Lj57 : List Loc) (Xj57 : Stand p l e room_1 s m #[(.int p1), (.int p2), (.int p3), (.long q4), (.int p5), (.long q6)] below meth c Tj57 Lj57 0 0) (ej57 : Tj57.heap = h0) (Nj57 : Fr n0 Lj57) (fq : Int32) , own_law p1 p2 p3 q4 p5 q6 = own_law_57b p1 p2 p3 q4 p5 q6 rd ct ar pos fn fq → own_End p e below s (Tj57.setTop (mkF m 57 #[.val (.int p1), .val (.int p2), .val (.int p3), .val (.long q4), .second, .val (.int p5), .val (.long q6), .second, .val (.int rd), .val (.int ct), .val (.long ar), .second, .val (.int (1 : Int32)), .val (.int (0 : Int32)), .val (.int fn), .unset, .unset, .unset, .unset, .unset] [(.int fq)])) (Q0 Z p1 p2 p3 q4 p5 q6 h0 n0) room_1.cells room_1.slots := by
              intro Tj57 Lj57 Xj57 ej57 Nj57 fq  hj
              refine own_pre (A := Tj57.setTop (mkF m 64 #[.val (.int p1), .val (.int p2), .val (.int p3), .val (.long q4), .second, .val (.int p5), .val (.long q6), .second, .val (.int rd), .val (.int ct), .val (.long ar), .second, .val (.int (1 : Int32)), .val (.int (0 : Int32)), .val (.int fn), .val (.int fq), .unset, .unset, .unset, .unset] [(.int (p5 &&& (8 : Int32)))])) (fun tt kt => ?_) ?_
              · show Steps p.tables e below (Tj57.setTop (mkF m 57 #[.val (.int p1), .val (.int p2), .val (.int p3), .val (.long q4), .second, .val (.int p5), .val (.long q6), .second, .val (.int rd), .val (.int ct), .val (.long ar), .second, .val (.int (1 : Int32)), .val (.int (0 : Int32)), .val (.int fn), .unset, .unset, .unset, .unset, .unset] [(.int fq)])) _
                refine XS.istore Xj57.here hx rfl (hb hby at_57) rfl (l' := #[.val (.int p1), .val (.int p2), .val (.int p3), .val (.long q4), .second, .val (.int p5), .val (.long q6), .second, .val (.int rd), .val (.int ct), .val (.long ar), .second, .val (.int (1 : Int32)), .val (.int (0 : Int32)), .val (.int fn), .val (.int fq), .unset, .unset, .unset, .unset]) rfl ?_
                refine XS.iload Xj57.here hx rfl (hb hby at_59) rfl ?_
                refine XS.bipush Xj57.here hx rfl (hb hby at_61) ?_
                refine XS.iand Xj57.here hx rfl (hb hby at_63) rfl ?_
                exact kt
              show own_End p e below s (Tj57.setTop (mkF m 64 #[.val (.int p1), .val (.int p2), .val (.int p3), .val (.long q4), .second, .val (.int p5), .val (.long q6), .second, .val (.int rd), .val (.int ct), .val (.long ar), .second, .val (.int (1 : Int32)), .val (.int (0 : Int32)), .val (.int fn), .val (.int fq), .unset, .unset, .unset, .unset] [(.int (p5 &&& (8 : Int32)))])) (Q0 Z p1 p2 p3 q4 p5 q6 h0 n0) room_1.cells room_1.slots
              have j72 : ∀ (Tj72 : State) (Lj72 : List Loc) (Xj72 : Stand p l e room_1 s m #[(.int p1), (.int p2), (.int p3), (.long q4), (.int p5), (.long q6)] below meth c Tj72 Lj72 0 0) (ej72 : Tj72.heap = h0) (Nj72 : Fr n0 Lj72) (fr : Int32) , own_law p1 p2 p3 q4 p5 q6 = own_law_72b p1 p2 p3 q4 p5 q6 rd ct ar pos fn fq fr → own_End p e below s (Tj72.setTop (mkF m 72 #[.val (.int p1), .val (.int p2), .val (.int p3), .val (.long q4), .second, .val (.int p5), .val (.long q6), .second, .val (.int rd), .val (.int ct), .val (.long ar), .second, .val (.int (1 : Int32)), .val (.int (0 : Int32)), .val (.int fn), .val (.int fq), .unset, .unset, .unset, .unset] [(.int fr)])) (Q0 Z p1 p2 p3 q4 p5 q6 h0 n0) room_1.cells room_1.slots := by
                intro Tj72 Lj72 Xj72 ej72 Nj72 fr  hj
                refine own_pre (A := Tj72.setTop (mkF m 79 #[.val (.int p1), .val (.int p2), .val (.int p3), .val (.long q4), .second, .val (.int p5), .val (.long q6), .second, .val (.int rd), .val (.int ct), .val (.long ar), .second, .val (.int (1 : Int32)), .val (.int (0 : Int32)), .val (.int fn), .val (.int fq), .val (.int fr), .unset, .unset, .unset] [(.int (p5 &&& (16 : Int32)))])) (fun tt kt => ?_) ?_
                · show Steps p.tables e below (Tj72.setTop (mkF m 72 #[.val (.int p1), .val (.int p2), .val (.int p3), .val (.long q4), .second, .val (.int p5), .val (.long q6), .second, .val (.int rd), .val (.int ct), .val (.long ar), .second, .val (.int (1 : Int32)), .val (.int (0 : Int32)), .val (.int fn), .val (.int fq), .unset, .unset, .unset, .unset] [(.int fr)])) _
                  refine XS.istore Xj72.here hx rfl (hb hby at_72) rfl (l' := #[.val (.int p1), .val (.int p2), .val (.int p3), .val (.long q4), .second, .val (.int p5), .val (.long q6), .second, .val (.int rd), .val (.int ct), .val (.long ar), .second, .val (.int (1 : Int32)), .val (.int (0 : Int32)), .val (.int fn), .val (.int fq), .val (.int fr), .unset, .unset, .unset]) rfl ?_
                  refine XS.iload Xj72.here hx rfl (hb hby at_74) rfl ?_
                  refine XS.bipush Xj72.here hx rfl (hb hby at_76) ?_
                  refine XS.iand Xj72.here hx rfl (hb hby at_78) rfl ?_
                  exact kt
                show own_End p e below s (Tj72.setTop (mkF m 79 #[.val (.int p1), .val (.int p2), .val (.int p3), .val (.long q4), .second, .val (.int p5), .val (.long q6), .second, .val (.int rd), .val (.int ct), .val (.long ar), .second, .val (.int (1 : Int32)), .val (.int (0 : Int32)), .val (.int fn), .val (.int fq), .val (.int fr), .unset, .unset, .unset] [(.int (p5 &&& (16 : Int32)))])) (Q0 Z p1 p2 p3 q4 p5 q6 h0 n0) room_1.cells room_1.slots
                have j87 : ∀ (Tj87 : State) (Lj87 : List Loc) (Xj87 : Stand p l e room_1 s m #[(.int p1), (.int p2), (.int p3), (.long q4), (.int p5), (.long q6)] below meth c Tj87 Lj87 0 0) (ej87 : Tj87.heap = h0) (Nj87 : Fr n0 Lj87) (fs : Int32) , own_law p1 p2 p3 q4 p5 q6 = own_law_87b p1 p2 p3 q4 p5 q6 rd ct ar pos fn fq fr fs → own_End p e below s (Tj87.setTop (mkF m 87 #[.val (.int p1), .val (.int p2), .val (.int p3), .val (.long q4), .second, .val (.int p5), .val (.long q6), .second, .val (.int rd), .val (.int ct), .val (.long ar), .second, .val (.int (1 : Int32)), .val (.int (0 : Int32)), .val (.int fn), .val (.int fq), .val (.int fr), .unset, .unset, .unset] [(.int fs)])) (Q0 Z p1 p2 p3 q4 p5 q6 h0 n0) room_1.cells room_1.slots := by
                  intro Tj87 Lj87 Xj87 ej87 Nj87 fs  hj
                  obtain ⟨T78, h78, X78, e78, E78, A78, D78, -, st78⟩ := newO Xj87 hx hZ hown (hw _ (List.mem_of_getElem? (i := 2) rfl)) (hw _ (List.mem_of_getElem? (i := 3) rfl)) (hw _ (List.mem_of_getElem? (i := 4) rfl)) ej87 (g := (mkF m 89 #[.val (.int p1), .val (.int p2), .val (.int p3), .val (.long q4), .second, .val (.int p5), .val (.long q6), .second, .val (.int rd), .val (.int ct), .val (.long ar), .second, .val (.int (1 : Int32)), .val (.int (0 : Int32)), .val (.int fn), .val (.int fq), .val (.int fr), .val (.int fs), .unset, .unset] [])) rfl (hb hby at_89) (by decide) (by decide)
                  obtain ⟨b78, g78⟩ : ∃ z, z = h0.size := ⟨_, rfl⟩
                  rw [← g78] at A78 D78 st78
                  have g_b78 : n0 ≤ b78 := Nat.le_trans Z0 (Nat.le_of_eq g78.symm)
                  have sz_b78 : h0.size ≤ b78 := Nat.le_trans (show Keep h0 h0 [] from (Keep.refl h0 _)).1 (Nat.le_of_eq g78.symm)
                  have K78 : Keep h0 h78 [] := Keep.ext (Keep.refl h0 _) E78
                  have Z78 : n0 ≤ h78.size := Nat.le_trans Z0 E78.1
                  have F_ids_b78 : Fld Z h78 b78 "com/example/atoll/atoll/detect/HeldOrigins" "ids" "[I" .null := D78 (Or.inl (hw _ (List.mem_of_getElem? (i := 13) rfl))) (ty := (.array .int)) (by decide)
                  have F_newest_b78 : Fld Z h78 b78 "com/example/atoll/atoll/detect/HeldOrigins" "newest" "[J" .null := D78 (Or.inl (hw _ (List.mem_of_getElem? (i := 16) rfl))) (ty := (.array .long)) (by decide)
                  have F_state_b78 : Fld Z h78 b78 "com/example/atoll/atoll/detect/HeldOrigins" "state" "[J" .null := D78 (Or.inl (hw _ (List.mem_of_getElem? (i := 18) rfl))) (ty := (.array .long)) (by decide)
                  have F_mismatches_b78 : Fld Z h78 b78 "com/example/atoll/atoll/detect/HeldOrigins" "mismatches" "[B" .null := D78 (Or.inl (hw _ (List.mem_of_getElem? (i := 21) rfl))) (ty := (.array .byte)) (by decide)
                  have F_size_b78 : Fld Z h78 b78 "com/example/atoll/atoll/detect/HeldOrigins" "size" "I" (.int (0 : Int32)) := D78 (Or.inl (hw _ (List.mem_of_getElem? (i := 43) rfl))) (ty := .int) (by decide)
                  obtain ⟨_, _, ⟨T79, L79, k79, n79⟩, -, X79, ⟨Lc79, hQ79, l79, y79, z79⟩, st79⟩ := X78.specialBack hx (y := (⟨"com/example/atoll/atoll/detect/HeldOrigins", "<init>", "()V"⟩ : MethodName)) rfl hown (mvT hZ (hw _ (List.mem_of_getElem? (i := 5) rfl))) (mvT hZ (hw _ (List.mem_of_getElem? (i := 6) rfl))) (mvT hZ (hw _ (List.mem_of_getElem? (i := 7) rfl))) (by decide) (backOf (W := 1) (rm1 l Z a0 hw [] b78 (0 : Int32) h78 n0 Z78 ⟨A78, F_ids_b78, F_newest_b78, F_state_b78, F_mismatches_b78, F_size_b78⟩ g_b78) hZ (hw _ (List.mem_of_getElem? (i := 7) rfl)) (hw _ (List.mem_of_getElem? (i := 4) rfl)) (by decide) (by decide)) (g := (mkF m 93 #[.val (.int p1), .val (.int p2), .val (.int p3), .val (.long q4), .second, .val (.int p5), .val (.long q6), .second, .val (.int rd), .val (.int ct), .val (.long ar), .second, .val (.int (1 : Int32)), .val (.int (0 : Int32)), .val (.int fn), .val (.int fq), .val (.int fr), .val (.int fs), .unset, .unset] [(.ref b78), (.ref b78)])) rfl (by rw [hml]; rfl) (Steps.refl _) (a := b78) (argsL := []) (rest := [(.ref b78)]) (lenOf pd_0_0 rfl) rfl (by show 2 * 0 + _ ≤ _; exact Nat.le_of_eq rfl) (hb hby at_93) (fun _ _ => ⟨rfl, e78, (by decide : 1 + 4 ≤ _), (by decide : 5 + 64 ≤ _)⟩)
                  dsimp only [Pt.U, Pt.locs, Pt.cells, Pt.slots] at X79 l79 y79 z79 st79 hQ79
                  subst l79 y79 z79
                  obtain ⟨rfl, N79q, c79_xi, c79_xn, c79_xs, c79_xm, Kq79, O79_0, szq_c79_xi, P79_xi_0, szq_c79_xn, P79_xn_0, szq_c79_xs, P79_xs_0, szq_c79_xm, P79_xm_0, ne_c79_xi_c79_xn, ne_c79_xi_c79_xs, ne_c79_xi_c79_xm, ne_c79_xn_c79_xs, ne_c79_xn_c79_xm, ne_c79_xs_c79_xm⟩ := hQ79
                  have ne_b78_c79_xi : b78 ≠ c79_xi := Nat.ne_of_lt (Nat.lt_of_lt_of_le A78.lt szq_c79_xi)
                  have g_c79_xi : n0 ≤ c79_xi := Nat.le_trans Z78 szq_c79_xi
                  have sz_c79_xi : h0.size ≤ c79_xi := Nat.le_trans (show Keep h0 h78 [] from K78).1 szq_c79_xi
                  have ne_b78_c79_xn : b78 ≠ c79_xn := Nat.ne_of_lt (Nat.lt_of_lt_of_le A78.lt szq_c79_xn)
                  have g_c79_xn : n0 ≤ c79_xn := Nat.le_trans Z78 szq_c79_xn
                  have sz_c79_xn : h0.size ≤ c79_xn := Nat.le_trans (show Keep h0 h78 [] from K78).1 szq_c79_xn
                  have ne_b78_c79_xs : b78 ≠ c79_xs := Nat.ne_of_lt (Nat.lt_of_lt_of_le A78.lt szq_c79_xs)
                  have g_c79_xs : n0 ≤ c79_xs := Nat.le_trans Z78 szq_c79_xs
                  have sz_c79_xs : h0.size ≤ c79_xs := Nat.le_trans (show Keep h0 h78 [] from K78).1 szq_c79_xs
                  have ne_b78_c79_xm : b78 ≠ c79_xm := Nat.ne_of_lt (Nat.lt_of_lt_of_le A78.lt szq_c79_xm)
                  have g_c79_xm : n0 ≤ c79_xm := Nat.le_trans Z78 szq_c79_xm
                  have sz_c79_xm : h0.size ≤ c79_xm := Nat.le_trans (show Keep h0 h78 [] from K78).1 szq_c79_xm
                  have N79 := Fr.app Nj87 N79q
                  have fE_b78_x79 := (A78.keep Kq79)
                  have K79 : Keep h0 T79.heap [] := Keep.trans K78 Kq79 (allS (Or.inr sz_b78) all0)
                  have Z79 : n0 ≤ T79.heap.size := Nat.le_trans Z78 Kq79.1
                  obtain ⟨E_b78_80, F_ids_b78_81, F_newest_b78_82, F_state_b78_83, F_mismatches_b78_84, F_size_b78_85⟩ := O79_0
                  obtain ⟨T86, h86, X86, e86, E86, A86, D86, -, st86⟩ := newO X79 hx hZ hown (hw _ (List.mem_of_getElem? (i := 22) rfl)) (hw _ (List.mem_of_getElem? (i := 23) rfl)) (hw _ (List.mem_of_getElem? (i := 24) rfl)) rfl (g := (mkF m 98 #[.val (.int p1), .val (.int p2), .val (.int p3), .val (.long q4), .second, .val (.int p5), .val (.long q6), .second, .val (.int rd), .val (.int ct), .val (.long ar), .second, .val (.int (1 : Int32)), .val (.int (0 : Int32)), .val (.int fn), .val (.int fq), .val (.int fr), .val (.int fs), .val (.ref b78), .unset] [])) rfl (hb hby at_98) (by decide) (by decide)
                  obtain ⟨b86, g86⟩ : ∃ z, z = T79.heap.size := ⟨_, rfl⟩
                  rw [← g86] at A86 D86 st86
                  have ne_c79_xm_b86 : c79_xm ≠ b86 := Nat.ne_of_lt (Nat.lt_of_lt_of_le P79_xm_0.lt (Nat.le_of_eq g86.symm))
                  have ne_c79_xn_b86 : c79_xn ≠ b86 := Nat.ne_of_lt (Nat.lt_of_lt_of_le P79_xn_0.lt (Nat.le_of_eq g86.symm))
                  have ne_c79_xi_b86 : c79_xi ≠ b86 := Nat.ne_of_lt (Nat.lt_of_lt_of_le P79_xi_0.lt (Nat.le_of_eq g86.symm))
                  have ne_b78_b86 : b78 ≠ b86 := Nat.ne_of_lt (Nat.lt_of_lt_of_le E_b78_80.lt (Nat.le_of_eq g86.symm))
                  have ne_c79_xs_b86 : c79_xs ≠ b86 := Nat.ne_of_lt (Nat.lt_of_lt_of_le P79_xs_0.lt (Nat.le_of_eq g86.symm))
                  have g_b86 : n0 ≤ b86 := Nat.le_trans Z79 (Nat.le_of_eq g86.symm)
                  have sz_b86 : h0.size ≤ b86 := Nat.le_trans (show Keep h0 T79.heap [] from K79).1 (Nat.le_of_eq g86.symm)
                  have fE_b78_x86 := (E_b78_80.ext E86)
                  have fA_c79_xi_x86 := (P79_xi_0.ext E86)
                  have fA_c79_xn_x86 := (P79_xn_0.ext E86)
                  have fA_c79_xs_x86 := (P79_xs_0.ext E86)
                  have fA_c79_xm_x86 := (P79_xm_0.ext E86)
                  have fF_b78_ids_x86 := (F_ids_b78_81.ext E86)
                  have fF_b78_newest_x86 := (F_newest_b78_82.ext E86)
                  have fF_b78_state_x86 := (F_state_b78_83.ext E86)
                  have fF_b78_mismatches_x86 := (F_mismatches_b78_84.ext E86)
                  have fF_b78_size_x86 := (F_size_b78_85.ext E86)
                  have K86 : Keep h0 h86 [] := Keep.ext K79 E86
                  have Z86 : n0 ≤ h86.size := Nat.le_trans Z79 E86.1
                  have F_ids_b86 : Fld Z h86 b86 "com/example/atoll/atoll/detect/Beacon$Builder" "ids" "[I" .null := D86 (Or.inr (hw _ (List.mem_of_getElem? (i := 30) rfl))) (ty := (.array .int)) (by decide)
                  have F_incarnations_b86 : Fld Z h86 b86 "com/example/atoll/atoll/detect/Beacon$Builder" "incarnations" "[I" .null := D86 (Or.inr (hw _ (List.mem_of_getElem? (i := 32) rfl))) (ty := (.array .int)) (by decide)
                  have F_rounds_b86 : Fld Z h86 b86 "com/example/atoll/atoll/detect/Beacon$Builder" "rounds" "[I" .null := D86 (Or.inr (hw _ (List.mem_of_getElem? (i := 34) rfl))) (ty := (.array .int)) (by decide)
                  have F_heard_b86 : Fld Z h86 b86 "com/example/atoll/atoll/detect/Beacon$Builder" "heard" "[I" .null := D86 (Or.inr (hw _ (List.mem_of_getElem? (i := 36) rfl))) (ty := (.array .int)) (by decide)
                  have F_count_b86 : Fld Z h86 b86 "com/example/atoll/atoll/detect/Beacon$Builder" "count" "I" (.int (0 : Int32)) := D86 (Or.inl (hw _ (List.mem_of_getElem? (i := 149) rfl))) (ty := .int) (by decide)
                  obtain ⟨_, _, ⟨T87, L87, k87, n87⟩, -, X87, ⟨Lc87, hQ87, l87, y87, z87⟩, st87⟩ := X86.specialBack hx (y := (⟨"com/example/atoll/atoll/detect/Beacon$Builder", "<init>", "(I)V"⟩ : MethodName)) rfl hown (mvT hZ (hw _ (List.mem_of_getElem? (i := 25) rfl))) (mvT hZ (hw _ (List.mem_of_getElem? (i := 26) rfl))) (mvT hZ (hw _ (List.mem_of_getElem? (i := 27) rfl))) (by decide) (backOf (W := 1) (rm3 l Z a0 hw [] b86 (0 : Int32) h86 n0 Z86 ⟨A86, F_ids_b86, F_incarnations_b86, F_rounds_b86, F_heard_b86, F_count_b86⟩ g_b86) hZ (hw _ (List.mem_of_getElem? (i := 27) rfl)) (hw _ (List.mem_of_getElem? (i := 24) rfl)) (by decide) (by decide)) (g := (mkF m 103 #[.val (.int p1), .val (.int p2), .val (.int p3), .val (.long q4), .second, .val (.int p5), .val (.long q6), .second, .val (.int rd), .val (.int ct), .val (.long ar), .second, .val (.int (1 : Int32)), .val (.int (0 : Int32)), .val (.int fn), .val (.int fq), .val (.int fr), .val (.int fs), .val (.ref b78), .unset] [(.int (2 : Int32)), (.ref b86), (.ref b86)])) rfl (by rw [hml]; rfl) (Steps.refl _) (a := b86) (argsL := [(.int (2 : Int32))]) (rest := [(.ref b86)]) (lenOf pd_0_1 rfl) rfl (by show 2 * 0 + _ ≤ _; exact Nat.le_of_eq rfl) (hb hby at_103) (fun _ _ => ⟨rfl, e86, (by decide : 6 + 4 ≤ _), (by decide : 74 + 8 ≤ _)⟩)
                  dsimp only [Pt.U, Pt.locs, Pt.cells, Pt.slots] at X87 l87 y87 z87 st87 hQ87
                  subst l87 y87 z87
                  obtain ⟨rfl, N87q, c87_xi, c87_xn, c87_xr, c87_xh, Kq87, O87_0, szq_c87_xi, P87_xi_0, szq_c87_xn, P87_xn_0, szq_c87_xr, P87_xr_0, szq_c87_xh, P87_xh_0, ne_c87_xi_c87_xn, ne_c87_xi_c87_xr, ne_c87_xi_c87_xh, ne_c87_xn_c87_xr, ne_c87_xn_c87_xh, ne_c87_xr_c87_xh⟩ := hQ87
                  have ne_b78_c87_xi : b78 ≠ c87_xi := Nat.ne_of_lt (Nat.lt_of_lt_of_le fE_b78_x86.lt szq_c87_xi)
                  have ne_b86_c87_xi : b86 ≠ c87_xi := Nat.ne_of_lt (Nat.lt_of_lt_of_le A86.lt szq_c87_xi)
                  have ne_c79_xi_c87_xi : c79_xi ≠ c87_xi := Nat.ne_of_lt (Nat.lt_of_lt_of_le fA_c79_xi_x86.lt szq_c87_xi)
                  have ne_c79_xm_c87_xi : c79_xm ≠ c87_xi := Nat.ne_of_lt (Nat.lt_of_lt_of_le fA_c79_xm_x86.lt szq_c87_xi)
                  have ne_c79_xn_c87_xi : c79_xn ≠ c87_xi := Nat.ne_of_lt (Nat.lt_of_lt_of_le fA_c79_xn_x86.lt szq_c87_xi)
                  have ne_c79_xs_c87_xi : c79_xs ≠ c87_xi := Nat.ne_of_lt (Nat.lt_of_lt_of_le fA_c79_xs_x86.lt szq_c87_xi)
                  have g_c87_xi : n0 ≤ c87_xi := Nat.le_trans Z86 szq_c87_xi
                  have sz_c87_xi : h0.size ≤ c87_xi := Nat.le_trans (show Keep h0 h86 [] from K86).1 szq_c87_xi
                  have ne_b78_c87_xn : b78 ≠ c87_xn := Nat.ne_of_lt (Nat.lt_of_lt_of_le fE_b78_x86.lt szq_c87_xn)
                  have ne_b86_c87_xn : b86 ≠ c87_xn := Nat.ne_of_lt (Nat.lt_of_lt_of_le A86.lt szq_c87_xn)
                  have ne_c79_xi_c87_xn : c79_xi ≠ c87_xn := Nat.ne_of_lt (Nat.lt_of_lt_of_le fA_c79_xi_x86.lt szq_c87_xn)
                  have ne_c79_xm_c87_xn : c79_xm ≠ c87_xn := Nat.ne_of_lt (Nat.lt_of_lt_of_le fA_c79_xm_x86.lt szq_c87_xn)
                  have ne_c79_xn_c87_xn : c79_xn ≠ c87_xn := Nat.ne_of_lt (Nat.lt_of_lt_of_le fA_c79_xn_x86.lt szq_c87_xn)
                  have ne_c79_xs_c87_xn : c79_xs ≠ c87_xn := Nat.ne_of_lt (Nat.lt_of_lt_of_le fA_c79_xs_x86.lt szq_c87_xn)
                  have g_c87_xn : n0 ≤ c87_xn := Nat.le_trans Z86 szq_c87_xn
                  have sz_c87_xn : h0.size ≤ c87_xn := Nat.le_trans (show Keep h0 h86 [] from K86).1 szq_c87_xn
                  have ne_b78_c87_xr : b78 ≠ c87_xr := Nat.ne_of_lt (Nat.lt_of_lt_of_le fE_b78_x86.lt szq_c87_xr)
                  have ne_b86_c87_xr : b86 ≠ c87_xr := Nat.ne_of_lt (Nat.lt_of_lt_of_le A86.lt szq_c87_xr)
                  have ne_c79_xi_c87_xr : c79_xi ≠ c87_xr := Nat.ne_of_lt (Nat.lt_of_lt_of_le fA_c79_xi_x86.lt szq_c87_xr)
                  have ne_c79_xm_c87_xr : c79_xm ≠ c87_xr := Nat.ne_of_lt (Nat.lt_of_lt_of_le fA_c79_xm_x86.lt szq_c87_xr)
                  have ne_c79_xn_c87_xr : c79_xn ≠ c87_xr := Nat.ne_of_lt (Nat.lt_of_lt_of_le fA_c79_xn_x86.lt szq_c87_xr)
                  have ne_c79_xs_c87_xr : c79_xs ≠ c87_xr := Nat.ne_of_lt (Nat.lt_of_lt_of_le fA_c79_xs_x86.lt szq_c87_xr)
                  have g_c87_xr : n0 ≤ c87_xr := Nat.le_trans Z86 szq_c87_xr
                  have sz_c87_xr : h0.size ≤ c87_xr := Nat.le_trans (show Keep h0 h86 [] from K86).1 szq_c87_xr
                  have ne_b78_c87_xh : b78 ≠ c87_xh := Nat.ne_of_lt (Nat.lt_of_lt_of_le fE_b78_x86.lt szq_c87_xh)
                  have ne_b86_c87_xh : b86 ≠ c87_xh := Nat.ne_of_lt (Nat.lt_of_lt_of_le A86.lt szq_c87_xh)
                  have ne_c79_xi_c87_xh : c79_xi ≠ c87_xh := Nat.ne_of_lt (Nat.lt_of_lt_of_le fA_c79_xi_x86.lt szq_c87_xh)
                  have ne_c79_xm_c87_xh : c79_xm ≠ c87_xh := Nat.ne_of_lt (Nat.lt_of_lt_of_le fA_c79_xm_x86.lt szq_c87_xh)
                  have ne_c79_xn_c87_xh : c79_xn ≠ c87_xh := Nat.ne_of_lt (Nat.lt_of_lt_of_le fA_c79_xn_x86.lt szq_c87_xh)
                  have ne_c79_xs_c87_xh : c79_xs ≠ c87_xh := Nat.ne_of_lt (Nat.lt_of_lt_of_le fA_c79_xs_x86.lt szq_c87_xh)
                  have g_c87_xh : n0 ≤ c87_xh := Nat.le_trans Z86 szq_c87_xh
                  have sz_c87_xh : h0.size ≤ c87_xh := Nat.le_trans (show Keep h0 h86 [] from K86).1 szq_c87_xh
                  have N87 := Fr.app N79 N87q
                  have fE_b78_x87 := (fE_b78_x86.keep Kq87)
                  have fA_c79_xi_x87 := (fA_c79_xi_x86.keep Kq87 (ninS ne_c79_xi_b86 nin0))
                  have fA_c79_xn_x87 := (fA_c79_xn_x86.keep Kq87 (ninS ne_c79_xn_b86 nin0))
                  have fA_c79_xs_x87 := (fA_c79_xs_x86.keep Kq87 (ninS ne_c79_xs_b86 nin0))
                  have fA_c79_xm_x87 := (fA_c79_xm_x86.keep Kq87 (ninS ne_c79_xm_b86 nin0))
                  have fF_b78_ids_x87 := (fF_b78_ids_x86.keep Kq87 (ninS ne_b78_b86 nin0))
                  have fF_b78_newest_x87 := (fF_b78_newest_x86.keep Kq87 (ninS ne_b78_b86 nin0))
                  have fF_b78_state_x87 := (fF_b78_state_x86.keep Kq87 (ninS ne_b78_b86 nin0))
                  have fF_b78_mismatches_x87 := (fF_b78_mismatches_x86.keep Kq87 (ninS ne_b78_b86 nin0))
                  have fF_b78_size_x87 := (fF_b78_size_x86.keep Kq87 (ninS ne_b78_b86 nin0))
                  have fE_b86_x87 := (A86.keep Kq87)
                  have K87 : Keep h0 T87.heap [] := Keep.trans K86 Kq87 (allS (Or.inr sz_b86) all0)
                  have Z87 : n0 ≤ T87.heap.size := Nat.le_trans Z86 Kq87.1
                  obtain ⟨E_b86_88, F_ids_b86_89, F_incarnations_b86_90, F_rounds_b86_91, F_heard_b86_92, F_count_b86_93⟩ := O87_0
                  obtain ⟨cq94, kq94, q94a, q94b, q94c⟩ := isOf hZ rfl fE_b78_x87
                  obtain ⟨_, _, ⟨T94, L94, k94, n94⟩, -, X94, ⟨Lc94, hQ94, l94, y94, z94⟩, st94⟩ := X87.virtualBack hx (y := (⟨"com/example/atoll/atoll/detect/HeldOrigins", "add", "(II)V"⟩ : MethodName)) (z := (⟨"com/example/atoll/atoll/detect/HeldOrigins", "add", "(II)V"⟩ : MethodName)) hown (mvT hZ (hw _ (List.mem_of_getElem? (i := 37) rfl))) (mvT hZ (hw _ (List.mem_of_getElem? (i := 38) rfl))) (notFace_of_selects (args := #[]) (mvT hZ (hw _ (List.mem_of_getElem? (i := 40) rfl)))) (mvT hZ (hw _ (List.mem_of_getElem? (i := 40) rfl))) (mvT hZ (hw _ (List.mem_of_getElem? (i := 39) rfl))) (by decide) (backOf (W := 0) (rm4k0 l Z a0 hw [] b78 (5 : Int32) c79_xi c79_xn c79_xs c79_xm (fun _ => (0 : Int32)) (fun _ => (0 : Int64)) (fun _ => (0 : Int64)) (fun _ => (0 : Int32)) T87.heap n0 Z87 ⟨fE_b78_x87, fF_b78_ids_x87, fF_b78_newest_x87, fF_b78_state_x87, fF_b78_mismatches_x87, fF_b78_size_x87⟩ fA_c79_xi_x87 fA_c79_xn_x87 fA_c79_xs_x87 fA_c79_xm_x87 ne_b78_c79_xi ne_b78_c79_xn ne_b78_c79_xs ne_b78_c79_xm ne_c79_xi_c79_xn ne_c79_xi_c79_xs ne_c79_xi_c79_xm ne_c79_xn_c79_xs ne_c79_xn_c79_xm ne_c79_xs_c79_xm g_b78 g_c79_xi g_c79_xn g_c79_xs g_c79_xm (fun _ => rfl)) hZ (hw _ (List.mem_of_getElem? (i := 41) rfl)) (hw _ (List.mem_of_getElem? (i := 4) rfl)) (by decide) (by decide)) q94a q94c (g := (mkF m 112 #[.val (.int p1), .val (.int p2), .val (.int p3), .val (.long q4), .second, .val (.int p5), .val (.long q6), .second, .val (.int rd), .val (.int ct), .val (.long ar), .second, .val (.int (1 : Int32)), .val (.int (0 : Int32)), .val (.int fn), .val (.int fq), .val (.int fr), .val (.int fs), .val (.ref b78), .val (.ref b86)] [(.int (5 : Int32)), (.int (0 : Int32)), (.ref b78)])) rfl (by rw [hml]; rfl) (Steps.refl _) (argsL := [(.int (0 : Int32)), (.int (5 : Int32))]) (rest := []) (lenOf pd_0_2 rfl) rfl (by show 2 * 0 + _ ≤ _; exact Nat.le_of_eq rfl) (hb hby at_112) (fun _ _ => ⟨rfl, rfl, (by decide : 10 + 0 ≤ _), (by decide : 82 + 0 ≤ _)⟩)
                  dsimp only [Pt.U, Pt.locs, Pt.cells, Pt.slots] at X94 l94 y94 z94 st94 hQ94
                  subst l94 y94 z94
                  obtain ⟨rfl, N94q, Kq94, O94_0, V94_0, V94_1, V94_2, V94_3⟩ := hQ94
                  have N94 := Fr.app N87 N94q
                  have fE_b78_x94 := (fE_b78_x87.keep Kq94)
                  have fE_b86_x94 := (E_b86_88.keep Kq94)
                  have fA_c87_xi_x94 := (P87_xi_0.keep Kq94 (ninS (Ne.symm ne_b78_c87_xi) (ninS (Ne.symm ne_c79_xi_c87_xi) (ninS (Ne.symm ne_c79_xn_c87_xi) (ninS (Ne.symm ne_c79_xs_c87_xi) (ninS (Ne.symm ne_c79_xm_c87_xi) nin0))))))
                  have fA_c87_xn_x94 := (P87_xn_0.keep Kq94 (ninS (Ne.symm ne_b78_c87_xn) (ninS (Ne.symm ne_c79_xi_c87_xn) (ninS (Ne.symm ne_c79_xn_c87_xn) (ninS (Ne.symm ne_c79_xs_c87_xn) (ninS (Ne.symm ne_c79_xm_c87_xn) nin0))))))
                  have fA_c87_xr_x94 := (P87_xr_0.keep Kq94 (ninS (Ne.symm ne_b78_c87_xr) (ninS (Ne.symm ne_c79_xi_c87_xr) (ninS (Ne.symm ne_c79_xn_c87_xr) (ninS (Ne.symm ne_c79_xs_c87_xr) (ninS (Ne.symm ne_c79_xm_c87_xr) nin0))))))
                  have fA_c87_xh_x94 := (P87_xh_0.keep Kq94 (ninS (Ne.symm ne_b78_c87_xh) (ninS (Ne.symm ne_c79_xi_c87_xh) (ninS (Ne.symm ne_c79_xn_c87_xh) (ninS (Ne.symm ne_c79_xs_c87_xh) (ninS (Ne.symm ne_c79_xm_c87_xh) nin0))))))
                  have fF_b86_ids_x94 := (F_ids_b86_89.keep Kq94 (ninS (Ne.symm ne_b78_b86) (ninS (Ne.symm ne_c79_xi_b86) (ninS (Ne.symm ne_c79_xn_b86) (ninS (Ne.symm ne_c79_xs_b86) (ninS (Ne.symm ne_c79_xm_b86) nin0))))))
                  have fF_b86_incarnations_x94 := (F_incarnations_b86_90.keep Kq94 (ninS (Ne.symm ne_b78_b86) (ninS (Ne.symm ne_c79_xi_b86) (ninS (Ne.symm ne_c79_xn_b86) (ninS (Ne.symm ne_c79_xs_b86) (ninS (Ne.symm ne_c79_xm_b86) nin0))))))
                  have fF_b86_rounds_x94 := (F_rounds_b86_91.keep Kq94 (ninS (Ne.symm ne_b78_b86) (ninS (Ne.symm ne_c79_xi_b86) (ninS (Ne.symm ne_c79_xn_b86) (ninS (Ne.symm ne_c79_xs_b86) (ninS (Ne.symm ne_c79_xm_b86) nin0))))))
                  have fF_b86_heard_x94 := (F_heard_b86_92.keep Kq94 (ninS (Ne.symm ne_b78_b86) (ninS (Ne.symm ne_c79_xi_b86) (ninS (Ne.symm ne_c79_xn_b86) (ninS (Ne.symm ne_c79_xs_b86) (ninS (Ne.symm ne_c79_xm_b86) nin0))))))
                  have fF_b86_count_x94 := (F_count_b86_93.keep Kq94 (ninS (Ne.symm ne_b78_b86) (ninS (Ne.symm ne_c79_xi_b86) (ninS (Ne.symm ne_c79_xn_b86) (ninS (Ne.symm ne_c79_xs_b86) (ninS (Ne.symm ne_c79_xm_b86) nin0))))))
                  have K94 : Keep h0 T94.heap [] := Keep.trans K87 Kq94 (allS (Or.inr sz_b78) (allS (Or.inr sz_c79_xi) (allS (Or.inr sz_c79_xn) (allS (Or.inr sz_c79_xs) (allS (Or.inr sz_c79_xm) all0)))))
                  have Z94 : n0 ≤ T94.heap.size := Nat.le_trans Z87 Kq94.1
                  obtain ⟨E_b78_95, F_ids_b78_96, F_newest_b78_97, F_state_b78_98, F_mismatches_b78_99, F_size_b78_100⟩ := O94_0
                  obtain ⟨cq101, kq101, q101a, q101b, q101c⟩ := isOf hZ rfl E_b78_95
                  obtain ⟨_, _, ⟨T101, L101, k101, n101⟩, -, X101, ⟨Lc101, hQ101, l101, y101, z101⟩, st101⟩ := X94.virtualBack hx (y := (⟨"com/example/atoll/atoll/detect/HeldOrigins", "add", "(II)V"⟩ : MethodName)) (z := (⟨"com/example/atoll/atoll/detect/HeldOrigins", "add", "(II)V"⟩ : MethodName)) hown (mvT hZ (hw _ (List.mem_of_getElem? (i := 37) rfl))) (mvT hZ (hw _ (List.mem_of_getElem? (i := 38) rfl))) (notFace_of_selects (args := #[]) (mvT hZ (hw _ (List.mem_of_getElem? (i := 40) rfl)))) (mvT hZ (hw _ (List.mem_of_getElem? (i := 40) rfl))) (mvT hZ (hw _ (List.mem_of_getElem? (i := 39) rfl))) (by decide) (backOf (W := 0) (rm4k1 l Z a0 hw [] b78 (9 : Int32) c79_xi c79_xn c79_xs c79_xm (own_put (fun _ => (0 : Int32)) (0 : Int32) (5 : Int32)) (own_putJ (fun _ => (0 : Int64)) (0 : Int32) (0 : Int64)) (own_putJ (fun _ => (0 : Int64)) (0 : Int32) (0 : Int64)) (own_put (fun _ => (0 : Int32)) (0 : Int32) (0 : Int32)) T94.heap n0 Z94 ⟨E_b78_95, F_ids_b78_96, F_newest_b78_97, F_state_b78_98, F_mismatches_b78_99, F_size_b78_100⟩ V94_0 V94_1 V94_2 V94_3 ne_b78_c79_xi ne_b78_c79_xn ne_b78_c79_xs ne_b78_c79_xm ne_c79_xi_c79_xn ne_c79_xi_c79_xs ne_c79_xi_c79_xm ne_c79_xn_c79_xs ne_c79_xn_c79_xm ne_c79_xs_c79_xm g_b78 g_c79_xi g_c79_xn g_c79_xs g_c79_xm (own_fitb _ (fun _ => rfl))) hZ (hw _ (List.mem_of_getElem? (i := 41) rfl)) (hw _ (List.mem_of_getElem? (i := 4) rfl)) (by decide) (by decide)) q101a q101c (g := (mkF m 120 #[.val (.int p1), .val (.int p2), .val (.int p3), .val (.long q4), .second, .val (.int p5), .val (.long q6), .second, .val (.int rd), .val (.int ct), .val (.long ar), .second, .val (.int (1 : Int32)), .val (.int (0 : Int32)), .val (.int fn), .val (.int fq), .val (.int fr), .val (.int fs), .val (.ref b78), .val (.ref b86)] [(.int (9 : Int32)), (.int (1 : Int32)), (.ref b78)])) rfl (by rw [hml]; rfl) (Steps.refl _) (argsL := [(.int (1 : Int32)), (.int (9 : Int32))]) (rest := []) (lenOf pd_0_2 rfl) rfl (by show 2 * 0 + _ ≤ _; exact Nat.le_of_eq rfl) (hb hby at_120) (fun _ _ => ⟨rfl, rfl, (by decide : 10 + 0 ≤ _), (by decide : 82 + 0 ≤ _)⟩)
                  dsimp only [Pt.U, Pt.locs, Pt.cells, Pt.slots] at X101 l101 y101 z101 st101 hQ101
                  subst l101 y101 z101
                  obtain ⟨rfl, N101q, Kq101, O101_0, V101_0, V101_1, V101_2, V101_3⟩ := hQ101
                  have N101 := Fr.app N94 N101q
                  have fE_b78_x101 := (E_b78_95.keep Kq101)
                  have fE_b86_x101 := (fE_b86_x94.keep Kq101)
                  have fA_c87_xi_x101 := (fA_c87_xi_x94.keep Kq101 (ninS (Ne.symm ne_b78_c87_xi) (ninS (Ne.symm ne_c79_xi_c87_xi) (ninS (Ne.symm ne_c79_xn_c87_xi) (ninS (Ne.symm ne_c79_xs_c87_xi) (ninS (Ne.symm ne_c79_xm_c87_xi) nin0))))))
                  have fA_c87_xn_x101 := (fA_c87_xn_x94.keep Kq101 (ninS (Ne.symm ne_b78_c87_xn) (ninS (Ne.symm ne_c79_xi_c87_xn) (ninS (Ne.symm ne_c79_xn_c87_xn) (ninS (Ne.symm ne_c79_xs_c87_xn) (ninS (Ne.symm ne_c79_xm_c87_xn) nin0))))))
                  have fA_c87_xr_x101 := (fA_c87_xr_x94.keep Kq101 (ninS (Ne.symm ne_b78_c87_xr) (ninS (Ne.symm ne_c79_xi_c87_xr) (ninS (Ne.symm ne_c79_xn_c87_xr) (ninS (Ne.symm ne_c79_xs_c87_xr) (ninS (Ne.symm ne_c79_xm_c87_xr) nin0))))))
                  have fA_c87_xh_x101 := (fA_c87_xh_x94.keep Kq101 (ninS (Ne.symm ne_b78_c87_xh) (ninS (Ne.symm ne_c79_xi_c87_xh) (ninS (Ne.symm ne_c79_xn_c87_xh) (ninS (Ne.symm ne_c79_xs_c87_xh) (ninS (Ne.symm ne_c79_xm_c87_xh) nin0))))))
                  have fF_b86_ids_x101 := (fF_b86_ids_x94.keep Kq101 (ninS (Ne.symm ne_b78_b86) (ninS (Ne.symm ne_c79_xi_b86) (ninS (Ne.symm ne_c79_xn_b86) (ninS (Ne.symm ne_c79_xs_b86) (ninS (Ne.symm ne_c79_xm_b86) nin0))))))
                  have fF_b86_incarnations_x101 := (fF_b86_incarnations_x94.keep Kq101 (ninS (Ne.symm ne_b78_b86) (ninS (Ne.symm ne_c79_xi_b86) (ninS (Ne.symm ne_c79_xn_b86) (ninS (Ne.symm ne_c79_xs_b86) (ninS (Ne.symm ne_c79_xm_b86) nin0))))))
                  have fF_b86_rounds_x101 := (fF_b86_rounds_x94.keep Kq101 (ninS (Ne.symm ne_b78_b86) (ninS (Ne.symm ne_c79_xi_b86) (ninS (Ne.symm ne_c79_xn_b86) (ninS (Ne.symm ne_c79_xs_b86) (ninS (Ne.symm ne_c79_xm_b86) nin0))))))
                  have fF_b86_heard_x101 := (fF_b86_heard_x94.keep Kq101 (ninS (Ne.symm ne_b78_b86) (ninS (Ne.symm ne_c79_xi_b86) (ninS (Ne.symm ne_c79_xn_b86) (ninS (Ne.symm ne_c79_xs_b86) (ninS (Ne.symm ne_c79_xm_b86) nin0))))))
                  have fF_b86_count_x101 := (fF_b86_count_x94.keep Kq101 (ninS (Ne.symm ne_b78_b86) (ninS (Ne.symm ne_c79_xi_b86) (ninS (Ne.symm ne_c79_xn_b86) (ninS (Ne.symm ne_c79_xs_b86) (ninS (Ne.symm ne_c79_xm_b86) nin0))))))
                  have K101 : Keep h0 T101.heap [] := Keep.trans K94 Kq101 (allS (Or.inr sz_b78) (allS (Or.inr sz_c79_xi) (allS (Or.inr sz_c79_xn) (allS (Or.inr sz_c79_xs) (allS (Or.inr sz_c79_xm) all0)))))
                  have Z101 : n0 ≤ T101.heap.size := Nat.le_trans Z94 Kq101.1
                  obtain ⟨E_b78_102, F_ids_b78_103, F_newest_b78_104, F_state_b78_105, F_mismatches_b78_106, F_size_b78_107⟩ := O101_0
                  have V101_0a : own_Arr Z T101.heap c79_xi .int (16 : Int32) (fun i => Value.int ((own_b0_g108 p1 p2 p3 q4 p5 q6 rd ct ar pos fn fq fr fs) i)) := V101_0
                  have V101_1a : own_Arr Z T101.heap c79_xn .long (16 : Int32) (fun i => Value.long ((own_b0_g109 p1 p2 p3 q4 p5 q6 rd ct ar pos fn fq fr fs) i)) := V101_1
                  have V101_2a : own_Arr Z T101.heap c79_xs .long (16 : Int32) (fun i => Value.long ((own_b0_g110 p1 p2 p3 q4 p5 q6 rd ct ar pos fn fq fr fs) i)) := V101_2
                  have V101_3a : own_Arr Z T101.heap c79_xm .byte (16 : Int32) (fun i => Value.int ((own_b0_g111 p1 p2 p3 q4 p5 q6 rd ct ar pos fn fq fr fs) i)) := V101_3
                  obtain ⟨cq112, kq112, q112a, q112b, q112c⟩ := isOf hZ rfl E_b78_102
                  obtain ⟨_, _, ⟨T112, L112, k112, n112⟩, -, X112, ⟨Lc112, hQ112, l112, y112, z112⟩, st112⟩ := X101.virtualBack hx (y := (⟨"com/example/atoll/atoll/detect/HeldOrigins", "setNews", "(IIIIJ)V"⟩ : MethodName)) (z := (⟨"com/example/atoll/atoll/detect/HeldOrigins", "setNews", "(IIIIJ)V"⟩ : MethodName)) hown (mvT hZ (hw _ (List.mem_of_getElem? (i := 52) rfl))) (mvT hZ (hw _ (List.mem_of_getElem? (i := 53) rfl))) (notFace_of_selects (args := #[]) (mvT hZ (hw _ (List.mem_of_getElem? (i := 55) rfl)))) (mvT hZ (hw _ (List.mem_of_getElem? (i := 55) rfl))) (mvT hZ (hw _ (List.mem_of_getElem? (i := 54) rfl))) (by decide) (backOf (W := 0) (rm6 l Z a0 hw [] b78 (1 : Int32) (((q6.toUInt64 >>> ((32 : Int32) &&& 0x3f).toInt64.toUInt64).toInt64).toInt32) (((q6.toInt32).toUInt32 >>> ((16 : Int32) &&& 31).toUInt32).toInt32) ((q6.toInt32) &&& (65535 : Int32)) ((q6.toUInt64 >>> ((5 : Int32) &&& 0x3f).toInt64.toUInt64).toInt64) c79_xi c79_xn c79_xs c79_xm (2 : Int32) (own_b0_g109 p1 p2 p3 q4 p5 q6 rd ct ar pos fn fq fr fs) (own_b0_g110 p1 p2 p3 q4 p5 q6 rd ct ar pos fn fq fr fs) T101.heap n0 Z101 ⟨E_b78_102, F_ids_b78_103, F_newest_b78_104, F_state_b78_105, F_mismatches_b78_106, F_size_b78_107⟩ V101_1a V101_2a ne_b78_c79_xn ne_b78_c79_xs ne_c79_xn_c79_xs g_c79_xn g_c79_xs (by decide) (by decide)) hZ (hw _ (List.mem_of_getElem? (i := 56) rfl)) (hw _ (List.mem_of_getElem? (i := 4) rfl)) (by decide) (by decide)) q112a q112c (g := (mkF m 149 #[.val (.int p1), .val (.int p2), .val (.int p3), .val (.long q4), .second, .val (.int p5), .val (.long q6), .second, .val (.int rd), .val (.int ct), .val (.long ar), .second, .val (.int (1 : Int32)), .val (.int (0 : Int32)), .val (.int fn), .val (.int fq), .val (.int fr), .val (.int fs), .val (.ref b78), .val (.ref b86)] [(.long ((q6.toUInt64 >>> ((5 : Int32) &&& 0x3f).toInt64.toUInt64).toInt64)), (.int ((q6.toInt32) &&& (65535 : Int32))), (.int (((q6.toInt32).toUInt32 >>> ((16 : Int32) &&& 31).toUInt32).toInt32)), (.int (((q6.toUInt64 >>> ((32 : Int32) &&& 0x3f).toInt64.toUInt64).toInt64).toInt32)), (.int (1 : Int32)), (.ref b78)])) rfl (by rw [hml]; rfl) (Steps.refl _) (argsL := [(.int (1 : Int32)), (.int (((q6.toUInt64 >>> ((32 : Int32) &&& 0x3f).toInt64.toUInt64).toInt64).toInt32)), (.int (((q6.toInt32).toUInt32 >>> ((16 : Int32) &&& 31).toUInt32).toInt32)), (.int ((q6.toInt32) &&& (65535 : Int32))), (.long ((q6.toUInt64 >>> ((5 : Int32) &&& 0x3f).toInt64.toUInt64).toInt64))]) (rest := []) (lenOf pd_0_3 rfl) rfl (by show 2 * 0 + _ ≤ _; exact Nat.le_of_eq rfl) (hb hby at_149) (fun _ _ => ⟨rfl, rfl, (by decide : 10 + 0 ≤ _), (by decide : 82 + 0 ≤ _)⟩)
                  dsimp only [Pt.U, Pt.locs, Pt.cells, Pt.slots] at X112 l112 y112 z112 st112 hQ112
                  subst l112 y112 z112
                  obtain ⟨rfl, N112q, Kq112, V112_0, V112_1⟩ := hQ112
                  have N112 := Fr.app N101 N112q
                  have fE_b78_x112 := (E_b78_102.keep Kq112)
                  have fE_b86_x112 := (fE_b86_x101.keep Kq112)
                  have fA_c87_xi_x112 := (fA_c87_xi_x101.keep Kq112 (ninS (Ne.symm ne_c79_xn_c87_xi) (ninS (Ne.symm ne_c79_xs_c87_xi) nin0)))
                  have fA_c87_xn_x112 := (fA_c87_xn_x101.keep Kq112 (ninS (Ne.symm ne_c79_xn_c87_xn) (ninS (Ne.symm ne_c79_xs_c87_xn) nin0)))
                  have fA_c87_xr_x112 := (fA_c87_xr_x101.keep Kq112 (ninS (Ne.symm ne_c79_xn_c87_xr) (ninS (Ne.symm ne_c79_xs_c87_xr) nin0)))
                  have fA_c87_xh_x112 := (fA_c87_xh_x101.keep Kq112 (ninS (Ne.symm ne_c79_xn_c87_xh) (ninS (Ne.symm ne_c79_xs_c87_xh) nin0)))
                  have fF_b86_ids_x112 := (fF_b86_ids_x101.keep Kq112 (ninS (Ne.symm ne_c79_xn_b86) (ninS (Ne.symm ne_c79_xs_b86) nin0)))
                  have fF_b86_incarnations_x112 := (fF_b86_incarnations_x101.keep Kq112 (ninS (Ne.symm ne_c79_xn_b86) (ninS (Ne.symm ne_c79_xs_b86) nin0)))
                  have fF_b86_rounds_x112 := (fF_b86_rounds_x101.keep Kq112 (ninS (Ne.symm ne_c79_xn_b86) (ninS (Ne.symm ne_c79_xs_b86) nin0)))
                  have fF_b86_heard_x112 := (fF_b86_heard_x101.keep Kq112 (ninS (Ne.symm ne_c79_xn_b86) (ninS (Ne.symm ne_c79_xs_b86) nin0)))
                  have fF_b86_count_x112 := (fF_b86_count_x101.keep Kq112 (ninS (Ne.symm ne_c79_xn_b86) (ninS (Ne.symm ne_c79_xs_b86) nin0)))
                  have fF_b78_ids_x112 := (F_ids_b78_103.keep Kq112 (ninS ne_b78_c79_xn (ninS ne_b78_c79_xs nin0)))
                  have fF_b78_newest_x112 := (F_newest_b78_104.keep Kq112 (ninS ne_b78_c79_xn (ninS ne_b78_c79_xs nin0)))
                  have fF_b78_state_x112 := (F_state_b78_105.keep Kq112 (ninS ne_b78_c79_xn (ninS ne_b78_c79_xs nin0)))
                  have fF_b78_mismatches_x112 := (F_mismatches_b78_106.keep Kq112 (ninS ne_b78_c79_xn (ninS ne_b78_c79_xs nin0)))
                  have fF_b78_size_x112 := (F_size_b78_107.keep Kq112 (ninS ne_b78_c79_xn (ninS ne_b78_c79_xs nin0)))
                  have fA_c79_xi_x112 := (V101_0a.keep Kq112 (ninS ne_c79_xi_c79_xn (ninS ne_c79_xi_c79_xs nin0)))
                  have fA_c79_xm_x112 := (V101_3a.keep Kq112 (ninS (Ne.symm ne_c79_xn_c79_xm) (ninS (Ne.symm ne_c79_xs_c79_xm) nin0)))
                  have K112 : Keep h0 T112.heap [] := Keep.trans K101 Kq112 (allS (Or.inr sz_c79_xn) (allS (Or.inr sz_c79_xs) all0))
                  have Z112 : n0 ≤ T112.heap.size := Nat.le_trans Z101 Kq112.1
                  have V112_0a : own_Arr Z T112.heap c79_xn .long (16 : Int32) (fun i => Value.long ((own_b0_g113 p1 p2 p3 q4 p5 q6 rd ct ar pos fn fq fr fs) i)) := V112_0
                  have V112_1a : own_Arr Z T112.heap c79_xs .long (16 : Int32) (fun i => Value.long ((own_b0_g114 p1 p2 p3 q4 p5 q6 rd ct ar pos fn fq fr fs) i)) := V112_1
                  obtain ⟨cq115, kq115, q115a, q115b, q115c⟩ := isOf hZ rfl fE_b78_x112
                  obtain ⟨_, _, ⟨T115, L115, k115, n115⟩, -, X115, ⟨Lc115, hQ115, l115, y115, z115⟩, st115⟩ := X112.virtualBack hx (y := (⟨"com/example/atoll/atoll/detect/HeldOrigins", "setQueued", "(IZ)V"⟩ : MethodName)) (z := (⟨"com/example/atoll/atoll/detect/HeldOrigins", "setQueued", "(IZ)V"⟩ : MethodName)) hown (mvT hZ (hw _ (List.mem_of_getElem? (i := 58) rfl))) (mvT hZ (hw _ (List.mem_of_getElem? (i := 59) rfl))) (notFace_of_selects (args := #[]) (mvT hZ (hw _ (List.mem_of_getElem? (i := 61) rfl)))) (mvT hZ (hw _ (List.mem_of_getElem? (i := 61) rfl))) (mvT hZ (hw _ (List.mem_of_getElem? (i := 60) rfl))) (by decide) (backOf (W := 0) (rm7 l Z a0 hw [] b78 (1 : Int32) fr c79_xi c79_xn c79_xs c79_xm (2 : Int32) (own_b0_g114 p1 p2 p3 q4 p5 q6 rd ct ar pos fn fq fr fs) T112.heap n0 Z112 ⟨fE_b78_x112, fF_b78_ids_x112, fF_b78_newest_x112, fF_b78_state_x112, fF_b78_mismatches_x112, fF_b78_size_x112⟩ V112_1a ne_b78_c79_xs g_c79_xs (by decide) (by decide)) hZ (hw _ (List.mem_of_getElem? (i := 62) rfl)) (hw _ (List.mem_of_getElem? (i := 4) rfl)) (by decide) (by decide)) q115a q115c (g := (mkF m 158 #[.val (.int p1), .val (.int p2), .val (.int p3), .val (.long q4), .second, .val (.int p5), .val (.long q6), .second, .val (.int rd), .val (.int ct), .val (.long ar), .second, .val (.int (1 : Int32)), .val (.int (0 : Int32)), .val (.int fn), .val (.int fq), .val (.int fr), .val (.int fs), .val (.ref b78), .val (.ref b86)] [(.int fr), (.int (1 : Int32)), (.ref b78)])) rfl (by rw [hml]; rfl) (Steps.refl _) (argsL := [(.int (1 : Int32)), (.int fr)]) (rest := []) (lenOf pd_0_4 rfl) rfl (by show 2 * 0 + _ ≤ _; exact Nat.le_of_eq rfl) (hb hby at_158) (fun _ _ => ⟨rfl, rfl, (by decide : 10 + 0 ≤ _), (by decide : 82 + 0 ≤ _)⟩)
                  dsimp only [Pt.U, Pt.locs, Pt.cells, Pt.slots] at X115 l115 y115 z115 st115 hQ115
                  subst l115 y115 z115
                  obtain ⟨rfl, N115q, Kq115, V115_0⟩ := hQ115
                  have N115 := Fr.app N112 N115q
                  have fE_b78_x115 := (fE_b78_x112.keep Kq115)
                  have fE_b86_x115 := (fE_b86_x112.keep Kq115)
                  have fA_c87_xi_x115 := (fA_c87_xi_x112.keep Kq115 (ninS (Ne.symm ne_c79_xs_c87_xi) nin0))
                  have fA_c87_xn_x115 := (fA_c87_xn_x112.keep Kq115 (ninS (Ne.symm ne_c79_xs_c87_xn) nin0))
                  have fA_c87_xr_x115 := (fA_c87_xr_x112.keep Kq115 (ninS (Ne.symm ne_c79_xs_c87_xr) nin0))
                  have fA_c87_xh_x115 := (fA_c87_xh_x112.keep Kq115 (ninS (Ne.symm ne_c79_xs_c87_xh) nin0))
                  have fF_b86_ids_x115 := (fF_b86_ids_x112.keep Kq115 (ninS (Ne.symm ne_c79_xs_b86) nin0))
                  have fF_b86_incarnations_x115 := (fF_b86_incarnations_x112.keep Kq115 (ninS (Ne.symm ne_c79_xs_b86) nin0))
                  have fF_b86_rounds_x115 := (fF_b86_rounds_x112.keep Kq115 (ninS (Ne.symm ne_c79_xs_b86) nin0))
                  have fF_b86_heard_x115 := (fF_b86_heard_x112.keep Kq115 (ninS (Ne.symm ne_c79_xs_b86) nin0))
                  have fF_b86_count_x115 := (fF_b86_count_x112.keep Kq115 (ninS (Ne.symm ne_c79_xs_b86) nin0))
                  have fF_b78_ids_x115 := (fF_b78_ids_x112.keep Kq115 (ninS ne_b78_c79_xs nin0))
                  have fF_b78_newest_x115 := (fF_b78_newest_x112.keep Kq115 (ninS ne_b78_c79_xs nin0))
                  have fF_b78_state_x115 := (fF_b78_state_x112.keep Kq115 (ninS ne_b78_c79_xs nin0))
                  have fF_b78_mismatches_x115 := (fF_b78_mismatches_x112.keep Kq115 (ninS ne_b78_c79_xs nin0))
                  have fF_b78_size_x115 := (fF_b78_size_x112.keep Kq115 (ninS ne_b78_c79_xs nin0))
                  have fA_c79_xi_x115 := (fA_c79_xi_x112.keep Kq115 (ninS ne_c79_xi_c79_xs nin0))
                  have fA_c79_xm_x115 := (fA_c79_xm_x112.keep Kq115 (ninS (Ne.symm ne_c79_xs_c79_xm) nin0))
                  have fA_c79_xn_x115 := (V112_0a.keep Kq115 (ninS ne_c79_xn_c79_xs nin0))
                  have K115 : Keep h0 T115.heap [] := Keep.trans K112 Kq115 (allS (Or.inr sz_c79_xs) all0)
                  have Z115 : n0 ≤ T115.heap.size := Nat.le_trans Z112 Kq115.1
                  have V115_0a : own_Arr Z T115.heap c79_xs .long (16 : Int32) (fun i => Value.long ((own_b0_g116 p1 p2 p3 q4 p5 q6 rd ct ar pos fn fq fr fs) i)) := V115_0
                  obtain ⟨cq117, kq117, q117a, q117b, q117c⟩ := isOf hZ rfl fE_b78_x115
                  obtain ⟨_, _, ⟨T117, L117, k117, n117⟩, -, X117, ⟨Lc117, hQ117, l117, y117, z117⟩, st117⟩ := X115.virtualBack hx (y := (⟨"com/example/atoll/atoll/detect/HeldOrigins", "relayQueued", "(Lcom/example/atoll/atoll/detect/Beacon$Builder;)V"⟩ : MethodName)) (z := (⟨"com/example/atoll/atoll/detect/HeldOrigins", "relayQueued", "(Lcom/example/atoll/atoll/detect/Beacon$Builder;)V"⟩ : MethodName)) hown (mvT hZ (hw _ (List.mem_of_getElem? (i := 67) rfl))) (mvT hZ (hw _ (List.mem_of_getElem? (i := 68) rfl))) (notFace_of_selects (args := #[]) (mvT hZ (hw _ (List.mem_of_getElem? (i := 70) rfl)))) (mvT hZ (hw _ (List.mem_of_getElem? (i := 70) rfl))) (mvT hZ (hw _ (List.mem_of_getElem? (i := 69) rfl))) (by decide) (backOf (W := 0) (rm9 l Z a0 hw [] b78 b86 c79_xi c79_xn c79_xs c79_xm c87_xi c87_xn c87_xr c87_xh (own_b0_g108 p1 p2 p3 q4 p5 q6 rd ct ar pos fn fq fr fs) (own_b0_g113 p1 p2 p3 q4 p5 q6 rd ct ar pos fn fq fr fs) (own_b0_g116 p1 p2 p3 q4 p5 q6 rd ct ar pos fn fq fr fs) (fun _ => (0 : Int32)) (fun _ => (0 : Int32)) (fun _ => (0 : Int32)) (fun _ => (0 : Int32)) T115.heap n0 Z115 ⟨fE_b78_x115, fF_b78_ids_x115, fF_b78_newest_x115, fF_b78_state_x115, fF_b78_mismatches_x115, fF_b78_size_x115⟩ ⟨fE_b86_x115, fF_b86_ids_x115, fF_b86_incarnations_x115, fF_b86_rounds_x115, fF_b86_heard_x115, fF_b86_count_x115⟩ fA_c79_xi_x115 fA_c79_xn_x115 V115_0a fA_c87_xi_x115 fA_c87_xn_x115 fA_c87_xr_x115 fA_c87_xh_x115 ne_b78_b86 ne_b78_c79_xs ne_b78_c87_xi ne_b78_c87_xn ne_b78_c87_xr ne_b78_c87_xh ne_c79_xi_b86 ne_c79_xi_c87_xi ne_c79_xi_c87_xn ne_c79_xi_c87_xr ne_c79_xi_c87_xh ne_c79_xn_b86 ne_c79_xn_c87_xi ne_c79_xn_c87_xn ne_c79_xn_c87_xr ne_c79_xn_c87_xh ne_c79_xs_b86 ne_c79_xs_c87_xi ne_c79_xs_c87_xn ne_c79_xs_c87_xr ne_c79_xs_c87_xh ne_c79_xi_c79_xs ne_c79_xn_c79_xs ne_b86_c87_xi ne_b86_c87_xn ne_b86_c87_xr ne_b86_c87_xh ne_c87_xi_c87_xn ne_c87_xi_c87_xr ne_c87_xi_c87_xh ne_c87_xn_c87_xr ne_c87_xn_c87_xh ne_c87_xr_c87_xh g_b86 g_c79_xs g_c87_xi g_c87_xn g_c87_xr g_c87_xh) hZ (hw _ (List.mem_of_getElem? (i := 71) rfl)) (hw _ (List.mem_of_getElem? (i := 4) rfl)) (by decide) (by decide)) q117a q117c (g := (mkF m 165 #[.val (.int p1), .val (.int p2), .val (.int p3), .val (.long q4), .second, .val (.int p5), .val (.long q6), .second, .val (.int rd), .val (.int ct), .val (.long ar), .second, .val (.int (1 : Int32)), .val (.int (0 : Int32)), .val (.int fn), .val (.int fq), .val (.int fr), .val (.int fs), .val (.ref b78), .val (.ref b86)] [(.ref b86), (.ref b78)])) rfl (by rw [hml]; rfl) (Steps.refl _) (argsL := [(.ref b86)]) (rest := []) (lenOf pd_0_5 rfl) rfl (by show 2 * 0 + _ ≤ _; exact Nat.le_of_eq rfl) (hb hby at_165) (fun _ _ => ⟨rfl, rfl, (by decide : 10 + 0 ≤ _), (by decide : 82 + 0 ≤ _)⟩)
                  dsimp only [Pt.U, Pt.locs, Pt.cells, Pt.slots] at X117 l117 y117 z117 st117 hQ117
                  subst l117 y117 z117
                  obtain ⟨rfl, N117q, Kq117, V117_0⟩ := hQ117
                  have N117 := Fr.app N115 N117q
                  have fE_b78_x117 := (fE_b78_x115.keep Kq117)
                  have fE_b86_x117 := (fE_b86_x115.keep Kq117)
                  have fF_b78_ids_x117 := (fF_b78_ids_x115.keep Kq117 (ninS ne_b78_b86 (ninS ne_b78_c79_xs (ninS ne_b78_c87_xi (ninS ne_b78_c87_xn (ninS ne_b78_c87_xr (ninS ne_b78_c87_xh nin0)))))))
                  have fF_b78_newest_x117 := (fF_b78_newest_x115.keep Kq117 (ninS ne_b78_b86 (ninS ne_b78_c79_xs (ninS ne_b78_c87_xi (ninS ne_b78_c87_xn (ninS ne_b78_c87_xr (ninS ne_b78_c87_xh nin0)))))))
                  have fF_b78_state_x117 := (fF_b78_state_x115.keep Kq117 (ninS ne_b78_b86 (ninS ne_b78_c79_xs (ninS ne_b78_c87_xi (ninS ne_b78_c87_xn (ninS ne_b78_c87_xr (ninS ne_b78_c87_xh nin0)))))))
                  have fF_b78_mismatches_x117 := (fF_b78_mismatches_x115.keep Kq117 (ninS ne_b78_b86 (ninS ne_b78_c79_xs (ninS ne_b78_c87_xi (ninS ne_b78_c87_xn (ninS ne_b78_c87_xr (ninS ne_b78_c87_xh nin0)))))))
                  have fF_b78_size_x117 := (fF_b78_size_x115.keep Kq117 (ninS ne_b78_b86 (ninS ne_b78_c79_xs (ninS ne_b78_c87_xi (ninS ne_b78_c87_xn (ninS ne_b78_c87_xr (ninS ne_b78_c87_xh nin0)))))))
                  have fA_c79_xi_x117 := (fA_c79_xi_x115.keep Kq117 (ninS ne_c79_xi_b86 (ninS ne_c79_xi_c79_xs (ninS ne_c79_xi_c87_xi (ninS ne_c79_xi_c87_xn (ninS ne_c79_xi_c87_xr (ninS ne_c79_xi_c87_xh nin0)))))))
                  have fA_c79_xm_x117 := (fA_c79_xm_x115.keep Kq117 (ninS ne_c79_xm_b86 (ninS (Ne.symm ne_c79_xs_c79_xm) (ninS ne_c79_xm_c87_xi (ninS ne_c79_xm_c87_xn (ninS ne_c79_xm_c87_xr (ninS ne_c79_xm_c87_xh nin0)))))))
                  have fA_c79_xn_x117 := (fA_c79_xn_x115.keep Kq117 (ninS ne_c79_xn_b86 (ninS ne_c79_xn_c79_xs (ninS ne_c79_xn_c87_xi (ninS ne_c79_xn_c87_xn (ninS ne_c79_xn_c87_xr (ninS ne_c79_xn_c87_xh nin0)))))))
                  have K117 : Keep h0 T117.heap [] := Keep.trans K115 Kq117 (allS (Or.inr sz_b86) (allS (Or.inr sz_c79_xs) (allS (Or.inr sz_c87_xi) (allS (Or.inr sz_c87_xn) (allS (Or.inr sz_c87_xr) (allS (Or.inr sz_c87_xh) all0))))))
                  have Z117 : n0 ≤ T117.heap.size := Nat.le_trans Z115 Kq117.1
                  have V117_0a : own_Arr Z T117.heap c79_xs .long (16 : Int32) (fun i => Value.long ((own_b0_g118 p1 p2 p3 q4 p5 q6 rd ct ar pos fn fq fr fs) i)) := V117_0
                  obtain ⟨cq119, kq119, q119a, q119b, q119c⟩ := isOf hZ rfl fE_b78_x117
                  obtain ⟨_, _, ⟨T119, L119, k119, n119⟩, -, X119, ⟨Lc119, hQ119, l119, y119, z119⟩, st119⟩ := X117.virtualBack hx (y := (⟨"com/example/atoll/atoll/detect/HeldOrigins", "setQueued", "(IZ)V"⟩ : MethodName)) (z := (⟨"com/example/atoll/atoll/detect/HeldOrigins", "setQueued", "(IZ)V"⟩ : MethodName)) hown (mvT hZ (hw _ (List.mem_of_getElem? (i := 58) rfl))) (mvT hZ (hw _ (List.mem_of_getElem? (i := 59) rfl))) (notFace_of_selects (args := #[]) (mvT hZ (hw _ (List.mem_of_getElem? (i := 61) rfl)))) (mvT hZ (hw _ (List.mem_of_getElem? (i := 61) rfl))) (mvT hZ (hw _ (List.mem_of_getElem? (i := 60) rfl))) (by decide) (backOf (W := 0) (rm7 l Z a0 hw [] b78 (1 : Int32) fq c79_xi c79_xn c79_xs c79_xm (2 : Int32) (own_b0_g118 p1 p2 p3 q4 p5 q6 rd ct ar pos fn fq fr fs) T117.heap n0 Z117 ⟨fE_b78_x117, fF_b78_ids_x117, fF_b78_newest_x117, fF_b78_state_x117, fF_b78_mismatches_x117, fF_b78_size_x117⟩ V117_0a ne_b78_c79_xs g_c79_xs (by decide) (by decide)) hZ (hw _ (List.mem_of_getElem? (i := 62) rfl)) (hw _ (List.mem_of_getElem? (i := 4) rfl)) (by decide) (by decide)) q119a q119c (g := (mkF m 174 #[.val (.int p1), .val (.int p2), .val (.int p3), .val (.long q4), .second, .val (.int p5), .val (.long q6), .second, .val (.int rd), .val (.int ct), .val (.long ar), .second, .val (.int (1 : Int32)), .val (.int (0 : Int32)), .val (.int fn), .val (.int fq), .val (.int fr), .val (.int fs), .val (.ref b78), .val (.ref b86)] [(.int fq), (.int (1 : Int32)), (.ref b78)])) rfl (by rw [hml]; rfl) (Steps.refl _) (argsL := [(.int (1 : Int32)), (.int fq)]) (rest := []) (lenOf pd_0_4 rfl) rfl (by show 2 * 0 + _ ≤ _; exact Nat.le_of_eq rfl) (hb hby at_174) (fun _ _ => ⟨rfl, rfl, (by decide : 10 + 0 ≤ _), (by decide : 82 + 0 ≤ _)⟩)
                  dsimp only [Pt.U, Pt.locs, Pt.cells, Pt.slots] at X119 l119 y119 z119 st119 hQ119
                  subst l119 y119 z119
                  obtain ⟨rfl, N119q, Kq119, V119_0⟩ := hQ119
                  have N119 := Fr.app N117 N119q
                  have fE_b78_x119 := (fE_b78_x117.keep Kq119)
                  have fE_b86_x119 := (fE_b86_x117.keep Kq119)
                  have fF_b78_ids_x119 := (fF_b78_ids_x117.keep Kq119 (ninS ne_b78_c79_xs nin0))
                  have fF_b78_newest_x119 := (fF_b78_newest_x117.keep Kq119 (ninS ne_b78_c79_xs nin0))
                  have fF_b78_state_x119 := (fF_b78_state_x117.keep Kq119 (ninS ne_b78_c79_xs nin0))
                  have fF_b78_mismatches_x119 := (fF_b78_mismatches_x117.keep Kq119 (ninS ne_b78_c79_xs nin0))
                  have fF_b78_size_x119 := (fF_b78_size_x117.keep Kq119 (ninS ne_b78_c79_xs nin0))
                  have fA_c79_xi_x119 := (fA_c79_xi_x117.keep Kq119 (ninS ne_c79_xi_c79_xs nin0))
                  have fA_c79_xm_x119 := (fA_c79_xm_x117.keep Kq119 (ninS (Ne.symm ne_c79_xs_c79_xm) nin0))
                  have fA_c79_xn_x119 := (fA_c79_xn_x117.keep Kq119 (ninS ne_c79_xn_c79_xs nin0))
                  have K119 : Keep h0 T119.heap [] := Keep.trans K117 Kq119 (allS (Or.inr sz_c79_xs) all0)
                  have Z119 : n0 ≤ T119.heap.size := Nat.le_trans Z117 Kq119.1
                  have V119_0a : own_Arr Z T119.heap c79_xs .long (16 : Int32) (fun i => Value.long ((own_b0_g120 p1 p2 p3 q4 p5 q6 rd ct ar pos fn fq fr fs) i)) := V119_0
                  obtain ⟨cq121, kq121, q121a, q121b, q121c⟩ := isOf hZ rfl fE_b78_x119
                  obtain ⟨_, _, ⟨T121, L121, k121, n121⟩, -, X121, ⟨Lc121, hQ121, l121, y121, z121⟩, st121⟩ := X119.virtualBack hx (y := (⟨"com/example/atoll/atoll/detect/HeldOrigins", "setNamed", "(IZ)V"⟩ : MethodName)) (z := (⟨"com/example/atoll/atoll/detect/HeldOrigins", "setNamed", "(IZ)V"⟩ : MethodName)) hown (mvT hZ (hw _ (List.mem_of_getElem? (i := 76) rfl))) (mvT hZ (hw _ (List.mem_of_getElem? (i := 77) rfl))) (notFace_of_selects (args := #[]) (mvT hZ (hw _ (List.mem_of_getElem? (i := 79) rfl)))) (mvT hZ (hw _ (List.mem_of_getElem? (i := 79) rfl))) (mvT hZ (hw _ (List.mem_of_getElem? (i := 78) rfl))) (by decide) (backOf (W := 0) (rm11 l Z a0 hw [] b78 (1 : Int32) fn c79_xi c79_xn c79_xs c79_xm (2 : Int32) (own_b0_g120 p1 p2 p3 q4 p5 q6 rd ct ar pos fn fq fr fs) T119.heap n0 Z119 ⟨fE_b78_x119, fF_b78_ids_x119, fF_b78_newest_x119, fF_b78_state_x119, fF_b78_mismatches_x119, fF_b78_size_x119⟩ V119_0a ne_b78_c79_xs g_c79_xs (by decide) (by decide)) hZ (hw _ (List.mem_of_getElem? (i := 80) rfl)) (hw _ (List.mem_of_getElem? (i := 4) rfl)) (by decide) (by decide)) q121a q121c (g := (mkF m 183 #[.val (.int p1), .val (.int p2), .val (.int p3), .val (.long q4), .second, .val (.int p5), .val (.long q6), .second, .val (.int rd), .val (.int ct), .val (.long ar), .second, .val (.int (1 : Int32)), .val (.int (0 : Int32)), .val (.int fn), .val (.int fq), .val (.int fr), .val (.int fs), .val (.ref b78), .val (.ref b86)] [(.int fn), (.int (1 : Int32)), (.ref b78)])) rfl (by rw [hml]; rfl) (Steps.refl _) (argsL := [(.int (1 : Int32)), (.int fn)]) (rest := []) (lenOf pd_0_4 rfl) rfl (by show 2 * 0 + _ ≤ _; exact Nat.le_of_eq rfl) (hb hby at_183) (fun _ _ => ⟨rfl, rfl, (by decide : 10 + 0 ≤ _), (by decide : 82 + 0 ≤ _)⟩)
                  dsimp only [Pt.U, Pt.locs, Pt.cells, Pt.slots] at X121 l121 y121 z121 st121 hQ121
                  subst l121 y121 z121
                  obtain ⟨rfl, N121q, Kq121, V121_0⟩ := hQ121
                  have N121 := Fr.app N119 N121q
                  have fE_b78_x121 := (fE_b78_x119.keep Kq121)
                  have fE_b86_x121 := (fE_b86_x119.keep Kq121)
                  have fF_b78_ids_x121 := (fF_b78_ids_x119.keep Kq121 (ninS ne_b78_c79_xs nin0))
                  have fF_b78_newest_x121 := (fF_b78_newest_x119.keep Kq121 (ninS ne_b78_c79_xs nin0))
                  have fF_b78_state_x121 := (fF_b78_state_x119.keep Kq121 (ninS ne_b78_c79_xs nin0))
                  have fF_b78_mismatches_x121 := (fF_b78_mismatches_x119.keep Kq121 (ninS ne_b78_c79_xs nin0))
                  have fF_b78_size_x121 := (fF_b78_size_x119.keep Kq121 (ninS ne_b78_c79_xs nin0))
                  have fA_c79_xi_x121 := (fA_c79_xi_x119.keep Kq121 (ninS ne_c79_xi_c79_xs nin0))
                  have fA_c79_xm_x121 := (fA_c79_xm_x119.keep Kq121 (ninS (Ne.symm ne_c79_xs_c79_xm) nin0))
                  have fA_c79_xn_x121 := (fA_c79_xn_x119.keep Kq121 (ninS ne_c79_xn_c79_xs nin0))
                  have K121 : Keep h0 T121.heap [] := Keep.trans K119 Kq121 (allS (Or.inr sz_c79_xs) all0)
                  have Z121 : n0 ≤ T121.heap.size := Nat.le_trans Z119 Kq121.1
                  have V121_0a : own_Arr Z T121.heap c79_xs .long (16 : Int32) (fun i => Value.long ((own_b0_g122 p1 p2 p3 q4 p5 q6 rd ct ar pos fn fq fr fs) i)) := V121_0
                  obtain ⟨cq123, kq123, q123a, q123b, q123c⟩ := isOf hZ rfl fE_b78_x121
                  obtain ⟨_, _, ⟨T123, L123, k123, n123⟩, -, X123, ⟨Lc123, hQ123, l123, y123, z123⟩, st123⟩ := X121.virtualBack hx (y := (⟨"com/example/atoll/atoll/detect/HeldOrigins", "setHoldsSelf", "(IZ)V"⟩ : MethodName)) (z := (⟨"com/example/atoll/atoll/detect/HeldOrigins", "setHoldsSelf", "(IZ)V"⟩ : MethodName)) hown (mvT hZ (hw _ (List.mem_of_getElem? (i := 81) rfl))) (mvT hZ (hw _ (List.mem_of_getElem? (i := 82) rfl))) (notFace_of_selects (args := #[]) (mvT hZ (hw _ (List.mem_of_getElem? (i := 84) rfl)))) (mvT hZ (hw _ (List.mem_of_getElem? (i := 84) rfl))) (mvT hZ (hw _ (List.mem_of_getElem? (i := 83) rfl))) (by decide) (backOf (W := 0) (rm12 l Z a0 hw [] b78 (1 : Int32) fs c79_xi c79_xn c79_xs c79_xm (2 : Int32) (own_b0_g122 p1 p2 p3 q4 p5 q6 rd ct ar pos fn fq fr fs) T121.heap n0 Z121 ⟨fE_b78_x121, fF_b78_ids_x121, fF_b78_newest_x121, fF_b78_state_x121, fF_b78_mismatches_x121, fF_b78_size_x121⟩ V121_0a ne_b78_c79_xs g_c79_xs (by decide) (by decide)) hZ (hw _ (List.mem_of_getElem? (i := 85) rfl)) (hw _ (List.mem_of_getElem? (i := 4) rfl)) (by decide) (by decide)) q123a q123c (g := (mkF m 192 #[.val (.int p1), .val (.int p2), .val (.int p3), .val (.long q4), .second, .val (.int p5), .val (.long q6), .second, .val (.int rd), .val (.int ct), .val (.long ar), .second, .val (.int (1 : Int32)), .val (.int (0 : Int32)), .val (.int fn), .val (.int fq), .val (.int fr), .val (.int fs), .val (.ref b78), .val (.ref b86)] [(.int fs), (.int (1 : Int32)), (.ref b78)])) rfl (by rw [hml]; rfl) (Steps.refl _) (argsL := [(.int (1 : Int32)), (.int fs)]) (rest := []) (lenOf pd_0_4 rfl) rfl (by show 2 * 0 + _ ≤ _; exact Nat.le_of_eq rfl) (hb hby at_192) (fun _ _ => ⟨rfl, rfl, (by decide : 10 + 0 ≤ _), (by decide : 82 + 0 ≤ _)⟩)
                  dsimp only [Pt.U, Pt.locs, Pt.cells, Pt.slots] at X123 l123 y123 z123 st123 hQ123
                  subst l123 y123 z123
                  obtain ⟨rfl, N123q, Kq123, V123_0⟩ := hQ123
                  have N123 := Fr.app N121 N123q
                  have fE_b78_x123 := (fE_b78_x121.keep Kq123)
                  have fE_b86_x123 := (fE_b86_x121.keep Kq123)
                  have fF_b78_ids_x123 := (fF_b78_ids_x121.keep Kq123 (ninS ne_b78_c79_xs nin0))
                  have fF_b78_newest_x123 := (fF_b78_newest_x121.keep Kq123 (ninS ne_b78_c79_xs nin0))
                  have fF_b78_state_x123 := (fF_b78_state_x121.keep Kq123 (ninS ne_b78_c79_xs nin0))
                  have fF_b78_mismatches_x123 := (fF_b78_mismatches_x121.keep Kq123 (ninS ne_b78_c79_xs nin0))
                  have fF_b78_size_x123 := (fF_b78_size_x121.keep Kq123 (ninS ne_b78_c79_xs nin0))
                  have fA_c79_xi_x123 := (fA_c79_xi_x121.keep Kq123 (ninS ne_c79_xi_c79_xs nin0))
                  have fA_c79_xm_x123 := (fA_c79_xm_x121.keep Kq123 (ninS (Ne.symm ne_c79_xs_c79_xm) nin0))
                  have fA_c79_xn_x123 := (fA_c79_xn_x121.keep Kq123 (ninS ne_c79_xn_c79_xs nin0))
                  have K123 : Keep h0 T123.heap [] := Keep.trans K121 Kq123 (allS (Or.inr sz_c79_xs) all0)
                  have Z123 : n0 ≤ T123.heap.size := Nat.le_trans Z121 Kq123.1
                  have V123_0a : own_Arr Z T123.heap c79_xs .long (16 : Int32) (fun i => Value.long ((own_b0_g124 p1 p2 p3 q4 p5 q6 rd ct ar pos fn fq fr fs) i)) := V123_0
                  obtain ⟨cq125, kq125, q125a, q125b, q125c⟩ := isOf hZ rfl fE_b78_x123
                  obtain ⟨_, _, ⟨T125, L125, k125, n125⟩, -, X125, ⟨Lc125, hQ125, l125, y125, z125⟩, st125⟩ := X123.virtualBack hx (y := (⟨"com/example/atoll/atoll/detect/HeldOrigins", "setNews", "(IIIIJ)V"⟩ : MethodName)) (z := (⟨"com/example/atoll/atoll/detect/HeldOrigins", "setNews", "(IIIIJ)V"⟩ : MethodName)) hown (mvT hZ (hw _ (List.mem_of_getElem? (i := 52) rfl))) (mvT hZ (hw _ (List.mem_of_getElem? (i := 53) rfl))) (notFace_of_selects (args := #[]) (mvT hZ (hw _ (List.mem_of_getElem? (i := 55) rfl)))) (mvT hZ (hw _ (List.mem_of_getElem? (i := 55) rfl))) (mvT hZ (hw _ (List.mem_of_getElem? (i := 54) rfl))) (by decide) (backOf (W := 0) (rm6 l Z a0 hw [] b78 (1 : Int32) p1 rd ct ar c79_xi c79_xn c79_xs c79_xm (2 : Int32) (own_b0_g113 p1 p2 p3 q4 p5 q6 rd ct ar pos fn fq fr fs) (own_b0_g124 p1 p2 p3 q4 p5 q6 rd ct ar pos fn fq fr fs) T123.heap n0 Z123 ⟨fE_b78_x123, fF_b78_ids_x123, fF_b78_newest_x123, fF_b78_state_x123, fF_b78_mismatches_x123, fF_b78_size_x123⟩ fA_c79_xn_x123 V123_0a ne_b78_c79_xn ne_b78_c79_xs ne_c79_xn_c79_xs g_c79_xn g_c79_xs (by decide) (by decide)) hZ (hw _ (List.mem_of_getElem? (i := 56) rfl)) (hw _ (List.mem_of_getElem? (i := 4) rfl)) (by decide) (by decide)) q125a q125c (g := (mkF m 206 #[.val (.int p1), .val (.int p2), .val (.int p3), .val (.long q4), .second, .val (.int p5), .val (.long q6), .second, .val (.int rd), .val (.int ct), .val (.long ar), .second, .val (.int (1 : Int32)), .val (.int (0 : Int32)), .val (.int fn), .val (.int fq), .val (.int fr), .val (.int fs), .val (.ref b78), .val (.ref b86)] [(.long ar), (.int ct), (.int rd), (.int p1), (.int (1 : Int32)), (.ref b78)])) rfl (by rw [hml]; rfl) (Steps.refl _) (argsL := [(.int (1 : Int32)), (.int p1), (.int rd), (.int ct), (.long ar)]) (rest := []) (lenOf pd_0_3 rfl) rfl (by show 2 * 0 + _ ≤ _; exact Nat.le_of_eq rfl) (hb hby at_206) (fun _ _ => ⟨rfl, rfl, (by decide : 10 + 0 ≤ _), (by decide : 82 + 0 ≤ _)⟩)
                  dsimp only [Pt.U, Pt.locs, Pt.cells, Pt.slots] at X125 l125 y125 z125 st125 hQ125
                  subst l125 y125 z125
                  obtain ⟨rfl, N125q, Kq125, V125_0, V125_1⟩ := hQ125
                  have N125 := Fr.app N123 N125q
                  have fE_b78_x125 := (fE_b78_x123.keep Kq125)
                  have fE_b86_x125 := (fE_b86_x123.keep Kq125)
                  have fF_b78_ids_x125 := (fF_b78_ids_x123.keep Kq125 (ninS ne_b78_c79_xn (ninS ne_b78_c79_xs nin0)))
                  have fF_b78_newest_x125 := (fF_b78_newest_x123.keep Kq125 (ninS ne_b78_c79_xn (ninS ne_b78_c79_xs nin0)))
                  have fF_b78_state_x125 := (fF_b78_state_x123.keep Kq125 (ninS ne_b78_c79_xn (ninS ne_b78_c79_xs nin0)))
                  have fF_b78_mismatches_x125 := (fF_b78_mismatches_x123.keep Kq125 (ninS ne_b78_c79_xn (ninS ne_b78_c79_xs nin0)))
                  have fF_b78_size_x125 := (fF_b78_size_x123.keep Kq125 (ninS ne_b78_c79_xn (ninS ne_b78_c79_xs nin0)))
                  have fA_c79_xi_x125 := (fA_c79_xi_x123.keep Kq125 (ninS ne_c79_xi_c79_xn (ninS ne_c79_xi_c79_xs nin0)))
                  have fA_c79_xm_x125 := (fA_c79_xm_x123.keep Kq125 (ninS (Ne.symm ne_c79_xn_c79_xm) (ninS (Ne.symm ne_c79_xs_c79_xm) nin0)))
                  have K125 : Keep h0 T125.heap [] := Keep.trans K123 Kq125 (allS (Or.inr sz_c79_xn) (allS (Or.inr sz_c79_xs) all0))
                  have Z125 : n0 ≤ T125.heap.size := Nat.le_trans Z123 Kq125.1
                  have V125_0a : own_Arr Z T125.heap c79_xn .long (16 : Int32) (fun i => Value.long ((own_b0_g126 p1 p2 p3 q4 p5 q6 rd ct ar pos fn fq fr fs) i)) := V125_0
                  have V125_1a : own_Arr Z T125.heap c79_xs .long (16 : Int32) (fun i => Value.long ((own_b0_g127 p1 p2 p3 q4 p5 q6 rd ct ar pos fn fq fr fs) i)) := V125_1
                  obtain ⟨cq128, kq128, q128a, q128b, q128c⟩ := isOf hZ rfl fE_b78_x125
                  obtain ⟨_, _, ⟨T128, L128, k128, n128⟩, -, X128, ⟨Lc128, hQ128, l128, y128, z128⟩, st128⟩ := X125.virtualBack hx (y := (⟨"com/example/atoll/atoll/detect/HeldOrigins", "incarnation", "(I)I"⟩ : MethodName)) (z := (⟨"com/example/atoll/atoll/detect/HeldOrigins", "incarnation", "(I)I"⟩ : MethodName)) hown (mvT hZ (hw _ (List.mem_of_getElem? (i := 86) rfl))) (mvT hZ (hw _ (List.mem_of_getElem? (i := 87) rfl))) (notFace_of_selects (args := #[]) (mvT hZ (hw _ (List.mem_of_getElem? (i := 89) rfl)))) (mvT hZ (hw _ (List.mem_of_getElem? (i := 89) rfl))) (mvT hZ (hw _ (List.mem_of_getElem? (i := 88) rfl))) (by decide) (backOf (W := 0) (rm13 l Z a0 hw [] b78 (1 : Int32) c79_xi c79_xn c79_xs c79_xm (2 : Int32) (own_b0_g126 p1 p2 p3 q4 p5 q6 rd ct ar pos fn fq fr fs) T125.heap n0 Z125 ⟨fE_b78_x125, fF_b78_ids_x125, fF_b78_newest_x125, fF_b78_state_x125, fF_b78_mismatches_x125, fF_b78_size_x125⟩ V125_0a (by decide) (by decide)) hZ (hw _ (List.mem_of_getElem? (i := 90) rfl)) (hw _ (List.mem_of_getElem? (i := 4) rfl)) (by decide) (by decide)) q128a q128c (g := (mkF m 213 #[.val (.int p1), .val (.int p2), .val (.int p3), .val (.long q4), .second, .val (.int p5), .val (.long q6), .second, .val (.int rd), .val (.int ct), .val (.long ar), .second, .val (.int (1 : Int32)), .val (.int (0 : Int32)), .val (.int fn), .val (.int fq), .val (.int fr), .val (.int fs), .val (.ref b78), .val (.ref b86)] [(.int (1 : Int32)), (.ref b78)])) rfl (by rw [hml]; rfl) (Steps.refl _) (argsL := [(.int (1 : Int32))]) (rest := []) (lenOf pd_0_6 rfl) rfl (by show 2 * 0 + _ ≤ _; exact Nat.le_of_eq rfl) (hb hby at_213) (fun _ _ => ⟨rfl, rfl, (by decide : 10 + 0 ≤ _), (by decide : 82 + 0 ≤ _)⟩)
                  dsimp only [Pt.U, Pt.locs, Pt.cells, Pt.slots] at X128 l128 y128 z128 st128 hQ128
                  subst l128 y128 z128
                  obtain ⟨rfl, N128q, e128⟩ := hQ128
                  have N128 := Fr.app N125 N128q
                  refine own_pre (A := T128.setTop (mkF m 217 #[.val (.int p1), .val (.int p2), .val (.int p3), .val (.long q4), .second, .val (.int p5), .val (.long q6), .second, .val (.int rd), .val (.int ct), .val (.long ar), .second, .val (.int (1 : Int32)), .val (.int (0 : Int32)), .val (.int fn), .val (.int fq), .val (.int fr), .val (.int fs), .val (.ref b78), .val (.ref b86)] [(.int p1), (.int (own_inc (1 : Int32) (own_b0_g126 p1 p2 p3 q4 p5 q6 rd ct ar pos fn fq fr fs)))])) (fun tt kt => ?_) ?_
                  · show Steps p.tables e below (Tj87.setTop (mkF m 87 #[.val (.int p1), .val (.int p2), .val (.int p3), .val (.long q4), .second, .val (.int p5), .val (.long q6), .second, .val (.int rd), .val (.int ct), .val (.long ar), .second, .val (.int (1 : Int32)), .val (.int (0 : Int32)), .val (.int fn), .val (.int fq), .val (.int fr), .unset, .unset, .unset] [(.int fs)])) _
                    refine XS.istore Xj87.here hx rfl (hb hby at_87) rfl (l' := #[.val (.int p1), .val (.int p2), .val (.int p3), .val (.long q4), .second, .val (.int p5), .val (.long q6), .second, .val (.int rd), .val (.int ct), .val (.long ar), .second, .val (.int (1 : Int32)), .val (.int (0 : Int32)), .val (.int fn), .val (.int fq), .val (.int fr), .val (.int fs), .unset, .unset]) rfl ?_
                    show Steps p.tables e below (Tj87.setTop (mkF m 89 #[.val (.int p1), .val (.int p2), .val (.int p3), .val (.long q4), .second, .val (.int p5), .val (.long q6), .second, .val (.int rd), .val (.int ct), .val (.long ar), .second, .val (.int (1 : Int32)), .val (.int (0 : Int32)), .val (.int fn), .val (.int fq), .val (.int fr), .val (.int fs), .unset, .unset] [])) _
                    refine st78 _ ?_
                    show Steps p.tables e below (T78.setTop (mkF m 92 #[.val (.int p1), .val (.int p2), .val (.int p3), .val (.long q4), .second, .val (.int p5), .val (.long q6), .second, .val (.int rd), .val (.int ct), .val (.long ar), .second, .val (.int (1 : Int32)), .val (.int (0 : Int32)), .val (.int fn), .val (.int fq), .val (.int fr), .val (.int fs), .unset, .unset] [(.ref b78)])) _
                    refine XS.dup X78.here hx rfl (hb hby at_92) rfl rfl ?_
                    show Steps p.tables e below (T78.setTop (mkF m 93 #[.val (.int p1), .val (.int p2), .val (.int p3), .val (.long q4), .second, .val (.int p5), .val (.long q6), .second, .val (.int rd), .val (.int ct), .val (.long ar), .second, .val (.int (1 : Int32)), .val (.int (0 : Int32)), .val (.int fn), .val (.int fq), .val (.int fr), .val (.int fs), .unset, .unset] [(.ref b78), (.ref b78)])) _
                    refine st79.trans ?_
                    show Steps p.tables e below (T79.setTop (mkF m 96 #[.val (.int p1), .val (.int p2), .val (.int p3), .val (.long q4), .second, .val (.int p5), .val (.long q6), .second, .val (.int rd), .val (.int ct), .val (.long ar), .second, .val (.int (1 : Int32)), .val (.int (0 : Int32)), .val (.int fn), .val (.int fq), .val (.int fr), .val (.int fs), .unset, .unset] [(.ref b78)])) _
                    refine XS.astore X79.here hx rfl (hb hby at_96) rfl rfl (l' := #[.val (.int p1), .val (.int p2), .val (.int p3), .val (.long q4), .second, .val (.int p5), .val (.long q6), .second, .val (.int rd), .val (.int ct), .val (.long ar), .second, .val (.int (1 : Int32)), .val (.int (0 : Int32)), .val (.int fn), .val (.int fq), .val (.int fr), .val (.int fs), .val (.ref b78), .unset]) rfl ?_
                    show Steps p.tables e below (T79.setTop (mkF m 98 #[.val (.int p1), .val (.int p2), .val (.int p3), .val (.long q4), .second, .val (.int p5), .val (.long q6), .second, .val (.int rd), .val (.int ct), .val (.long ar), .second, .val (.int (1 : Int32)), .val (.int (0 : Int32)), .val (.int fn), .val (.int fq), .val (.int fr), .val (.int fs), .val (.ref b78), .unset] [])) _
                    refine st86 _ ?_
                    show Steps p.tables e below (T86.setTop (mkF m 101 #[.val (.int p1), .val (.int p2), .val (.int p3), .val (.long q4), .second, .val (.int p5), .val (.long q6), .second, .val (.int rd), .val (.int ct), .val (.long ar), .second, .val (.int (1 : Int32)), .val (.int (0 : Int32)), .val (.int fn), .val (.int fq), .val (.int fr), .val (.int fs), .val (.ref b78), .unset] [(.ref b86)])) _
                    refine XS.dup X86.here hx rfl (hb hby at_101) rfl rfl ?_
                    refine XS.iconst X86.here hx rfl (hb hby at_102) ?_
                    show Steps p.tables e below (T86.setTop (mkF m 103 #[.val (.int p1), .val (.int p2), .val (.int p3), .val (.long q4), .second, .val (.int p5), .val (.long q6), .second, .val (.int rd), .val (.int ct), .val (.long ar), .second, .val (.int (1 : Int32)), .val (.int (0 : Int32)), .val (.int fn), .val (.int fq), .val (.int fr), .val (.int fs), .val (.ref b78), .unset] [(.int (2 : Int32)), (.ref b86), (.ref b86)])) _
                    refine st87.trans ?_
                    show Steps p.tables e below (T87.setTop (mkF m 106 #[.val (.int p1), .val (.int p2), .val (.int p3), .val (.long q4), .second, .val (.int p5), .val (.long q6), .second, .val (.int rd), .val (.int ct), .val (.long ar), .second, .val (.int (1 : Int32)), .val (.int (0 : Int32)), .val (.int fn), .val (.int fq), .val (.int fr), .val (.int fs), .val (.ref b78), .unset] [(.ref b86)])) _
                    refine XS.astore X87.here hx rfl (hb hby at_106) rfl rfl (l' := #[.val (.int p1), .val (.int p2), .val (.int p3), .val (.long q4), .second, .val (.int p5), .val (.long q6), .second, .val (.int rd), .val (.int ct), .val (.long ar), .second, .val (.int (1 : Int32)), .val (.int (0 : Int32)), .val (.int fn), .val (.int fq), .val (.int fr), .val (.int fs), .val (.ref b78), .val (.ref b86)]) rfl ?_
                    refine XS.aload X87.here hx rfl (hb hby at_108) rfl rfl ?_
                    refine XS.iconst X87.here hx rfl (hb hby at_110) ?_
                    refine XS.iconst X87.here hx rfl (hb hby at_111) ?_
                    show Steps p.tables e below (T87.setTop (mkF m 112 #[.val (.int p1), .val (.int p2), .val (.int p3), .val (.long q4), .second, .val (.int p5), .val (.long q6), .second, .val (.int rd), .val (.int ct), .val (.long ar), .second, .val (.int (1 : Int32)), .val (.int (0 : Int32)), .val (.int fn), .val (.int fq), .val (.int fr), .val (.int fs), .val (.ref b78), .val (.ref b86)] [(.int (5 : Int32)), (.int (0 : Int32)), (.ref b78)])) _
                    refine st94.trans ?_
                    show Steps p.tables e below (T94.setTop (mkF m 115 #[.val (.int p1), .val (.int p2), .val (.int p3), .val (.long q4), .second, .val (.int p5), .val (.long q6), .second, .val (.int rd), .val (.int ct), .val (.long ar), .second, .val (.int (1 : Int32)), .val (.int (0 : Int32)), .val (.int fn), .val (.int fq), .val (.int fr), .val (.int fs), .val (.ref b78), .val (.ref b86)] [])) _
                    refine XS.aload X94.here hx rfl (hb hby at_115) rfl rfl ?_
                    refine XS.iconst X94.here hx rfl (hb hby at_117) ?_
                    refine XS.bipush X94.here hx rfl (hb hby at_118) ?_
                    show Steps p.tables e below (T94.setTop (mkF m 120 #[.val (.int p1), .val (.int p2), .val (.int p3), .val (.long q4), .second, .val (.int p5), .val (.long q6), .second, .val (.int rd), .val (.int ct), .val (.long ar), .second, .val (.int (1 : Int32)), .val (.int (0 : Int32)), .val (.int fn), .val (.int fq), .val (.int fr), .val (.int fs), .val (.ref b78), .val (.ref b86)] [(.int (9 : Int32)), (.int (1 : Int32)), (.ref b78)])) _
                    refine st101.trans ?_
                    show Steps p.tables e below (T101.setTop (mkF m 123 #[.val (.int p1), .val (.int p2), .val (.int p3), .val (.long q4), .second, .val (.int p5), .val (.long q6), .second, .val (.int rd), .val (.int ct), .val (.long ar), .second, .val (.int (1 : Int32)), .val (.int (0 : Int32)), .val (.int fn), .val (.int fq), .val (.int fr), .val (.int fs), .val (.ref b78), .val (.ref b86)] [])) _
                    refine XS.aload X101.here hx rfl (hb hby at_123) rfl rfl ?_
                    refine XS.iload X101.here hx rfl (hb hby at_125) rfl ?_
                    refine XS.lload X101.here hx rfl (hb hby at_127) rfl ?_
                    refine XS.bipush X101.here hx rfl (hb hby at_129) ?_
                    refine XS.lushr X101.here hx rfl (hb hby at_131) rfl ?_
                    refine XS.l2i X101.here hx rfl (hb hby at_132) rfl ?_
                    refine XS.lload X101.here hx rfl (hb hby at_133) rfl ?_
                    show Steps p.tables e below (T101.setTop (mkF m 135 #[.val (.int p1), .val (.int p2), .val (.int p3), .val (.long q4), .second, .val (.int p5), .val (.long q6), .second, .val (.int rd), .val (.int ct), .val (.long ar), .second, .val (.int (1 : Int32)), .val (.int (0 : Int32)), .val (.int fn), .val (.int fq), .val (.int fr), .val (.int fs), .val (.ref b78), .val (.ref b86)] [(.long q6), (.int (((q6.toUInt64 >>> ((32 : Int32) &&& 0x3f).toInt64.toUInt64).toInt64).toInt32)), (.int (1 : Int32)), (.ref b78)])) _
                    refine XS.l2i X101.here hx rfl (hb hby at_135) rfl ?_
                    refine XS.bipush X101.here hx rfl (hb hby at_136) ?_
                    refine XS.iushr X101.here hx rfl (hb hby at_138) rfl ?_
                    refine XS.lload X101.here hx rfl (hb hby at_139) rfl ?_
                    refine XS.l2i X101.here hx rfl (hb hby at_141) rfl ?_
                    show Steps p.tables e below (T101.setTop (mkF m 142 #[.val (.int p1), .val (.int p2), .val (.int p3), .val (.long q4), .second, .val (.int p5), .val (.long q6), .second, .val (.int rd), .val (.int ct), .val (.long ar), .second, .val (.int (1 : Int32)), .val (.int (0 : Int32)), .val (.int fn), .val (.int fq), .val (.int fr), .val (.int fs), .val (.ref b78), .val (.ref b86)] [(.int (q6.toInt32)), (.int (((q6.toInt32).toUInt32 >>> ((16 : Int32) &&& 31).toUInt32).toInt32)), (.int (((q6.toUInt64 >>> ((32 : Int32) &&& 0x3f).toInt64.toUInt64).toInt64).toInt32)), (.int (1 : Int32)), (.ref b78)])) _
                    refine X101.ldcInt hx hown (mvT hZ (hw _ (List.mem_of_getElem? (i := 0) rfl))) (g := (mkF m 142 #[.val (.int p1), .val (.int p2), .val (.int p3), .val (.long q4), .second, .val (.int p5), .val (.long q6), .second, .val (.int rd), .val (.int ct), .val (.long ar), .second, .val (.int (1 : Int32)), .val (.int (0 : Int32)), .val (.int fn), .val (.int fq), .val (.int fr), .val (.int fs), .val (.ref b78), .val (.ref b86)] [(.int (q6.toInt32)), (.int (((q6.toInt32).toUInt32 >>> ((16 : Int32) &&& 31).toUInt32).toInt32)), (.int (((q6.toUInt64 >>> ((32 : Int32) &&& 0x3f).toInt64.toUInt64).toInt64).toInt32)), (.int (1 : Int32)), (.ref b78)])) rfl (hb hby at_142) _ ?_
                    show Steps p.tables e below (T101.setTop (mkF m 144 #[.val (.int p1), .val (.int p2), .val (.int p3), .val (.long q4), .second, .val (.int p5), .val (.long q6), .second, .val (.int rd), .val (.int ct), .val (.long ar), .second, .val (.int (1 : Int32)), .val (.int (0 : Int32)), .val (.int fn), .val (.int fq), .val (.int fr), .val (.int fs), .val (.ref b78), .val (.ref b86)] [(.int (65535 : Int32)), (.int (q6.toInt32)), (.int (((q6.toInt32).toUInt32 >>> ((16 : Int32) &&& 31).toUInt32).toInt32)), (.int (((q6.toUInt64 >>> ((32 : Int32) &&& 0x3f).toInt64.toUInt64).toInt64).toInt32)), (.int (1 : Int32)), (.ref b78)])) _
                    refine XS.iand X101.here hx rfl (hb hby at_144) rfl ?_
                    refine XS.lload X101.here hx rfl (hb hby at_145) rfl ?_
                    refine XS.iconst X101.here hx rfl (hb hby at_147) ?_
                    refine XS.lushr X101.here hx rfl (hb hby at_148) rfl ?_
                    show Steps p.tables e below (T101.setTop (mkF m 149 #[.val (.int p1), .val (.int p2), .val (.int p3), .val (.long q4), .second, .val (.int p5), .val (.long q6), .second, .val (.int rd), .val (.int ct), .val (.long ar), .second, .val (.int (1 : Int32)), .val (.int (0 : Int32)), .val (.int fn), .val (.int fq), .val (.int fr), .val (.int fs), .val (.ref b78), .val (.ref b86)] [(.long ((q6.toUInt64 >>> ((5 : Int32) &&& 0x3f).toInt64.toUInt64).toInt64)), (.int ((q6.toInt32) &&& (65535 : Int32))), (.int (((q6.toInt32).toUInt32 >>> ((16 : Int32) &&& 31).toUInt32).toInt32)), (.int (((q6.toUInt64 >>> ((32 : Int32) &&& 0x3f).toInt64.toUInt64).toInt64).toInt32)), (.int (1 : Int32)), (.ref b78)])) _
                    refine st112.trans ?_
                    show Steps p.tables e below (T112.setTop (mkF m 152 #[.val (.int p1), .val (.int p2), .val (.int p3), .val (.long q4), .second, .val (.int p5), .val (.long q6), .second, .val (.int rd), .val (.int ct), .val (.long ar), .second, .val (.int (1 : Int32)), .val (.int (0 : Int32)), .val (.int fn), .val (.int fq), .val (.int fr), .val (.int fs), .val (.ref b78), .val (.ref b86)] [])) _
                    refine XS.aload X112.here hx rfl (hb hby at_152) rfl rfl ?_
                    refine XS.iload X112.here hx rfl (hb hby at_154) rfl ?_
                    refine XS.iload X112.here hx rfl (hb hby at_156) rfl ?_
                    show Steps p.tables e below (T112.setTop (mkF m 158 #[.val (.int p1), .val (.int p2), .val (.int p3), .val (.long q4), .second, .val (.int p5), .val (.long q6), .second, .val (.int rd), .val (.int ct), .val (.long ar), .second, .val (.int (1 : Int32)), .val (.int (0 : Int32)), .val (.int fn), .val (.int fq), .val (.int fr), .val (.int fs), .val (.ref b78), .val (.ref b86)] [(.int fr), (.int (1 : Int32)), (.ref b78)])) _
                    refine st115.trans ?_
                    show Steps p.tables e below (T115.setTop (mkF m 161 #[.val (.int p1), .val (.int p2), .val (.int p3), .val (.long q4), .second, .val (.int p5), .val (.long q6), .second, .val (.int rd), .val (.int ct), .val (.long ar), .second, .val (.int (1 : Int32)), .val (.int (0 : Int32)), .val (.int fn), .val (.int fq), .val (.int fr), .val (.int fs), .val (.ref b78), .val (.ref b86)] [])) _
                    refine XS.aload X115.here hx rfl (hb hby at_161) rfl rfl ?_
                    refine XS.aload X115.here hx rfl (hb hby at_163) rfl rfl ?_
                    show Steps p.tables e below (T115.setTop (mkF m 165 #[.val (.int p1), .val (.int p2), .val (.int p3), .val (.long q4), .second, .val (.int p5), .val (.long q6), .second, .val (.int rd), .val (.int ct), .val (.long ar), .second, .val (.int (1 : Int32)), .val (.int (0 : Int32)), .val (.int fn), .val (.int fq), .val (.int fr), .val (.int fs), .val (.ref b78), .val (.ref b86)] [(.ref b86), (.ref b78)])) _
                    refine st117.trans ?_
                    show Steps p.tables e below (T117.setTop (mkF m 168 #[.val (.int p1), .val (.int p2), .val (.int p3), .val (.long q4), .second, .val (.int p5), .val (.long q6), .second, .val (.int rd), .val (.int ct), .val (.long ar), .second, .val (.int (1 : Int32)), .val (.int (0 : Int32)), .val (.int fn), .val (.int fq), .val (.int fr), .val (.int fs), .val (.ref b78), .val (.ref b86)] [])) _
                    refine XS.aload X117.here hx rfl (hb hby at_168) rfl rfl ?_
                    refine XS.iload X117.here hx rfl (hb hby at_170) rfl ?_
                    refine XS.iload X117.here hx rfl (hb hby at_172) rfl ?_
                    show Steps p.tables e below (T117.setTop (mkF m 174 #[.val (.int p1), .val (.int p2), .val (.int p3), .val (.long q4), .second, .val (.int p5), .val (.long q6), .second, .val (.int rd), .val (.int ct), .val (.long ar), .second, .val (.int (1 : Int32)), .val (.int (0 : Int32)), .val (.int fn), .val (.int fq), .val (.int fr), .val (.int fs), .val (.ref b78), .val (.ref b86)] [(.int fq), (.int (1 : Int32)), (.ref b78)])) _
                    refine st119.trans ?_
                    show Steps p.tables e below (T119.setTop (mkF m 177 #[.val (.int p1), .val (.int p2), .val (.int p3), .val (.long q4), .second, .val (.int p5), .val (.long q6), .second, .val (.int rd), .val (.int ct), .val (.long ar), .second, .val (.int (1 : Int32)), .val (.int (0 : Int32)), .val (.int fn), .val (.int fq), .val (.int fr), .val (.int fs), .val (.ref b78), .val (.ref b86)] [])) _
                    refine XS.aload X119.here hx rfl (hb hby at_177) rfl rfl ?_
                    refine XS.iload X119.here hx rfl (hb hby at_179) rfl ?_
                    refine XS.iload X119.here hx rfl (hb hby at_181) rfl ?_
                    show Steps p.tables e below (T119.setTop (mkF m 183 #[.val (.int p1), .val (.int p2), .val (.int p3), .val (.long q4), .second, .val (.int p5), .val (.long q6), .second, .val (.int rd), .val (.int ct), .val (.long ar), .second, .val (.int (1 : Int32)), .val (.int (0 : Int32)), .val (.int fn), .val (.int fq), .val (.int fr), .val (.int fs), .val (.ref b78), .val (.ref b86)] [(.int fn), (.int (1 : Int32)), (.ref b78)])) _
                    refine st121.trans ?_
                    show Steps p.tables e below (T121.setTop (mkF m 186 #[.val (.int p1), .val (.int p2), .val (.int p3), .val (.long q4), .second, .val (.int p5), .val (.long q6), .second, .val (.int rd), .val (.int ct), .val (.long ar), .second, .val (.int (1 : Int32)), .val (.int (0 : Int32)), .val (.int fn), .val (.int fq), .val (.int fr), .val (.int fs), .val (.ref b78), .val (.ref b86)] [])) _
                    refine XS.aload X121.here hx rfl (hb hby at_186) rfl rfl ?_
                    refine XS.iload X121.here hx rfl (hb hby at_188) rfl ?_
                    refine XS.iload X121.here hx rfl (hb hby at_190) rfl ?_
                    show Steps p.tables e below (T121.setTop (mkF m 192 #[.val (.int p1), .val (.int p2), .val (.int p3), .val (.long q4), .second, .val (.int p5), .val (.long q6), .second, .val (.int rd), .val (.int ct), .val (.long ar), .second, .val (.int (1 : Int32)), .val (.int (0 : Int32)), .val (.int fn), .val (.int fq), .val (.int fr), .val (.int fs), .val (.ref b78), .val (.ref b86)] [(.int fs), (.int (1 : Int32)), (.ref b78)])) _
                    refine st123.trans ?_
                    show Steps p.tables e below (T123.setTop (mkF m 195 #[.val (.int p1), .val (.int p2), .val (.int p3), .val (.long q4), .second, .val (.int p5), .val (.long q6), .second, .val (.int rd), .val (.int ct), .val (.long ar), .second, .val (.int (1 : Int32)), .val (.int (0 : Int32)), .val (.int fn), .val (.int fq), .val (.int fr), .val (.int fs), .val (.ref b78), .val (.ref b86)] [])) _
                    refine XS.aload X123.here hx rfl (hb hby at_195) rfl rfl ?_
                    refine XS.iload X123.here hx rfl (hb hby at_197) rfl ?_
                    refine XS.iloadN X123.here hx rfl (hb hby at_199) rfl ?_
                    refine XS.iload X123.here hx rfl (hb hby at_200) rfl ?_
                    refine XS.iload X123.here hx rfl (hb hby at_202) rfl ?_
                    refine XS.lload X123.here hx rfl (hb hby at_204) rfl ?_
                    show Steps p.tables e below (T123.setTop (mkF m 206 #[.val (.int p1), .val (.int p2), .val (.int p3), .val (.long q4), .second, .val (.int p5), .val (.long q6), .second, .val (.int rd), .val (.int ct), .val (.long ar), .second, .val (.int (1 : Int32)), .val (.int (0 : Int32)), .val (.int fn), .val (.int fq), .val (.int fr), .val (.int fs), .val (.ref b78), .val (.ref b86)] [(.long ar), (.int ct), (.int rd), (.int p1), (.int (1 : Int32)), (.ref b78)])) _
                    refine st125.trans ?_
                    show Steps p.tables e below (T125.setTop (mkF m 209 #[.val (.int p1), .val (.int p2), .val (.int p3), .val (.long q4), .second, .val (.int p5), .val (.long q6), .second, .val (.int rd), .val (.int ct), .val (.long ar), .second, .val (.int (1 : Int32)), .val (.int (0 : Int32)), .val (.int fn), .val (.int fq), .val (.int fr), .val (.int fs), .val (.ref b78), .val (.ref b86)] [])) _
                    refine XS.aload X125.here hx rfl (hb hby at_209) rfl rfl ?_
                    refine XS.iload X125.here hx rfl (hb hby at_211) rfl ?_
                    show Steps p.tables e below (T125.setTop (mkF m 213 #[.val (.int p1), .val (.int p2), .val (.int p3), .val (.long q4), .second, .val (.int p5), .val (.long q6), .second, .val (.int rd), .val (.int ct), .val (.long ar), .second, .val (.int (1 : Int32)), .val (.int (0 : Int32)), .val (.int fn), .val (.int fq), .val (.int fr), .val (.int fs), .val (.ref b78), .val (.ref b86)] [(.int (1 : Int32)), (.ref b78)])) _
                    refine st128.trans ?_
                    show Steps p.tables e below (T128.setTop (mkF m 216 #[.val (.int p1), .val (.int p2), .val (.int p3), .val (.long q4), .second, .val (.int p5), .val (.long q6), .second, .val (.int rd), .val (.int ct), .val (.long ar), .second, .val (.int (1 : Int32)), .val (.int (0 : Int32)), .val (.int fn), .val (.int fq), .val (.int fr), .val (.int fs), .val (.ref b78), .val (.ref b86)] [(.int (own_inc (1 : Int32) (own_b0_g126 p1 p2 p3 q4 p5 q6 rd ct ar pos fn fq fr fs)))])) _
                    refine XS.iloadN X128.here hx rfl (hb hby at_216) rfl ?_
                    exact kt
                  show own_End p e below s (T128.setTop (mkF m 217 #[.val (.int p1), .val (.int p2), .val (.int p3), .val (.long q4), .second, .val (.int p5), .val (.long q6), .second, .val (.int rd), .val (.int ct), .val (.long ar), .second, .val (.int (1 : Int32)), .val (.int (0 : Int32)), .val (.int fn), .val (.int fq), .val (.int fr), .val (.int fs), .val (.ref b78), .val (.ref b86)] [(.int p1), (.int (own_inc (1 : Int32) (own_b0_g126 p1 p2 p3 q4 p5 q6 rd ct ar pos fn fq fr fs)))])) (Q0 Z p1 p2 p3 q4 p5 q6 h0 n0) room_1.cells room_1.slots
                  by_cases hc217_129 : (own_inc (1 : Int32) (own_b0_g126 p1 p2 p3 q4 p5 q6 rd ct ar pos fn fq fr fs)) = p1
                  · obtain ⟨cq130, kq130, q130a, q130b, q130c⟩ := isOf hZ e128 fE_b78_x125
                    obtain ⟨_, _, ⟨T130, L130, k130, n130⟩, -, X130, ⟨Lc130, hQ130, l130, y130, z130⟩, st130⟩ := X128.virtualBack hx (y := (⟨"com/example/atoll/atoll/detect/HeldOrigins", "round", "(I)I"⟩ : MethodName)) (z := (⟨"com/example/atoll/atoll/detect/HeldOrigins", "round", "(I)I"⟩ : MethodName)) hown (mvT hZ (hw _ (List.mem_of_getElem? (i := 94) rfl))) (mvT hZ (hw _ (List.mem_of_getElem? (i := 95) rfl))) (notFace_of_selects (args := #[]) (mvT hZ (hw _ (List.mem_of_getElem? (i := 97) rfl)))) (mvT hZ (hw _ (List.mem_of_getElem? (i := 97) rfl))) (mvT hZ (hw _ (List.mem_of_getElem? (i := 96) rfl))) (by decide) (backOf (W := 0) (rm15 l Z a0 hw [] b78 (1 : Int32) c79_xi c79_xn c79_xs c79_xm (2 : Int32) (own_b0_g126 p1 p2 p3 q4 p5 q6 rd ct ar pos fn fq fr fs) T125.heap n0 Z125 ⟨fE_b78_x125, fF_b78_ids_x125, fF_b78_newest_x125, fF_b78_state_x125, fF_b78_mismatches_x125, fF_b78_size_x125⟩ V125_0a (by decide) (by decide)) hZ (hw _ (List.mem_of_getElem? (i := 98) rfl)) (hw _ (List.mem_of_getElem? (i := 4) rfl)) (by decide) (by decide)) q130a q130c (g := (mkF m 224 #[.val (.int p1), .val (.int p2), .val (.int p3), .val (.long q4), .second, .val (.int p5), .val (.long q6), .second, .val (.int rd), .val (.int ct), .val (.long ar), .second, .val (.int (1 : Int32)), .val (.int (0 : Int32)), .val (.int fn), .val (.int fq), .val (.int fr), .val (.int fs), .val (.ref b78), .val (.ref b86)] [(.int (1 : Int32)), (.ref b78)])) rfl (by rw [hml]; rfl) (Steps.refl _) (argsL := [(.int (1 : Int32))]) (rest := []) (lenOf pd_0_6 rfl) rfl (by show 2 * 0 + _ ≤ _; exact Nat.le_of_eq rfl) (hb hby at_224) (fun _ _ => ⟨rfl, e128, (by decide : 10 + 0 ≤ _), (by decide : 82 + 0 ≤ _)⟩)
                    dsimp only [Pt.U, Pt.locs, Pt.cells, Pt.slots] at X130 l130 y130 z130 st130 hQ130
                    subst l130 y130 z130
                    obtain ⟨rfl, N130q, e130⟩ := hQ130
                    have N130 := Fr.app N128 N130q
                    refine own_pre (A := T130.setTop (mkF m 229 #[.val (.int p1), .val (.int p2), .val (.int p3), .val (.long q4), .second, .val (.int p5), .val (.long q6), .second, .val (.int rd), .val (.int ct), .val (.long ar), .second, .val (.int (1 : Int32)), .val (.int (0 : Int32)), .val (.int fn), .val (.int fq), .val (.int fr), .val (.int fs), .val (.ref b78), .val (.ref b86)] [(.int rd), (.int (own_rnd (1 : Int32) (own_b0_g126 p1 p2 p3 q4 p5 q6 rd ct ar pos fn fq fr fs)))])) (fun tt kt => ?_) ?_
                    · show Steps p.tables e below (T128.setTop (mkF m 217 #[.val (.int p1), .val (.int p2), .val (.int p3), .val (.long q4), .second, .val (.int p5), .val (.long q6), .second, .val (.int rd), .val (.int ct), .val (.long ar), .second, .val (.int (1 : Int32)), .val (.int (0 : Int32)), .val (.int fn), .val (.int fq), .val (.int fr), .val (.int fs), .val (.ref b78), .val (.ref b86)] [(.int p1), (.int (own_inc (1 : Int32) (own_b0_g126 p1 p2 p3 q4 p5 q6 rd ct ar pos fn fq fr fs)))])) _
                      refine XS.icmpNo X128.here hx rfl (hb hby at_217) rfl (teq hc217_129).2 ?_
                      refine XS.aload X128.here hx rfl (hb hby at_220) rfl rfl ?_
                      refine XS.iload X128.here hx rfl (hb hby at_222) rfl ?_
                      show Steps p.tables e below (T128.setTop (mkF m 224 #[.val (.int p1), .val (.int p2), .val (.int p3), .val (.long q4), .second, .val (.int p5), .val (.long q6), .second, .val (.int rd), .val (.int ct), .val (.long ar), .second, .val (.int (1 : Int32)), .val (.int (0 : Int32)), .val (.int fn), .val (.int fq), .val (.int fr), .val (.int fs), .val (.ref b78), .val (.ref b86)] [(.int (1 : Int32)), (.ref b78)])) _
                      refine st130.trans ?_
                      show Steps p.tables e below (T130.setTop (mkF m 227 #[.val (.int p1), .val (.int p2), .val (.int p3), .val (.long q4), .second, .val (.int p5), .val (.long q6), .second, .val (.int rd), .val (.int ct), .val (.long ar), .second, .val (.int (1 : Int32)), .val (.int (0 : Int32)), .val (.int fn), .val (.int fq), .val (.int fr), .val (.int fs), .val (.ref b78), .val (.ref b86)] [(.int (own_rnd (1 : Int32) (own_b0_g126 p1 p2 p3 q4 p5 q6 rd ct ar pos fn fq fr fs)))])) _
                      refine XS.iload X130.here hx rfl (hb hby at_227) rfl ?_
                      exact kt
                    show own_End p e below s (T130.setTop (mkF m 229 #[.val (.int p1), .val (.int p2), .val (.int p3), .val (.long q4), .second, .val (.int p5), .val (.long q6), .second, .val (.int rd), .val (.int ct), .val (.long ar), .second, .val (.int (1 : Int32)), .val (.int (0 : Int32)), .val (.int fn), .val (.int fq), .val (.int fr), .val (.int fs), .val (.ref b78), .val (.ref b86)] [(.int rd), (.int (own_rnd (1 : Int32) (own_b0_g126 p1 p2 p3 q4 p5 q6 rd ct ar pos fn fq fr fs)))])) (Q0 Z p1 p2 p3 q4 p5 q6 h0 n0) room_1.cells room_1.slots
                    by_cases hc229_131 : (own_rnd (1 : Int32) (own_b0_g126 p1 p2 p3 q4 p5 q6 rd ct ar pos fn fq fr fs)) = rd
                    · obtain ⟨cq132, kq132, q132a, q132b, q132c⟩ := isOf hZ e130 fE_b78_x125
                      obtain ⟨_, _, ⟨T132, L132, k132, n132⟩, -, X132, ⟨Lc132, hQ132, l132, y132, z132⟩, st132⟩ := X130.virtualBack hx (y := (⟨"com/example/atoll/atoll/detect/HeldOrigins", "heard", "(I)I"⟩ : MethodName)) (z := (⟨"com/example/atoll/atoll/detect/HeldOrigins", "heard", "(I)I"⟩ : MethodName)) hown (mvT hZ (hw _ (List.mem_of_getElem? (i := 102) rfl))) (mvT hZ (hw _ (List.mem_of_getElem? (i := 103) rfl))) (notFace_of_selects (args := #[]) (mvT hZ (hw _ (List.mem_of_getElem? (i := 105) rfl)))) (mvT hZ (hw _ (List.mem_of_getElem? (i := 105) rfl))) (mvT hZ (hw _ (List.mem_of_getElem? (i := 104) rfl))) (by decide) (backOf (W := 0) (rm17 l Z a0 hw [] b78 (1 : Int32) c79_xi c79_xn c79_xs c79_xm (2 : Int32) (own_b0_g126 p1 p2 p3 q4 p5 q6 rd ct ar pos fn fq fr fs) T125.heap n0 Z125 ⟨fE_b78_x125, fF_b78_ids_x125, fF_b78_newest_x125, fF_b78_state_x125, fF_b78_mismatches_x125, fF_b78_size_x125⟩ V125_0a (by decide) (by decide)) hZ (hw _ (List.mem_of_getElem? (i := 106) rfl)) (hw _ (List.mem_of_getElem? (i := 4) rfl)) (by decide) (by decide)) q132a q132c (g := (mkF m 236 #[.val (.int p1), .val (.int p2), .val (.int p3), .val (.long q4), .second, .val (.int p5), .val (.long q6), .second, .val (.int rd), .val (.int ct), .val (.long ar), .second, .val (.int (1 : Int32)), .val (.int (0 : Int32)), .val (.int fn), .val (.int fq), .val (.int fr), .val (.int fs), .val (.ref b78), .val (.ref b86)] [(.int (1 : Int32)), (.ref b78)])) rfl (by rw [hml]; rfl) (Steps.refl _) (argsL := [(.int (1 : Int32))]) (rest := []) (lenOf pd_0_6 rfl) rfl (by show 2 * 0 + _ ≤ _; exact Nat.le_of_eq rfl) (hb hby at_236) (fun _ _ => ⟨rfl, e130, (by decide : 10 + 0 ≤ _), (by decide : 82 + 0 ≤ _)⟩)
                      dsimp only [Pt.U, Pt.locs, Pt.cells, Pt.slots] at X132 l132 y132 z132 st132 hQ132
                      subst l132 y132 z132
                      obtain ⟨rfl, N132q, e132⟩ := hQ132
                      have N132 := Fr.app N130 N132q
                      refine own_pre (A := T132.setTop (mkF m 241 #[.val (.int p1), .val (.int p2), .val (.int p3), .val (.long q4), .second, .val (.int p5), .val (.long q6), .second, .val (.int rd), .val (.int ct), .val (.long ar), .second, .val (.int (1 : Int32)), .val (.int (0 : Int32)), .val (.int fn), .val (.int fq), .val (.int fr), .val (.int fs), .val (.ref b78), .val (.ref b86)] [(.int ct), (.int (own_hrd (1 : Int32) (own_b0_g126 p1 p2 p3 q4 p5 q6 rd ct ar pos fn fq fr fs)))])) (fun tt kt => ?_) ?_
                      · show Steps p.tables e below (T130.setTop (mkF m 229 #[.val (.int p1), .val (.int p2), .val (.int p3), .val (.long q4), .second, .val (.int p5), .val (.long q6), .second, .val (.int rd), .val (.int ct), .val (.long ar), .second, .val (.int (1 : Int32)), .val (.int (0 : Int32)), .val (.int fn), .val (.int fq), .val (.int fr), .val (.int fs), .val (.ref b78), .val (.ref b86)] [(.int rd), (.int (own_rnd (1 : Int32) (own_b0_g126 p1 p2 p3 q4 p5 q6 rd ct ar pos fn fq fr fs)))])) _
                        refine XS.icmpNo X130.here hx rfl (hb hby at_229) rfl (teq hc229_131).2 ?_
                        refine XS.aload X130.here hx rfl (hb hby at_232) rfl rfl ?_
                        refine XS.iload X130.here hx rfl (hb hby at_234) rfl ?_
                        show Steps p.tables e below (T130.setTop (mkF m 236 #[.val (.int p1), .val (.int p2), .val (.int p3), .val (.long q4), .second, .val (.int p5), .val (.long q6), .second, .val (.int rd), .val (.int ct), .val (.long ar), .second, .val (.int (1 : Int32)), .val (.int (0 : Int32)), .val (.int fn), .val (.int fq), .val (.int fr), .val (.int fs), .val (.ref b78), .val (.ref b86)] [(.int (1 : Int32)), (.ref b78)])) _
                        refine st132.trans ?_
                        show Steps p.tables e below (T132.setTop (mkF m 239 #[.val (.int p1), .val (.int p2), .val (.int p3), .val (.long q4), .second, .val (.int p5), .val (.long q6), .second, .val (.int rd), .val (.int ct), .val (.long ar), .second, .val (.int (1 : Int32)), .val (.int (0 : Int32)), .val (.int fn), .val (.int fq), .val (.int fr), .val (.int fs), .val (.ref b78), .val (.ref b86)] [(.int (own_hrd (1 : Int32) (own_b0_g126 p1 p2 p3 q4 p5 q6 rd ct ar pos fn fq fr fs)))])) _
                        refine XS.iload X132.here hx rfl (hb hby at_239) rfl ?_
                        exact kt
                      show own_End p e below s (T132.setTop (mkF m 241 #[.val (.int p1), .val (.int p2), .val (.int p3), .val (.long q4), .second, .val (.int p5), .val (.long q6), .second, .val (.int rd), .val (.int ct), .val (.long ar), .second, .val (.int (1 : Int32)), .val (.int (0 : Int32)), .val (.int fn), .val (.int fq), .val (.int fr), .val (.int fs), .val (.ref b78), .val (.ref b86)] [(.int ct), (.int (own_hrd (1 : Int32) (own_b0_g126 p1 p2 p3 q4 p5 q6 rd ct ar pos fn fq fr fs)))])) (Q0 Z p1 p2 p3 q4 p5 q6 h0 n0) room_1.cells room_1.slots
                      by_cases hc241_133 : (own_hrd (1 : Int32) (own_b0_g126 p1 p2 p3 q4 p5 q6 rd ct ar pos fn fq fr fs)) = ct
                      · obtain ⟨cq134, kq134, q134a, q134b, q134c⟩ := isOf hZ e132 fE_b78_x125
                        obtain ⟨_, _, ⟨T134, L134, k134, n134⟩, -, X134, ⟨Lc134, hQ134, l134, y134, z134⟩, st134⟩ := X132.virtualBack hx (y := (⟨"com/example/atoll/atoll/detect/HeldOrigins", "arrived", "(I)J"⟩ : MethodName)) (z := (⟨"com/example/atoll/atoll/detect/HeldOrigins", "arrived", "(I)J"⟩ : MethodName)) hown (mvT hZ (hw _ (List.mem_of_getElem? (i := 108) rfl))) (mvT hZ (hw _ (List.mem_of_getElem? (i := 109) rfl))) (notFace_of_selects (args := #[]) (mvT hZ (hw _ (List.mem_of_getElem? (i := 111) rfl)))) (mvT hZ (hw _ (List.mem_of_getElem? (i := 111) rfl))) (mvT hZ (hw _ (List.mem_of_getElem? (i := 110) rfl))) (by decide) (backOf (W := 0) (rm18 l Z a0 hw [] b78 (1 : Int32) c79_xi c79_xn c79_xs c79_xm (2 : Int32) (own_b0_g127 p1 p2 p3 q4 p5 q6 rd ct ar pos fn fq fr fs) T125.heap n0 Z125 ⟨fE_b78_x125, fF_b78_ids_x125, fF_b78_newest_x125, fF_b78_state_x125, fF_b78_mismatches_x125, fF_b78_size_x125⟩ V125_1a (by decide) (by decide)) hZ (hw _ (List.mem_of_getElem? (i := 112) rfl)) (hw _ (List.mem_of_getElem? (i := 4) rfl)) (by decide) (by decide)) q134a q134c (g := (mkF m 248 #[.val (.int p1), .val (.int p2), .val (.int p3), .val (.long q4), .second, .val (.int p5), .val (.long q6), .second, .val (.int rd), .val (.int ct), .val (.long ar), .second, .val (.int (1 : Int32)), .val (.int (0 : Int32)), .val (.int fn), .val (.int fq), .val (.int fr), .val (.int fs), .val (.ref b78), .val (.ref b86)] [(.int (1 : Int32)), (.ref b78)])) rfl (by rw [hml]; rfl) (Steps.refl _) (argsL := [(.int (1 : Int32))]) (rest := []) (lenOf pd_0_7 rfl) rfl (by show 2 * 0 + _ ≤ _; exact Nat.le_of_eq rfl) (hb hby at_248) (fun _ _ => ⟨rfl, e132, (by decide : 10 + 0 ≤ _), (by decide : 82 + 0 ≤ _)⟩)
                        dsimp only [Pt.U, Pt.locs, Pt.cells, Pt.slots] at X134 l134 y134 z134 st134 hQ134
                        subst l134 y134 z134
                        obtain ⟨rfl, N134q, e134⟩ := hQ134
                        have N134 := Fr.app N132 N134q
                        refine own_pre (A := T134.setTop (mkF m 254 #[.val (.int p1), .val (.int p2), .val (.int p3), .val (.long q4), .second, .val (.int p5), .val (.long q6), .second, .val (.int rd), .val (.int ct), .val (.long ar), .second, .val (.int (1 : Int32)), .val (.int (0 : Int32)), .val (.int fn), .val (.int fq), .val (.int fr), .val (.int fs), .val (.ref b78), .val (.ref b86)] [(.int (lcmpW (own_arr (1 : Int32) (own_b0_g127 p1 p2 p3 q4 p5 q6 rd ct ar pos fn fq fr fs)) ar))])) (fun tt kt => ?_) ?_
                        · show Steps p.tables e below (T132.setTop (mkF m 241 #[.val (.int p1), .val (.int p2), .val (.int p3), .val (.long q4), .second, .val (.int p5), .val (.long q6), .second, .val (.int rd), .val (.int ct), .val (.long ar), .second, .val (.int (1 : Int32)), .val (.int (0 : Int32)), .val (.int fn), .val (.int fq), .val (.int fr), .val (.int fs), .val (.ref b78), .val (.ref b86)] [(.int ct), (.int (own_hrd (1 : Int32) (own_b0_g126 p1 p2 p3 q4 p5 q6 rd ct ar pos fn fq fr fs)))])) _
                          refine XS.icmpNo X132.here hx rfl (hb hby at_241) rfl (teq hc241_133).2 ?_
                          refine XS.aload X132.here hx rfl (hb hby at_244) rfl rfl ?_
                          refine XS.iload X132.here hx rfl (hb hby at_246) rfl ?_
                          show Steps p.tables e below (T132.setTop (mkF m 248 #[.val (.int p1), .val (.int p2), .val (.int p3), .val (.long q4), .second, .val (.int p5), .val (.long q6), .second, .val (.int rd), .val (.int ct), .val (.long ar), .second, .val (.int (1 : Int32)), .val (.int (0 : Int32)), .val (.int fn), .val (.int fq), .val (.int fr), .val (.int fs), .val (.ref b78), .val (.ref b86)] [(.int (1 : Int32)), (.ref b78)])) _
                          refine st134.trans ?_
                          show Steps p.tables e below (T134.setTop (mkF m 251 #[.val (.int p1), .val (.int p2), .val (.int p3), .val (.long q4), .second, .val (.int p5), .val (.long q6), .second, .val (.int rd), .val (.int ct), .val (.long ar), .second, .val (.int (1 : Int32)), .val (.int (0 : Int32)), .val (.int fn), .val (.int fq), .val (.int fr), .val (.int fs), .val (.ref b78), .val (.ref b86)] [(.long (own_arr (1 : Int32) (own_b0_g127 p1 p2 p3 q4 p5 q6 rd ct ar pos fn fq fr fs)))])) _
                          refine XS.lload X134.here hx rfl (hb hby at_251) rfl ?_
                          refine XS.lcmp X134.here hx rfl (hb hby at_253) rfl ?_
                          exact kt
                        show own_End p e below s (T134.setTop (mkF m 254 #[.val (.int p1), .val (.int p2), .val (.int p3), .val (.long q4), .second, .val (.int p5), .val (.long q6), .second, .val (.int rd), .val (.int ct), .val (.long ar), .second, .val (.int (1 : Int32)), .val (.int (0 : Int32)), .val (.int fn), .val (.int fq), .val (.int fr), .val (.int fs), .val (.ref b78), .val (.ref b86)] [(.int (lcmpW (own_arr (1 : Int32) (own_b0_g127 p1 p2 p3 q4 p5 q6 rd ct ar pos fn fq fr fs)) ar))])) (Q0 Z p1 p2 p3 q4 p5 q6 h0 n0) room_1.cells room_1.slots
                        by_cases hc254_135 : (own_arr (1 : Int32) (own_b0_g127 p1 p2 p3 q4 p5 q6 rd ct ar pos fn fq fr fs)) = ar
                        · obtain ⟨cq136, kq136, q136a, q136b, q136c⟩ := isOf hZ e134 fE_b78_x125
                          obtain ⟨_, _, ⟨T136, L136, k136, n136⟩, -, X136, ⟨Lc136, hQ136, l136, y136, z136⟩, st136⟩ := X134.virtualBack hx (y := (⟨"com/example/atoll/atoll/detect/HeldOrigins", "named", "(I)Z"⟩ : MethodName)) (z := (⟨"com/example/atoll/atoll/detect/HeldOrigins", "named", "(I)Z"⟩ : MethodName)) hown (mvT hZ (hw _ (List.mem_of_getElem? (i := 113) rfl))) (mvT hZ (hw _ (List.mem_of_getElem? (i := 114) rfl))) (notFace_of_selects (args := #[]) (mvT hZ (hw _ (List.mem_of_getElem? (i := 116) rfl)))) (mvT hZ (hw _ (List.mem_of_getElem? (i := 116) rfl))) (mvT hZ (hw _ (List.mem_of_getElem? (i := 115) rfl))) (by decide) (backOf (W := 0) (rm19 l Z a0 hw [] b78 (1 : Int32) c79_xi c79_xn c79_xs c79_xm (2 : Int32) (own_b0_g127 p1 p2 p3 q4 p5 q6 rd ct ar pos fn fq fr fs) T125.heap n0 Z125 ⟨fE_b78_x125, fF_b78_ids_x125, fF_b78_newest_x125, fF_b78_state_x125, fF_b78_mismatches_x125, fF_b78_size_x125⟩ V125_1a (by decide) (by decide)) hZ (hw _ (List.mem_of_getElem? (i := 117) rfl)) (hw _ (List.mem_of_getElem? (i := 4) rfl)) (by decide) (by decide)) q136a q136c (g := (mkF m 261 #[.val (.int p1), .val (.int p2), .val (.int p3), .val (.long q4), .second, .val (.int p5), .val (.long q6), .second, .val (.int rd), .val (.int ct), .val (.long ar), .second, .val (.int (1 : Int32)), .val (.int (0 : Int32)), .val (.int fn), .val (.int fq), .val (.int fr), .val (.int fs), .val (.ref b78), .val (.ref b86)] [(.int (1 : Int32)), (.ref b78)])) rfl (by rw [hml]; rfl) (Steps.refl _) (argsL := [(.int (1 : Int32))]) (rest := []) (lenOf pd_0_8 rfl) rfl (by show 2 * 0 + _ ≤ _; exact Nat.le_of_eq rfl) (hb hby at_261) (fun _ _ => ⟨rfl, e134, (by decide : 10 + 0 ≤ _), (by decide : 82 + 0 ≤ _)⟩)
                          dsimp only [Pt.U, Pt.locs, Pt.cells, Pt.slots] at X136 l136 y136 z136 st136 hQ136
                          subst l136 y136 z136
                          obtain ⟨rfl, N136q, e136⟩ := hQ136
                          have N136 := Fr.app N134 N136q
                          refine own_pre (A := T136.setTop (mkF m 266 #[.val (.int p1), .val (.int p2), .val (.int p3), .val (.long q4), .second, .val (.int p5), .val (.long q6), .second, .val (.int rd), .val (.int ct), .val (.long ar), .second, .val (.int (1 : Int32)), .val (.int (0 : Int32)), .val (.int fn), .val (.int fq), .val (.int fr), .val (.int fs), .val (.ref b78), .val (.ref b86)] [(.int fn), (.int (own_named (1 : Int32) (own_b0_g127 p1 p2 p3 q4 p5 q6 rd ct ar pos fn fq fr fs)))])) (fun tt kt => ?_) ?_
                          · show Steps p.tables e below (T134.setTop (mkF m 254 #[.val (.int p1), .val (.int p2), .val (.int p3), .val (.long q4), .second, .val (.int p5), .val (.long q6), .second, .val (.int rd), .val (.int ct), .val (.long ar), .second, .val (.int (1 : Int32)), .val (.int (0 : Int32)), .val (.int fn), .val (.int fq), .val (.int fr), .val (.int fs), .val (.ref b78), .val (.ref b86)] [(.int (lcmpW (own_arr (1 : Int32) (own_b0_g127 p1 p2 p3 q4 p5 q6 rd ct ar pos fn fq fr fs)) ar))])) _
                            refine XS.ifNo X134.here hx rfl (hb hby at_254) rfl ((if0 _ _).trans (teq ((lw_eq (own_arr (1 : Int32) (own_b0_g127 p1 p2 p3 q4 p5 q6 rd ct ar pos fn fq fr fs)) ar).mpr hc254_135)).2) ?_
                            refine XS.aload X134.here hx rfl (hb hby at_257) rfl rfl ?_
                            refine XS.iload X134.here hx rfl (hb hby at_259) rfl ?_
                            show Steps p.tables e below (T134.setTop (mkF m 261 #[.val (.int p1), .val (.int p2), .val (.int p3), .val (.long q4), .second, .val (.int p5), .val (.long q6), .second, .val (.int rd), .val (.int ct), .val (.long ar), .second, .val (.int (1 : Int32)), .val (.int (0 : Int32)), .val (.int fn), .val (.int fq), .val (.int fr), .val (.int fs), .val (.ref b78), .val (.ref b86)] [(.int (1 : Int32)), (.ref b78)])) _
                            refine st136.trans ?_
                            show Steps p.tables e below (T136.setTop (mkF m 264 #[.val (.int p1), .val (.int p2), .val (.int p3), .val (.long q4), .second, .val (.int p5), .val (.long q6), .second, .val (.int rd), .val (.int ct), .val (.long ar), .second, .val (.int (1 : Int32)), .val (.int (0 : Int32)), .val (.int fn), .val (.int fq), .val (.int fr), .val (.int fs), .val (.ref b78), .val (.ref b86)] [(.int (own_named (1 : Int32) (own_b0_g127 p1 p2 p3 q4 p5 q6 rd ct ar pos fn fq fr fs)))])) _
                            refine XS.iload X136.here hx rfl (hb hby at_264) rfl ?_
                            exact kt
                          show own_End p e below s (T136.setTop (mkF m 266 #[.val (.int p1), .val (.int p2), .val (.int p3), .val (.long q4), .second, .val (.int p5), .val (.long q6), .second, .val (.int rd), .val (.int ct), .val (.long ar), .second, .val (.int (1 : Int32)), .val (.int (0 : Int32)), .val (.int fn), .val (.int fq), .val (.int fr), .val (.int fs), .val (.ref b78), .val (.ref b86)] [(.int fn), (.int (own_named (1 : Int32) (own_b0_g127 p1 p2 p3 q4 p5 q6 rd ct ar pos fn fq fr fs)))])) (Q0 Z p1 p2 p3 q4 p5 q6 h0 n0) room_1.cells room_1.slots
                          by_cases hc266_137 : (own_named (1 : Int32) (own_b0_g127 p1 p2 p3 q4 p5 q6 rd ct ar pos fn fq fr fs)) = fn
                          · obtain ⟨cq138, kq138, q138a, q138b, q138c⟩ := isOf hZ e136 fE_b78_x125
                            obtain ⟨_, _, ⟨T138, L138, k138, n138⟩, -, X138, ⟨Lc138, hQ138, l138, y138, z138⟩, st138⟩ := X136.virtualBack hx (y := (⟨"com/example/atoll/atoll/detect/HeldOrigins", "queued", "(I)Z"⟩ : MethodName)) (z := (⟨"com/example/atoll/atoll/detect/HeldOrigins", "queued", "(I)Z"⟩ : MethodName)) hown (mvT hZ (hw _ (List.mem_of_getElem? (i := 118) rfl))) (mvT hZ (hw _ (List.mem_of_getElem? (i := 119) rfl))) (notFace_of_selects (args := #[]) (mvT hZ (hw _ (List.mem_of_getElem? (i := 121) rfl)))) (mvT hZ (hw _ (List.mem_of_getElem? (i := 121) rfl))) (mvT hZ (hw _ (List.mem_of_getElem? (i := 120) rfl))) (by decide) (backOf (W := 0) (rm20 l Z a0 hw [] b78 (1 : Int32) c79_xi c79_xn c79_xs c79_xm (2 : Int32) (own_b0_g127 p1 p2 p3 q4 p5 q6 rd ct ar pos fn fq fr fs) T125.heap n0 Z125 ⟨fE_b78_x125, fF_b78_ids_x125, fF_b78_newest_x125, fF_b78_state_x125, fF_b78_mismatches_x125, fF_b78_size_x125⟩ V125_1a (by decide) (by decide)) hZ (hw _ (List.mem_of_getElem? (i := 122) rfl)) (hw _ (List.mem_of_getElem? (i := 4) rfl)) (by decide) (by decide)) q138a q138c (g := (mkF m 273 #[.val (.int p1), .val (.int p2), .val (.int p3), .val (.long q4), .second, .val (.int p5), .val (.long q6), .second, .val (.int rd), .val (.int ct), .val (.long ar), .second, .val (.int (1 : Int32)), .val (.int (0 : Int32)), .val (.int fn), .val (.int fq), .val (.int fr), .val (.int fs), .val (.ref b78), .val (.ref b86)] [(.int (1 : Int32)), (.ref b78)])) rfl (by rw [hml]; rfl) (Steps.refl _) (argsL := [(.int (1 : Int32))]) (rest := []) (lenOf pd_0_8 rfl) rfl (by show 2 * 0 + _ ≤ _; exact Nat.le_of_eq rfl) (hb hby at_273) (fun _ _ => ⟨rfl, e136, (by decide : 10 + 0 ≤ _), (by decide : 82 + 0 ≤ _)⟩)
                            dsimp only [Pt.U, Pt.locs, Pt.cells, Pt.slots] at X138 l138 y138 z138 st138 hQ138
                            subst l138 y138 z138
                            obtain ⟨rfl, N138q, e138⟩ := hQ138
                            have N138 := Fr.app N136 N138q
                            refine own_pre (A := T138.setTop (mkF m 278 #[.val (.int p1), .val (.int p2), .val (.int p3), .val (.long q4), .second, .val (.int p5), .val (.long q6), .second, .val (.int rd), .val (.int ct), .val (.long ar), .second, .val (.int (1 : Int32)), .val (.int (0 : Int32)), .val (.int fn), .val (.int fq), .val (.int fr), .val (.int fs), .val (.ref b78), .val (.ref b86)] [(.int fq), (.int (own_queued (1 : Int32) (own_b0_g127 p1 p2 p3 q4 p5 q6 rd ct ar pos fn fq fr fs)))])) (fun tt kt => ?_) ?_
                            · show Steps p.tables e below (T136.setTop (mkF m 266 #[.val (.int p1), .val (.int p2), .val (.int p3), .val (.long q4), .second, .val (.int p5), .val (.long q6), .second, .val (.int rd), .val (.int ct), .val (.long ar), .second, .val (.int (1 : Int32)), .val (.int (0 : Int32)), .val (.int fn), .val (.int fq), .val (.int fr), .val (.int fs), .val (.ref b78), .val (.ref b86)] [(.int fn), (.int (own_named (1 : Int32) (own_b0_g127 p1 p2 p3 q4 p5 q6 rd ct ar pos fn fq fr fs)))])) _
                              refine XS.icmpNo X136.here hx rfl (hb hby at_266) rfl (teq hc266_137).2 ?_
                              refine XS.aload X136.here hx rfl (hb hby at_269) rfl rfl ?_
                              refine XS.iload X136.here hx rfl (hb hby at_271) rfl ?_
                              show Steps p.tables e below (T136.setTop (mkF m 273 #[.val (.int p1), .val (.int p2), .val (.int p3), .val (.long q4), .second, .val (.int p5), .val (.long q6), .second, .val (.int rd), .val (.int ct), .val (.long ar), .second, .val (.int (1 : Int32)), .val (.int (0 : Int32)), .val (.int fn), .val (.int fq), .val (.int fr), .val (.int fs), .val (.ref b78), .val (.ref b86)] [(.int (1 : Int32)), (.ref b78)])) _
                              refine st138.trans ?_
                              show Steps p.tables e below (T138.setTop (mkF m 276 #[.val (.int p1), .val (.int p2), .val (.int p3), .val (.long q4), .second, .val (.int p5), .val (.long q6), .second, .val (.int rd), .val (.int ct), .val (.long ar), .second, .val (.int (1 : Int32)), .val (.int (0 : Int32)), .val (.int fn), .val (.int fq), .val (.int fr), .val (.int fs), .val (.ref b78), .val (.ref b86)] [(.int (own_queued (1 : Int32) (own_b0_g127 p1 p2 p3 q4 p5 q6 rd ct ar pos fn fq fr fs)))])) _
                              refine XS.iload X138.here hx rfl (hb hby at_276) rfl ?_
                              exact kt
                            show own_End p e below s (T138.setTop (mkF m 278 #[.val (.int p1), .val (.int p2), .val (.int p3), .val (.long q4), .second, .val (.int p5), .val (.long q6), .second, .val (.int rd), .val (.int ct), .val (.long ar), .second, .val (.int (1 : Int32)), .val (.int (0 : Int32)), .val (.int fn), .val (.int fq), .val (.int fr), .val (.int fs), .val (.ref b78), .val (.ref b86)] [(.int fq), (.int (own_queued (1 : Int32) (own_b0_g127 p1 p2 p3 q4 p5 q6 rd ct ar pos fn fq fr fs)))])) (Q0 Z p1 p2 p3 q4 p5 q6 h0 n0) room_1.cells room_1.slots
                            by_cases hc278_139 : (own_queued (1 : Int32) (own_b0_g127 p1 p2 p3 q4 p5 q6 rd ct ar pos fn fq fr fs)) = fq
                            · obtain ⟨cq140, kq140, q140a, q140b, q140c⟩ := isOf hZ e138 fE_b78_x125
                              obtain ⟨_, _, ⟨T140, L140, k140, n140⟩, -, X140, ⟨Lc140, hQ140, l140, y140, z140⟩, st140⟩ := X138.virtualBack hx (y := (⟨"com/example/atoll/atoll/detect/HeldOrigins", "relayed", "(I)Z"⟩ : MethodName)) (z := (⟨"com/example/atoll/atoll/detect/HeldOrigins", "relayed", "(I)Z"⟩ : MethodName)) hown (mvT hZ (hw _ (List.mem_of_getElem? (i := 123) rfl))) (mvT hZ (hw _ (List.mem_of_getElem? (i := 124) rfl))) (notFace_of_selects (args := #[]) (mvT hZ (hw _ (List.mem_of_getElem? (i := 126) rfl)))) (mvT hZ (hw _ (List.mem_of_getElem? (i := 126) rfl))) (mvT hZ (hw _ (List.mem_of_getElem? (i := 125) rfl))) (by decide) (backOf (W := 0) (rm21 l Z a0 hw [] b78 (1 : Int32) c79_xi c79_xn c79_xs c79_xm (2 : Int32) (own_b0_g127 p1 p2 p3 q4 p5 q6 rd ct ar pos fn fq fr fs) T125.heap n0 Z125 ⟨fE_b78_x125, fF_b78_ids_x125, fF_b78_newest_x125, fF_b78_state_x125, fF_b78_mismatches_x125, fF_b78_size_x125⟩ V125_1a (by decide) (by decide)) hZ (hw _ (List.mem_of_getElem? (i := 127) rfl)) (hw _ (List.mem_of_getElem? (i := 4) rfl)) (by decide) (by decide)) q140a q140c (g := (mkF m 285 #[.val (.int p1), .val (.int p2), .val (.int p3), .val (.long q4), .second, .val (.int p5), .val (.long q6), .second, .val (.int rd), .val (.int ct), .val (.long ar), .second, .val (.int (1 : Int32)), .val (.int (0 : Int32)), .val (.int fn), .val (.int fq), .val (.int fr), .val (.int fs), .val (.ref b78), .val (.ref b86)] [(.int (1 : Int32)), (.ref b78)])) rfl (by rw [hml]; rfl) (Steps.refl _) (argsL := [(.int (1 : Int32))]) (rest := []) (lenOf pd_0_8 rfl) rfl (by show 2 * 0 + _ ≤ _; exact Nat.le_of_eq rfl) (hb hby at_285) (fun _ _ => ⟨rfl, e138, (by decide : 10 + 0 ≤ _), (by decide : 82 + 0 ≤ _)⟩)
                              dsimp only [Pt.U, Pt.locs, Pt.cells, Pt.slots] at X140 l140 y140 z140 st140 hQ140
                              subst l140 y140 z140
                              obtain ⟨rfl, N140q, e140⟩ := hQ140
                              have N140 := Fr.app N138 N140q
                              refine own_pre (A := T140.setTop (mkF m 290 #[.val (.int p1), .val (.int p2), .val (.int p3), .val (.long q4), .second, .val (.int p5), .val (.long q6), .second, .val (.int rd), .val (.int ct), .val (.long ar), .second, .val (.int (1 : Int32)), .val (.int (0 : Int32)), .val (.int fn), .val (.int fq), .val (.int fr), .val (.int fs), .val (.ref b78), .val (.ref b86)] [(.int fr), (.int (own_relayed (1 : Int32) (own_b0_g127 p1 p2 p3 q4 p5 q6 rd ct ar pos fn fq fr fs)))])) (fun tt kt => ?_) ?_
                              · show Steps p.tables e below (T138.setTop (mkF m 278 #[.val (.int p1), .val (.int p2), .val (.int p3), .val (.long q4), .second, .val (.int p5), .val (.long q6), .second, .val (.int rd), .val (.int ct), .val (.long ar), .second, .val (.int (1 : Int32)), .val (.int (0 : Int32)), .val (.int fn), .val (.int fq), .val (.int fr), .val (.int fs), .val (.ref b78), .val (.ref b86)] [(.int fq), (.int (own_queued (1 : Int32) (own_b0_g127 p1 p2 p3 q4 p5 q6 rd ct ar pos fn fq fr fs)))])) _
                                refine XS.icmpNo X138.here hx rfl (hb hby at_278) rfl (teq hc278_139).2 ?_
                                refine XS.aload X138.here hx rfl (hb hby at_281) rfl rfl ?_
                                refine XS.iload X138.here hx rfl (hb hby at_283) rfl ?_
                                show Steps p.tables e below (T138.setTop (mkF m 285 #[.val (.int p1), .val (.int p2), .val (.int p3), .val (.long q4), .second, .val (.int p5), .val (.long q6), .second, .val (.int rd), .val (.int ct), .val (.long ar), .second, .val (.int (1 : Int32)), .val (.int (0 : Int32)), .val (.int fn), .val (.int fq), .val (.int fr), .val (.int fs), .val (.ref b78), .val (.ref b86)] [(.int (1 : Int32)), (.ref b78)])) _
                                refine st140.trans ?_
                                show Steps p.tables e below (T140.setTop (mkF m 288 #[.val (.int p1), .val (.int p2), .val (.int p3), .val (.long q4), .second, .val (.int p5), .val (.long q6), .second, .val (.int rd), .val (.int ct), .val (.long ar), .second, .val (.int (1 : Int32)), .val (.int (0 : Int32)), .val (.int fn), .val (.int fq), .val (.int fr), .val (.int fs), .val (.ref b78), .val (.ref b86)] [(.int (own_relayed (1 : Int32) (own_b0_g127 p1 p2 p3 q4 p5 q6 rd ct ar pos fn fq fr fs)))])) _
                                refine XS.iload X140.here hx rfl (hb hby at_288) rfl ?_
                                exact kt
                              show own_End p e below s (T140.setTop (mkF m 290 #[.val (.int p1), .val (.int p2), .val (.int p3), .val (.long q4), .second, .val (.int p5), .val (.long q6), .second, .val (.int rd), .val (.int ct), .val (.long ar), .second, .val (.int (1 : Int32)), .val (.int (0 : Int32)), .val (.int fn), .val (.int fq), .val (.int fr), .val (.int fs), .val (.ref b78), .val (.ref b86)] [(.int fr), (.int (own_relayed (1 : Int32) (own_b0_g127 p1 p2 p3 q4 p5 q6 rd ct ar pos fn fq fr fs)))])) (Q0 Z p1 p2 p3 q4 p5 q6 h0 n0) room_1.cells room_1.slots
                              by_cases hc290_141 : (own_relayed (1 : Int32) (own_b0_g127 p1 p2 p3 q4 p5 q6 rd ct ar pos fn fq fr fs)) = fr
                              · obtain ⟨cq142, kq142, q142a, q142b, q142c⟩ := isOf hZ e140 fE_b78_x125
                                obtain ⟨_, _, ⟨T142, L142, k142, n142⟩, -, X142, ⟨Lc142, hQ142, l142, y142, z142⟩, st142⟩ := X140.virtualBack hx (y := (⟨"com/example/atoll/atoll/detect/HeldOrigins", "anyHoldsSelf", "()Z"⟩ : MethodName)) (z := (⟨"com/example/atoll/atoll/detect/HeldOrigins", "anyHoldsSelf", "()Z"⟩ : MethodName)) hown (mvT hZ (hw _ (List.mem_of_getElem? (i := 128) rfl))) (mvT hZ (hw _ (List.mem_of_getElem? (i := 129) rfl))) (notFace_of_selects (args := #[]) (mvT hZ (hw _ (List.mem_of_getElem? (i := 131) rfl)))) (mvT hZ (hw _ (List.mem_of_getElem? (i := 131) rfl))) (mvT hZ (hw _ (List.mem_of_getElem? (i := 130) rfl))) (by decide) (backOf (W := 0) (rm22 l Z a0 hw [] b78 c79_xi c79_xn c79_xs c79_xm (own_b0_g127 p1 p2 p3 q4 p5 q6 rd ct ar pos fn fq fr fs) T125.heap n0 Z125 ⟨fE_b78_x125, fF_b78_ids_x125, fF_b78_newest_x125, fF_b78_state_x125, fF_b78_mismatches_x125, fF_b78_size_x125⟩ V125_1a) hZ (hw _ (List.mem_of_getElem? (i := 132) rfl)) (hw _ (List.mem_of_getElem? (i := 4) rfl)) (by decide) (by decide)) q142a q142c (g := (mkF m 295 #[.val (.int p1), .val (.int p2), .val (.int p3), .val (.long q4), .second, .val (.int p5), .val (.long q6), .second, .val (.int rd), .val (.int ct), .val (.long ar), .second, .val (.int (1 : Int32)), .val (.int (0 : Int32)), .val (.int fn), .val (.int fq), .val (.int fr), .val (.int fs), .val (.ref b78), .val (.ref b86)] [(.ref b78)])) rfl (by rw [hml]; rfl) (Steps.refl _) (argsL := []) (rest := []) (lenOf pd_0_9 rfl) rfl (by show 2 * 0 + _ ≤ _; exact Nat.le_of_eq rfl) (hb hby at_295) (fun _ _ => ⟨rfl, e140, (by decide : 10 + 0 ≤ _), (by decide : 82 + 0 ≤ _)⟩)
                                dsimp only [Pt.U, Pt.locs, Pt.cells, Pt.slots] at X142 l142 y142 z142 st142 hQ142
                                subst l142 y142 z142
                                obtain ⟨rfl, N142q, e142⟩ := hQ142
                                have N142 := Fr.app N140 N142q
                                refine own_pre (A := T142.setTop (mkF m 300 #[.val (.int p1), .val (.int p2), .val (.int p3), .val (.long q4), .second, .val (.int p5), .val (.long q6), .second, .val (.int rd), .val (.int ct), .val (.long ar), .second, .val (.int (1 : Int32)), .val (.int (0 : Int32)), .val (.int fn), .val (.int fq), .val (.int fr), .val (.int fs), .val (.ref b78), .val (.ref b86)] [(.int fs), (.int (own_any (own_b0_g127 p1 p2 p3 q4 p5 q6 rd ct ar pos fn fq fr fs)))])) (fun tt kt => ?_) ?_
                                · show Steps p.tables e below (T140.setTop (mkF m 290 #[.val (.int p1), .val (.int p2), .val (.int p3), .val (.long q4), .second, .val (.int p5), .val (.long q6), .second, .val (.int rd), .val (.int ct), .val (.long ar), .second, .val (.int (1 : Int32)), .val (.int (0 : Int32)), .val (.int fn), .val (.int fq), .val (.int fr), .val (.int fs), .val (.ref b78), .val (.ref b86)] [(.int fr), (.int (own_relayed (1 : Int32) (own_b0_g127 p1 p2 p3 q4 p5 q6 rd ct ar pos fn fq fr fs)))])) _
                                  refine XS.icmpNo X140.here hx rfl (hb hby at_290) rfl (teq hc290_141).2 ?_
                                  refine XS.aload X140.here hx rfl (hb hby at_293) rfl rfl ?_
                                  show Steps p.tables e below (T140.setTop (mkF m 295 #[.val (.int p1), .val (.int p2), .val (.int p3), .val (.long q4), .second, .val (.int p5), .val (.long q6), .second, .val (.int rd), .val (.int ct), .val (.long ar), .second, .val (.int (1 : Int32)), .val (.int (0 : Int32)), .val (.int fn), .val (.int fq), .val (.int fr), .val (.int fs), .val (.ref b78), .val (.ref b86)] [(.ref b78)])) _
                                  refine st142.trans ?_
                                  show Steps p.tables e below (T142.setTop (mkF m 298 #[.val (.int p1), .val (.int p2), .val (.int p3), .val (.long q4), .second, .val (.int p5), .val (.long q6), .second, .val (.int rd), .val (.int ct), .val (.long ar), .second, .val (.int (1 : Int32)), .val (.int (0 : Int32)), .val (.int fn), .val (.int fq), .val (.int fr), .val (.int fs), .val (.ref b78), .val (.ref b86)] [(.int (own_any (own_b0_g127 p1 p2 p3 q4 p5 q6 rd ct ar pos fn fq fr fs)))])) _
                                  refine XS.iload X142.here hx rfl (hb hby at_298) rfl ?_
                                  exact kt
                                show own_End p e below s (T142.setTop (mkF m 300 #[.val (.int p1), .val (.int p2), .val (.int p3), .val (.long q4), .second, .val (.int p5), .val (.long q6), .second, .val (.int rd), .val (.int ct), .val (.long ar), .second, .val (.int (1 : Int32)), .val (.int (0 : Int32)), .val (.int fn), .val (.int fq), .val (.int fr), .val (.int fs), .val (.ref b78), .val (.ref b86)] [(.int fs), (.int (own_any (own_b0_g127 p1 p2 p3 q4 p5 q6 rd ct ar pos fn fq fr fs)))])) (Q0 Z p1 p2 p3 q4 p5 q6 h0 n0) room_1.cells room_1.slots
                                by_cases hc300_143 : (own_any (own_b0_g127 p1 p2 p3 q4 p5 q6 rd ct ar pos fn fq fr fs)) = fs
                                · obtain ⟨cq144, kq144, q144a, q144b, q144c⟩ := isOf hZ e142 fE_b78_x125
                                  obtain ⟨_, _, ⟨T144, L144, k144, n144⟩, -, X144, ⟨Lc144, hQ144, l144, y144, z144⟩, st144⟩ := X142.virtualBack hx (y := (⟨"com/example/atoll/atoll/detect/HeldOrigins", "incarnation", "(I)I"⟩ : MethodName)) (z := (⟨"com/example/atoll/atoll/detect/HeldOrigins", "incarnation", "(I)I"⟩ : MethodName)) hown (mvT hZ (hw _ (List.mem_of_getElem? (i := 86) rfl))) (mvT hZ (hw _ (List.mem_of_getElem? (i := 87) rfl))) (notFace_of_selects (args := #[]) (mvT hZ (hw _ (List.mem_of_getElem? (i := 89) rfl)))) (mvT hZ (hw _ (List.mem_of_getElem? (i := 89) rfl))) (mvT hZ (hw _ (List.mem_of_getElem? (i := 88) rfl))) (by decide) (backOf (W := 0) (rm13 l Z a0 hw [] b78 (0 : Int32) c79_xi c79_xn c79_xs c79_xm (2 : Int32) (own_b0_g126 p1 p2 p3 q4 p5 q6 rd ct ar pos fn fq fr fs) T125.heap n0 Z125 ⟨fE_b78_x125, fF_b78_ids_x125, fF_b78_newest_x125, fF_b78_state_x125, fF_b78_mismatches_x125, fF_b78_size_x125⟩ V125_0a (by decide) (by decide)) hZ (hw _ (List.mem_of_getElem? (i := 90) rfl)) (hw _ (List.mem_of_getElem? (i := 4) rfl)) (by decide) (by decide)) q144a q144c (g := (mkF m 307 #[.val (.int p1), .val (.int p2), .val (.int p3), .val (.long q4), .second, .val (.int p5), .val (.long q6), .second, .val (.int rd), .val (.int ct), .val (.long ar), .second, .val (.int (1 : Int32)), .val (.int (0 : Int32)), .val (.int fn), .val (.int fq), .val (.int fr), .val (.int fs), .val (.ref b78), .val (.ref b86)] [(.int (0 : Int32)), (.ref b78)])) rfl (by rw [hml]; rfl) (Steps.refl _) (argsL := [(.int (0 : Int32))]) (rest := []) (lenOf pd_0_6 rfl) rfl (by show 2 * 0 + _ ≤ _; exact Nat.le_of_eq rfl) (hb hby at_307) (fun _ _ => ⟨rfl, e142, (by decide : 10 + 0 ≤ _), (by decide : 82 + 0 ≤ _)⟩)
                                  dsimp only [Pt.U, Pt.locs, Pt.cells, Pt.slots] at X144 l144 y144 z144 st144 hQ144
                                  subst l144 y144 z144
                                  obtain ⟨rfl, N144q, e144⟩ := hQ144
                                  have N144 := Fr.app N142 N144q
                                  refine own_pre (A := T144.setTop (mkF m 310 #[.val (.int p1), .val (.int p2), .val (.int p3), .val (.long q4), .second, .val (.int p5), .val (.long q6), .second, .val (.int rd), .val (.int ct), .val (.long ar), .second, .val (.int (1 : Int32)), .val (.int (0 : Int32)), .val (.int fn), .val (.int fq), .val (.int fr), .val (.int fs), .val (.ref b78), .val (.ref b86)] [(.int (own_inc (0 : Int32) (own_b0_g126 p1 p2 p3 q4 p5 q6 rd ct ar pos fn fq fr fs)))])) (fun tt kt => ?_) ?_
                                  · show Steps p.tables e below (T142.setTop (mkF m 300 #[.val (.int p1), .val (.int p2), .val (.int p3), .val (.long q4), .second, .val (.int p5), .val (.long q6), .second, .val (.int rd), .val (.int ct), .val (.long ar), .second, .val (.int (1 : Int32)), .val (.int (0 : Int32)), .val (.int fn), .val (.int fq), .val (.int fr), .val (.int fs), .val (.ref b78), .val (.ref b86)] [(.int fs), (.int (own_any (own_b0_g127 p1 p2 p3 q4 p5 q6 rd ct ar pos fn fq fr fs)))])) _
                                    refine XS.icmpNo X142.here hx rfl (hb hby at_300) rfl (teq hc300_143).2 ?_
                                    refine XS.aload X142.here hx rfl (hb hby at_303) rfl rfl ?_
                                    refine XS.iload X142.here hx rfl (hb hby at_305) rfl ?_
                                    show Steps p.tables e below (T142.setTop (mkF m 307 #[.val (.int p1), .val (.int p2), .val (.int p3), .val (.long q4), .second, .val (.int p5), .val (.long q6), .second, .val (.int rd), .val (.int ct), .val (.long ar), .second, .val (.int (1 : Int32)), .val (.int (0 : Int32)), .val (.int fn), .val (.int fq), .val (.int fr), .val (.int fs), .val (.ref b78), .val (.ref b86)] [(.int (0 : Int32)), (.ref b78)])) _
                                    refine st144.trans ?_
                                    exact kt
                                  show own_End p e below s (T144.setTop (mkF m 310 #[.val (.int p1), .val (.int p2), .val (.int p3), .val (.long q4), .second, .val (.int p5), .val (.long q6), .second, .val (.int rd), .val (.int ct), .val (.long ar), .second, .val (.int (1 : Int32)), .val (.int (0 : Int32)), .val (.int fn), .val (.int fq), .val (.int fr), .val (.int fs), .val (.ref b78), .val (.ref b86)] [(.int (own_inc (0 : Int32) (own_b0_g126 p1 p2 p3 q4 p5 q6 rd ct ar pos fn fq fr fs)))])) (Q0 Z p1 p2 p3 q4 p5 q6 h0 n0) room_1.cells room_1.slots
                                  by_cases hc310_145 : (own_inc (0 : Int32) (own_b0_g126 p1 p2 p3 q4 p5 q6 rd ct ar pos fn fq fr fs)) = (0 : Int32)
                                  · obtain ⟨cq146, kq146, q146a, q146b, q146c⟩ := isOf hZ e144 fE_b78_x125
                                    obtain ⟨_, _, ⟨T146, L146, k146, n146⟩, -, X146, ⟨Lc146, hQ146, l146, y146, z146⟩, st146⟩ := X144.virtualBack hx (y := (⟨"com/example/atoll/atoll/detect/HeldOrigins", "round", "(I)I"⟩ : MethodName)) (z := (⟨"com/example/atoll/atoll/detect/HeldOrigins", "round", "(I)I"⟩ : MethodName)) hown (mvT hZ (hw _ (List.mem_of_getElem? (i := 94) rfl))) (mvT hZ (hw _ (List.mem_of_getElem? (i := 95) rfl))) (notFace_of_selects (args := #[]) (mvT hZ (hw _ (List.mem_of_getElem? (i := 97) rfl)))) (mvT hZ (hw _ (List.mem_of_getElem? (i := 97) rfl))) (mvT hZ (hw _ (List.mem_of_getElem? (i := 96) rfl))) (by decide) (backOf (W := 0) (rm15 l Z a0 hw [] b78 (0 : Int32) c79_xi c79_xn c79_xs c79_xm (2 : Int32) (own_b0_g126 p1 p2 p3 q4 p5 q6 rd ct ar pos fn fq fr fs) T125.heap n0 Z125 ⟨fE_b78_x125, fF_b78_ids_x125, fF_b78_newest_x125, fF_b78_state_x125, fF_b78_mismatches_x125, fF_b78_size_x125⟩ V125_0a (by decide) (by decide)) hZ (hw _ (List.mem_of_getElem? (i := 98) rfl)) (hw _ (List.mem_of_getElem? (i := 4) rfl)) (by decide) (by decide)) q146a q146c (g := (mkF m 317 #[.val (.int p1), .val (.int p2), .val (.int p3), .val (.long q4), .second, .val (.int p5), .val (.long q6), .second, .val (.int rd), .val (.int ct), .val (.long ar), .second, .val (.int (1 : Int32)), .val (.int (0 : Int32)), .val (.int fn), .val (.int fq), .val (.int fr), .val (.int fs), .val (.ref b78), .val (.ref b86)] [(.int (0 : Int32)), (.ref b78)])) rfl (by rw [hml]; rfl) (Steps.refl _) (argsL := [(.int (0 : Int32))]) (rest := []) (lenOf pd_0_6 rfl) rfl (by show 2 * 0 + _ ≤ _; exact Nat.le_of_eq rfl) (hb hby at_317) (fun _ _ => ⟨rfl, e144, (by decide : 10 + 0 ≤ _), (by decide : 82 + 0 ≤ _)⟩)
                                    dsimp only [Pt.U, Pt.locs, Pt.cells, Pt.slots] at X146 l146 y146 z146 st146 hQ146
                                    subst l146 y146 z146
                                    obtain ⟨rfl, N146q, e146⟩ := hQ146
                                    have N146 := Fr.app N144 N146q
                                    refine own_pre (A := T146.setTop (mkF m 320 #[.val (.int p1), .val (.int p2), .val (.int p3), .val (.long q4), .second, .val (.int p5), .val (.long q6), .second, .val (.int rd), .val (.int ct), .val (.long ar), .second, .val (.int (1 : Int32)), .val (.int (0 : Int32)), .val (.int fn), .val (.int fq), .val (.int fr), .val (.int fs), .val (.ref b78), .val (.ref b86)] [(.int (own_rnd (0 : Int32) (own_b0_g126 p1 p2 p3 q4 p5 q6 rd ct ar pos fn fq fr fs)))])) (fun tt kt => ?_) ?_
                                    · show Steps p.tables e below (T144.setTop (mkF m 310 #[.val (.int p1), .val (.int p2), .val (.int p3), .val (.long q4), .second, .val (.int p5), .val (.long q6), .second, .val (.int rd), .val (.int ct), .val (.long ar), .second, .val (.int (1 : Int32)), .val (.int (0 : Int32)), .val (.int fn), .val (.int fq), .val (.int fr), .val (.int fs), .val (.ref b78), .val (.ref b86)] [(.int (own_inc (0 : Int32) (own_b0_g126 p1 p2 p3 q4 p5 q6 rd ct ar pos fn fq fr fs)))])) _
                                      refine XS.ifNo X144.here hx rfl (hb hby at_310) rfl ((if0 _ _).trans (teq hc310_145).2) ?_
                                      refine XS.aload X144.here hx rfl (hb hby at_313) rfl rfl ?_
                                      refine XS.iload X144.here hx rfl (hb hby at_315) rfl ?_
                                      show Steps p.tables e below (T144.setTop (mkF m 317 #[.val (.int p1), .val (.int p2), .val (.int p3), .val (.long q4), .second, .val (.int p5), .val (.long q6), .second, .val (.int rd), .val (.int ct), .val (.long ar), .second, .val (.int (1 : Int32)), .val (.int (0 : Int32)), .val (.int fn), .val (.int fq), .val (.int fr), .val (.int fs), .val (.ref b78), .val (.ref b86)] [(.int (0 : Int32)), (.ref b78)])) _
                                      refine st146.trans ?_
                                      exact kt
                                    show own_End p e below s (T146.setTop (mkF m 320 #[.val (.int p1), .val (.int p2), .val (.int p3), .val (.long q4), .second, .val (.int p5), .val (.long q6), .second, .val (.int rd), .val (.int ct), .val (.long ar), .second, .val (.int (1 : Int32)), .val (.int (0 : Int32)), .val (.int fn), .val (.int fq), .val (.int fr), .val (.int fs), .val (.ref b78), .val (.ref b86)] [(.int (own_rnd (0 : Int32) (own_b0_g126 p1 p2 p3 q4 p5 q6 rd ct ar pos fn fq fr fs)))])) (Q0 Z p1 p2 p3 q4 p5 q6 h0 n0) room_1.cells room_1.slots
                                    by_cases hc320_147 : (own_rnd (0 : Int32) (own_b0_g126 p1 p2 p3 q4 p5 q6 rd ct ar pos fn fq fr fs)) = (0 : Int32)
                                    · obtain ⟨cq148, kq148, q148a, q148b, q148c⟩ := isOf hZ e146 fE_b78_x125
                                      obtain ⟨_, _, ⟨T148, L148, k148, n148⟩, -, X148, ⟨Lc148, hQ148, l148, y148, z148⟩, st148⟩ := X146.virtualBack hx (y := (⟨"com/example/atoll/atoll/detect/HeldOrigins", "arrived", "(I)J"⟩ : MethodName)) (z := (⟨"com/example/atoll/atoll/detect/HeldOrigins", "arrived", "(I)J"⟩ : MethodName)) hown (mvT hZ (hw _ (List.mem_of_getElem? (i := 108) rfl))) (mvT hZ (hw _ (List.mem_of_getElem? (i := 109) rfl))) (notFace_of_selects (args := #[]) (mvT hZ (hw _ (List.mem_of_getElem? (i := 111) rfl)))) (mvT hZ (hw _ (List.mem_of_getElem? (i := 111) rfl))) (mvT hZ (hw _ (List.mem_of_getElem? (i := 110) rfl))) (by decide) (backOf (W := 0) (rm18 l Z a0 hw [] b78 (0 : Int32) c79_xi c79_xn c79_xs c79_xm (2 : Int32) (own_b0_g127 p1 p2 p3 q4 p5 q6 rd ct ar pos fn fq fr fs) T125.heap n0 Z125 ⟨fE_b78_x125, fF_b78_ids_x125, fF_b78_newest_x125, fF_b78_state_x125, fF_b78_mismatches_x125, fF_b78_size_x125⟩ V125_1a (by decide) (by decide)) hZ (hw _ (List.mem_of_getElem? (i := 112) rfl)) (hw _ (List.mem_of_getElem? (i := 4) rfl)) (by decide) (by decide)) q148a q148c (g := (mkF m 327 #[.val (.int p1), .val (.int p2), .val (.int p3), .val (.long q4), .second, .val (.int p5), .val (.long q6), .second, .val (.int rd), .val (.int ct), .val (.long ar), .second, .val (.int (1 : Int32)), .val (.int (0 : Int32)), .val (.int fn), .val (.int fq), .val (.int fr), .val (.int fs), .val (.ref b78), .val (.ref b86)] [(.int (0 : Int32)), (.ref b78)])) rfl (by rw [hml]; rfl) (Steps.refl _) (argsL := [(.int (0 : Int32))]) (rest := []) (lenOf pd_0_7 rfl) rfl (by show 2 * 0 + _ ≤ _; exact Nat.le_of_eq rfl) (hb hby at_327) (fun _ _ => ⟨rfl, e146, (by decide : 10 + 0 ≤ _), (by decide : 82 + 0 ≤ _)⟩)
                                      dsimp only [Pt.U, Pt.locs, Pt.cells, Pt.slots] at X148 l148 y148 z148 st148 hQ148
                                      subst l148 y148 z148
                                      obtain ⟨rfl, N148q, e148⟩ := hQ148
                                      have N148 := Fr.app N146 N148q
                                      refine own_pre (A := T148.setTop (mkF m 332 #[.val (.int p1), .val (.int p2), .val (.int p3), .val (.long q4), .second, .val (.int p5), .val (.long q6), .second, .val (.int rd), .val (.int ct), .val (.long ar), .second, .val (.int (1 : Int32)), .val (.int (0 : Int32)), .val (.int fn), .val (.int fq), .val (.int fr), .val (.int fs), .val (.ref b78), .val (.ref b86)] [(.int (lcmpW (own_arr (0 : Int32) (own_b0_g127 p1 p2 p3 q4 p5 q6 rd ct ar pos fn fq fr fs)) (0 : Int64)))])) (fun tt kt => ?_) ?_
                                      · show Steps p.tables e below (T146.setTop (mkF m 320 #[.val (.int p1), .val (.int p2), .val (.int p3), .val (.long q4), .second, .val (.int p5), .val (.long q6), .second, .val (.int rd), .val (.int ct), .val (.long ar), .second, .val (.int (1 : Int32)), .val (.int (0 : Int32)), .val (.int fn), .val (.int fq), .val (.int fr), .val (.int fs), .val (.ref b78), .val (.ref b86)] [(.int (own_rnd (0 : Int32) (own_b0_g126 p1 p2 p3 q4 p5 q6 rd ct ar pos fn fq fr fs)))])) _
                                        refine XS.ifNo X146.here hx rfl (hb hby at_320) rfl ((if0 _ _).trans (teq hc320_147).2) ?_
                                        refine XS.aload X146.here hx rfl (hb hby at_323) rfl rfl ?_
                                        refine XS.iload X146.here hx rfl (hb hby at_325) rfl ?_
                                        show Steps p.tables e below (T146.setTop (mkF m 327 #[.val (.int p1), .val (.int p2), .val (.int p3), .val (.long q4), .second, .val (.int p5), .val (.long q6), .second, .val (.int rd), .val (.int ct), .val (.long ar), .second, .val (.int (1 : Int32)), .val (.int (0 : Int32)), .val (.int fn), .val (.int fq), .val (.int fr), .val (.int fs), .val (.ref b78), .val (.ref b86)] [(.int (0 : Int32)), (.ref b78)])) _
                                        refine st148.trans ?_
                                        show Steps p.tables e below (T148.setTop (mkF m 330 #[.val (.int p1), .val (.int p2), .val (.int p3), .val (.long q4), .second, .val (.int p5), .val (.long q6), .second, .val (.int rd), .val (.int ct), .val (.long ar), .second, .val (.int (1 : Int32)), .val (.int (0 : Int32)), .val (.int fn), .val (.int fq), .val (.int fr), .val (.int fs), .val (.ref b78), .val (.ref b86)] [(.long (own_arr (0 : Int32) (own_b0_g127 p1 p2 p3 q4 p5 q6 rd ct ar pos fn fq fr fs)))])) _
                                        refine XS.lconst X148.here hx rfl (hb hby at_330) ?_
                                        refine XS.lcmp X148.here hx rfl (hb hby at_331) rfl ?_
                                        exact kt
                                      show own_End p e below s (T148.setTop (mkF m 332 #[.val (.int p1), .val (.int p2), .val (.int p3), .val (.long q4), .second, .val (.int p5), .val (.long q6), .second, .val (.int rd), .val (.int ct), .val (.long ar), .second, .val (.int (1 : Int32)), .val (.int (0 : Int32)), .val (.int fn), .val (.int fq), .val (.int fr), .val (.int fs), .val (.ref b78), .val (.ref b86)] [(.int (lcmpW (own_arr (0 : Int32) (own_b0_g127 p1 p2 p3 q4 p5 q6 rd ct ar pos fn fq fr fs)) (0 : Int64)))])) (Q0 Z p1 p2 p3 q4 p5 q6 h0 n0) room_1.cells room_1.slots
                                      by_cases hc332_149 : (own_arr (0 : Int32) (own_b0_g127 p1 p2 p3 q4 p5 q6 rd ct ar pos fn fq fr fs)) = (0 : Int64)
                                      · refine own_pre (A := T148.setTop (mkF m 340 #[.val (.int p1), .val (.int p2), .val (.int p3), .val (.long q4), .second, .val (.int p5), .val (.long q6), .second, .val (.int rd), .val (.int ct), .val (.long ar), .second, .val (.int (1 : Int32)), .val (.int (0 : Int32)), .val (.int fn), .val (.int fq), .val (.int fr), .val (.int fs), .val (.ref b78), .val (.ref b86)] [(.int (1 : Int32))])) (fun tt kt => ?_) ?_
                                        · show Steps p.tables e below (T148.setTop (mkF m 332 #[.val (.int p1), .val (.int p2), .val (.int p3), .val (.long q4), .second, .val (.int p5), .val (.long q6), .second, .val (.int rd), .val (.int ct), .val (.long ar), .second, .val (.int (1 : Int32)), .val (.int (0 : Int32)), .val (.int fn), .val (.int fq), .val (.int fr), .val (.int fs), .val (.ref b78), .val (.ref b86)] [(.int (lcmpW (own_arr (0 : Int32) (own_b0_g127 p1 p2 p3 q4 p5 q6 rd ct ar pos fn fq fr fs)) (0 : Int64)))])) _
                                          refine XS.ifNo X148.here hx rfl (hb hby at_332) rfl ((if0 _ _).trans (teq ((lw_eq (own_arr (0 : Int32) (own_b0_g127 p1 p2 p3 q4 p5 q6 rd ct ar pos fn fq fr fs)) (0 : Int64)).mpr hc332_149)).2) ?_
                                          refine XS.iconst X148.here hx rfl (hb hby at_335) ?_
                                          refine XS.goto X148.here hx rfl (pc0 := 336) (pc' := 340) rfl (hb hby at_336) (by decide) (by decide) ?_
                                          exact kt
                                        show own_End p e below s (T148.setTop (mkF m 340 #[.val (.int p1), .val (.int p2), .val (.int p3), .val (.long q4), .second, .val (.int p5), .val (.long q6), .second, .val (.int rd), .val (.int ct), .val (.long ar), .second, .val (.int (1 : Int32)), .val (.int (0 : Int32)), .val (.int fn), .val (.int fq), .val (.int fr), .val (.int fs), .val (.ref b78), .val (.ref b86)] [(.int (1 : Int32))])) (Q0 Z p1 p2 p3 q4 p5 q6 h0 n0) room_1.cells room_1.slots
                                        have hv : (own_law p1 p2 p3 q4 p5 q6) = (1 : Int32) := hj.trans (by simp only [own_law_87b, if_pos hc217_129, if_pos hc229_131, if_pos hc241_133, if_pos hc254_135, if_pos hc266_137, if_pos hc278_139, if_pos hc290_141, if_pos hc300_143, if_pos hc310_145, if_pos hc320_147, if_pos hc332_149])
                                        obtain ⟨fs, hr, hrun, hended, hW, hsame⟩ := X148.leave (v := some (.int (1 : Int32))) (fun h => by rw [Bd.returns] at h; cases h)
                                        refine ⟨_, _, ?_, hrun, hended, _, _, rfl, ?_, ⟨_, rfl⟩, hW, hsame.mono (by decide) (by decide)⟩
                                        · exact retN X148 hx (t := .boolean) Bd.returns (by simp) (hb hby at_340) hr
                                        · show Q0 Z p1 p2 p3 q4 p5 q6 h0 n0 _ T148.heap _
                                          rw [e148]
                                          exact ⟨(congrArg (fun z => some (Value.int z)) hv.symm), N148⟩
                                      · refine own_pre (A := T148.setTop (mkF m 340 #[.val (.int p1), .val (.int p2), .val (.int p3), .val (.long q4), .second, .val (.int p5), .val (.long q6), .second, .val (.int rd), .val (.int ct), .val (.long ar), .second, .val (.int (1 : Int32)), .val (.int (0 : Int32)), .val (.int fn), .val (.int fq), .val (.int fr), .val (.int fs), .val (.ref b78), .val (.ref b86)] [(.int (0 : Int32))])) (fun tt kt => ?_) ?_
                                        · show Steps p.tables e below (T148.setTop (mkF m 332 #[.val (.int p1), .val (.int p2), .val (.int p3), .val (.long q4), .second, .val (.int p5), .val (.long q6), .second, .val (.int rd), .val (.int ct), .val (.long ar), .second, .val (.int (1 : Int32)), .val (.int (0 : Int32)), .val (.int fn), .val (.int fq), .val (.int fr), .val (.int fs), .val (.ref b78), .val (.ref b86)] [(.int (lcmpW (own_arr (0 : Int32) (own_b0_g127 p1 p2 p3 q4 p5 q6 rd ct ar pos fn fq fr fs)) (0 : Int64)))])) _
                                          refine XS.ifYes X148.here hx rfl (pc0 := 332) (pc' := 339) rfl (hb hby at_332) rfl ((if0 _ _).trans (feq (fun q => hc332_149 ((lw_eq (own_arr (0 : Int32) (own_b0_g127 p1 p2 p3 q4 p5 q6 rd ct ar pos fn fq fr fs)) (0 : Int64)).mp q))).2) (by decide) (by decide) ?_
                                          refine XS.iconst X148.here hx rfl (hb hby at_339) ?_
                                          exact kt
                                        show own_End p e below s (T148.setTop (mkF m 340 #[.val (.int p1), .val (.int p2), .val (.int p3), .val (.long q4), .second, .val (.int p5), .val (.long q6), .second, .val (.int rd), .val (.int ct), .val (.long ar), .second, .val (.int (1 : Int32)), .val (.int (0 : Int32)), .val (.int fn), .val (.int fq), .val (.int fr), .val (.int fs), .val (.ref b78), .val (.ref b86)] [(.int (0 : Int32))])) (Q0 Z p1 p2 p3 q4 p5 q6 h0 n0) room_1.cells room_1.slots
                                        have hv : (own_law p1 p2 p3 q4 p5 q6) = (0 : Int32) := hj.trans (by simp only [own_law_87b, if_pos hc217_129, if_pos hc229_131, if_pos hc241_133, if_pos hc254_135, if_pos hc266_137, if_pos hc278_139, if_pos hc290_141, if_pos hc300_143, if_pos hc310_145, if_pos hc320_147, if_neg hc332_149])
                                        obtain ⟨fs, hr, hrun, hended, hW, hsame⟩ := X148.leave (v := some (.int (0 : Int32))) (fun h => by rw [Bd.returns] at h; cases h)
                                        refine ⟨_, _, ?_, hrun, hended, _, _, rfl, ?_, ⟨_, rfl⟩, hW, hsame.mono (by decide) (by decide)⟩
                                        · exact retN X148 hx (t := .boolean) Bd.returns (by simp) (hb hby at_340) hr
                                        · show Q0 Z p1 p2 p3 q4 p5 q6 h0 n0 _ T148.heap _
                                          rw [e148]
                                          exact ⟨(congrArg (fun z => some (Value.int z)) hv.symm), N148⟩
                                    · refine own_pre (A := T146.setTop (mkF m 340 #[.val (.int p1), .val (.int p2), .val (.int p3), .val (.long q4), .second, .val (.int p5), .val (.long q6), .second, .val (.int rd), .val (.int ct), .val (.long ar), .second, .val (.int (1 : Int32)), .val (.int (0 : Int32)), .val (.int fn), .val (.int fq), .val (.int fr), .val (.int fs), .val (.ref b78), .val (.ref b86)] [(.int (0 : Int32))])) (fun tt kt => ?_) ?_
                                      · show Steps p.tables e below (T146.setTop (mkF m 320 #[.val (.int p1), .val (.int p2), .val (.int p3), .val (.long q4), .second, .val (.int p5), .val (.long q6), .second, .val (.int rd), .val (.int ct), .val (.long ar), .second, .val (.int (1 : Int32)), .val (.int (0 : Int32)), .val (.int fn), .val (.int fq), .val (.int fr), .val (.int fs), .val (.ref b78), .val (.ref b86)] [(.int (own_rnd (0 : Int32) (own_b0_g126 p1 p2 p3 q4 p5 q6 rd ct ar pos fn fq fr fs)))])) _
                                        refine XS.ifYes X146.here hx rfl (pc0 := 320) (pc' := 339) rfl (hb hby at_320) rfl ((if0 _ _).trans (feq hc320_147).2) (by decide) (by decide) ?_
                                        refine XS.iconst X146.here hx rfl (hb hby at_339) ?_
                                        exact kt
                                      show own_End p e below s (T146.setTop (mkF m 340 #[.val (.int p1), .val (.int p2), .val (.int p3), .val (.long q4), .second, .val (.int p5), .val (.long q6), .second, .val (.int rd), .val (.int ct), .val (.long ar), .second, .val (.int (1 : Int32)), .val (.int (0 : Int32)), .val (.int fn), .val (.int fq), .val (.int fr), .val (.int fs), .val (.ref b78), .val (.ref b86)] [(.int (0 : Int32))])) (Q0 Z p1 p2 p3 q4 p5 q6 h0 n0) room_1.cells room_1.slots
                                      have hv : (own_law p1 p2 p3 q4 p5 q6) = (0 : Int32) := hj.trans (by simp only [own_law_87b, if_pos hc217_129, if_pos hc229_131, if_pos hc241_133, if_pos hc254_135, if_pos hc266_137, if_pos hc278_139, if_pos hc290_141, if_pos hc300_143, if_pos hc310_145, if_neg hc320_147])
                                      obtain ⟨fs, hr, hrun, hended, hW, hsame⟩ := X146.leave (v := some (.int (0 : Int32))) (fun h => by rw [Bd.returns] at h; cases h)
                                      refine ⟨_, _, ?_, hrun, hended, _, _, rfl, ?_, ⟨_, rfl⟩, hW, hsame.mono (by decide) (by decide)⟩
                                      · exact retN X146 hx (t := .boolean) Bd.returns (by simp) (hb hby at_340) hr
                                      · show Q0 Z p1 p2 p3 q4 p5 q6 h0 n0 _ T146.heap _
                                        rw [e146]
                                        exact ⟨(congrArg (fun z => some (Value.int z)) hv.symm), N146⟩
                                  · refine own_pre (A := T144.setTop (mkF m 340 #[.val (.int p1), .val (.int p2), .val (.int p3), .val (.long q4), .second, .val (.int p5), .val (.long q6), .second, .val (.int rd), .val (.int ct), .val (.long ar), .second, .val (.int (1 : Int32)), .val (.int (0 : Int32)), .val (.int fn), .val (.int fq), .val (.int fr), .val (.int fs), .val (.ref b78), .val (.ref b86)] [(.int (0 : Int32))])) (fun tt kt => ?_) ?_
                                    · show Steps p.tables e below (T144.setTop (mkF m 310 #[.val (.int p1), .val (.int p2), .val (.int p3), .val (.long q4), .second, .val (.int p5), .val (.long q6), .second, .val (.int rd), .val (.int ct), .val (.long ar), .second, .val (.int (1 : Int32)), .val (.int (0 : Int32)), .val (.int fn), .val (.int fq), .val (.int fr), .val (.int fs), .val (.ref b78), .val (.ref b86)] [(.int (own_inc (0 : Int32) (own_b0_g126 p1 p2 p3 q4 p5 q6 rd ct ar pos fn fq fr fs)))])) _
                                      refine XS.ifYes X144.here hx rfl (pc0 := 310) (pc' := 339) rfl (hb hby at_310) rfl ((if0 _ _).trans (feq hc310_145).2) (by decide) (by decide) ?_
                                      refine XS.iconst X144.here hx rfl (hb hby at_339) ?_
                                      exact kt
                                    show own_End p e below s (T144.setTop (mkF m 340 #[.val (.int p1), .val (.int p2), .val (.int p3), .val (.long q4), .second, .val (.int p5), .val (.long q6), .second, .val (.int rd), .val (.int ct), .val (.long ar), .second, .val (.int (1 : Int32)), .val (.int (0 : Int32)), .val (.int fn), .val (.int fq), .val (.int fr), .val (.int fs), .val (.ref b78), .val (.ref b86)] [(.int (0 : Int32))])) (Q0 Z p1 p2 p3 q4 p5 q6 h0 n0) room_1.cells room_1.slots
                                    have hv : (own_law p1 p2 p3 q4 p5 q6) = (0 : Int32) := hj.trans (by simp only [own_law_87b, if_pos hc217_129, if_pos hc229_131, if_pos hc241_133, if_pos hc254_135, if_pos hc266_137, if_pos hc278_139, if_pos hc290_141, if_pos hc300_143, if_neg hc310_145])
                                    obtain ⟨fs, hr, hrun, hended, hW, hsame⟩ := X144.leave (v := some (.int (0 : Int32))) (fun h => by rw [Bd.returns] at h; cases h)
                                    refine ⟨_, _, ?_, hrun, hended, _, _, rfl, ?_, ⟨_, rfl⟩, hW, hsame.mono (by decide) (by decide)⟩
                                    · exact retN X144 hx (t := .boolean) Bd.returns (by simp) (hb hby at_340) hr
                                    · show Q0 Z p1 p2 p3 q4 p5 q6 h0 n0 _ T144.heap _
                                      rw [e144]
                                      exact ⟨(congrArg (fun z => some (Value.int z)) hv.symm), N144⟩
                                · refine own_pre (A := T142.setTop (mkF m 340 #[.val (.int p1), .val (.int p2), .val (.int p3), .val (.long q4), .second, .val (.int p5), .val (.long q6), .second, .val (.int rd), .val (.int ct), .val (.long ar), .second, .val (.int (1 : Int32)), .val (.int (0 : Int32)), .val (.int fn), .val (.int fq), .val (.int fr), .val (.int fs), .val (.ref b78), .val (.ref b86)] [(.int (0 : Int32))])) (fun tt kt => ?_) ?_
                                  · show Steps p.tables e below (T142.setTop (mkF m 300 #[.val (.int p1), .val (.int p2), .val (.int p3), .val (.long q4), .second, .val (.int p5), .val (.long q6), .second, .val (.int rd), .val (.int ct), .val (.long ar), .second, .val (.int (1 : Int32)), .val (.int (0 : Int32)), .val (.int fn), .val (.int fq), .val (.int fr), .val (.int fs), .val (.ref b78), .val (.ref b86)] [(.int fs), (.int (own_any (own_b0_g127 p1 p2 p3 q4 p5 q6 rd ct ar pos fn fq fr fs)))])) _
                                    refine XS.icmpYes X142.here hx rfl (pc0 := 300) (pc' := 339) rfl (hb hby at_300) rfl (feq hc300_143).2 (by decide) (by decide) ?_
                                    refine XS.iconst X142.here hx rfl (hb hby at_339) ?_
                                    exact kt
                                  show own_End p e below s (T142.setTop (mkF m 340 #[.val (.int p1), .val (.int p2), .val (.int p3), .val (.long q4), .second, .val (.int p5), .val (.long q6), .second, .val (.int rd), .val (.int ct), .val (.long ar), .second, .val (.int (1 : Int32)), .val (.int (0 : Int32)), .val (.int fn), .val (.int fq), .val (.int fr), .val (.int fs), .val (.ref b78), .val (.ref b86)] [(.int (0 : Int32))])) (Q0 Z p1 p2 p3 q4 p5 q6 h0 n0) room_1.cells room_1.slots
                                  have hv : (own_law p1 p2 p3 q4 p5 q6) = (0 : Int32) := hj.trans (by simp only [own_law_87b, if_pos hc217_129, if_pos hc229_131, if_pos hc241_133, if_pos hc254_135, if_pos hc266_137, if_pos hc278_139, if_pos hc290_141, if_neg hc300_143])
                                  obtain ⟨fs, hr, hrun, hended, hW, hsame⟩ := X142.leave (v := some (.int (0 : Int32))) (fun h => by rw [Bd.returns] at h; cases h)
                                  refine ⟨_, _, ?_, hrun, hended, _, _, rfl, ?_, ⟨_, rfl⟩, hW, hsame.mono (by decide) (by decide)⟩
                                  · exact retN X142 hx (t := .boolean) Bd.returns (by simp) (hb hby at_340) hr
                                  · show Q0 Z p1 p2 p3 q4 p5 q6 h0 n0 _ T142.heap _
                                    rw [e142]
                                    exact ⟨(congrArg (fun z => some (Value.int z)) hv.symm), N142⟩
                              · refine own_pre (A := T140.setTop (mkF m 340 #[.val (.int p1), .val (.int p2), .val (.int p3), .val (.long q4), .second, .val (.int p5), .val (.long q6), .second, .val (.int rd), .val (.int ct), .val (.long ar), .second, .val (.int (1 : Int32)), .val (.int (0 : Int32)), .val (.int fn), .val (.int fq), .val (.int fr), .val (.int fs), .val (.ref b78), .val (.ref b86)] [(.int (0 : Int32))])) (fun tt kt => ?_) ?_
                                · show Steps p.tables e below (T140.setTop (mkF m 290 #[.val (.int p1), .val (.int p2), .val (.int p3), .val (.long q4), .second, .val (.int p5), .val (.long q6), .second, .val (.int rd), .val (.int ct), .val (.long ar), .second, .val (.int (1 : Int32)), .val (.int (0 : Int32)), .val (.int fn), .val (.int fq), .val (.int fr), .val (.int fs), .val (.ref b78), .val (.ref b86)] [(.int fr), (.int (own_relayed (1 : Int32) (own_b0_g127 p1 p2 p3 q4 p5 q6 rd ct ar pos fn fq fr fs)))])) _
                                  refine XS.icmpYes X140.here hx rfl (pc0 := 290) (pc' := 339) rfl (hb hby at_290) rfl (feq hc290_141).2 (by decide) (by decide) ?_
                                  refine XS.iconst X140.here hx rfl (hb hby at_339) ?_
                                  exact kt
                                show own_End p e below s (T140.setTop (mkF m 340 #[.val (.int p1), .val (.int p2), .val (.int p3), .val (.long q4), .second, .val (.int p5), .val (.long q6), .second, .val (.int rd), .val (.int ct), .val (.long ar), .second, .val (.int (1 : Int32)), .val (.int (0 : Int32)), .val (.int fn), .val (.int fq), .val (.int fr), .val (.int fs), .val (.ref b78), .val (.ref b86)] [(.int (0 : Int32))])) (Q0 Z p1 p2 p3 q4 p5 q6 h0 n0) room_1.cells room_1.slots
                                have hv : (own_law p1 p2 p3 q4 p5 q6) = (0 : Int32) := hj.trans (by simp only [own_law_87b, if_pos hc217_129, if_pos hc229_131, if_pos hc241_133, if_pos hc254_135, if_pos hc266_137, if_pos hc278_139, if_neg hc290_141])
                                obtain ⟨fs, hr, hrun, hended, hW, hsame⟩ := X140.leave (v := some (.int (0 : Int32))) (fun h => by rw [Bd.returns] at h; cases h)
                                refine ⟨_, _, ?_, hrun, hended, _, _, rfl, ?_, ⟨_, rfl⟩, hW, hsame.mono (by decide) (by decide)⟩
                                · exact retN X140 hx (t := .boolean) Bd.returns (by simp) (hb hby at_340) hr
                                · show Q0 Z p1 p2 p3 q4 p5 q6 h0 n0 _ T140.heap _
                                  rw [e140]
                                  exact ⟨(congrArg (fun z => some (Value.int z)) hv.symm), N140⟩
                            · refine own_pre (A := T138.setTop (mkF m 340 #[.val (.int p1), .val (.int p2), .val (.int p3), .val (.long q4), .second, .val (.int p5), .val (.long q6), .second, .val (.int rd), .val (.int ct), .val (.long ar), .second, .val (.int (1 : Int32)), .val (.int (0 : Int32)), .val (.int fn), .val (.int fq), .val (.int fr), .val (.int fs), .val (.ref b78), .val (.ref b86)] [(.int (0 : Int32))])) (fun tt kt => ?_) ?_
                              · show Steps p.tables e below (T138.setTop (mkF m 278 #[.val (.int p1), .val (.int p2), .val (.int p3), .val (.long q4), .second, .val (.int p5), .val (.long q6), .second, .val (.int rd), .val (.int ct), .val (.long ar), .second, .val (.int (1 : Int32)), .val (.int (0 : Int32)), .val (.int fn), .val (.int fq), .val (.int fr), .val (.int fs), .val (.ref b78), .val (.ref b86)] [(.int fq), (.int (own_queued (1 : Int32) (own_b0_g127 p1 p2 p3 q4 p5 q6 rd ct ar pos fn fq fr fs)))])) _
                                refine XS.icmpYes X138.here hx rfl (pc0 := 278) (pc' := 339) rfl (hb hby at_278) rfl (feq hc278_139).2 (by decide) (by decide) ?_
                                refine XS.iconst X138.here hx rfl (hb hby at_339) ?_
                                exact kt
                              show own_End p e below s (T138.setTop (mkF m 340 #[.val (.int p1), .val (.int p2), .val (.int p3), .val (.long q4), .second, .val (.int p5), .val (.long q6), .second, .val (.int rd), .val (.int ct), .val (.long ar), .second, .val (.int (1 : Int32)), .val (.int (0 : Int32)), .val (.int fn), .val (.int fq), .val (.int fr), .val (.int fs), .val (.ref b78), .val (.ref b86)] [(.int (0 : Int32))])) (Q0 Z p1 p2 p3 q4 p5 q6 h0 n0) room_1.cells room_1.slots
                              have hv : (own_law p1 p2 p3 q4 p5 q6) = (0 : Int32) := hj.trans (by simp only [own_law_87b, if_pos hc217_129, if_pos hc229_131, if_pos hc241_133, if_pos hc254_135, if_pos hc266_137, if_neg hc278_139])
                              obtain ⟨fs, hr, hrun, hended, hW, hsame⟩ := X138.leave (v := some (.int (0 : Int32))) (fun h => by rw [Bd.returns] at h; cases h)
                              refine ⟨_, _, ?_, hrun, hended, _, _, rfl, ?_, ⟨_, rfl⟩, hW, hsame.mono (by decide) (by decide)⟩
                              · exact retN X138 hx (t := .boolean) Bd.returns (by simp) (hb hby at_340) hr
                              · show Q0 Z p1 p2 p3 q4 p5 q6 h0 n0 _ T138.heap _
                                rw [e138]
                                exact ⟨(congrArg (fun z => some (Value.int z)) hv.symm), N138⟩
                          · refine own_pre (A := T136.setTop (mkF m 340 #[.val (.int p1), .val (.int p2), .val (.int p3), .val (.long q4), .second, .val (.int p5), .val (.long q6), .second, .val (.int rd), .val (.int ct), .val (.long ar), .second, .val (.int (1 : Int32)), .val (.int (0 : Int32)), .val (.int fn), .val (.int fq), .val (.int fr), .val (.int fs), .val (.ref b78), .val (.ref b86)] [(.int (0 : Int32))])) (fun tt kt => ?_) ?_
                            · show Steps p.tables e below (T136.setTop (mkF m 266 #[.val (.int p1), .val (.int p2), .val (.int p3), .val (.long q4), .second, .val (.int p5), .val (.long q6), .second, .val (.int rd), .val (.int ct), .val (.long ar), .second, .val (.int (1 : Int32)), .val (.int (0 : Int32)), .val (.int fn), .val (.int fq), .val (.int fr), .val (.int fs), .val (.ref b78), .val (.ref b86)] [(.int fn), (.int (own_named (1 : Int32) (own_b0_g127 p1 p2 p3 q4 p5 q6 rd ct ar pos fn fq fr fs)))])) _
                              refine XS.icmpYes X136.here hx rfl (pc0 := 266) (pc' := 339) rfl (hb hby at_266) rfl (feq hc266_137).2 (by decide) (by decide) ?_
                              refine XS.iconst X136.here hx rfl (hb hby at_339) ?_
                              exact kt
                            show own_End p e below s (T136.setTop (mkF m 340 #[.val (.int p1), .val (.int p2), .val (.int p3), .val (.long q4), .second, .val (.int p5), .val (.long q6), .second, .val (.int rd), .val (.int ct), .val (.long ar), .second, .val (.int (1 : Int32)), .val (.int (0 : Int32)), .val (.int fn), .val (.int fq), .val (.int fr), .val (.int fs), .val (.ref b78), .val (.ref b86)] [(.int (0 : Int32))])) (Q0 Z p1 p2 p3 q4 p5 q6 h0 n0) room_1.cells room_1.slots
                            have hv : (own_law p1 p2 p3 q4 p5 q6) = (0 : Int32) := hj.trans (by simp only [own_law_87b, if_pos hc217_129, if_pos hc229_131, if_pos hc241_133, if_pos hc254_135, if_neg hc266_137])
                            obtain ⟨fs, hr, hrun, hended, hW, hsame⟩ := X136.leave (v := some (.int (0 : Int32))) (fun h => by rw [Bd.returns] at h; cases h)
                            refine ⟨_, _, ?_, hrun, hended, _, _, rfl, ?_, ⟨_, rfl⟩, hW, hsame.mono (by decide) (by decide)⟩
                            · exact retN X136 hx (t := .boolean) Bd.returns (by simp) (hb hby at_340) hr
                            · show Q0 Z p1 p2 p3 q4 p5 q6 h0 n0 _ T136.heap _
                              rw [e136]
                              exact ⟨(congrArg (fun z => some (Value.int z)) hv.symm), N136⟩
                        · refine own_pre (A := T134.setTop (mkF m 340 #[.val (.int p1), .val (.int p2), .val (.int p3), .val (.long q4), .second, .val (.int p5), .val (.long q6), .second, .val (.int rd), .val (.int ct), .val (.long ar), .second, .val (.int (1 : Int32)), .val (.int (0 : Int32)), .val (.int fn), .val (.int fq), .val (.int fr), .val (.int fs), .val (.ref b78), .val (.ref b86)] [(.int (0 : Int32))])) (fun tt kt => ?_) ?_
                          · show Steps p.tables e below (T134.setTop (mkF m 254 #[.val (.int p1), .val (.int p2), .val (.int p3), .val (.long q4), .second, .val (.int p5), .val (.long q6), .second, .val (.int rd), .val (.int ct), .val (.long ar), .second, .val (.int (1 : Int32)), .val (.int (0 : Int32)), .val (.int fn), .val (.int fq), .val (.int fr), .val (.int fs), .val (.ref b78), .val (.ref b86)] [(.int (lcmpW (own_arr (1 : Int32) (own_b0_g127 p1 p2 p3 q4 p5 q6 rd ct ar pos fn fq fr fs)) ar))])) _
                            refine XS.ifYes X134.here hx rfl (pc0 := 254) (pc' := 339) rfl (hb hby at_254) rfl ((if0 _ _).trans (feq (fun q => hc254_135 ((lw_eq (own_arr (1 : Int32) (own_b0_g127 p1 p2 p3 q4 p5 q6 rd ct ar pos fn fq fr fs)) ar).mp q))).2) (by decide) (by decide) ?_
                            refine XS.iconst X134.here hx rfl (hb hby at_339) ?_
                            exact kt
                          show own_End p e below s (T134.setTop (mkF m 340 #[.val (.int p1), .val (.int p2), .val (.int p3), .val (.long q4), .second, .val (.int p5), .val (.long q6), .second, .val (.int rd), .val (.int ct), .val (.long ar), .second, .val (.int (1 : Int32)), .val (.int (0 : Int32)), .val (.int fn), .val (.int fq), .val (.int fr), .val (.int fs), .val (.ref b78), .val (.ref b86)] [(.int (0 : Int32))])) (Q0 Z p1 p2 p3 q4 p5 q6 h0 n0) room_1.cells room_1.slots
                          have hv : (own_law p1 p2 p3 q4 p5 q6) = (0 : Int32) := hj.trans (by simp only [own_law_87b, if_pos hc217_129, if_pos hc229_131, if_pos hc241_133, if_neg hc254_135])
                          obtain ⟨fs, hr, hrun, hended, hW, hsame⟩ := X134.leave (v := some (.int (0 : Int32))) (fun h => by rw [Bd.returns] at h; cases h)
                          refine ⟨_, _, ?_, hrun, hended, _, _, rfl, ?_, ⟨_, rfl⟩, hW, hsame.mono (by decide) (by decide)⟩
                          · exact retN X134 hx (t := .boolean) Bd.returns (by simp) (hb hby at_340) hr
                          · show Q0 Z p1 p2 p3 q4 p5 q6 h0 n0 _ T134.heap _
                            rw [e134]
                            exact ⟨(congrArg (fun z => some (Value.int z)) hv.symm), N134⟩
                      · refine own_pre (A := T132.setTop (mkF m 340 #[.val (.int p1), .val (.int p2), .val (.int p3), .val (.long q4), .second, .val (.int p5), .val (.long q6), .second, .val (.int rd), .val (.int ct), .val (.long ar), .second, .val (.int (1 : Int32)), .val (.int (0 : Int32)), .val (.int fn), .val (.int fq), .val (.int fr), .val (.int fs), .val (.ref b78), .val (.ref b86)] [(.int (0 : Int32))])) (fun tt kt => ?_) ?_
                        · show Steps p.tables e below (T132.setTop (mkF m 241 #[.val (.int p1), .val (.int p2), .val (.int p3), .val (.long q4), .second, .val (.int p5), .val (.long q6), .second, .val (.int rd), .val (.int ct), .val (.long ar), .second, .val (.int (1 : Int32)), .val (.int (0 : Int32)), .val (.int fn), .val (.int fq), .val (.int fr), .val (.int fs), .val (.ref b78), .val (.ref b86)] [(.int ct), (.int (own_hrd (1 : Int32) (own_b0_g126 p1 p2 p3 q4 p5 q6 rd ct ar pos fn fq fr fs)))])) _
                          refine XS.icmpYes X132.here hx rfl (pc0 := 241) (pc' := 339) rfl (hb hby at_241) rfl (feq hc241_133).2 (by decide) (by decide) ?_
                          refine XS.iconst X132.here hx rfl (hb hby at_339) ?_
                          exact kt
                        show own_End p e below s (T132.setTop (mkF m 340 #[.val (.int p1), .val (.int p2), .val (.int p3), .val (.long q4), .second, .val (.int p5), .val (.long q6), .second, .val (.int rd), .val (.int ct), .val (.long ar), .second, .val (.int (1 : Int32)), .val (.int (0 : Int32)), .val (.int fn), .val (.int fq), .val (.int fr), .val (.int fs), .val (.ref b78), .val (.ref b86)] [(.int (0 : Int32))])) (Q0 Z p1 p2 p3 q4 p5 q6 h0 n0) room_1.cells room_1.slots
                        have hv : (own_law p1 p2 p3 q4 p5 q6) = (0 : Int32) := hj.trans (by simp only [own_law_87b, if_pos hc217_129, if_pos hc229_131, if_neg hc241_133])
                        obtain ⟨fs, hr, hrun, hended, hW, hsame⟩ := X132.leave (v := some (.int (0 : Int32))) (fun h => by rw [Bd.returns] at h; cases h)
                        refine ⟨_, _, ?_, hrun, hended, _, _, rfl, ?_, ⟨_, rfl⟩, hW, hsame.mono (by decide) (by decide)⟩
                        · exact retN X132 hx (t := .boolean) Bd.returns (by simp) (hb hby at_340) hr
                        · show Q0 Z p1 p2 p3 q4 p5 q6 h0 n0 _ T132.heap _
                          rw [e132]
                          exact ⟨(congrArg (fun z => some (Value.int z)) hv.symm), N132⟩
                    · refine own_pre (A := T130.setTop (mkF m 340 #[.val (.int p1), .val (.int p2), .val (.int p3), .val (.long q4), .second, .val (.int p5), .val (.long q6), .second, .val (.int rd), .val (.int ct), .val (.long ar), .second, .val (.int (1 : Int32)), .val (.int (0 : Int32)), .val (.int fn), .val (.int fq), .val (.int fr), .val (.int fs), .val (.ref b78), .val (.ref b86)] [(.int (0 : Int32))])) (fun tt kt => ?_) ?_
                      · show Steps p.tables e below (T130.setTop (mkF m 229 #[.val (.int p1), .val (.int p2), .val (.int p3), .val (.long q4), .second, .val (.int p5), .val (.long q6), .second, .val (.int rd), .val (.int ct), .val (.long ar), .second, .val (.int (1 : Int32)), .val (.int (0 : Int32)), .val (.int fn), .val (.int fq), .val (.int fr), .val (.int fs), .val (.ref b78), .val (.ref b86)] [(.int rd), (.int (own_rnd (1 : Int32) (own_b0_g126 p1 p2 p3 q4 p5 q6 rd ct ar pos fn fq fr fs)))])) _
                        refine XS.icmpYes X130.here hx rfl (pc0 := 229) (pc' := 339) rfl (hb hby at_229) rfl (feq hc229_131).2 (by decide) (by decide) ?_
                        refine XS.iconst X130.here hx rfl (hb hby at_339) ?_
                        exact kt
                      show own_End p e below s (T130.setTop (mkF m 340 #[.val (.int p1), .val (.int p2), .val (.int p3), .val (.long q4), .second, .val (.int p5), .val (.long q6), .second, .val (.int rd), .val (.int ct), .val (.long ar), .second, .val (.int (1 : Int32)), .val (.int (0 : Int32)), .val (.int fn), .val (.int fq), .val (.int fr), .val (.int fs), .val (.ref b78), .val (.ref b86)] [(.int (0 : Int32))])) (Q0 Z p1 p2 p3 q4 p5 q6 h0 n0) room_1.cells room_1.slots
                      have hv : (own_law p1 p2 p3 q4 p5 q6) = (0 : Int32) := hj.trans (by simp only [own_law_87b, if_pos hc217_129, if_neg hc229_131])
                      obtain ⟨fs, hr, hrun, hended, hW, hsame⟩ := X130.leave (v := some (.int (0 : Int32))) (fun h => by rw [Bd.returns] at h; cases h)
                      refine ⟨_, _, ?_, hrun, hended, _, _, rfl, ?_, ⟨_, rfl⟩, hW, hsame.mono (by decide) (by decide)⟩
                      · exact retN X130 hx (t := .boolean) Bd.returns (by simp) (hb hby at_340) hr
                      · show Q0 Z p1 p2 p3 q4 p5 q6 h0 n0 _ T130.heap _
                        rw [e130]
                        exact ⟨(congrArg (fun z => some (Value.int z)) hv.symm), N130⟩
                  · refine own_pre (A := T128.setTop (mkF m 340 #[.val (.int p1), .val (.int p2), .val (.int p3), .val (.long q4), .second, .val (.int p5), .val (.long q6), .second, .val (.int rd), .val (.int ct), .val (.long ar), .second, .val (.int (1 : Int32)), .val (.int (0 : Int32)), .val (.int fn), .val (.int fq), .val (.int fr), .val (.int fs), .val (.ref b78), .val (.ref b86)] [(.int (0 : Int32))])) (fun tt kt => ?_) ?_
                    · show Steps p.tables e below (T128.setTop (mkF m 217 #[.val (.int p1), .val (.int p2), .val (.int p3), .val (.long q4), .second, .val (.int p5), .val (.long q6), .second, .val (.int rd), .val (.int ct), .val (.long ar), .second, .val (.int (1 : Int32)), .val (.int (0 : Int32)), .val (.int fn), .val (.int fq), .val (.int fr), .val (.int fs), .val (.ref b78), .val (.ref b86)] [(.int p1), (.int (own_inc (1 : Int32) (own_b0_g126 p1 p2 p3 q4 p5 q6 rd ct ar pos fn fq fr fs)))])) _
                      refine XS.icmpYes X128.here hx rfl (pc0 := 217) (pc' := 339) rfl (hb hby at_217) rfl (feq hc217_129).2 (by decide) (by decide) ?_
                      refine XS.iconst X128.here hx rfl (hb hby at_339) ?_
                      exact kt
                    show own_End p e below s (T128.setTop (mkF m 340 #[.val (.int p1), .val (.int p2), .val (.int p3), .val (.long q4), .second, .val (.int p5), .val (.long q6), .second, .val (.int rd), .val (.int ct), .val (.long ar), .second, .val (.int (1 : Int32)), .val (.int (0 : Int32)), .val (.int fn), .val (.int fq), .val (.int fr), .val (.int fs), .val (.ref b78), .val (.ref b86)] [(.int (0 : Int32))])) (Q0 Z p1 p2 p3 q4 p5 q6 h0 n0) room_1.cells room_1.slots
                    have hv : (own_law p1 p2 p3 q4 p5 q6) = (0 : Int32) := hj.trans (by simp only [own_law_87b, if_neg hc217_129])
                    obtain ⟨fs, hr, hrun, hended, hW, hsame⟩ := X128.leave (v := some (.int (0 : Int32))) (fun h => by rw [Bd.returns] at h; cases h)
                    refine ⟨_, _, ?_, hrun, hended, _, _, rfl, ?_, ⟨_, rfl⟩, hW, hsame.mono (by decide) (by decide)⟩
                    · exact retN X128 hx (t := .boolean) Bd.returns (by simp) (hb hby at_340) hr
                    · show Q0 Z p1 p2 p3 q4 p5 q6 h0 n0 _ T128.heap _
                      rw [e128]
                      exact ⟨(congrArg (fun z => some (Value.int z)) hv.symm), N128⟩
                by_cases hc79_150 : (p5 &&& (16 : Int32)) = (0 : Int32)
                · refine own_pre (A := Tj72.setTop (mkF m 87 #[.val (.int p1), .val (.int p2), .val (.int p3), .val (.long q4), .second, .val (.int p5), .val (.long q6), .second, .val (.int rd), .val (.int ct), .val (.long ar), .second, .val (.int (1 : Int32)), .val (.int (0 : Int32)), .val (.int fn), .val (.int fq), .val (.int fr), .unset, .unset, .unset] [(.int (0 : Int32))])) (fun tt kt => ?_) ?_
                  · show Steps p.tables e below (Tj72.setTop (mkF m 79 #[.val (.int p1), .val (.int p2), .val (.int p3), .val (.long q4), .second, .val (.int p5), .val (.long q6), .second, .val (.int rd), .val (.int ct), .val (.long ar), .second, .val (.int (1 : Int32)), .val (.int (0 : Int32)), .val (.int fn), .val (.int fq), .val (.int fr), .unset, .unset, .unset] [(.int (p5 &&& (16 : Int32)))])) _
                    refine XS.ifYes Xj72.here hx rfl (pc0 := 79) (pc' := 86) rfl (hb hby at_79) rfl ((if0 _ _).trans (teq hc79_150).1) (by decide) (by decide) ?_
                    refine XS.iconst Xj72.here hx rfl (hb hby at_86) ?_
                    exact kt
                  show own_End p e below s (Tj72.setTop (mkF m 87 #[.val (.int p1), .val (.int p2), .val (.int p3), .val (.long q4), .second, .val (.int p5), .val (.long q6), .second, .val (.int rd), .val (.int ct), .val (.long ar), .second, .val (.int (1 : Int32)), .val (.int (0 : Int32)), .val (.int fn), .val (.int fq), .val (.int fr), .unset, .unset, .unset] [(.int (0 : Int32))])) (Q0 Z p1 p2 p3 q4 p5 q6 h0 n0) room_1.cells room_1.slots
                  exact j87 _ _ Xj72 ej72 Nj72 (0 : Int32)  (hj.trans (by simp only [own_law_72b, if_pos hc79_150]))
                · refine own_pre (A := Tj72.setTop (mkF m 87 #[.val (.int p1), .val (.int p2), .val (.int p3), .val (.long q4), .second, .val (.int p5), .val (.long q6), .second, .val (.int rd), .val (.int ct), .val (.long ar), .second, .val (.int (1 : Int32)), .val (.int (0 : Int32)), .val (.int fn), .val (.int fq), .val (.int fr), .unset, .unset, .unset] [(.int (1 : Int32))])) (fun tt kt => ?_) ?_
                  · show Steps p.tables e below (Tj72.setTop (mkF m 79 #[.val (.int p1), .val (.int p2), .val (.int p3), .val (.long q4), .second, .val (.int p5), .val (.long q6), .second, .val (.int rd), .val (.int ct), .val (.long ar), .second, .val (.int (1 : Int32)), .val (.int (0 : Int32)), .val (.int fn), .val (.int fq), .val (.int fr), .unset, .unset, .unset] [(.int (p5 &&& (16 : Int32)))])) _
                    refine XS.ifNo Xj72.here hx rfl (hb hby at_79) rfl ((if0 _ _).trans (feq hc79_150).1) ?_
                    refine XS.iconst Xj72.here hx rfl (hb hby at_82) ?_
                    refine XS.goto Xj72.here hx rfl (pc0 := 83) (pc' := 87) rfl (hb hby at_83) (by decide) (by decide) ?_
                    exact kt
                  show own_End p e below s (Tj72.setTop (mkF m 87 #[.val (.int p1), .val (.int p2), .val (.int p3), .val (.long q4), .second, .val (.int p5), .val (.long q6), .second, .val (.int rd), .val (.int ct), .val (.long ar), .second, .val (.int (1 : Int32)), .val (.int (0 : Int32)), .val (.int fn), .val (.int fq), .val (.int fr), .unset, .unset, .unset] [(.int (1 : Int32))])) (Q0 Z p1 p2 p3 q4 p5 q6 h0 n0) room_1.cells room_1.slots
                  exact j87 _ _ Xj72 ej72 Nj72 (1 : Int32)  (hj.trans (by simp only [own_law_72b, if_neg hc79_150]))
              by_cases hc64_151 : (p5 &&& (8 : Int32)) = (0 : Int32)
              · refine own_pre (A := Tj57.setTop (mkF m 72 #[.val (.int p1), .val (.int p2), .val (.int p3), .val (.long q4), .second, .val (.int p5), .val (.long q6), .second, .val (.int rd), .val (.int ct), .val (.long ar), .second, .val (.int (1 : Int32)), .val (.int (0 : Int32)), .val (.int fn), .val (.int fq), .unset, .unset, .unset, .unset] [(.int (0 : Int32))])) (fun tt kt => ?_) ?_
                · show Steps p.tables e below (Tj57.setTop (mkF m 64 #[.val (.int p1), .val (.int p2), .val (.int p3), .val (.long q4), .second, .val (.int p5), .val (.long q6), .second, .val (.int rd), .val (.int ct), .val (.long ar), .second, .val (.int (1 : Int32)), .val (.int (0 : Int32)), .val (.int fn), .val (.int fq), .unset, .unset, .unset, .unset] [(.int (p5 &&& (8 : Int32)))])) _
                  refine XS.ifYes Xj57.here hx rfl (pc0 := 64) (pc' := 71) rfl (hb hby at_64) rfl ((if0 _ _).trans (teq hc64_151).1) (by decide) (by decide) ?_
                  refine XS.iconst Xj57.here hx rfl (hb hby at_71) ?_
                  exact kt
                show own_End p e below s (Tj57.setTop (mkF m 72 #[.val (.int p1), .val (.int p2), .val (.int p3), .val (.long q4), .second, .val (.int p5), .val (.long q6), .second, .val (.int rd), .val (.int ct), .val (.long ar), .second, .val (.int (1 : Int32)), .val (.int (0 : Int32)), .val (.int fn), .val (.int fq), .unset, .unset, .unset, .unset] [(.int (0 : Int32))])) (Q0 Z p1 p2 p3 q4 p5 q6 h0 n0) room_1.cells room_1.slots
                exact j72 _ _ Xj57 ej57 Nj57 (0 : Int32)  (hj.trans (by simp only [own_law_57b, if_pos hc64_151]))
              · refine own_pre (A := Tj57.setTop (mkF m 72 #[.val (.int p1), .val (.int p2), .val (.int p3), .val (.long q4), .second, .val (.int p5), .val (.long q6), .second, .val (.int rd), .val (.int ct), .val (.long ar), .second, .val (.int (1 : Int32)), .val (.int (0 : Int32)), .val (.int fn), .val (.int fq), .unset, .unset, .unset, .unset] [(.int (1 : Int32))])) (fun tt kt => ?_) ?_
                · show Steps p.tables e below (Tj57.setTop (mkF m 64 #[.val (.int p1), .val (.int p2), .val (.int p3), .val (.long q4), .second, .val (.int p5), .val (.long q6), .second, .val (.int rd), .val (.int ct), .val (.long ar), .second, .val (.int (1 : Int32)), .val (.int (0 : Int32)), .val (.int fn), .val (.int fq), .unset, .unset, .unset, .unset] [(.int (p5 &&& (8 : Int32)))])) _
                  refine XS.ifNo Xj57.here hx rfl (hb hby at_64) rfl ((if0 _ _).trans (feq hc64_151).1) ?_
                  refine XS.iconst Xj57.here hx rfl (hb hby at_67) ?_
                  refine XS.goto Xj57.here hx rfl (pc0 := 68) (pc' := 72) rfl (hb hby at_68) (by decide) (by decide) ?_
                  exact kt
                show own_End p e below s (Tj57.setTop (mkF m 72 #[.val (.int p1), .val (.int p2), .val (.int p3), .val (.long q4), .second, .val (.int p5), .val (.long q6), .second, .val (.int rd), .val (.int ct), .val (.long ar), .second, .val (.int (1 : Int32)), .val (.int (0 : Int32)), .val (.int fn), .val (.int fq), .unset, .unset, .unset, .unset] [(.int (1 : Int32))])) (Q0 Z p1 p2 p3 q4 p5 q6 h0 n0) room_1.cells room_1.slots
                exact j72 _ _ Xj57 ej57 Nj57 (1 : Int32)  (hj.trans (by simp only [own_law_57b, if_neg hc64_151]))
            by_cases hc49_152 : (p5 &&& (4 : Int32)) = (0 : Int32)
            · refine own_pre (A := Tj43.setTop (mkF m 57 #[.val (.int p1), .val (.int p2), .val (.int p3), .val (.long q4), .second, .val (.int p5), .val (.long q6), .second, .val (.int rd), .val (.int ct), .val (.long ar), .second, .val (.int (1 : Int32)), .val (.int (0 : Int32)), .val (.int fn), .unset, .unset, .unset, .unset, .unset] [(.int (0 : Int32))])) (fun tt kt => ?_) ?_
              · show Steps p.tables e below (Tj43.setTop (mkF m 49 #[.val (.int p1), .val (.int p2), .val (.int p3), .val (.long q4), .second, .val (.int p5), .val (.long q6), .second, .val (.int rd), .val (.int ct), .val (.long ar), .second, .val (.int (1 : Int32)), .val (.int (0 : Int32)), .val (.int fn), .unset, .unset, .unset, .unset, .unset] [(.int (p5 &&& (4 : Int32)))])) _
                refine XS.ifYes Xj43.here hx rfl (pc0 := 49) (pc' := 56) rfl (hb hby at_49) rfl ((if0 _ _).trans (teq hc49_152).1) (by decide) (by decide) ?_
                refine XS.iconst Xj43.here hx rfl (hb hby at_56) ?_
                exact kt
              show own_End p e below s (Tj43.setTop (mkF m 57 #[.val (.int p1), .val (.int p2), .val (.int p3), .val (.long q4), .second, .val (.int p5), .val (.long q6), .second, .val (.int rd), .val (.int ct), .val (.long ar), .second, .val (.int (1 : Int32)), .val (.int (0 : Int32)), .val (.int fn), .unset, .unset, .unset, .unset, .unset] [(.int (0 : Int32))])) (Q0 Z p1 p2 p3 q4 p5 q6 h0 n0) room_1.cells room_1.slots
              exact j57 _ _ Xj43 ej43 Nj43 (0 : Int32)  (hj.trans (by simp only [own_law_43b, if_pos hc49_152]))
            · refine own_pre (A := Tj43.setTop (mkF m 57 #[.val (.int p1), .val (.int p2), .val (.int p3), .val (.long q4), .second, .val (.int p5), .val (.long q6), .second, .val (.int rd), .val (.int ct), .val (.long ar), .second, .val (.int (1 : Int32)), .val (.int (0 : Int32)), .val (.int fn), .unset, .unset, .unset, .unset, .unset] [(.int (1 : Int32))])) (fun tt kt => ?_) ?_
              · show Steps p.tables e below (Tj43.setTop (mkF m 49 #[.val (.int p1), .val (.int p2), .val (.int p3), .val (.long q4), .second, .val (.int p5), .val (.long q6), .second, .val (.int rd), .val (.int ct), .val (.long ar), .second, .val (.int (1 : Int32)), .val (.int (0 : Int32)), .val (.int fn), .unset, .unset, .unset, .unset, .unset] [(.int (p5 &&& (4 : Int32)))])) _
                refine XS.ifNo Xj43.here hx rfl (hb hby at_49) rfl ((if0 _ _).trans (feq hc49_152).1) ?_
                refine XS.iconst Xj43.here hx rfl (hb hby at_52) ?_
                refine XS.goto Xj43.here hx rfl (pc0 := 53) (pc' := 57) rfl (hb hby at_53) (by decide) (by decide) ?_
                exact kt
              show own_End p e below s (Tj43.setTop (mkF m 57 #[.val (.int p1), .val (.int p2), .val (.int p3), .val (.long q4), .second, .val (.int p5), .val (.long q6), .second, .val (.int rd), .val (.int ct), .val (.long ar), .second, .val (.int (1 : Int32)), .val (.int (0 : Int32)), .val (.int fn), .unset, .unset, .unset, .unset, .unset] [(.int (1 : Int32))])) (Q0 Z p1 p2 p3 q4 p5 q6 h0 n0) room_1.cells room_1.slots
              exact j57 _ _ Xj43 ej43 Nj43 (1 : Int32)  (hj.trans (by simp only [own_law_43b, if_neg hc49_152]))
          by_cases hc35_153 : (p5 &&& (2 : Int32)) = (0 : Int32)
          · refine own_pre (A := Tj25.setTop (mkF m 43 #[.val (.int p1), .val (.int p2), .val (.int p3), .val (.long q4), .second, .val (.int p5), .val (.long q6), .second, .val (.int rd), .val (.int ct), .val (.long ar), .second, .val (.int (1 : Int32)), .val (.int (0 : Int32)), .unset, .unset, .unset, .unset, .unset, .unset] [(.int (0 : Int32))])) (fun tt kt => ?_) ?_
            · show Steps p.tables e below (Tj25.setTop (mkF m 35 #[.val (.int p1), .val (.int p2), .val (.int p3), .val (.long q4), .second, .val (.int p5), .val (.long q6), .second, .val (.int rd), .val (.int ct), .val (.long ar), .second, .val (.int (1 : Int32)), .val (.int (0 : Int32)), .unset, .unset, .unset, .unset, .unset, .unset] [(.int (p5 &&& (2 : Int32)))])) _
              refine XS.ifYes Xj25.here hx rfl (pc0 := 35) (pc' := 42) rfl (hb hby at_35) rfl ((if0 _ _).trans (teq hc35_153).1) (by decide) (by decide) ?_
              refine XS.iconst Xj25.here hx rfl (hb hby at_42) ?_
              exact kt
            show own_End p e below s (Tj25.setTop (mkF m 43 #[.val (.int p1), .val (.int p2), .val (.int p3), .val (.long q4), .second, .val (.int p5), .val (.long q6), .second, .val (.int rd), .val (.int ct), .val (.long ar), .second, .val (.int (1 : Int32)), .val (.int (0 : Int32)), .unset, .unset, .unset, .unset, .unset, .unset] [(.int (0 : Int32))])) (Q0 Z p1 p2 p3 q4 p5 q6 h0 n0) room_1.cells room_1.slots
            exact j43 _ _ Xj25 ej25 Nj25 (0 : Int32)  (hj.trans (by simp only [own_law_25, if_neg hs1_0, if_pos hc35_153]))
          · refine own_pre (A := Tj25.setTop (mkF m 43 #[.val (.int p1), .val (.int p2), .val (.int p3), .val (.long q4), .second, .val (.int p5), .val (.long q6), .second, .val (.int rd), .val (.int ct), .val (.long ar), .second, .val (.int (1 : Int32)), .val (.int (0 : Int32)), .unset, .unset, .unset, .unset, .unset, .unset] [(.int (1 : Int32))])) (fun tt kt => ?_) ?_
            · show Steps p.tables e below (Tj25.setTop (mkF m 35 #[.val (.int p1), .val (.int p2), .val (.int p3), .val (.long q4), .second, .val (.int p5), .val (.long q6), .second, .val (.int rd), .val (.int ct), .val (.long ar), .second, .val (.int (1 : Int32)), .val (.int (0 : Int32)), .unset, .unset, .unset, .unset, .unset, .unset] [(.int (p5 &&& (2 : Int32)))])) _
              refine XS.ifNo Xj25.here hx rfl (hb hby at_35) rfl ((if0 _ _).trans (feq hc35_153).1) ?_
              refine XS.iconst Xj25.here hx rfl (hb hby at_38) ?_
              refine XS.goto Xj25.here hx rfl (pc0 := 39) (pc' := 43) rfl (hb hby at_39) (by decide) (by decide) ?_
              exact kt
            show own_End p e below s (Tj25.setTop (mkF m 43 #[.val (.int p1), .val (.int p2), .val (.int p3), .val (.long q4), .second, .val (.int p5), .val (.long q6), .second, .val (.int rd), .val (.int ct), .val (.long ar), .second, .val (.int (1 : Int32)), .val (.int (0 : Int32)), .unset, .unset, .unset, .unset, .unset, .unset] [(.int (1 : Int32))])) (Q0 Z p1 p2 p3 q4 p5 q6 h0 n0) room_1.cells room_1.slots
            exact j43 _ _ Xj25 ej25 Nj25 (1 : Int32)  (hj.trans (by simp only [own_law_25, if_neg hs1_0, if_neg hc35_153]))
        exact j25 _ _ Xj19 ej19 Nj19 (p5 &&& (1 : Int32)) (own_pos p5) (hj.trans (by simp only [own_law_19]))
      exact j19 _ _ Xj12 ej12 Nj12 (q4 &&& (576460752303423487 : Int64))  (hj.trans (by simp only [own_law_12]))
    exact j12 _ _ Xj6 ej6 Nj6 (p3 &&& (65535 : Int32))  (hj.trans (by simp only [own_law_6]))
  exact j6 _ _ X0 e0 N0 (p2 &&& (65535 : Int32))  (hj.trans (by simp only [own_law]))
theorem own_nor (y k : Int64) : (y ||| k) &&& 15 = (y &&& 15) ||| (k &&& 15) := by
  apply Int64.toBitVec_inj.mp
  show (y.toBitVec ||| k.toBitVec) &&& 15#64 = (y.toBitVec &&& 15#64) ||| (k.toBitVec &&& 15#64)
  ext i hi
  simp only [BitVec.getElem_and, BitVec.getElem_or]
  cases y.toBitVec[i] <;> cases k.toBitVec[i] <;> cases (15#64)[i] <;> rfl
theorem own_nan (y k : Int64) : (y &&& k) &&& 15 = (y &&& 15) &&& k := by
  apply Int64.toBitVec_inj.mp
  show (y.toBitVec &&& k.toBitVec) &&& 15#64 = (y.toBitVec &&& 15#64) &&& k.toBitVec
  ext i hi
  simp only [BitVec.getElem_and]
  cases y.toBitVec[i] <;> cases k.toBitVec[i] <;> cases (15#64)[i] <;> rfl
theorem own_low (y k : Int64) (hk : 15 &&& k = k) : y &&& k = (y &&& 15) &&& k := by
  rw [← own_nan]
  apply Int64.toBitVec_inj.mp
  have h : (15#64) &&& k.toBitVec = k.toBitVec := congrArg Int64.toBitVec hk
  show y.toBitVec &&& k.toBitVec = (y.toBitVec &&& k.toBitVec) &&& 15#64
  rw [BitVec.and_assoc, BitVec.and_comm k.toBitVec, h]
theorem own_idem (y : Int64) : (y &&& 15) &&& 15 = y &&& 15 := by
  rw [Int64.and_assoc, show (15 : Int64) &&& 15 = 15 from by decide]
def own_nib (fr fq fn fs : Int32) : Int64 := (if fr = 0 then 0 else 8) ||| ((if fq = 0 then 0 else 4) ||| ((if fn = 0 then 0 else 1) ||| (if fs = 0 then 0 else 2)))
def own_bs (y : Int64) (m b : Int32) : Int64 := if b = (0 : Int32) then (y &&& ((m ^^^ (-1 : Int32)).toInt64)) else (y ||| (m.toInt64))
theorem own_bs15 (y : Int64) (m b : Int32) : own_bs y m b &&& 15 = own_bs (y &&& 15) m b &&& 15 := by
  unfold own_bs
  by_cases h : b = (0 : Int32)
  · rw [if_pos h, if_pos h, own_nan, own_nan (y &&& 15), own_idem]
  · rw [if_neg h, if_neg h, own_nor, own_nor (y &&& 15), own_idem]
def own_br (y : Int64) : Int64 := if (y &&& 4) = 0 then y else (y &&& (-5 : Int64)) ||| (8 : Int64)
theorem own_br15 (y : Int64) : own_br y &&& 15 = own_br (y &&& 15) &&& 15 := by
  unfold own_br
  have e : ((y &&& 15) &&& 4 = 0) ↔ (y &&& 4 = 0) := by rw [own_low y 4 (by decide)]
  by_cases h : (y &&& 4) = 0
  · rw [if_pos h, if_pos (e.mpr h), own_idem]
  · rw [if_neg h, if_neg (fun q => h (e.mp q)), own_nor, own_nor ((y &&& 15) &&& (-5 : Int64)), own_nan, own_nan (y &&& 15), own_idem]
theorem own_nibble (y : Int64) (h : y &&& 15 = 0) (fr fq fn fs : Int32) (hr : fr = 0 ∨ fr = 1) (hq : fq = 0 ∨ fq = 1) (hn : fn = 0 ∨ fn = 1) (hs : fs = 0 ∨ fs = 1) : own_bs (own_bs (own_bs (own_br (own_bs y 4 fr)) 4 fq) 1 fn) 2 fs &&& 15 = own_nib fr fq fn fs := by
  rw [own_bs15, own_bs15 (own_bs (own_br (own_bs y 4 fr)) 4 fq), own_bs15 (own_br (own_bs y 4 fr)), own_br15, own_bs15 y, h]
  rcases hr with rfl | rfl <;> rcases hq with rfl | rfl <;> rcases hn with rfl | rfl <;> rcases hs with rfl | rfl <;> decide +kernel
theorem own_setj (g : Nat → Int64) (j m b : Int32) : own_set g j m b j.toNatClampNeg = own_bs (g j.toNatClampNeg) m b := by
  show (if j.toNatClampNeg = j.toNatClampNeg then _ else _) = _
  rw [if_pos rfl]; rfl
theorem own_seto (g : Nat → Int64) (j o m b : Int32) (h : ¬ o.toNatClampNeg = j.toNatClampNeg) : own_set g j m b o.toNatClampNeg = g o.toNatClampNeg := by
  show (if o.toNatClampNeg = j.toNatClampNeg then _ else g o.toNatClampNeg) = _
  rw [if_neg h]
theorem own_putj (g : Nat → Int64) (j : Int32) (v : Int64) : own_putJ g j v j.toNatClampNeg = v := by
  show (if j.toNatClampNeg = j.toNatClampNeg then v else _) = _
  rw [if_pos rfl]
theorem own_puto (g : Nat → Int64) (j o : Int32) (v : Int64) (h : ¬ o.toNatClampNeg = j.toNatClampNeg) : own_putJ g j v o.toNatClampNeg = g o.toNatClampNeg := by
  show (if o.toNatClampNeg = j.toNatClampNeg then v else g o.toNatClampNeg) = _
  rw [if_neg h]
theorem own_is0 (g : Nat → Int64) (j m : Int32) : (own_is j m g = 0) ↔ (g j.toNatClampNeg &&& m.toInt64 = 0) := by
  have z : ¬ ((1 : Int32) = 0) := by decide
  unfold own_is
  by_cases h : ((g j.toNatClampNeg) &&& (m.toInt64)) = (0 : Int64)
  · rw [if_pos h]; exact ⟨fun _ => h, fun _ => rfl⟩
  · rw [if_neg h]; exact ⟨fun q => absurd q z, fun q => absurd q h⟩
theorem own_relj (g : Nat → Int64) (j : Int32) : own_rel g j j.toNatClampNeg = own_br (g j.toNatClampNeg) := by
  unfold own_rel own_br
  have e4 : (4 : Int32).toInt64 = 4 := by decide
  have e := own_is0 g j 4
  rw [e4] at e
  by_cases h : g j.toNatClampNeg &&& 4 = 0
  · rw [if_pos h, if_pos (e.mpr h)]
  · rw [if_neg h, if_neg (fun q => h (e.mp q)), own_putj]
theorem own_relo (g : Nat → Int64) (j o : Int32) (h : ¬ o.toNatClampNeg = j.toNatClampNeg) : own_rel g j o.toNatClampNeg = g o.toNatClampNeg := by
  unfold own_rel
  by_cases q : own_is j 4 g = 0
  · rw [if_pos q]
  · rw [if_neg q, own_puto _ _ _ _ h]
theorem own_br0 : own_br 0 = 0 := by decide
theorem own_sh4 (a : Int64) : (a <<< ((4 : Int32) &&& 0x3f).toInt64) &&& 15 = 0 := by
  have c := c_lshl a 4 4 (by decide)
  have e : ((a <<< ((4 : Int32) &&& 0x3f).toInt64) &&& 15).toInt = (a <<< ((4 : Int32) &&& 0x3f).toInt64).toInt % (2 ^ 4 : Nat) := c_maskL _ 15 4 (by decide) (by decide)
  apply Int64.toInt_inj.mp
  rw [e, show (0 : Int64).toInt = 0 from by decide]
  have c' : ((a <<< ((4 : Int32) &&& 0x3f).toInt64).toInt - a.toInt * (2 ^ 4 : Nat)) % 18446744073709551616 = 0 := c
  omega
theorem own_arr_back (ar L : Int64) (h0 : 0 ≤ ar.toInt) (h1 : ar.toInt ≤ 576460752303423487) (hL : 0 ≤ L.toInt ∧ L.toInt < 16) : ((ar <<< ((4 : Int32) &&& 0x3f).toInt64) ||| L) >>> ((4 : Int32) &&& 0x3f).toInt64 = ar := by
  have c : ((ar <<< ((4 : Int32) &&& 0x3f).toInt64).toInt - ar.toInt * (2 ^ 4 : Nat)) % 18446744073709551616 = 0 := c_lshl ar 4 4 (by decide)
  have r := rng64 (ar <<< ((4 : Int32) &&& 0x3f).toInt64)
  have e : (ar <<< ((4 : Int32) &&& 0x3f).toInt64).toInt = ar.toInt * 16 := by omega
  generalize (ar <<< ((4 : Int32) &&& 0x3f).toInt64) = A at *
  have o := c_orL A L 4 (by decide) 16 rfl (by omega) (by omega) (by omega)
  have r2 := rng64 (A ||| L)
  have e2 : (A ||| L).toInt = A.toInt + L.toInt := by omega
  have s : ((A ||| L) >>> ((4 : Int32) &&& 0x3f).toInt64).toInt = (A ||| L).toInt / (2 ^ 4 : Nat) := c_lshr _ 4 4 (by decide)
  apply Int64.toInt_inj.mp
  rw [s, e2]; omega
theorem own_news (p1 rd ct : Int32) (hr : 0 ≤ rd.toInt ∧ rd.toInt < 65536) (hc : 0 ≤ ct.toInt ∧ ct.toInt < 65536) : own_incOf ((((p1.toInt64) <<< ((32 : Int32) &&& 0x3f).toInt64) ||| ((rd.toInt64) <<< ((16 : Int32) &&& 0x3f).toInt64)) ||| (ct.toInt64)) = p1 ∧ own_rndOf ((((p1.toInt64) <<< ((32 : Int32) &&& 0x3f).toInt64) ||| ((rd.toInt64) <<< ((16 : Int32) &&& 0x3f).toInt64)) ||| (ct.toInt64)) = rd ∧
    ((((((p1.toInt64) <<< ((32 : Int32) &&& 0x3f).toInt64) ||| ((rd.toInt64) <<< ((16 : Int32) &&& 0x3f).toInt64)) ||| (ct.toInt64)).toInt32) &&& (65535 : Int32)) = ct := by
  have a : ((p1.toInt64 <<< ((32 : Int32) &&& 0x3f).toInt64).toInt - p1.toInt64.toInt * (2 ^ 32 : Nat)) % 18446744073709551616 = 0 := c_lshl p1.toInt64 32 32 (by decide)
  have b : ((rd.toInt64 <<< ((16 : Int32) &&& 0x3f).toInt64).toInt - rd.toInt64.toInt * (2 ^ 16 : Nat)) % 18446744073709551616 = 0 := c_lshl rd.toInt64 16 16 (by decide)
  have l1 := c_i2l p1
  have l2 := c_i2l rd
  have l3 := c_i2l ct
  have r0 := rng32 p1
  have r1 := rng64 (p1.toInt64 <<< ((32 : Int32) &&& 0x3f).toInt64)
  have r2 := rng64 (rd.toInt64 <<< ((16 : Int32) &&& 0x3f).toInt64)
  have ea : (p1.toInt64 <<< ((32 : Int32) &&& 0x3f).toInt64).toInt = p1.toInt * 4294967296 := by omega
  have eb : (rd.toInt64 <<< ((16 : Int32) &&& 0x3f).toInt64).toInt = rd.toInt * 65536 := by omega
  clear a b r1 r2
  generalize (p1.toInt64 <<< ((32 : Int32) &&& 0x3f).toInt64) = A at *
  generalize (rd.toInt64 <<< ((16 : Int32) &&& 0x3f).toInt64) = B at *
  generalize ct.toInt64 = D at *
  have o1 := c_orL A B 32 (by decide) 4294967296 rfl (by omega) (by omega) (by omega)
  have q1 := rng64 (A ||| B)
  have f1 : (A ||| B).toInt = A.toInt + B.toInt := by omega
  clear o1 q1
  generalize (A ||| B) = E at *
  have o2 := c_orL E D 16 (by decide) 65536 rfl (by omega) (by omega) (by omega)
  have q2 := rng64 (E ||| D)
  have f2 : (E ||| D).toInt = p1.toInt * 4294967296 + rd.toInt * 65536 + ct.toInt := by omega
  clear o2 q2 f1 ea eb
  generalize (E ||| D) = N at *
  have u : ((N.toUInt64 >>> ((32 : Int32) &&& 0x3f).toInt64.toUInt64).toInt64).toInt = (N.toInt % 18446744073709551616) / (2 ^ 32 : Nat) := c_lushr N 32 32 (by decide) (by decide)
  have v := c_l2i ((N.toUInt64 >>> ((32 : Int32) &&& 0x3f).toInt64.toUInt64).toInt64)
  have w := c_l2i N
  have s1 := rng32 (((N.toUInt64 >>> ((32 : Int32) &&& 0x3f).toInt64.toUInt64).toInt64).toInt32)
  have s2 := rng32 N.toInt32
  have t : ((N.toInt32.toUInt32 >>> ((16 : Int32) &&& 31).toUInt32).toInt32).toInt = (N.toInt32.toInt % 4294967296) / (2 ^ 16 : Nat) := c_iushr N.toInt32 16 16 (by decide) (by decide)
  have k : (N.toInt32 &&& (65535 : Int32)).toInt = N.toInt32.toInt % (2 ^ 16 : Nat) := c_mask N.toInt32 65535 16 (by decide) (by decide)
  refine ⟨?_, ?_, ?_⟩
  · apply Int32.toInt_inj.mp
    show (((N.toUInt64 >>> ((32 : Int32) &&& 0x3f).toInt64.toUInt64).toInt64).toInt32).toInt = _
    generalize ((N.toUInt64 >>> ((32 : Int32) &&& 0x3f).toInt64.toUInt64).toInt64) = M at *
    omega
  · apply Int32.toInt_inj.mp
    show ((N.toInt32.toUInt32 >>> ((16 : Int32) &&& 31).toUInt32).toInt32).toInt = _
    rw [t]
    have : N.toInt32.toInt % 4294967296 = rd.toInt * 65536 + ct.toInt := by omega
    rw [this]; omega
  · apply Int32.toInt_inj.mp
    rw [k]
    have : N.toInt32.toInt % 4294967296 = rd.toInt * 65536 + ct.toInt := by omega
    omega

theorem own_87 (p1 p2 p3 : Int32) (q4 : Int64) (p5 : Int32) (q6 : Int64) (rd ct : Int32) (ar : Int64) (pos fn fq fr fs : Int32) (hr : fr = 0 ∨ fr = 1) (hq : fq = 0 ∨ fq = 1) (hn : fn = 0 ∨ fn = 1) (hs : fs = 0 ∨ fs = 1) (hrd : 0 ≤ rd.toInt ∧ rd.toInt < 65536) (hct : 0 ≤ ct.toInt ∧ ct.toInt < 65536) (har : 0 ≤ ar.toInt ∧ ar.toInt ≤ 576460752303423487) : own_law_87 p1 p2 p3 q4 p5 q6 rd ct ar pos fn fq fr fs = 1 := by
  have oj : ¬ (1 : Int32).toNatClampNeg = (0 : Int32).toNatClampNeg := by decide
  have s1j : (own_b0_g38 p1 p2 p3 q4 p5 q6 rd ct ar pos fn fq fr fs) (0 : Int32).toNatClampNeg &&& 15 = 0 := by
    show own_putJ _ (0 : Int32) _ (0 : Int32).toNatClampNeg &&& 15 = 0
    rw [own_putj, own_nor, own_sh4, own_nan]
    show (0 : Int64) ||| (((0 : Int64) &&& 15) &&& 15) = 0
    decide
  have s1o : (own_b0_g38 p1 p2 p3 q4 p5 q6 rd ct ar pos fn fq fr fs) (1 : Int32).toNatClampNeg = 0 := by
    show own_putJ _ (0 : Int32) _ (1 : Int32).toNatClampNeg = 0
    rw [own_puto _ _ _ _ oj]; rfl
  have s2j : (own_b0_g40 p1 p2 p3 q4 p5 q6 rd ct ar pos fn fq fr fs) (0 : Int32).toNatClampNeg = own_bs ((own_b0_g38 p1 p2 p3 q4 p5 q6 rd ct ar pos fn fq fr fs) (0 : Int32).toNatClampNeg) 4 fr := own_setj _ _ _ _
  have s2o : (own_b0_g40 p1 p2 p3 q4 p5 q6 rd ct ar pos fn fq fr fs) (1 : Int32).toNatClampNeg = 0 := (own_seto _ _ _ _ _ oj).trans s1o
  have s3o : (own_b0_g42 p1 p2 p3 q4 p5 q6 rd ct ar pos fn fq fr fs) (1 : Int32).toNatClampNeg = 0 := by
    show own_rel (own_rel (own_b0_g40 p1 p2 p3 q4 p5 q6 rd ct ar pos fn fq fr fs) 0) 1 (1 : Int32).toNatClampNeg = 0
    rw [own_relj, own_relo _ 0 1 (by decide), s2o, own_br0]
  have s3j : (own_b0_g42 p1 p2 p3 q4 p5 q6 rd ct ar pos fn fq fr fs) (0 : Int32).toNatClampNeg = own_br ((own_b0_g40 p1 p2 p3 q4 p5 q6 rd ct ar pos fn fq fr fs) (0 : Int32).toNatClampNeg) := by
    show own_rel (own_rel (own_b0_g40 p1 p2 p3 q4 p5 q6 rd ct ar pos fn fq fr fs) 0) 1 (0 : Int32).toNatClampNeg = _
    rw [own_relo _ 1 0 (by decide), own_relj]
  have s4j : (own_b0_g44 p1 p2 p3 q4 p5 q6 rd ct ar pos fn fq fr fs) (0 : Int32).toNatClampNeg = own_bs ((own_b0_g42 p1 p2 p3 q4 p5 q6 rd ct ar pos fn fq fr fs) (0 : Int32).toNatClampNeg) 4 fq := own_setj _ _ _ _
  have s4o : (own_b0_g44 p1 p2 p3 q4 p5 q6 rd ct ar pos fn fq fr fs) (1 : Int32).toNatClampNeg = 0 := (own_seto _ _ _ _ _ oj).trans s3o
  have s5j : (own_b0_g46 p1 p2 p3 q4 p5 q6 rd ct ar pos fn fq fr fs) (0 : Int32).toNatClampNeg = own_bs ((own_b0_g44 p1 p2 p3 q4 p5 q6 rd ct ar pos fn fq fr fs) (0 : Int32).toNatClampNeg) 1 fn := own_setj _ _ _ _
  have s5o : (own_b0_g46 p1 p2 p3 q4 p5 q6 rd ct ar pos fn fq fr fs) (1 : Int32).toNatClampNeg = 0 := (own_seto _ _ _ _ _ oj).trans s4o
  have s6j : (own_b0_g48 p1 p2 p3 q4 p5 q6 rd ct ar pos fn fq fr fs) (0 : Int32).toNatClampNeg = own_bs ((own_b0_g46 p1 p2 p3 q4 p5 q6 rd ct ar pos fn fq fr fs) (0 : Int32).toNatClampNeg) 2 fs := own_setj _ _ _ _
  have s6o : (own_b0_g48 p1 p2 p3 q4 p5 q6 rd ct ar pos fn fq fr fs) (1 : Int32).toNatClampNeg = 0 := (own_seto _ _ _ _ _ oj).trans s5o
  have nb : (own_b0_g48 p1 p2 p3 q4 p5 q6 rd ct ar pos fn fq fr fs) (0 : Int32).toNatClampNeg &&& 15 = own_nib fr fq fn fs := by
    rw [s6j, s5j, s4j, s3j, s2j]; exact own_nibble _ s1j _ _ _ _ hr hq hn hs
  have s7j : (own_b0_g51 p1 p2 p3 q4 p5 q6 rd ct ar pos fn fq fr fs) (0 : Int32).toNatClampNeg = ((ar <<< ((4 : Int32) &&& 0x3f).toInt64) ||| own_nib fr fq fn fs) := by
    rw [← nb]; exact own_putj _ _ _
  have s7o : (own_b0_g51 p1 p2 p3 q4 p5 q6 rd ct ar pos fn fq fr fs) (1 : Int32).toNatClampNeg = 0 := (own_puto _ _ _ _ oj).trans s6o
  have n2j : (own_b0_g50 p1 p2 p3 q4 p5 q6 rd ct ar pos fn fq fr fs) (0 : Int32).toNatClampNeg = ((((p1.toInt64) <<< ((32 : Int32) &&& 0x3f).toInt64) ||| ((rd.toInt64) <<< ((16 : Int32) &&& 0x3f).toInt64)) ||| (ct.toInt64)) := own_putj _ _ _
  have n2o : (own_b0_g50 p1 p2 p3 q4 p5 q6 rd ct ar pos fn fq fr fs) (1 : Int32).toNatClampNeg = 0 := rfl
  obtain ⟨w1, w2, w3⟩ := own_news p1 rd ct hrd hct
  have nr : 0 ≤ (own_nib fr fq fn fs).toInt ∧ (own_nib fr fq fn fs).toInt < 16 := by
    rcases hr with rfl | rfl <;> rcases hq with rfl | rfl <;> rcases hn with rfl | rfl <;> rcases hs with rfl | rfl <;> decide
  have is1 : ∀ m : Int32, (15 : Int64) &&& m.toInt64 = m.toInt64 → own_is (0 : Int32) m (own_b0_g51 p1 p2 p3 q4 p5 q6 rd ct ar pos fn fq fr fs) = if (own_nib fr fq fn fs &&& m.toInt64) = 0 then 0 else 1 := fun m hm => by
    have e : (own_b0_g51 p1 p2 p3 q4 p5 q6 rd ct ar pos fn fq fr fs) (0 : Int32).toNatClampNeg &&& m.toInt64 = own_nib fr fq fn fs &&& m.toInt64 := by
      rw [s7j, own_low _ _ hm, own_nor, own_sh4, own_low (own_nib fr fq fn fs) _ hm]
      congr 1
      rw [← nb, own_idem]
      exact Int64.zero_or
    unfold own_is
    rw [e]
  have is2 : ∀ m : Int32, own_is (1 : Int32) m (own_b0_g51 p1 p2 p3 q4 p5 q6 rd ct ar pos fn fq fr fs) = 0 := fun m => (own_is0 _ _ _).mpr (by rw [s7o]; exact Int64.zero_and)
  have c1 : own_inc (0 : Int32) (own_b0_g50 p1 p2 p3 q4 p5 q6 rd ct ar pos fn fq fr fs) = p1 := by show own_incOf _ = _; rw [n2j]; exact w1
  have c2 : own_rnd (0 : Int32) (own_b0_g50 p1 p2 p3 q4 p5 q6 rd ct ar pos fn fq fr fs) = rd := by show own_rndOf _ = _; rw [n2j]; exact w2
  have c3 : own_hrd (0 : Int32) (own_b0_g50 p1 p2 p3 q4 p5 q6 rd ct ar pos fn fq fr fs) = ct := by unfold own_hrd; rw [n2j]; exact w3
  have c4 : own_arr (0 : Int32) (own_b0_g51 p1 p2 p3 q4 p5 q6 rd ct ar pos fn fq fr fs) = ar := by unfold own_arr; rw [s7j]; exact own_arr_back _ _ har.1 har.2 nr
  have c5 : own_named (0 : Int32) (own_b0_g51 p1 p2 p3 q4 p5 q6 rd ct ar pos fn fq fr fs) = fn := by
    unfold own_named; rw [is1 1 (by decide)]
    rcases hr with rfl | rfl <;> rcases hq with rfl | rfl <;> rcases hn with rfl | rfl <;> rcases hs with rfl | rfl <;> decide
  have c6 : own_queued (0 : Int32) (own_b0_g51 p1 p2 p3 q4 p5 q6 rd ct ar pos fn fq fr fs) = fq := by
    unfold own_queued; rw [is1 4 (by decide)]
    rcases hr with rfl | rfl <;> rcases hq with rfl | rfl <;> rcases hn with rfl | rfl <;> rcases hs with rfl | rfl <;> decide
  have c7 : own_relayed (0 : Int32) (own_b0_g51 p1 p2 p3 q4 p5 q6 rd ct ar pos fn fq fr fs) = fr := by
    unfold own_relayed; rw [is1 8 (by decide)]
    rcases hr with rfl | rfl <;> rcases hq with rfl | rfl <;> rcases hn with rfl | rfl <;> rcases hs with rfl | rfl <;> decide
  have c8 : own_any (own_b0_g51 p1 p2 p3 q4 p5 q6 rd ct ar pos fn fq fr fs) = fs := by
    unfold own_any; rw [is1 2 (by decide), is2 2]
    rcases hr with rfl | rfl <;> rcases hq with rfl | rfl <;> rcases hn with rfl | rfl <;> rcases hs with rfl | rfl <;> decide
  have c9 : own_inc (1 : Int32) (own_b0_g50 p1 p2 p3 q4 p5 q6 rd ct ar pos fn fq fr fs) = 0 := by show own_incOf _ = _; rw [n2o]; decide
  have c10 : own_rnd (1 : Int32) (own_b0_g50 p1 p2 p3 q4 p5 q6 rd ct ar pos fn fq fr fs) = 0 := by show own_rndOf _ = _; rw [n2o]; decide
  have c11 : own_arr (1 : Int32) (own_b0_g51 p1 p2 p3 q4 p5 q6 rd ct ar pos fn fq fr fs) = 0 := by unfold own_arr; rw [s7o]; decide
  unfold own_law_87
  rw [if_pos c1, if_pos c2, if_pos c3, if_pos c4, if_pos c5, if_pos c6, if_pos c7, if_pos c8, if_pos c9, if_pos c10, if_pos c11]

theorem own_87b (p1 p2 p3 : Int32) (q4 : Int64) (p5 : Int32) (q6 : Int64) (rd ct : Int32) (ar : Int64) (pos fn fq fr fs : Int32) (hr : fr = 0 ∨ fr = 1) (hq : fq = 0 ∨ fq = 1) (hn : fn = 0 ∨ fn = 1) (hs : fs = 0 ∨ fs = 1) (hrd : 0 ≤ rd.toInt ∧ rd.toInt < 65536) (hct : 0 ≤ ct.toInt ∧ ct.toInt < 65536) (har : 0 ≤ ar.toInt ∧ ar.toInt ≤ 576460752303423487) : own_law_87b p1 p2 p3 q4 p5 q6 rd ct ar pos fn fq fr fs = 1 := by
  have oj : ¬ (0 : Int32).toNatClampNeg = (1 : Int32).toNatClampNeg := by decide
  have s1j : (own_b0_g114 p1 p2 p3 q4 p5 q6 rd ct ar pos fn fq fr fs) (1 : Int32).toNatClampNeg &&& 15 = 0 := by
    show own_putJ _ (1 : Int32) _ (1 : Int32).toNatClampNeg &&& 15 = 0
    rw [own_putj, own_nor, own_sh4, own_nan]
    show (0 : Int64) ||| (((0 : Int64) &&& 15) &&& 15) = 0
    decide
  have s1o : (own_b0_g114 p1 p2 p3 q4 p5 q6 rd ct ar pos fn fq fr fs) (0 : Int32).toNatClampNeg = 0 := by
    show own_putJ _ (1 : Int32) _ (0 : Int32).toNatClampNeg = 0
    rw [own_puto _ _ _ _ oj]; rfl
  have s2j : (own_b0_g116 p1 p2 p3 q4 p5 q6 rd ct ar pos fn fq fr fs) (1 : Int32).toNatClampNeg = own_bs ((own_b0_g114 p1 p2 p3 q4 p5 q6 rd ct ar pos fn fq fr fs) (1 : Int32).toNatClampNeg) 4 fr := own_setj _ _ _ _
  have s2o : (own_b0_g116 p1 p2 p3 q4 p5 q6 rd ct ar pos fn fq fr fs) (0 : Int32).toNatClampNeg = 0 := (own_seto _ _ _ _ _ oj).trans s1o
  have s3o : (own_b0_g118 p1 p2 p3 q4 p5 q6 rd ct ar pos fn fq fr fs) (0 : Int32).toNatClampNeg = 0 := by
    show own_rel (own_rel (own_b0_g116 p1 p2 p3 q4 p5 q6 rd ct ar pos fn fq fr fs) 0) 1 (0 : Int32).toNatClampNeg = 0
    rw [own_relo _ 1 0 (by decide), own_relj, s2o, own_br0]
  have s3j : (own_b0_g118 p1 p2 p3 q4 p5 q6 rd ct ar pos fn fq fr fs) (1 : Int32).toNatClampNeg = own_br ((own_b0_g116 p1 p2 p3 q4 p5 q6 rd ct ar pos fn fq fr fs) (1 : Int32).toNatClampNeg) := by
    show own_rel (own_rel (own_b0_g116 p1 p2 p3 q4 p5 q6 rd ct ar pos fn fq fr fs) 0) 1 (1 : Int32).toNatClampNeg = _
    rw [own_relj, own_relo _ 0 1 (by decide)]
  have s4j : (own_b0_g120 p1 p2 p3 q4 p5 q6 rd ct ar pos fn fq fr fs) (1 : Int32).toNatClampNeg = own_bs ((own_b0_g118 p1 p2 p3 q4 p5 q6 rd ct ar pos fn fq fr fs) (1 : Int32).toNatClampNeg) 4 fq := own_setj _ _ _ _
  have s4o : (own_b0_g120 p1 p2 p3 q4 p5 q6 rd ct ar pos fn fq fr fs) (0 : Int32).toNatClampNeg = 0 := (own_seto _ _ _ _ _ oj).trans s3o
  have s5j : (own_b0_g122 p1 p2 p3 q4 p5 q6 rd ct ar pos fn fq fr fs) (1 : Int32).toNatClampNeg = own_bs ((own_b0_g120 p1 p2 p3 q4 p5 q6 rd ct ar pos fn fq fr fs) (1 : Int32).toNatClampNeg) 1 fn := own_setj _ _ _ _
  have s5o : (own_b0_g122 p1 p2 p3 q4 p5 q6 rd ct ar pos fn fq fr fs) (0 : Int32).toNatClampNeg = 0 := (own_seto _ _ _ _ _ oj).trans s4o
  have s6j : (own_b0_g124 p1 p2 p3 q4 p5 q6 rd ct ar pos fn fq fr fs) (1 : Int32).toNatClampNeg = own_bs ((own_b0_g122 p1 p2 p3 q4 p5 q6 rd ct ar pos fn fq fr fs) (1 : Int32).toNatClampNeg) 2 fs := own_setj _ _ _ _
  have s6o : (own_b0_g124 p1 p2 p3 q4 p5 q6 rd ct ar pos fn fq fr fs) (0 : Int32).toNatClampNeg = 0 := (own_seto _ _ _ _ _ oj).trans s5o
  have nb : (own_b0_g124 p1 p2 p3 q4 p5 q6 rd ct ar pos fn fq fr fs) (1 : Int32).toNatClampNeg &&& 15 = own_nib fr fq fn fs := by
    rw [s6j, s5j, s4j, s3j, s2j]; exact own_nibble _ s1j _ _ _ _ hr hq hn hs
  have s7j : (own_b0_g127 p1 p2 p3 q4 p5 q6 rd ct ar pos fn fq fr fs) (1 : Int32).toNatClampNeg = ((ar <<< ((4 : Int32) &&& 0x3f).toInt64) ||| own_nib fr fq fn fs) := by
    rw [← nb]; exact own_putj _ _ _
  have s7o : (own_b0_g127 p1 p2 p3 q4 p5 q6 rd ct ar pos fn fq fr fs) (0 : Int32).toNatClampNeg = 0 := (own_puto _ _ _ _ oj).trans s6o
  have n2j : (own_b0_g126 p1 p2 p3 q4 p5 q6 rd ct ar pos fn fq fr fs) (1 : Int32).toNatClampNeg = ((((p1.toInt64) <<< ((32 : Int32) &&& 0x3f).toInt64) ||| ((rd.toInt64) <<< ((16 : Int32) &&& 0x3f).toInt64)) ||| (ct.toInt64)) := own_putj _ _ _
  have n2o : (own_b0_g126 p1 p2 p3 q4 p5 q6 rd ct ar pos fn fq fr fs) (0 : Int32).toNatClampNeg = 0 := rfl
  obtain ⟨w1, w2, w3⟩ := own_news p1 rd ct hrd hct
  have nr : 0 ≤ (own_nib fr fq fn fs).toInt ∧ (own_nib fr fq fn fs).toInt < 16 := by
    rcases hr with rfl | rfl <;> rcases hq with rfl | rfl <;> rcases hn with rfl | rfl <;> rcases hs with rfl | rfl <;> decide
  have is1 : ∀ m : Int32, (15 : Int64) &&& m.toInt64 = m.toInt64 → own_is (1 : Int32) m (own_b0_g127 p1 p2 p3 q4 p5 q6 rd ct ar pos fn fq fr fs) = if (own_nib fr fq fn fs &&& m.toInt64) = 0 then 0 else 1 := fun m hm => by
    have e : (own_b0_g127 p1 p2 p3 q4 p5 q6 rd ct ar pos fn fq fr fs) (1 : Int32).toNatClampNeg &&& m.toInt64 = own_nib fr fq fn fs &&& m.toInt64 := by
      rw [s7j, own_low _ _ hm, own_nor, own_sh4, own_low (own_nib fr fq fn fs) _ hm]
      congr 1
      rw [← nb, own_idem]
      exact Int64.zero_or
    unfold own_is
    rw [e]
  have is2 : ∀ m : Int32, own_is (0 : Int32) m (own_b0_g127 p1 p2 p3 q4 p5 q6 rd ct ar pos fn fq fr fs) = 0 := fun m => (own_is0 _ _ _).mpr (by rw [s7o]; exact Int64.zero_and)
  have c1 : own_inc (1 : Int32) (own_b0_g126 p1 p2 p3 q4 p5 q6 rd ct ar pos fn fq fr fs) = p1 := by show own_incOf _ = _; rw [n2j]; exact w1
  have c2 : own_rnd (1 : Int32) (own_b0_g126 p1 p2 p3 q4 p5 q6 rd ct ar pos fn fq fr fs) = rd := by show own_rndOf _ = _; rw [n2j]; exact w2
  have c3 : own_hrd (1 : Int32) (own_b0_g126 p1 p2 p3 q4 p5 q6 rd ct ar pos fn fq fr fs) = ct := by unfold own_hrd; rw [n2j]; exact w3
  have c4 : own_arr (1 : Int32) (own_b0_g127 p1 p2 p3 q4 p5 q6 rd ct ar pos fn fq fr fs) = ar := by unfold own_arr; rw [s7j]; exact own_arr_back _ _ har.1 har.2 nr
  have c5 : own_named (1 : Int32) (own_b0_g127 p1 p2 p3 q4 p5 q6 rd ct ar pos fn fq fr fs) = fn := by
    unfold own_named; rw [is1 1 (by decide)]
    rcases hr with rfl | rfl <;> rcases hq with rfl | rfl <;> rcases hn with rfl | rfl <;> rcases hs with rfl | rfl <;> decide
  have c6 : own_queued (1 : Int32) (own_b0_g127 p1 p2 p3 q4 p5 q6 rd ct ar pos fn fq fr fs) = fq := by
    unfold own_queued; rw [is1 4 (by decide)]
    rcases hr with rfl | rfl <;> rcases hq with rfl | rfl <;> rcases hn with rfl | rfl <;> rcases hs with rfl | rfl <;> decide
  have c7 : own_relayed (1 : Int32) (own_b0_g127 p1 p2 p3 q4 p5 q6 rd ct ar pos fn fq fr fs) = fr := by
    unfold own_relayed; rw [is1 8 (by decide)]
    rcases hr with rfl | rfl <;> rcases hq with rfl | rfl <;> rcases hn with rfl | rfl <;> rcases hs with rfl | rfl <;> decide
  have c8 : own_any (own_b0_g127 p1 p2 p3 q4 p5 q6 rd ct ar pos fn fq fr fs) = fs := by
    unfold own_any; rw [is1 2 (by decide), is2 2]
    rcases hr with rfl | rfl <;> rcases hq with rfl | rfl <;> rcases hn with rfl | rfl <;> rcases hs with rfl | rfl <;> decide
  have c9 : own_inc (0 : Int32) (own_b0_g126 p1 p2 p3 q4 p5 q6 rd ct ar pos fn fq fr fs) = 0 := by show own_incOf _ = _; rw [n2o]; decide
  have c10 : own_rnd (0 : Int32) (own_b0_g126 p1 p2 p3 q4 p5 q6 rd ct ar pos fn fq fr fs) = 0 := by show own_rndOf _ = _; rw [n2o]; decide
  have c11 : own_arr (0 : Int32) (own_b0_g127 p1 p2 p3 q4 p5 q6 rd ct ar pos fn fq fr fs) = 0 := by unfold own_arr; rw [s7o]; decide
  unfold own_law_87b
  rw [if_pos c1, if_pos c2, if_pos c3, if_pos c4, if_pos c5, if_pos c6, if_pos c7, if_pos c8, if_pos c9, if_pos c10, if_pos c11]

theorem own_true (i r c : Int32) (a : Int64) (f : Int32) (p : Int64) : own_law i r c a f p = 1 := by
  have hrd : (r &&& (65535 : Int32)).toInt = r.toInt % (2 ^ 16 : Nat) := c_mask r 65535 16 (by decide) (by decide)
  have hct : (c &&& (65535 : Int32)).toInt = c.toInt % (2 ^ 16 : Nat) := c_mask c 65535 16 (by decide) (by decide)
  have har : (a &&& (576460752303423487 : Int64)).toInt = a.toInt % (2 ^ 59 : Nat) := c_maskL a 576460752303423487 59 (by decide) (by decide)
  have z : (0 : Int32) = 0 ∨ (0 : Int32) = 1 := Or.inl rfl
  have o : (1 : Int32) = 0 ∨ (1 : Int32) = 1 := Or.inr rfl
  unfold own_law own_law_6 own_law_12 own_law_19 own_law_25
  generalize (r &&& (65535 : Int32)) = rd at *
  generalize (c &&& (65535 : Int32)) = ct at *
  generalize (a &&& (576460752303423487 : Int64)) = ar at *
  have hA : 0 ≤ rd.toInt ∧ rd.toInt < 65536 := by omega
  have hB : 0 ≤ ct.toInt ∧ ct.toInt < 65536 := by omega
  have hC : 0 ≤ ar.toInt ∧ ar.toInt ≤ 576460752303423487 := by omega
  have k0 : ∀ fn fq fr fs : Int32, (fr = 0 ∨ fr = 1) → (fq = 0 ∨ fq = 1) → (fn = 0 ∨ fn = 1) → (fs = 0 ∨ fs = 1) → own_law_87 i r c a f p rd ct ar (f &&& (1 : Int32)) fn fq fr fs = 1 := fun fn fq fr fs h1 h2 h3 h4 => own_87 _ _ _ _ _ _ _ _ _ _ _ _ _ _ h1 h2 h3 h4 hA hB hC
  have k1 : ∀ fn fq fr fs : Int32, (fr = 0 ∨ fr = 1) → (fq = 0 ∨ fq = 1) → (fn = 0 ∨ fn = 1) → (fs = 0 ∨ fs = 1) → own_law_87b i r c a f p rd ct ar (f &&& (1 : Int32)) fn fq fr fs = 1 := fun fn fq fr fs h1 h2 h3 h4 => own_87b _ _ _ _ _ _ _ _ _ _ _ _ _ _ h1 h2 h3 h4 hA hB hC
  simp only [own_law_43, own_law_43b, own_law_57, own_law_57b, own_law_72, own_law_72b]
  rw [k0 0 0 0 0 z z z z, k0 0 0 0 1 z z z o, k0 0 0 1 0 o z z z, k0 0 0 1 1 o z z o, k0 0 1 0 0 z o z z, k0 0 1 0 1 z o z o, k0 0 1 1 0 o o z z, k0 0 1 1 1 o o z o, k0 1 0 0 0 z z o z, k0 1 0 0 1 z z o o, k0 1 0 1 0 o z o z, k0 1 0 1 1 o z o o, k0 1 1 0 0 z o o z, k0 1 1 0 1 z o o o, k0 1 1 1 0 o o o z, k0 1 1 1 1 o o o o]
  rw [k1 0 0 0 0 z z z z, k1 0 0 0 1 z z z o, k1 0 0 1 0 o z z z, k1 0 0 1 1 o z z o, k1 0 1 0 0 z o z z, k1 0 1 0 1 z o z o, k1 0 1 1 0 o o z z, k1 0 1 1 1 o o z o, k1 1 0 0 0 z z o z, k1 1 0 0 1 z z o o, k1 1 0 1 0 o z o z, k1 1 0 1 1 o z o o, k1 1 1 0 0 z o o z, k1 1 1 0 1 z o o o, k1 1 1 1 0 o o o z, k1 1 1 1 1 o o o o]
  simp only [ite_self]

set_option maxRecDepth 65536 in
set_option maxHeartbeats 40000000 in
theorem comes_1 {Post : Tables → Env → Array Value → State → Outcome → State → Prop} (hpost : ∀ tb e args s v u, (limb_1_1.after args s (.returned v) u = true ∧ limb_1_2.after args s (.returned v) u = true ∧ True) → FrameEnd s (.returned v) u (Jvm.fieldLocs frame_1_writes args s ++ Jvm.arrayLocs frame_1_arrays args s ++ Jvm.staticLocs frame_1_statics s) 32 256 → Post tb e args s (.returned v) u) :
    ArmFor flags0 classFile x code maxLocals ret World_1 tables_1 room_1 Calls_1 rest_1 Pre_1 Post := by
  intro l hfl _ _ p e ha hc hk s m args below hf hA hF happ hP
  obtain ⟨hcalls, hrest, hpre⟩ := hP
  obtain ⟨-, -, -, hnamed, -, -, -, hat⟩ := (Spec.applies_iff hf).mp happ
  obtain ⟨hg, hn⟩ := and_e (Cond.before_iff.mp (show (Jvm.Cond.and given_1 narrow_1).before args s = true from hpre))
  obtain ⟨g1, g2⟩ := and_e hg
  obtain ⟨g3, g4⟩ := and_e g2
  obtain ⟨g5, g6⟩ := and_e g4
  obtain ⟨g7, g8⟩ := and_e g6
  obtain ⟨g9, g10⟩ := and_e g8
  obtain ⟨g11, g12⟩ := and_e g10
  obtain ⟨w0, w1, w2, w3, w4, w5, rfl⟩ : ∃ w0 w1 w2 w3 w4 w5 : Value, args = #[w0, w1, w2, w3, w4, w5] := by
    have hs : args.size = 6 := by simpa [Cond.value, given_1] using g1
    obtain ⟨L⟩ := args
    match L, hs with
    | [w0, w1, w2, w3, w4, w5], _ => exact ⟨w0, w1, w2, w3, w4, w5, rfl⟩
  have hw := fun d (hd : d ∈ tables_1) => atoms_spec (ws := Jvm.Cond.code x code maxLocals ret :: tables_1) hat d (List.mem_cons_of_mem _ hd)
  have hfit : Fit s := fun {y c} hc i hi => by
    obtain ⟨ha, rfl⟩ := Array.getElem?_eq_some_iff.mp hc
    have q := List.all_eq_true.mp ((Array.all_eq_true_iff_forall_mem.mp hF) _ (Array.getElem_mem ha)) i (List.mem_range.mpr hi)
    simpa [Array.getElem?_eq_getElem hi] using q
  obtain ⟨i0, ei0⟩ := is_v g3
  obtain rfl : w0 = (.int i0) := Option.some.inj ei0
  obtain ⟨i1, ei1⟩ := is_v g5
  obtain rfl : w1 = (.int i1) := Option.some.inj ei1
  obtain ⟨i2, ei2⟩ := is_v g7
  obtain rfl : w2 = (.int i2) := Option.some.inj ei2
  obtain ⟨i3, ei3⟩ := isL_v g9
  obtain rfl : w3 = (.long i3) := Option.some.inj ei3
  obtain ⟨i4, ei4⟩ := is_v g11
  obtain rfl : w4 = (.int i4) := Option.some.inj ei4
  obtain ⟨i5, ei5⟩ := isL_v g12
  obtain rfl : w5 = (.long i5) := Option.some.inj ei5
  obtain ⟨n, o, h1, h2, h3, _, L, rfl, ⟨rfl, N⟩, hq⟩ := rm0 l s _ hw tables_1 i0 i1 i2 i3 i4 i5 s.heap s.heap.size (Nat.le_refl _)  p e ha hc hk s m _ below hf ((Spec.applies_iff_loose hf).mp happ).1 ⟨rfl, State.Warmed39.refl s, rfl⟩ trivial
  refine ⟨n, _, h1, h2, h3, hpost _ _ _ _ _ _ ⟨Cond.after_iff.mpr rfl, Cond.after_iff.mpr (eq_i res_at (Term.int_eval (1)) (congrArg Value.int (own_true i0 i1 i2 i3 i4 i5))), trivial⟩ ⟨hq.1, hq.2.1, (hq.2.2.sift fun y hy => Or.inr (N y hy)).mono (by decide) (by decide)⟩⟩
theorem main_1_1 : Claimed_1_1 := comes_1 fun _ _ _ _ _ _ h hF => ⟨h.1, hF⟩
theorem main_1_2 : Claimed_1_2 := comes_1 fun _ _ _ _ _ _ h hF => ⟨h.2.1, hF⟩
end Jvm.Pilot.@@N@@
namespace Jvm.Pilot.@@N@@
open Jvm Jvm.ClassFile Sem Op Lib Jvm.Free Jvm.Stand Jvm.Pilot.@@N@@.Jvm.D
/-! MADE BY PROGRAM (witnessworld.py) out of the Statement's table words and the real class files: 13 classes; the members and pool entries that the words name. The judged class is class 1, her method 1. -/
namespace start1
open Jvm.ClassFile
def u (s : String) : CpInfo := .utf8 (stringToUtf16 s)
/-- a pool by its gaps: so many unusable entries, then the entry; so many at the end -/
def gap : Nat → List CpInfo → List CpInfo
  | 0, r => r
  | n + 1, r => .unusable :: gap n r
def poolList (es : List (Nat × CpInfo)) (last : Nat) : List CpInfo := es.foldr (fun e r => gap e.1 (e.2 :: r)) (gap last [])
def pool (es : List (Nat × CpInfo)) (last : Nat) : Array CpInfo := ⟨poolList es last⟩
def fileOf (pool : Array CpInfo) (this : Nat) (attrs : Array Attribute := #[]) (ms : Array MethodInfo := #[]) (fl : Nat := 33) (sup : Nat := 0) (ifs : Array Nat := #[]) (fds : Array FieldInfo := #[]) : ClassFile where
  minorVersion := 0
  majorVersion := 65
  constantPool := pool
  accessFlags := fl
  thisClass := this
  superClass := sup
  interfaces := ifs
  fields := fds
  methods := ms
  attributes := attrs
def plain (name : String) (sup : Option ClassId) : Class where
  name := name
  kind := .ordinary
  loader := none
  accessFlags := 33
  super := sup
  interfaces := #[]
  cf := none
  fields := #[]
  methods := #[]
  instanceTypes := #[]
  staticTypes := #[]
  resolved := #[]
  callSites := []
  init := .initialized
  statics := none
  mirror := none

def pool0 : Array CpInfo := pool [(5, u "<init>"), (0, u "()V"), (1, .class_ 10), (1, u "java/lang/Object")] 113

def k0c0 : Code := { maxStack := 0, maxLocals := 1, code := object_method_1_code, exceptionTable := #[], attributes := #[] }
def k0m0 : Method := { name := "<init>", desc := "()V", sig := { parameters := [], returnType := none }, accessFlags := 1, code := some k0c0 }
/-- java/lang/Object -/
def k0 : Class := { plain "java/lang/Object" none with
  accessFlags := 33
  interfaces := #[]
  cf := some (fileOf pool0 8 #[] #[{ accessFlags := 1, nameIndex := 5, descriptorIndex := 6, attributes := #[] }] 33 0 #[] #[])
  fields := #[]
  methods := #[k0m0]
  instanceTypes := #[]
  staticTypes := #[]
  resolved := Array.replicate 124 none
  statics := none }

def pool1 : Array CpInfo := pool [(2, .class_ 4), (0, .nameAndType 5 6), (0, u "java/lang/Object"), (0, u "<init>"), (0, u "()V"), (0, .integer 65535), (0, .long 576460752303423487), (1, .class_ 11), (0, u "com/example/atoll/atoll/detect/HeldOrigins"), (0, .methodref 10 3), (0, .class_ 14), (0, u "com/example/atoll/atoll/detect/Beacon$Builder"), (0, .methodref 13 16), (0, .nameAndType 5 17), (0, u "(I)V"), (0, .methodref 10 19), (0, .nameAndType 20 21), (0, u "add"), (0, u "(II)V"), (0, .methodref 10 23), (0, .nameAndType 24 25), (0, u "setNews"), (0, u "(IIIIJ)V"), (0, .methodref 10 27), (0, .nameAndType 28 29), (0, u "setQueued"), (0, u "(IZ)V"), (0, .methodref 10 31), (0, .nameAndType 32 33), (0, u "relayQueued"), (0, u "(Lcom/example/atoll/atoll/detect/Beacon$Builder;)V"), (0, .methodref 10 35), (0, .nameAndType 36 29), (0, u "setNamed"), (0, .methodref 10 38), (0, .nameAndType 39 29), (0, u "setHoldsSelf"), (0, .methodref 10 41), (0, .nameAndType 42 43), (0, u "incarnation"), (0, u "(I)I"), (0, .methodref 10 45), (0, .nameAndType 46 43), (0, u "round"), (0, .methodref 10 48), (0, .nameAndType 49 43), (0, u "heard"), (0, .methodref 10 51), (0, .nameAndType 52 53), (0, u "arrived"), (0, u "(I)J"), (0, .methodref 10 55), (0, .nameAndType 56 57), (0, u "named"), (0, u "(I)Z"), (0, .methodref 10 59), (0, .nameAndType 60 57), (0, u "queued"), (0, .methodref 10 62), (0, .nameAndType 63 57), (0, u "relayed"), (0, .methodref 10 65), (0, .nameAndType 66 67), (0, u "anyHoldsSelf"), (0, u "()Z"), (0, .class_ 69), (0, u "com/example/atoll/atoll/detect/HeldOriginsSetNewsPinLaw"), (2, u "law"), (0, u "(IIIJIJ)Z")] 7

def k1m0 : Method := { name := "<init>", desc := "()V", sig := { parameters := [], returnType := none }, accessFlags := 1, code := none }
def k1c1 : Code := { maxStack := 8, maxLocals := 20, code := code, exceptionTable := #[], attributes := #[] }
def k1m1 : Method := { name := "law", desc := "(IIIJIJ)Z", sig := { parameters := [.int, .int, .int, .long, .int, .long], returnType := some .boolean }, accessFlags := 9, code := some k1c1 }
/-- com/example/atoll/atoll/detect/HeldOriginsSetNewsPinLaw -/
def k1 : Class := { plain "com/example/atoll/atoll/detect/HeldOriginsSetNewsPinLaw" (some 0) with
  accessFlags := 49
  interfaces := #[]
  cf := some (fileOf pool1 68 #[] #[{ accessFlags := 1, nameIndex := 5, descriptorIndex := 6, attributes := #[] }, { accessFlags := 9, nameIndex := 72, descriptorIndex := 73, attributes := #[] }] 49 2 #[] #[])
  fields := #[]
  methods := #[k1m0, k1m1]
  instanceTypes := #[]
  staticTypes := #[]
  resolved := Array.replicate 81 none
  statics := none }

def pool2 : Array CpInfo := pool [(1, .methodref 2 3), (0, .class_ 4), (0, .nameAndType 5 6), (0, u "java/lang/Object"), (0, u "<init>"), (0, u "()V"), (0, .class_ 8), (0, u "com/example/atoll/atoll/detect/HeldOrigins"), (0, .fieldref 7 10), (0, .nameAndType 11 12), (0, u "ids"), (0, u "[I"), (0, .fieldref 7 14), (0, .nameAndType 15 16), (0, u "newest"), (0, u "[J"), (0, .fieldref 7 18), (0, .nameAndType 19 16), (0, u "state"), (0, .fieldref 7 21), (0, .nameAndType 22 23), (0, u "mismatches"), (0, u "[B"), (0, .fieldref 7 25), (0, .nameAndType 26 27), (0, u "size"), (0, u "I"), (15, .class_ 44), (0, u "com/example/atoll/atoll/detect/HeldOrigins$Walk"), (13, .methodref 7 59), (0, .nameAndType 60 61), (0, u "move"), (0, u "(III)V"), (2, u "arrived"), (0, u "(I)J"), (5, u "(I)Z"), (0, .methodref 7 73), (0, .nameAndType 74 75), (0, u "incarnation"), (0, u "(I)I"), (0, .methodref 7 77), (0, .nameAndType 78 75), (0, u "round"), (1, .class_ 82), (1, u "com/example/atoll/atoll/detect/HeldOrigins$Forgotten"), (3, .methodref 7 87), (0, .nameAndType 88 89), (0, u "is"), (0, u "(II)Z"), (0, .long 18446744073709551611), (1, .long 8), (1, .methodref 7 95), (0, .nameAndType 96 97), (0, u "tell"), (0, u "(ILcom/example/atoll/atoll/detect/Beacon$Builder;)V"), (0, .methodref 7 99), (0, .nameAndType 100 75), (0, u "heard"), (0, .methodref 102 103), (0, .class_ 104), (0, .nameAndType 105 106), (0, u "com/example/atoll/atoll/detect/Beacon$Builder"), (0, u "add"), (0, u "(IIII)V"), (0, .methodref 7 108), (0, .nameAndType 109 110), (0, u "incarnationOf"), (0, u "(J)I"), (0, .methodref 7 112), (0, .nameAndType 113 110), (0, u "roundOf"), (0, .integer 65535), (2, .long 15), (1, .methodref 7 120), (0, .nameAndType 121 122), (0, u "set"), (0, u "(IIZ)V"), (0, .methodref 124 125), (0, .class_ 126), (0, .nameAndType 127 128), (0, u "java/lang/System"), (0, u "arraycopy"), (0, u "(Ljava/lang/Object;ILjava/lang/Object;II)V"), (0, u "FIRST_ROOM"), (2, u "SHORT_BITS"), (0, u "FLAG_BITS"), (1, u "NAMED"), (1, u "HOLDS_SELF"), (1, u "QUEUED"), (0, u "RELAYED"), (7, u "(II)V"), (4, u "relayQueued"), (0, u "(Lcom/example/atoll/atoll/detect/Beacon$Builder;)V"), (0, u "anyHoldsSelf"), (0, u "()Z"), (1, u "setNews"), (0, u "(IIIIJ)V"), (0, u "named"), (0, u "setNamed"), (0, u "(IZ)V"), (1, u "relayed"), (0, u "setHoldsSelf"), (0, u "queued"), (0, u "setQueued")] 10

def k2c0 : Code := { maxStack := 2, maxLocals := 1, code := prog_25_method_1_code, exceptionTable := #[], attributes := #[] }
def k2m0 : Method := { name := "<init>", desc := "()V", sig := { parameters := [], returnType := none }, accessFlags := 0, code := some k2c0 }
def k2c1 : Code := { maxStack := 5, maxLocals := 4, code := prog_25_method_6_code, exceptionTable := #[], attributes := #[] }
def k2m1 : Method := { name := "add", desc := "(II)V", sig := { parameters := [.int, .int], returnType := none }, accessFlags := 0, code := some k2c1 }
def k2c2 : Code := { maxStack := 6, maxLocals := 3, code := prog_25_method_10_code, exceptionTable := #[], attributes := #[] }
def k2m2 : Method := { name := "relayQueued", desc := "(Lcom/example/atoll/atoll/detect/Beacon$Builder;)V", sig := { parameters := [(.object "com/example/atoll/atoll/detect/Beacon$Builder")], returnType := none }, accessFlags := 0, code := some k2c2 }
def k2c3 : Code := { maxStack := 3, maxLocals := 2, code := prog_25_method_11_code, exceptionTable := #[], attributes := #[] }
def k2m3 : Method := { name := "anyHoldsSelf", desc := "()Z", sig := { parameters := [], returnType := some .boolean }, accessFlags := 0, code := some k2c3 }
def k2c4 : Code := { maxStack := 6, maxLocals := 3, code := prog_25_method_12_code, exceptionTable := #[], attributes := #[] }
def k2m4 : Method := { name := "tell", desc := "(ILcom/example/atoll/atoll/detect/Beacon$Builder;)V", sig := { parameters := [.int, (.object "com/example/atoll/atoll/detect/Beacon$Builder")], returnType := none }, accessFlags := 0, code := some k2c4 }
def k2c5 : Code := { maxStack := 2, maxLocals := 2, code := prog_25_method_14_code, exceptionTable := #[], attributes := #[] }
def k2m5 : Method := { name := "incarnation", desc := "(I)I", sig := { parameters := [.int], returnType := some .int }, accessFlags := 0, code := some k2c5 }
def k2c6 : Code := { maxStack := 2, maxLocals := 2, code := prog_25_method_15_code, exceptionTable := #[], attributes := #[] }
def k2m6 : Method := { name := "round", desc := "(I)I", sig := { parameters := [.int], returnType := some .int }, accessFlags := 0, code := some k2c6 }
def k2c7 : Code := { maxStack := 2, maxLocals := 2, code := prog_25_method_16_code, exceptionTable := #[], attributes := #[] }
def k2m7 : Method := { name := "heard", desc := "(I)I", sig := { parameters := [.int], returnType := some .int }, accessFlags := 0, code := some k2c7 }
def k2c8 : Code := { maxStack := 3, maxLocals := 2, code := prog_25_method_17_code, exceptionTable := #[], attributes := #[] }
def k2m8 : Method := { name := "arrived", desc := "(I)J", sig := { parameters := [.int], returnType := some .long }, accessFlags := 0, code := some k2c8 }
def k2c9 : Code := { maxStack := 8, maxLocals := 7, code := prog_25_method_18_code, exceptionTable := #[], attributes := #[] }
def k2m9 : Method := { name := "setNews", desc := "(IIIIJ)V", sig := { parameters := [.int, .int, .int, .int, .long], returnType := none }, accessFlags := 0, code := some k2c9 }
def k2c10 : Code := { maxStack := 3, maxLocals := 2, code := prog_25_method_19_code, exceptionTable := #[], attributes := #[] }
def k2m10 : Method := { name := "named", desc := "(I)Z", sig := { parameters := [.int], returnType := some .boolean }, accessFlags := 0, code := some k2c10 }
def k2c11 : Code := { maxStack := 4, maxLocals := 3, code := prog_25_method_20_code, exceptionTable := #[], attributes := #[] }
def k2m11 : Method := { name := "setNamed", desc := "(IZ)V", sig := { parameters := [.int, .boolean], returnType := none }, accessFlags := 0, code := some k2c11 }
def k2c12 : Code := { maxStack := 3, maxLocals := 2, code := prog_25_method_23_code, exceptionTable := #[], attributes := #[] }
def k2m12 : Method := { name := "relayed", desc := "(I)Z", sig := { parameters := [.int], returnType := some .boolean }, accessFlags := 0, code := some k2c12 }
def k2c13 : Code := { maxStack := 4, maxLocals := 3, code := prog_25_method_24_code, exceptionTable := #[], attributes := #[] }
def k2m13 : Method := { name := "setHoldsSelf", desc := "(IZ)V", sig := { parameters := [.int, .boolean], returnType := none }, accessFlags := 0, code := some k2c13 }
def k2c14 : Code := { maxStack := 3, maxLocals := 2, code := prog_25_method_25_code, exceptionTable := #[], attributes := #[] }
def k2m14 : Method := { name := "queued", desc := "(I)Z", sig := { parameters := [.int], returnType := some .boolean }, accessFlags := 0, code := some k2c14 }
def k2c15 : Code := { maxStack := 4, maxLocals := 3, code := prog_25_method_26_code, exceptionTable := #[], attributes := #[] }
def k2m15 : Method := { name := "setQueued", desc := "(IZ)V", sig := { parameters := [.int, .boolean], returnType := none }, accessFlags := 0, code := some k2c15 }
def k2c16 : Code := { maxStack := 3, maxLocals := 2, code := prog_25_method_27_code, exceptionTable := #[], attributes := #[] }
def k2m16 : Method := { name := "incarnationOf", desc := "(J)I", sig := { parameters := [.long], returnType := some .int }, accessFlags := 10, code := some k2c16 }
def k2c17 : Code := { maxStack := 2, maxLocals := 2, code := prog_25_method_28_code, exceptionTable := #[], attributes := #[] }
def k2m17 : Method := { name := "roundOf", desc := "(J)I", sig := { parameters := [.long], returnType := some .int }, accessFlags := 10, code := some k2c17 }
def k2c18 : Code := { maxStack := 4, maxLocals := 3, code := prog_25_method_29_code, exceptionTable := #[], attributes := #[] }
def k2m18 : Method := { name := "is", desc := "(II)Z", sig := { parameters := [.int, .int], returnType := some .boolean }, accessFlags := 2, code := some k2c18 }
def k2c19 : Code := { maxStack := 6, maxLocals := 4, code := prog_25_method_30_code, exceptionTable := #[], attributes := #[] }
def k2m19 : Method := { name := "set", desc := "(IIZ)V", sig := { parameters := [.int, .int, .boolean], returnType := none }, accessFlags := 2, code := some k2c19 }
def k2c20 : Code := { maxStack := 5, maxLocals := 4, code := prog_25_method_31_code, exceptionTable := #[], attributes := #[] }
def k2m20 : Method := { name := "move", desc := "(III)V", sig := { parameters := [.int, .int, .int], returnType := none }, accessFlags := 2, code := some k2c20 }
/-- com/example/atoll/atoll/detect/HeldOrigins -/
def k2 : Class := { plain "com/example/atoll/atoll/detect/HeldOrigins" (some 0) with
  accessFlags := 48
  interfaces := #[]
  cf := some (fileOf pool2 7 #[.nestMembers #[43, 80]] #[{ accessFlags := 0, nameIndex := 5, descriptorIndex := 6, attributes := #[] }, { accessFlags := 0, nameIndex := 105, descriptorIndex := 148, attributes := #[] }, { accessFlags := 0, nameIndex := 153, descriptorIndex := 154, attributes := #[] }, { accessFlags := 0, nameIndex := 155, descriptorIndex := 156, attributes := #[] }, { accessFlags := 0, nameIndex := 96, descriptorIndex := 97, attributes := #[] }, { accessFlags := 0, nameIndex := 74, descriptorIndex := 75, attributes := #[] }, { accessFlags := 0, nameIndex := 78, descriptorIndex := 75, attributes := #[] }, { accessFlags := 0, nameIndex := 100, descriptorIndex := 75, attributes := #[] }, { accessFlags := 0, nameIndex := 64, descriptorIndex := 65, attributes := #[] }, { accessFlags := 0, nameIndex := 158, descriptorIndex := 159, attributes := #[] }, { accessFlags := 0, nameIndex := 160, descriptorIndex := 71, attributes := #[] }, { accessFlags := 0, nameIndex := 161, descriptorIndex := 162, attributes := #[] }, { accessFlags := 0, nameIndex := 164, descriptorIndex := 71, attributes := #[] }, { accessFlags := 0, nameIndex := 165, descriptorIndex := 162, attributes := #[] }, { accessFlags := 0, nameIndex := 166, descriptorIndex := 71, attributes := #[] }, { accessFlags := 0, nameIndex := 167, descriptorIndex := 162, attributes := #[] }, { accessFlags := 10, nameIndex := 109, descriptorIndex := 110, attributes := #[] }, { accessFlags := 10, nameIndex := 113, descriptorIndex := 110, attributes := #[] }, { accessFlags := 2, nameIndex := 88, descriptorIndex := 89, attributes := #[] }, { accessFlags := 2, nameIndex := 121, descriptorIndex := 122, attributes := #[] }, { accessFlags := 2, nameIndex := 60, descriptorIndex := 61, attributes := #[] }] 48 2 #[] #[{ accessFlags := 26, nameIndex := 129, descriptorIndex := 27, attributes := #[] }, { accessFlags := 26, nameIndex := 132, descriptorIndex := 27, attributes := #[] }, { accessFlags := 26, nameIndex := 133, descriptorIndex := 27, attributes := #[] }, { accessFlags := 26, nameIndex := 135, descriptorIndex := 27, attributes := #[] }, { accessFlags := 26, nameIndex := 137, descriptorIndex := 27, attributes := #[] }, { accessFlags := 26, nameIndex := 139, descriptorIndex := 27, attributes := #[] }, { accessFlags := 26, nameIndex := 140, descriptorIndex := 27, attributes := #[] }, { accessFlags := 2, nameIndex := 26, descriptorIndex := 27, attributes := #[] }, { accessFlags := 2, nameIndex := 11, descriptorIndex := 12, attributes := #[] }, { accessFlags := 2, nameIndex := 15, descriptorIndex := 16, attributes := #[] }, { accessFlags := 2, nameIndex := 19, descriptorIndex := 16, attributes := #[] }, { accessFlags := 2, nameIndex := 22, descriptorIndex := 23, attributes := #[] }])
  fields := #[{ name := "FIRST_ROOM", type := .int, accessFlags := 26, slot := 0, constantValue := 0 }, { name := "SHORT_BITS", type := .int, accessFlags := 26, slot := 1, constantValue := 0 }, { name := "FLAG_BITS", type := .int, accessFlags := 26, slot := 2, constantValue := 0 }, { name := "NAMED", type := .int, accessFlags := 26, slot := 3, constantValue := 0 }, { name := "HOLDS_SELF", type := .int, accessFlags := 26, slot := 4, constantValue := 0 }, { name := "QUEUED", type := .int, accessFlags := 26, slot := 5, constantValue := 0 }, { name := "RELAYED", type := .int, accessFlags := 26, slot := 6, constantValue := 0 }, { name := "size", type := .int, accessFlags := 2, slot := 0, constantValue := 0 }, { name := "ids", type := (.array .int), accessFlags := 2, slot := 1, constantValue := 0 }, { name := "newest", type := (.array .long), accessFlags := 2, slot := 2, constantValue := 0 }, { name := "state", type := (.array .long), accessFlags := 2, slot := 3, constantValue := 0 }, { name := "mismatches", type := (.array .byte), accessFlags := 2, slot := 4, constantValue := 0 }]
  methods := #[k2m0, k2m1, k2m2, k2m3, k2m4, k2m5, k2m6, k2m7, k2m8, k2m9, k2m10, k2m11, k2m12, k2m13, k2m14, k2m15, k2m16, k2m17, k2m18, k2m19, k2m20]
  instanceTypes := #[.int, (.array .int), (.array .long), (.array .long), (.array .byte)]
  staticTypes := #[.int, .int, .int, .int, .int, .int, .int]
  resolved := Array.replicate 178 none
  statics := none }

def pool3 : Array CpInfo := pool [(1, .methodref 2 3), (0, .class_ 4), (0, .nameAndType 5 6), (0, u "java/lang/Object"), (0, u "<init>"), (0, u "()V"), (0, .fieldref 8 9), (0, .class_ 10), (0, .nameAndType 11 12), (0, u "com/example/atoll/atoll/detect/Beacon$Builder"), (0, u "ids"), (0, u "[I"), (0, .fieldref 8 14), (0, .nameAndType 15 12), (0, u "incarnations"), (0, .fieldref 8 17), (0, .nameAndType 18 12), (0, u "rounds"), (0, .fieldref 8 20), (0, .nameAndType 21 12), (0, u "heard"), (0, .fieldref 8 23), (0, .nameAndType 24 25), (0, u "count"), (0, u "I"), (0, .class_ 27), (0, u "com/example/atoll/atoll/detect/Beacon"), (3, u "(I)V"), (2, u "add"), (0, u "(IIII)V")] 7

def k3c0 : Code := { maxStack := 2, maxLocals := 2, code := prog_10_method_1_code, exceptionTable := #[], attributes := #[] }
def k3m0 : Method := { name := "<init>", desc := "(I)V", sig := { parameters := [.int], returnType := none }, accessFlags := 0, code := some k3c0 }
def k3c1 : Code := { maxStack := 3, maxLocals := 5, code := prog_10_method_2_code, exceptionTable := #[], attributes := #[] }
def k3m1 : Method := { name := "add", desc := "(IIII)V", sig := { parameters := [.int, .int, .int, .int], returnType := none }, accessFlags := 0, code := some k3c1 }
/-- com/example/atoll/atoll/detect/Beacon$Builder -/
def k3 : Class := { plain "com/example/atoll/atoll/detect/Beacon$Builder" (some 0) with
  accessFlags := 48
  interfaces := #[]
  cf := some (fileOf pool3 8 #[.nestHost 26] #[{ accessFlags := 0, nameIndex := 5, descriptorIndex := 31, attributes := #[] }, { accessFlags := 0, nameIndex := 34, descriptorIndex := 35, attributes := #[] }] 48 2 #[] #[{ accessFlags := 18, nameIndex := 11, descriptorIndex := 12, attributes := #[] }, { accessFlags := 18, nameIndex := 15, descriptorIndex := 12, attributes := #[] }, { accessFlags := 18, nameIndex := 18, descriptorIndex := 12, attributes := #[] }, { accessFlags := 18, nameIndex := 21, descriptorIndex := 12, attributes := #[] }, { accessFlags := 2, nameIndex := 24, descriptorIndex := 25, attributes := #[] }])
  fields := #[{ name := "ids", type := (.array .int), accessFlags := 18, slot := 0, constantValue := 0 }, { name := "incarnations", type := (.array .int), accessFlags := 18, slot := 1, constantValue := 0 }, { name := "rounds", type := (.array .int), accessFlags := 18, slot := 2, constantValue := 0 }, { name := "heard", type := (.array .int), accessFlags := 18, slot := 3, constantValue := 0 }, { name := "count", type := .int, accessFlags := 2, slot := 4, constantValue := 0 }]
  methods := #[k3m0, k3m1]
  instanceTypes := #[(.array .int), (.array .int), (.array .int), (.array .int), .int]
  staticTypes := #[]
  resolved := Array.replicate 43 none
  statics := none }

def pool4 : Array CpInfo := pool [(2, .class_ 4), (1, u "java/lang/Object"), (0, u "<init>"), (0, u "()V"), (1, .class_ 10), (1, u "java/lang/System"), (0, u "allowSecurityManager"), (0, u "I"), (16, u "cons"), (0, u "Ljava/io/Console;"), (77, .class_ 110), (1, u "java/lang/System$CallersHolder"), (43, u "initialErrStream"), (0, u "Ljava/io/PrintStream;"), (19, u "security"), (0, u "Ljava/lang/SecurityManager;"), (31, .class_ 209), (0, u "java/lang/System$1"), (7, u "props"), (0, u "Ljava/util/Properties;"), (2, u "lineSeparator"), (0, u "Ljava/lang/String;"), (96, .class_ 321), (1, u "java/lang/System$LoggerFinder"), (5, .class_ 328), (0, u "java/lang/System$Logger"), (67, u "err"), (2, u "out"), (91, u "notSupportedJnuEncoding"), (15, u "in"), (17, u "initialIn"), (0, u "Ljava/io/InputStream;"), (35, u "bootLayer"), (0, u "Ljava/lang/ModuleLayer;"), (99, .class_ 664), (0, u "java/lang/System$2"), (9, u "NEVER"), (2, u "MAYBE"), (49, u "arraycopy"), (0, u "(Ljava/lang/Object;ILjava/lang/Object;II)V"), (72, .class_ 802), (0, u "java/lang/System$Logger$Level")] 31

def k4m0 : Method := { name := "<init>", desc := "()V", sig := { parameters := [], returnType := none }, accessFlags := 2, code := none }
def k4m1 : Method := { name := "arraycopy", desc := "(Ljava/lang/Object;ILjava/lang/Object;II)V", sig := { parameters := [(.object "java/lang/Object"), .int, (.object "java/lang/Object"), .int, .int], returnType := none }, accessFlags := 265, code := none }
/-- java/lang/System -/
def k4 : Class := { plain "java/lang/System" (some 0) with
  accessFlags := 49
  interfaces := #[]
  cf := some (fileOf pool4 8 #[.nestMembers #[319, 327, 801, 108, 663, 208]] #[{ accessFlags := 2, nameIndex := 5, descriptorIndex := 6, attributes := #[] }, { accessFlags := 265, nameIndex := 727, descriptorIndex := 728, attributes := #[] }] 49 2 #[] #[{ accessFlags := 25, nameIndex := 507, descriptorIndex := 526, attributes := #[] }, { accessFlags := 25, nameIndex := 399, descriptorIndex := 155, attributes := #[] }, { accessFlags := 25, nameIndex := 396, descriptorIndex := 155, attributes := #[] }, { accessFlags := 10, nameIndex := 525, descriptorIndex := 526, attributes := #[] }, { accessFlags := 26, nameIndex := 674, descriptorIndex := 12, attributes := #[] }, { accessFlags := 26, nameIndex := 677, descriptorIndex := 12, attributes := #[] }, { accessFlags := 10, nameIndex := 11, descriptorIndex := 12, attributes := #[] }, { accessFlags := 74, nameIndex := 175, descriptorIndex := 176, attributes := #[] }, { accessFlags := 10, nameIndex := 491, descriptorIndex := 222, attributes := #[] }, { accessFlags := 74, nameIndex := 29, descriptorIndex := 30, attributes := #[] }, { accessFlags := 74, nameIndex := 154, descriptorIndex := 155, attributes := #[] }, { accessFlags := 10, nameIndex := 217, descriptorIndex := 218, attributes := #[] }, { accessFlags := 10, nameIndex := 221, descriptorIndex := 222, attributes := #[] }, { accessFlags := 8, nameIndex := 562, descriptorIndex := 563, attributes := #[] }])
  fields := #[{ name := "in", type := (.object "java/io/InputStream"), accessFlags := 25, slot := 0, constantValue := 0 }, { name := "out", type := (.object "java/io/PrintStream"), accessFlags := 25, slot := 1, constantValue := 0 }, { name := "err", type := (.object "java/io/PrintStream"), accessFlags := 25, slot := 2, constantValue := 0 }, { name := "initialIn", type := (.object "java/io/InputStream"), accessFlags := 10, slot := 3, constantValue := 0 }, { name := "NEVER", type := .int, accessFlags := 26, slot := 4, constantValue := 0 }, { name := "MAYBE", type := .int, accessFlags := 26, slot := 5, constantValue := 0 }, { name := "allowSecurityManager", type := .int, accessFlags := 10, slot := 6, constantValue := 0 }, { name := "security", type := (.object "java/lang/SecurityManager"), accessFlags := 74, slot := 7, constantValue := 0 }, { name := "notSupportedJnuEncoding", type := (.object "java/lang/String"), accessFlags := 10, slot := 8, constantValue := 0 }, { name := "cons", type := (.object "java/io/Console"), accessFlags := 74, slot := 9, constantValue := 0 }, { name := "initialErrStream", type := (.object "java/io/PrintStream"), accessFlags := 74, slot := 10, constantValue := 0 }, { name := "props", type := (.object "java/util/Properties"), accessFlags := 10, slot := 11, constantValue := 0 }, { name := "lineSeparator", type := (.object "java/lang/String"), accessFlags := 10, slot := 12, constantValue := 0 }, { name := "bootLayer", type := (.object "java/lang/ModuleLayer"), accessFlags := 8, slot := 13, constantValue := 0 }]
  methods := #[k4m0, k4m1]
  instanceTypes := #[]
  staticTypes := #[(.object "java/io/InputStream"), (.object "java/io/PrintStream"), (.object "java/io/PrintStream"), (.object "java/io/InputStream"), .int, .int, .int, (.object "java/lang/SecurityManager"), (.object "java/lang/String"), (.object "java/io/Console"), (.object "java/io/PrintStream"), (.object "java/util/Properties"), (.object "java/lang/String"), (.object "java/lang/ModuleLayer")]
  resolved := Array.replicate 834 none
  statics := none }

def pool5 : Array CpInfo := pool [(1, u "java/lang/Cloneable"), (0, .class_ 1), (0, u "java/lang/Object"), (0, .class_ 3)] 3

/-- java/lang/Cloneable -/
def k5 : Class := { plain "java/lang/Cloneable" (some 0) with
  accessFlags := 1537
  interfaces := #[]
  cf := some (fileOf pool5 2 #[] #[] 1537 4 #[] #[])
  fields := #[]
  methods := #[]
  instanceTypes := #[]
  staticTypes := #[]
  resolved := Array.replicate 8 none
  statics := none }

def pool6 : Array CpInfo := pool [(1, u "java/io/Serializable"), (0, .class_ 1), (0, u "java/lang/Object"), (0, .class_ 3)] 3

/-- java/io/Serializable -/
def k6 : Class := { plain "java/io/Serializable" (some 0) with
  accessFlags := 1537
  interfaces := #[]
  cf := some (fileOf pool6 2 #[] #[] 1537 4 #[] #[])
  fields := #[]
  methods := #[]
  instanceTypes := #[]
  staticTypes := #[]
  resolved := Array.replicate 8 none
  statics := none }

/-- the primitive byte -/
def k7 : Class := { plain "byte" none with kind := .primitive 'B', accessFlags := 0x411 }
/-- [B -/
def k8 : Class := { plain "[B" (some 0) with kind := .array 7 .byte, interfaces := #[5, 6], accessFlags := 1041 }

/-- the primitive int -/
def k9 : Class := { plain "int" none with kind := .primitive 'I', accessFlags := 0x411 }
/-- [I -/
def k10 : Class := { plain "[I" (some 0) with kind := .array 9 .int, interfaces := #[5, 6], accessFlags := 1041 }

/-- the primitive long -/
def k11 : Class := { plain "long" none with kind := .primitive 'J', accessFlags := 0x411 }
/-- [J -/
def k12 : Class := { plain "[J" (some 0) with kind := .array 11 .long, interfaces := #[5, 6], accessFlags := 1041 }

def heap : Heap := #[]
def classes : Array Class := #[k0, k1, k2, k3, k4, k5, k6, k7, k8, k9, k10, k11, k12]
def interned : List (Array UInt16 × Addr) := []
def slotsUsed : Nat := 0
def theMethod : MethodId := ⟨1, 1⟩
def args0 : Array Value := #[.int 5, .int 9, .int 3, .long 9, .int 3, .long 7]
def aboutOver (below : List Frame) : State where
  vm := { classes := classes, interned := interned.toArray }
  heap := heap
  slotsUsed := slotsUsed
  threads := #[{ frames := .invoking theMethod args0 :: below }]
def below0 : List Frame := [.native { method := ⟨0, 0⟩, args := #[] }]
def about1 : State := aboutOver below0
def p0 : Program := .bare "" "" ""
def e0 : Env := launch0.env 0 0 0
theorem w_frames : about1.frames = Frame.invoking theMethod args0 :: below0 := rfl
set_option maxRecDepth 65536 in
theorem w_args : argsFit about1.vm theMethod args0 = true := by decide +kernel
set_option maxRecDepth 65536 in
theorem w_heap : heapFits about1 = true := by decide +kernel
set_option maxRecDepth 65536 in
theorem w_runnable : about1.curStatus? = some .runnable := by decide +kernel
set_option maxRecDepth 65536 in
theorem w_alone : about1.alone = true := by decide +kernel
set_option maxRecDepth 65536 in
theorem w_named : about1.methodNamed? x = some theMethod := by decide +kernel
set_option maxRecDepth 65536 in
theorem w_hears : about1.hears theMethod below0 = true := by decide +kernel
set_option maxRecDepth 65536 in
theorem w_ripe : about1.ripe theMethod args0 below0 = true := by decide +kernel
theorem w_running : about1.status = .running := rfl
set_option maxRecDepth 65536 in
theorem w_room : about1.hasRoom e0.platform room_1 = true :=
  launch0.hasRoom_least _ room_1 (by decide +kernel) (by decide +kernel) (by decide +kernel) (by decide +kernel) (by decide +kernel) (by decide +kernel)
theorem allAtoms_all (ts : List Jvm.Cond) (a : Array Jvm.Value) (st : Jvm.State) : (allAtoms ts).before a st = ts.all (fun c => c.before a st) := by
  induction ts with
  | nil => rfl
  | cons c t ih =>
    show (Jvm.Cond.and c (allAtoms t)).before a st = _
    rw [Jvm.Cond.before_and, ih, List.all_cons]
def words1 : List Jvm.Cond := Jvm.Cond.code x code maxLocals ret :: tables_1
/-- a 'code' word, met by the world's own term for the bytes: nothing is compared byte by byte -/
theorem code_word {y : MethodName} {bytes : ByteArray} {mx : Nat} {rt : Option FieldType} {a : Array Value} {s : State} {m : MethodId} {meth : Method} {c : Code} (h1 : s.methodNamed? y = some m) (h2 : s.vm.method? m = some meth) (h3 : meth.code = some c) (h4 : c.code = bytes)
    (h5 : (c.maxLocals == mx && c.exceptionTable.isEmpty && decide (c.maxStack ≤ mostOperands) && decide (meth.sig.returnType = rt) && !meth.locks && decide (parseMethodDescriptor y.desc = some meth.sig)) = true) : (Jvm.Cond.code y bytes mx rt).before a s = true := by
  simp only [Bool.and_eq_true, beq_iff_eq, Bool.not_eq_true', decide_eq_true_eq] at h5
  obtain ⟨⟨⟨⟨⟨g1, g2⟩, g3⟩, g4⟩, g5⟩, g6⟩ := h5
  simp [Cond.before, Cond.holds, Cond.value, h1, h2, h3, h4, g1, g2, g3, g4, g5, g6]
def isCode : Jvm.Cond → Bool
  | .code _ _ _ _ => true
  | _ => false
theorem all_split {L : List Jvm.Cond} {P : Jvm.Cond → Bool} (h1 : L.all (fun c => isCode c || P c) = true) (h2 : ∀ c ∈ L.filter isCode, P c = true) : L.all P = true := by
  refine List.all_eq_true.mpr fun c hc => ?_
  have h := List.all_eq_true.mp h1 c hc
  rcases Bool.eq_false_or_eq_true (isCode c) with hi | hi
  · exact h2 c (List.mem_filter.mpr ⟨hc, hi⟩)
  · simpa [hi] using h
set_option maxRecDepth 65536 in
theorem w_c0 : (Jvm.Cond.code x code maxLocals ret).before args0 about1 = true := code_word (m := ⟨1, 1⟩) (meth := k1m1) (c := k1c1) (by decide +kernel) rfl rfl rfl (by decide +kernel)
set_option maxRecDepth 65536 in
theorem w_c1 : (Jvm.Cond.code ({ cls := "com/example/atoll/atoll/detect/HeldOrigins", name := "<init>", desc := "()V" } : Jvm.MethodName) prog_25_method_1_code (1 : Nat) (Option.none : Option Jvm.ClassFile.FieldType)).before args0 about1 = true := code_word (m := ⟨2, 0⟩) (meth := k2m0) (c := k2c0) (by decide +kernel) rfl rfl rfl (by decide +kernel)
set_option maxRecDepth 65536 in
theorem w_c2 : (Jvm.Cond.code ({ cls := "java/lang/Object", name := "<init>", desc := "()V" } : Jvm.MethodName) object_method_1_code (1 : Nat) (Option.none : Option Jvm.ClassFile.FieldType)).before args0 about1 = true := code_word (m := ⟨0, 0⟩) (meth := k0m0) (c := k0c0) (by decide +kernel) rfl rfl rfl (by decide +kernel)
set_option maxRecDepth 65536 in
theorem w_c3 : (Jvm.Cond.code ({ cls := "com/example/atoll/atoll/detect/Beacon$Builder", name := "<init>", desc := "(I)V" } : Jvm.MethodName) prog_10_method_1_code (2 : Nat) (Option.none : Option Jvm.ClassFile.FieldType)).before args0 about1 = true := code_word (m := ⟨3, 0⟩) (meth := k3m0) (c := k3c0) (by decide +kernel) rfl rfl rfl (by decide +kernel)
set_option maxRecDepth 65536 in
theorem w_c4 : (Jvm.Cond.code ({ cls := "com/example/atoll/atoll/detect/HeldOrigins", name := "add", desc := "(II)V" } : Jvm.MethodName) prog_25_method_6_code (4 : Nat) (Option.none : Option Jvm.ClassFile.FieldType)).before args0 about1 = true := code_word (m := ⟨2, 1⟩) (meth := k2m1) (c := k2c1) (by decide +kernel) rfl rfl rfl (by decide +kernel)
set_option maxRecDepth 65536 in
theorem w_c5 : (Jvm.Cond.code ({ cls := "com/example/atoll/atoll/detect/HeldOrigins", name := "move", desc := "(III)V" } : Jvm.MethodName) prog_25_method_31_code (4 : Nat) (Option.none : Option Jvm.ClassFile.FieldType)).before args0 about1 = true := code_word (m := ⟨2, 20⟩) (meth := k2m20) (c := k2c20) (by decide +kernel) rfl rfl rfl (by decide +kernel)
set_option maxRecDepth 65536 in
theorem w_c6 : (Jvm.Cond.code ({ cls := "com/example/atoll/atoll/detect/HeldOrigins", name := "setNews", desc := "(IIIIJ)V" } : Jvm.MethodName) prog_25_method_18_code (7 : Nat) (Option.none : Option Jvm.ClassFile.FieldType)).before args0 about1 = true := code_word (m := ⟨2, 9⟩) (meth := k2m9) (c := k2c9) (by decide +kernel) rfl rfl rfl (by decide +kernel)
set_option maxRecDepth 65536 in
theorem w_c7 : (Jvm.Cond.code ({ cls := "com/example/atoll/atoll/detect/HeldOrigins", name := "setQueued", desc := "(IZ)V" } : Jvm.MethodName) prog_25_method_26_code (3 : Nat) (Option.none : Option Jvm.ClassFile.FieldType)).before args0 about1 = true := code_word (m := ⟨2, 15⟩) (meth := k2m15) (c := k2c15) (by decide +kernel) rfl rfl rfl (by decide +kernel)
set_option maxRecDepth 65536 in
theorem w_c8 : (Jvm.Cond.code ({ cls := "com/example/atoll/atoll/detect/HeldOrigins", name := "set", desc := "(IIZ)V" } : Jvm.MethodName) prog_25_method_30_code (4 : Nat) (Option.none : Option Jvm.ClassFile.FieldType)).before args0 about1 = true := code_word (m := ⟨2, 19⟩) (meth := k2m19) (c := k2c19) (by decide +kernel) rfl rfl rfl (by decide +kernel)
set_option maxRecDepth 65536 in
theorem w_c9 : (Jvm.Cond.code ({ cls := "com/example/atoll/atoll/detect/HeldOrigins", name := "relayQueued", desc := "(Lcom/example/atoll/atoll/detect/Beacon$Builder;)V" } : Jvm.MethodName) prog_25_method_10_code (3 : Nat) (Option.none : Option Jvm.ClassFile.FieldType)).before args0 about1 = true := code_word (m := ⟨2, 2⟩) (meth := k2m2) (c := k2c2) (by decide +kernel) rfl rfl rfl (by decide +kernel)
set_option maxRecDepth 65536 in
theorem w_c10 : (Jvm.Cond.code ({ cls := "com/example/atoll/atoll/detect/HeldOrigins", name := "is", desc := "(II)Z" } : Jvm.MethodName) prog_25_method_29_code (3 : Nat) (Option.some Jvm.ClassFile.FieldType.boolean)).before args0 about1 = true := code_word (m := ⟨2, 18⟩) (meth := k2m18) (c := k2c18) (by decide +kernel) rfl rfl rfl (by decide +kernel)
set_option maxRecDepth 65536 in
theorem w_c11 : (Jvm.Cond.code ({ cls := "com/example/atoll/atoll/detect/HeldOrigins", name := "setNamed", desc := "(IZ)V" } : Jvm.MethodName) prog_25_method_20_code (3 : Nat) (Option.none : Option Jvm.ClassFile.FieldType)).before args0 about1 = true := code_word (m := ⟨2, 11⟩) (meth := k2m11) (c := k2c11) (by decide +kernel) rfl rfl rfl (by decide +kernel)
set_option maxRecDepth 65536 in
theorem w_c12 : (Jvm.Cond.code ({ cls := "com/example/atoll/atoll/detect/HeldOrigins", name := "setHoldsSelf", desc := "(IZ)V" } : Jvm.MethodName) prog_25_method_24_code (3 : Nat) (Option.none : Option Jvm.ClassFile.FieldType)).before args0 about1 = true := code_word (m := ⟨2, 13⟩) (meth := k2m13) (c := k2c13) (by decide +kernel) rfl rfl rfl (by decide +kernel)
set_option maxRecDepth 65536 in
theorem w_c13 : (Jvm.Cond.code ({ cls := "com/example/atoll/atoll/detect/HeldOrigins", name := "incarnation", desc := "(I)I" } : Jvm.MethodName) prog_25_method_14_code (2 : Nat) (Option.some Jvm.ClassFile.FieldType.int)).before args0 about1 = true := code_word (m := ⟨2, 5⟩) (meth := k2m5) (c := k2c5) (by decide +kernel) rfl rfl rfl (by decide +kernel)
set_option maxRecDepth 65536 in
theorem w_c14 : (Jvm.Cond.code ({ cls := "com/example/atoll/atoll/detect/HeldOrigins", name := "incarnationOf", desc := "(J)I" } : Jvm.MethodName) prog_25_method_27_code (2 : Nat) (Option.some Jvm.ClassFile.FieldType.int)).before args0 about1 = true := code_word (m := ⟨2, 16⟩) (meth := k2m16) (c := k2c16) (by decide +kernel) rfl rfl rfl (by decide +kernel)
set_option maxRecDepth 65536 in
theorem w_c15 : (Jvm.Cond.code ({ cls := "com/example/atoll/atoll/detect/HeldOrigins", name := "round", desc := "(I)I" } : Jvm.MethodName) prog_25_method_15_code (2 : Nat) (Option.some Jvm.ClassFile.FieldType.int)).before args0 about1 = true := code_word (m := ⟨2, 6⟩) (meth := k2m6) (c := k2c6) (by decide +kernel) rfl rfl rfl (by decide +kernel)
set_option maxRecDepth 65536 in
theorem w_c16 : (Jvm.Cond.code ({ cls := "com/example/atoll/atoll/detect/HeldOrigins", name := "roundOf", desc := "(J)I" } : Jvm.MethodName) prog_25_method_28_code (2 : Nat) (Option.some Jvm.ClassFile.FieldType.int)).before args0 about1 = true := code_word (m := ⟨2, 17⟩) (meth := k2m17) (c := k2c17) (by decide +kernel) rfl rfl rfl (by decide +kernel)
set_option maxRecDepth 65536 in
theorem w_c17 : (Jvm.Cond.code ({ cls := "com/example/atoll/atoll/detect/HeldOrigins", name := "heard", desc := "(I)I" } : Jvm.MethodName) prog_25_method_16_code (2 : Nat) (Option.some Jvm.ClassFile.FieldType.int)).before args0 about1 = true := code_word (m := ⟨2, 7⟩) (meth := k2m7) (c := k2c7) (by decide +kernel) rfl rfl rfl (by decide +kernel)
set_option maxRecDepth 65536 in
theorem w_c18 : (Jvm.Cond.code ({ cls := "com/example/atoll/atoll/detect/HeldOrigins", name := "arrived", desc := "(I)J" } : Jvm.MethodName) prog_25_method_17_code (2 : Nat) (Option.some Jvm.ClassFile.FieldType.long)).before args0 about1 = true := code_word (m := ⟨2, 8⟩) (meth := k2m8) (c := k2c8) (by decide +kernel) rfl rfl rfl (by decide +kernel)
set_option maxRecDepth 65536 in
theorem w_c19 : (Jvm.Cond.code ({ cls := "com/example/atoll/atoll/detect/HeldOrigins", name := "named", desc := "(I)Z" } : Jvm.MethodName) prog_25_method_19_code (2 : Nat) (Option.some Jvm.ClassFile.FieldType.boolean)).before args0 about1 = true := code_word (m := ⟨2, 10⟩) (meth := k2m10) (c := k2c10) (by decide +kernel) rfl rfl rfl (by decide +kernel)
set_option maxRecDepth 65536 in
theorem w_c20 : (Jvm.Cond.code ({ cls := "com/example/atoll/atoll/detect/HeldOrigins", name := "queued", desc := "(I)Z" } : Jvm.MethodName) prog_25_method_25_code (2 : Nat) (Option.some Jvm.ClassFile.FieldType.boolean)).before args0 about1 = true := code_word (m := ⟨2, 14⟩) (meth := k2m14) (c := k2c14) (by decide +kernel) rfl rfl rfl (by decide +kernel)
set_option maxRecDepth 65536 in
theorem w_c21 : (Jvm.Cond.code ({ cls := "com/example/atoll/atoll/detect/HeldOrigins", name := "relayed", desc := "(I)Z" } : Jvm.MethodName) prog_25_method_23_code (2 : Nat) (Option.some Jvm.ClassFile.FieldType.boolean)).before args0 about1 = true := code_word (m := ⟨2, 12⟩) (meth := k2m12) (c := k2c12) (by decide +kernel) rfl rfl rfl (by decide +kernel)
set_option maxRecDepth 65536 in
theorem w_c22 : (Jvm.Cond.code ({ cls := "com/example/atoll/atoll/detect/HeldOrigins", name := "anyHoldsSelf", desc := "()Z" } : Jvm.MethodName) prog_25_method_11_code (2 : Nat) (Option.some Jvm.ClassFile.FieldType.boolean)).before args0 about1 = true := code_word (m := ⟨2, 3⟩) (meth := k2m3) (c := k2c3) (by decide +kernel) rfl rfl rfl (by decide +kernel)
set_option maxRecDepth 65536 in
theorem w_c23 : (Jvm.Cond.code ({ cls := "com/example/atoll/atoll/detect/HeldOrigins", name := "tell", desc := "(ILcom/example/atoll/atoll/detect/Beacon$Builder;)V" } : Jvm.MethodName) prog_25_method_12_code (3 : Nat) (Option.none : Option Jvm.ClassFile.FieldType)).before args0 about1 = true := code_word (m := ⟨2, 4⟩) (meth := k2m4) (c := k2c4) (by decide +kernel) rfl rfl rfl (by decide +kernel)
set_option maxRecDepth 65536 in
theorem w_c24 : (Jvm.Cond.code ({ cls := "com/example/atoll/atoll/detect/Beacon$Builder", name := "add", desc := "(IIII)V" } : Jvm.MethodName) prog_10_method_2_code (5 : Nat) (Option.none : Option Jvm.ClassFile.FieldType)).before args0 about1 = true := code_word (m := ⟨3, 1⟩) (meth := k3m1) (c := k3c1) (by decide +kernel) rfl rfl rfl (by decide +kernel)
def codes1 : List Jvm.Cond := [Jvm.Cond.code x code maxLocals ret, Jvm.Cond.code ({ cls := "com/example/atoll/atoll/detect/HeldOrigins", name := "<init>", desc := "()V" } : Jvm.MethodName) prog_25_method_1_code (1 : Nat) (Option.none : Option Jvm.ClassFile.FieldType), Jvm.Cond.code ({ cls := "java/lang/Object", name := "<init>", desc := "()V" } : Jvm.MethodName) object_method_1_code (1 : Nat) (Option.none : Option Jvm.ClassFile.FieldType), Jvm.Cond.code ({ cls := "com/example/atoll/atoll/detect/Beacon$Builder", name := "<init>", desc := "(I)V" } : Jvm.MethodName) prog_10_method_1_code (2 : Nat) (Option.none : Option Jvm.ClassFile.FieldType), Jvm.Cond.code ({ cls := "com/example/atoll/atoll/detect/HeldOrigins", name := "add", desc := "(II)V" } : Jvm.MethodName) prog_25_method_6_code (4 : Nat) (Option.none : Option Jvm.ClassFile.FieldType), Jvm.Cond.code ({ cls := "com/example/atoll/atoll/detect/HeldOrigins", name := "move", desc := "(III)V" } : Jvm.MethodName) prog_25_method_31_code (4 : Nat) (Option.none : Option Jvm.ClassFile.FieldType), Jvm.Cond.code ({ cls := "com/example/atoll/atoll/detect/HeldOrigins", name := "setNews", desc := "(IIIIJ)V" } : Jvm.MethodName) prog_25_method_18_code (7 : Nat) (Option.none : Option Jvm.ClassFile.FieldType), Jvm.Cond.code ({ cls := "com/example/atoll/atoll/detect/HeldOrigins", name := "setQueued", desc := "(IZ)V" } : Jvm.MethodName) prog_25_method_26_code (3 : Nat) (Option.none : Option Jvm.ClassFile.FieldType), Jvm.Cond.code ({ cls := "com/example/atoll/atoll/detect/HeldOrigins", name := "set", desc := "(IIZ)V" } : Jvm.MethodName) prog_25_method_30_code (4 : Nat) (Option.none : Option Jvm.ClassFile.FieldType), Jvm.Cond.code ({ cls := "com/example/atoll/atoll/detect/HeldOrigins", name := "relayQueued", desc := "(Lcom/example/atoll/atoll/detect/Beacon$Builder;)V" } : Jvm.MethodName) prog_25_method_10_code (3 : Nat) (Option.none : Option Jvm.ClassFile.FieldType), Jvm.Cond.code ({ cls := "com/example/atoll/atoll/detect/HeldOrigins", name := "is", desc := "(II)Z" } : Jvm.MethodName) prog_25_method_29_code (3 : Nat) (Option.some Jvm.ClassFile.FieldType.boolean), Jvm.Cond.code ({ cls := "com/example/atoll/atoll/detect/HeldOrigins", name := "setNamed", desc := "(IZ)V" } : Jvm.MethodName) prog_25_method_20_code (3 : Nat) (Option.none : Option Jvm.ClassFile.FieldType), Jvm.Cond.code ({ cls := "com/example/atoll/atoll/detect/HeldOrigins", name := "setHoldsSelf", desc := "(IZ)V" } : Jvm.MethodName) prog_25_method_24_code (3 : Nat) (Option.none : Option Jvm.ClassFile.FieldType), Jvm.Cond.code ({ cls := "com/example/atoll/atoll/detect/HeldOrigins", name := "incarnation", desc := "(I)I" } : Jvm.MethodName) prog_25_method_14_code (2 : Nat) (Option.some Jvm.ClassFile.FieldType.int), Jvm.Cond.code ({ cls := "com/example/atoll/atoll/detect/HeldOrigins", name := "incarnationOf", desc := "(J)I" } : Jvm.MethodName) prog_25_method_27_code (2 : Nat) (Option.some Jvm.ClassFile.FieldType.int), Jvm.Cond.code ({ cls := "com/example/atoll/atoll/detect/HeldOrigins", name := "round", desc := "(I)I" } : Jvm.MethodName) prog_25_method_15_code (2 : Nat) (Option.some Jvm.ClassFile.FieldType.int), Jvm.Cond.code ({ cls := "com/example/atoll/atoll/detect/HeldOrigins", name := "roundOf", desc := "(J)I" } : Jvm.MethodName) prog_25_method_28_code (2 : Nat) (Option.some Jvm.ClassFile.FieldType.int), Jvm.Cond.code ({ cls := "com/example/atoll/atoll/detect/HeldOrigins", name := "heard", desc := "(I)I" } : Jvm.MethodName) prog_25_method_16_code (2 : Nat) (Option.some Jvm.ClassFile.FieldType.int), Jvm.Cond.code ({ cls := "com/example/atoll/atoll/detect/HeldOrigins", name := "arrived", desc := "(I)J" } : Jvm.MethodName) prog_25_method_17_code (2 : Nat) (Option.some Jvm.ClassFile.FieldType.long), Jvm.Cond.code ({ cls := "com/example/atoll/atoll/detect/HeldOrigins", name := "named", desc := "(I)Z" } : Jvm.MethodName) prog_25_method_19_code (2 : Nat) (Option.some Jvm.ClassFile.FieldType.boolean), Jvm.Cond.code ({ cls := "com/example/atoll/atoll/detect/HeldOrigins", name := "queued", desc := "(I)Z" } : Jvm.MethodName) prog_25_method_25_code (2 : Nat) (Option.some Jvm.ClassFile.FieldType.boolean), Jvm.Cond.code ({ cls := "com/example/atoll/atoll/detect/HeldOrigins", name := "relayed", desc := "(I)Z" } : Jvm.MethodName) prog_25_method_23_code (2 : Nat) (Option.some Jvm.ClassFile.FieldType.boolean), Jvm.Cond.code ({ cls := "com/example/atoll/atoll/detect/HeldOrigins", name := "anyHoldsSelf", desc := "()Z" } : Jvm.MethodName) prog_25_method_11_code (2 : Nat) (Option.some Jvm.ClassFile.FieldType.boolean), Jvm.Cond.code ({ cls := "com/example/atoll/atoll/detect/HeldOrigins", name := "tell", desc := "(ILcom/example/atoll/atoll/detect/Beacon$Builder;)V" } : Jvm.MethodName) prog_25_method_12_code (3 : Nat) (Option.none : Option Jvm.ClassFile.FieldType), Jvm.Cond.code ({ cls := "com/example/atoll/atoll/detect/Beacon$Builder", name := "add", desc := "(IIII)V" } : Jvm.MethodName) prog_10_method_2_code (5 : Nat) (Option.none : Option Jvm.ClassFile.FieldType)]
set_option maxRecDepth 65536 in
theorem codes_eq : words1.filter isCode = codes1 := rfl
theorem w_codes : ∀ c ∈ words1.filter isCode, c.before args0 about1 = true := by
  rw [codes_eq]
  intro c hc
  simp only [codes1, List.mem_cons, List.not_mem_nil, or_false] at hc
  rcases hc with rfl | rfl | rfl | rfl | rfl | rfl | rfl | rfl | rfl | rfl | rfl | rfl | rfl | rfl | rfl | rfl | rfl | rfl | rfl | rfl | rfl | rfl | rfl | rfl | rfl
  · exact w_c0
  · exact w_c1
  · exact w_c2
  · exact w_c3
  · exact w_c4
  · exact w_c5
  · exact w_c6
  · exact w_c7
  · exact w_c8
  · exact w_c9
  · exact w_c10
  · exact w_c11
  · exact w_c12
  · exact w_c13
  · exact w_c14
  · exact w_c15
  · exact w_c16
  · exact w_c17
  · exact w_c18
  · exact w_c19
  · exact w_c20
  · exact w_c21
  · exact w_c22
  · exact w_c23
  · exact w_c24
set_option maxRecDepth 65536 in
theorem w_t1 : (words1.take 24).all (fun c => isCode c || c.before args0 about1) = true := by decide +kernel
set_option maxRecDepth 65536 in
theorem w_t2 : ((words1.drop 24).take 24).all (fun c => isCode c || c.before args0 about1) = true := by decide +kernel
set_option maxRecDepth 65536 in
theorem w_t3 : (((words1.drop 24).drop 24).take 24).all (fun c => isCode c || c.before args0 about1) = true := by decide +kernel
set_option maxRecDepth 65536 in
theorem w_t4 : ((((words1.drop 24).drop 24).drop 24).take 24).all (fun c => isCode c || c.before args0 about1) = true := by decide +kernel
set_option maxRecDepth 65536 in
theorem w_t5 : (((((words1.drop 24).drop 24).drop 24).drop 24).take 24).all (fun c => isCode c || c.before args0 about1) = true := by decide +kernel
set_option maxRecDepth 65536 in
theorem w_t6 : ((((((words1.drop 24).drop 24).drop 24).drop 24).drop 24).take 24).all (fun c => isCode c || c.before args0 about1) = true := by decide +kernel
set_option maxRecDepth 65536 in
theorem w_t7 : ((((((words1.drop 24).drop 24).drop 24).drop 24).drop 24).drop 24).all (fun c => isCode c || c.before args0 about1) = true := by decide +kernel
theorem w_tables : (allAtoms (Jvm.Cond.code x code maxLocals ret :: tables_1)).before args0 about1 = true := by
  rw [allAtoms_all]
  show words1.all (fun c => c.before args0 about1) = true
  refine all_split ?_ w_codes
  rw [← List.take_append_drop 24 words1, List.all_append, w_t1, ← List.take_append_drop 24 (words1.drop 24), List.all_append, w_t2, ← List.take_append_drop 24 ((words1.drop 24).drop 24), List.all_append, w_t3, ← List.take_append_drop 24 (((words1.drop 24).drop 24).drop 24), List.all_append, w_t4, ← List.take_append_drop 24 ((((words1.drop 24).drop 24).drop 24).drop 24), List.all_append, w_t5, ← List.take_append_drop 24 (((((words1.drop 24).drop 24).drop 24).drop 24).drop 24), List.all_append, w_t6, w_t7]
  rfl
set_option maxRecDepth 65536 in
theorem w_case : (Jvm.Cond.and given_1 narrow_1).before args0 about1 = true := by decide +kernel
theorem w_applies : (headSpec (Jvm.Cond.code x code maxLocals ret :: tables_1) room_1).applies x e0.platform about1 = true :=
  (Spec.applies_iff w_frames).mpr ⟨w_running, w_runnable, w_alone, w_named, w_hears, w_ripe, w_room, w_tables⟩
theorem atStart : AtStart classFile x code maxLocals ret World_1 tables_1 room_1 Calls_1 rest_1 Pre_1 launch0 p0 e0 about1 theMethod args0 below0 :=
  ⟨lists_1, trivial, launch0.admits_env _ _ _, launch0.least_env, fairChoices_fair.cas, fairChoices_fair.clock, w_frames, w_args, w_heap, w_applies, trivial, trivial, w_case⟩
end start1
theorem witness_1 : WitnessClaimed_1 := ⟨start1.p0, start1.e0, start1.about1, start1.theMethod, start1.args0, start1.below0, start1.atStart⟩
end Jvm.Pilot.@@N@@
