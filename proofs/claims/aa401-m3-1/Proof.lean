import JvmDerived
import JvmDerived.Pilot.@@N@@Statement
import JvmDerived.Pilot.@@N@@Code
set_option linter.unusedVariables false
set_option linter.unusedSimpArgs false
namespace Jvm.RoadKit
open Sem ClassFile Op Lib Jvm.Stand Jvm.Free Jvm.LawKit
section New
variable {p : Program} {l : Launch} {e : Env} {R : Room} {s : State} {m : MethodId} {args : Array Value} {below : List Frame} {meth : Method} {c : Code} {T : State} {locs : List Loc} {cells slots : Nat}
theorem retI (X : Stand p l e R s m args below meth c T locs cells slots) (hx : p.tables.exec = Jvm.exec) {pc : Nat} {Ls : Array Slot} {z : Int32} {rest : List Value} (hret : meth.sig.returnType = some .int) (hd : decode c.code pc = .ok (.ireturn, 1)) {fs : List Frame}
    (hl : ∀ (f : JFrame) (acts : List Action), f.method = m → f.locked = none → f.entered = [] → (doReturn e (T.setTop f) acts (some (.int z))).1 = T.setFrames fs) : Steps p.tables e below (T.setTop (mkF m pc Ls (.int z :: rest))) (T.setFrames fs) := by
  have hm' : T.vm.method? m = some meth := X.method'
  have hn : narrow .int (.int z) = .int z := rfl
  show Steps p.tables e below (T.setTop { method := m, pc := pc, locals := Ls, stack := _ :: rest, locked := none }) _
  jvm_step X.here [X.here.top, hx, hd, hm', hret, hn]
  first | (intro acts; rw [hl _ acts rfl rfl rfl]) | rw [hl _ _ rfl rfl rfl]
  exact Steps.refl _
end New
/-- the run from the state A ends as asked: what is left of the goal while one walks -/
def own_End (p : Program) (e : Env) (below : List Frame) (s A : State) (W : Option Value → Heap → List Loc → Prop) (k n : Nat) : Prop :=
  ∃ s₂ o, Steps p.tables e below A s₂ ∧ s₂.status = .running ∧ Ended s₂ below o ∧ ∃ v L, o = .returned v ∧ W v s₂.heap L ∧ FrameEnd s o s₂ L k n
theorem own_pre {p : Program} {e : Env} {below : List Frame} {s A B : State} {W : Option Value → Heap → List Loc → Prop} {k n : Nat} (f : ∀ t, Steps p.tables e below A t → Steps p.tables e below B t) (h : own_End p e below s A W k n) : own_End p e below s B W k n := by
  obtain ⟨s₂, o, h1, h2⟩ := h; exact ⟨s₂, o, f _ h1, h2⟩
end Jvm.RoadKit
namespace Jvm.RoadKit
open Sem ClassFile Op Lib Jvm.Stand Jvm.Free Jvm.LawKit
/-- an array of n places, the i-th of which holds f i -/
def own_Arr (Z : State) (h : Heap) (a : Addr) (ty : FieldType) (n : Int32) (f : Nat → Value) : Prop := ∃ c : Cell, Arr Z h a c ty ∧ c.slots.size = n.toNatClampNeg ∧ ¬ n < 0 ∧ ∀ i, i < n.toNatClampNeg → c.slots[i]? = some (f i)
section Arrays
variable {Z : State} {h h' : Heap} {a b : Addr} {ty : FieldType} {n j : Int32} {f f' : Nat → Value} {sl : Nat} {v : Value} {ws : List Addr}
theorem own_Arr.lt (F : own_Arr Z h a ty n f) : a < h.size := by obtain ⟨c, A, -⟩ := F; exact A.lt
theorem own_Arr.ext (F : own_Arr Z h a ty n f) (E : Ext h h') : own_Arr Z h' a ty n f := by obtain ⟨c, A, r⟩ := F; exact ⟨c, A.ext E, r⟩
theorem own_Arr.other (F : own_Arr Z h b ty n f) (W : Wr h h' a sl v) (q : b ≠ a) : own_Arr Z h' b ty n f := by obtain ⟨c, A, r⟩ := F; exact ⟨c, A.other W q, r⟩
theorem own_Arr.keep (F : own_Arr Z h a ty n f) (K : Keep h h' ws) (q : a ∉ ws) : own_Arr Z h' a ty n f := by obtain ⟨c, A, r⟩ := F; exact ⟨c, ⟨K.2.1 a c A.1 q, A.2⟩, r⟩
theorem own_Arr.new {k : ClassId} (A : Arr Z h a (newA k ty n) ty) (q : ¬ n < 0) (hf : ∀ i, f i = defaultValue ty) : own_Arr Z h a ty n f :=
  ⟨_, A, sz_new _ _ _, q, fun i hi => by rw [hf]; simp [newA, hi]⟩
theorem own_Arr.set {α : Type} (w : α → Value) {g g' : Nat → α} {x : α} {q : Nat} (F : own_Arr Z h a ty n (fun i => w (g i))) (W : Wr h h' a j.toNatClampNeg (w x)) (hj : j.toNatClampNeg = q) (hg : ∀ i, g' i = if i = q then x else g i) : own_Arr Z h' a ty n (fun i => w (g' i)) := by
  obtain ⟨c, A, r1, r2, r3⟩ := F
  subst hj
  refine ⟨_, A.same W, by rw [sz_set]; exact r1, r2, fun i hi => ?_⟩
  show _ = some (w (g' i))
  rw [hg]
  by_cases e : i = j.toNatClampNeg
  · subst e
    rw [if_pos rfl]; simp [Cell.setSlot, r1, hi]
  · rw [if_neg e]
    rw [← r3 i hi]; exact Array.getElem?_setIfInBounds_ne (Ne.symm e)
theorem own_Arr.congr {α : Type} (w : α → Value) {g g' : Nat → α} (F : own_Arr Z h a ty n (fun i => w (g i))) (hg : ∀ i, i < n.toNatClampNeg → g' i = g i) : own_Arr Z h a ty n (fun i => w (g' i)) := by
  obtain ⟨c, A, r1, r2, r3⟩ := F
  exact ⟨c, A, r1, r2, fun i hi => by show _ = some (w (g' i)); rw [hg i hi]; exact r3 i hi⟩
theorem own_at {c : Cell} (S : c.slots.size = n.toNatClampNeg) (G : ∀ i, i < n.toNatClampNeg → c.slots[i]? = some (f i)) (hj : ¬ (j < 0 ∨ c.slots.size ≤ j.toNatClampNeg)) : c.slots[j.toNatClampNeg]? = some (f j.toNatClampNeg) := G _ (by rw [← S]; exact Nat.lt_of_not_le fun y => hj (Or.inr y))
theorem own_nn {n : Int32} (h : ¬ n < 0) : 0 ≤ n.toInt ∧ n.toInt = n.toNatClampNeg := by
  have e := nat_of h
  exact ⟨by omega, e⟩
theorem own_Arr.nn (F : own_Arr Z h a ty n f) : 0 ≤ n.toInt ∧ n.toInt = n.toNatClampNeg := by obtain ⟨c, A, r1, r2, r3⟩ := F; exact own_nn r2
theorem own_ge0 {i : Int32} (h : 0 ≤ i.toInt) : ¬ i < 0 := fun q => by
  have := Int32.lt_iff_toInt_lt.mp q
  have z : (0 : Int32).toInt = 0 := by decide
  omega
theorem own_inb {i n : Int32} (h0 : 0 ≤ i.toInt) (h : i < n) : ¬ i < 0 ∧ i < n := ⟨own_ge0 h0, h⟩
theorem own_inb2 {i n : Int32} (h0 : 0 ≤ i.toInt) (h : i.toInt < n.toInt) : ¬ i < 0 ∧ i < n := ⟨own_ge0 h0, Int32.lt_iff_toInt_lt.mpr h⟩
theorem own_next {i n : Int32} (h0 : 0 ≤ i.toInt) (h : i < n) : (i + 1).toInt = i.toInt + 1 ∧ i.toInt < n.toInt := by
  have q := Int32.lt_iff_toInt_lt.mp h
  have a := c_iadd i 1
  have z : (1 : Int32).toInt = 1 := by decide
  have r1 := rng32 (i + 1)
  have r2 := rng32 n
  omega
end Arrays
end Jvm.RoadKit
namespace Jvm.RoadKit
open Sem ClassFile Op Lib Jvm.Stand Jvm.Free Jvm.LawKit
section Copy
variable {p : Program} {l : Launch} {e : Env} {R : Room} {s : State} {m : MethodId} {args : Array Value} {below : List Frame} {meth : Method} {c : Code} {T : State} {locs : List Loc} {cells slots : Nat} {Z : State} {h : Heap}
theorem own_Arr.arv {a : Addr} {ty : FieldType} {n : Int32} {f : Nat → Value} (F : own_Arr Z h a ty n f) (hf : ∀ i, fits ty (f i) = true) (dv : Value) (hd : fits ty dv = true) : ∃ k, Arv Z h a k ty n ((List.range n.toNatClampNeg).map f) dv := by
  obtain ⟨c, A, r1, r2, r3⟩ := F
  refine ⟨c.cls, c, A, rfl, r1, r2, fun i hi => ?_, fun i hi => ?_⟩
  · rw [r1] at hi
    rw [r3 i hi]
    simp [List.getD_eq_getElem?_getD, hi]
  · rw [r1] at hi
    simp [List.getD_eq_getElem?_getD, hi, hf]
theorem own_arv {a : Addr} {k : ClassId} {ty : FieldType} {n : Int32} {f : Nat → Value} {vs : List Value} {dv : Value} (F : Arv Z h a k ty n vs dv) (hf : ∀ i, i < n.toNatClampNeg → vs.getD i dv = f i) : own_Arr Z h a ty n f := by
  obtain ⟨c, A, -, r1, r2, H, -⟩ := F
  exact ⟨c, A, r1, r2, fun i hi => by rw [H i (by rw [r1]; exact hi), hf i hi]⟩
/-- System.arraycopy of nothing, within one array -/
theorem own_copy0 (X : Stand p l e R s m args below meth c T locs cells slots) (hx : p.tables.exec = Jvm.exec) (hZ : Z.Warmed39 s.vm) {a0 : Array Value} {own : String} {index : Nat} (hown : s.vm.findClass own = some m.cls)
    (w1 : (Cond.methodLink own index Jvm.Stand.acN).before a0 Z = true) (w2 : (Cond.native Jvm.Stand.acN).before a0 Z = true) (w3 : (Cond.static Jvm.Stand.acN).before a0 Z = true) (w4 : (Cond.initialized "java/lang/System").before a0 Z = true) (eT : T.heap = h)
    {a : Addr} {ty : FieldType} {n sp dp : Int32} {f : Nat → Value} (F : own_Arr Z h a ty n f) (hf : ∀ i, fits ty (f i) = true) (hr : refKind ty = false) (dv : Value) (hdv : fits ty dv = true)
    (h1 : ¬ sp < 0) (h2 : ¬ dp < 0) (h4 : sp.toNatClampNeg ≤ n.toNatClampNeg) (h5 : dp.toNatClampNeg ≤ n.toNatClampNeg) {n0 : Nat} (N : Fr n0 locs) (ge : n0 ≤ a)
    {g : JFrame} (hg : g.method = m) (hsize : g.locals.size = c.maxLocals) {rest : List Value} (hs : g.stack = .int (0 : Int32) :: .int dp :: .ref a :: .int sp :: .ref a :: rest) (hd : decode c.code g.pc = .ok (.invokestatic index, 3))
    (hfr : 1 ≤ R.frames) {W : Nat} (hW : 2 * g.monitorRoom + (rest.map fun v => v.category).sum ≤ W) (hlo : W + (nativeFrameWords "java/lang/System" "arraycopy" 5 + 11) ≤ R.locals) :
    ∃ T' h' L, Stand p l e R s m args below meth c T' L cells slots ∧ T'.heap = h' ∧ Fr n0 L ∧ Keep h h' [a] ∧ own_Arr Z h' a ty n f ∧
      ∀ target, Steps p.tables e below (T'.setTop { g with pc := g.pc + 3, stack := rest }) target → Steps p.tables e below (T.setTop g) target := by
  obtain ⟨k, A⟩ := F.arv hf dv hdv
  obtain ⟨T', h', L, X', e', N', K', A', st⟩ := cpA X hx hZ hown w1 w2 w3 w4 eT A A (us := []) (Or.inl ⟨rfl, hr⟩) h1 h2 (by decide : ¬ (0 : Int32) < 0) (by show _ + 0 ≤ _; exact h4) (by show _ + 0 ≤ _; exact h5) rfl (by show dp.toNatClampNeg + 0 ≤ _; simp; exact h5) N ge hg hsize hs hd hfr hW hlo
  refine ⟨T', h', L, X', e', N', K', own_arv A' fun i hi => ?_, st⟩
  have e1 : (0 : Int32).toNatClampNeg = 0 := by decide
  rw [e1, Nat.add_zero, List.append_nil, List.take_append_drop]
  simp [List.getD_eq_getElem?_getD, hi]
end Copy
end Jvm.RoadKit
namespace Jvm.RoadKit
open Sem ClassFile Op Lib Jvm.Stand Jvm.Free Jvm.LawKit
/-- a private method of a concrete class selects itself -/
theorem own_selPriv {Z s : State} {a0 args : Array Value} {y : MethodName} {n : Nat} (hZ : Z.Warmed39 s.vm) (wi : (Cond.instantiable y.cls n).before a0 Z = true) (w1 : (Cond.instanceMethod y).before a0 Z = true) (w2 : (Cond.privateMethod y).before a0 Z = true) (hy : y.cls ≠ "java/lang/invoke/MethodHandle" ∧ y.cls ≠ "java/lang/invoke/VarHandle") : (Cond.selects y.cls y y).before args s = true := by
  have wi' : (Cond.instantiable y.cls n).before args s = true := mvT hZ wi
  have w1' : (Cond.instanceMethod y).before args s = true := mvT hZ w1
  obtain ⟨c, k, h1, h2, h3, h4, -⟩ := Cond.instantiable_spec wi'
  exact selects_self_of_private h1 h2 (by cases hk : k.isInterface <;> simp_all) (Cond.privateMethod_at (mvP hZ w2 (args := #[]))) w1' hy
end Jvm.RoadKit
namespace Jvm.RoadKit
open Sem ClassFile Op Lib Jvm.Stand Jvm.Free Jvm.LawKit
abbrev own_held (Z : State) (own : String) (index : Nat) : Prop := Jvm.Lit.constHeld Z own index
abbrev own_cw : Cond := Jvm.Lit.compactW
abbrev own_byteI (u : UInt16) : Int32 := Jvm.Lit.byteI u
/-- as own_End, with the wide frame (a String constant may have been made and booked) -/
def own_EndW (p : Program) (e : Env) (below : List Frame) (s A : State) (W : Option Value → Heap → List Loc → Prop) (k n : Nat) : Prop :=
  ∃ s₂ o, Steps p.tables e below A s₂ ∧ s₂.status = .running ∧ Ended s₂ below o ∧ ∃ v L, o = .returned v ∧ W v s₂.heap L ∧ ReturnedEndW s o s₂ L k n
theorem own_preW {p : Program} {e : Env} {below : List Frame} {s A B : State} {W : Option Value → Heap → List Loc → Prop} {k n : Nat} (f : ∀ t, Steps p.tables e below A t → Steps p.tables e below B t) (h : own_EndW p e below s A W k n) : own_EndW p e below s B W k n := by
  obtain ⟨s₂, o, h1, h2⟩ := h; exact ⟨s₂, o, f _ h1, h2⟩
theorem own_sinceMono {s : State} {vm : Vm} {n n' : Nat} (h : s.Since vm n) (q : n ≤ n') : s.Since vm n' := ⟨h.1, fun j p a b => ⟨(h.2 j p a b).1, Nat.lt_of_lt_of_le (h.2 j p a b).2 q⟩⟩
theorem own_fr {s : State} {h0 : Heap} {n0 : Nat} {L : List Loc} (hh : s.heap = h0) (hn0 : n0 = h0.size) (N : Fr n0 L) : Fr s.heap.size L := by rw [hh, ← hn0]; exact N
theorem own_kp {s Z : State} {h0 : Heap} (hh : s.heap = h0) (hZh : Z.heap = h0) : ∀ (b : Addr) (cl : Cell), Z.heap[b]? = some cl → s.heap[b]? = some cl := fun b cl q => by rw [hh, ← hZh]; exact q
section Ldc
variable {p : Program} {l : Launch} {e : Env} {R : Room} {s : State} {m : MethodId} {args : Array Value} {below : List Frame} {meth : Method} {c : Code} {T : State} {locs : List Loc} {cells slots : Nat} {Z : State} {a0 : Array Value} {h : Heap} {vm0 : Vm} {Ts : List String} {own text : String} {index : Nat}
theorem own_ldc (X : Stand p l e R (s.setVm vm0) m args below meth c T locs cells slots) (hx : p.tables.exec = Jvm.exec) (hZ : Z.Warmed39 (s.setVm vm0).vm) (hown : (s.setVm vm0).vm.findClass own = some m.cls) (w : (Cond.stringLink own index text).before a0 Z = true) (wS : ∀ a ∈ Bundle.stringAtoms, a.before a0 Z = true)
    (eT : T.heap = h) (hS : s.Since vm0 h.size) (N : Fr s.heap.size locs) (hkeep : ∀ (b : Addr) (cl : Cell), Z.heap[b]? = some cl → s.heap[b]? = some cl) (I : IB Z vm0 Ts) (hnot : text ∉ Ts) (hh : own_held Z own index) (hcw : own_cw.before a0 Z = true)
    {L : List Int32} {z : Int32} (ht : (∀ c ∈ text.toList, c.toNat < 256) ∧ text.toList.map (fun c => Value.int (own_byteI c.toNat.toUInt16)) = L.map Value.int) (hz : ¬ z < 0) (hl : z.toNatClampNeg = L.length)
    {g : JFrame} (hg : g.method = m) (hd : decode c.code g.pc = .ok (.ldc index, 2)) {n : Nat} (hn : 4 * text.toList.length ≤ n) (hbig : n ≤ 536870912) (hc : cells + 2 ≤ R.cells) (hl' : slots + (n + 4) ≤ R.slots) :
    ∃ (a : Addr) (T' : State) (h' : Heap) (b : Addr), Stand p l e R (s.setVm T'.vm) m args below meth c T' locs (cells + 2) (slots + (n + 4)) ∧ T'.heap = h' ∧ Ext h h' ∧ s.Since T'.vm h'.size ∧ Z.Warmed39 (s.setVm T'.vm).vm ∧ (s.setVm T'.vm).vm.findClass own = some m.cls ∧
      Exa Z h' a "java/lang/String" ∧ Fld Z h' a "java/lang/String" "coder" "B" (.int 0) ∧ Fld Z h' a "java/lang/String" "value" "[B" (.ref b) ∧ own_Arr Z h' b .byte z (fun i => Value.int (L.getD i 0)) ∧ IB Z T'.vm (text :: Ts) ∧ Lit (s.setVm T'.vm) own index a ∧ (s.setVm vm0).Warmed39 T'.vm ∧
      ∀ target, Steps p.tables e below (T'.setTop { g with pc := g.pc + 2, stack := .ref a :: g.stack }) target → Steps p.tables e below (T.setTop g) target := by
  obtain ⟨a, T', h', k1, b, k, r1, r2, r3, r4, r5, r6, r7, r8, r9, r10, r11, -, -, r14, r15, r16⟩ := ldcSVL (s := s.setVm vm0) (vm0 := vm0) X hx hZ hown w wS eT ((State.WarmedH.refl (s.setVm vm0)).since h.size) (Nat.le_refl _) N hkeep I hnot hh hcw ht hz (by rw [hl, List.length_map]) hg hd hn hbig hc hl'
  refine ⟨a, T', h', b, r1, r2, r3, hS.trans (own_sinceMono r4 r5) r3.1, r6, r7, r8, r9, r10, own_arv r11 fun i hi => ?_, r14, r15, r4.1, r16⟩
  simp only [List.getD_eq_getElem?_getD, List.getElem?_map]
  cases L[i]? <;> rfl
end Ldc
end Jvm.RoadKit
namespace Jvm.Pilot.@@N@@
open Jvm Jvm.ClassFile Sem Op Lib Jvm.Free Jvm.Stand Jvm.LawKit Jvm.RoadKit Bundle Jvm.Pilot.@@N@@.Jvm.D
def own_Str (Z : State) (h : Heap) (a : Addr) (v0 : Addr) (v1 : Int32) : Prop := Exa Z h a "java/lang/String" ∧ Fld Z h a "java/lang/String" "value" "[B" (.ref v0) ∧ Fld Z h a "java/lang/String" "coder" "B" (.int v1)
def own_Op (Z : State) (h : Heap) (a : Addr) (v0 : Addr) : Prop := Exa Z h a "com/example/solmap/solmap/sparql/Expression$Operator" ∧ Fld Z h a "com/example/solmap/solmap/sparql/Expression$Operator" "symbol" "Ljava/lang/String;" (.ref v0)
def own_L39 : List Int32 := [61]
theorem ht_39 : (∀ c ∈ ("=" : String).toList, c.toNat < 256) ∧ ("=" : String).toList.map (fun c => Value.int (own_byteI c.toNat.toUInt16)) = own_L39.map Value.int := by decide +kernel
def own_L47 : List Int32 := [33, 61]
theorem ht_47 : (∀ c ∈ ("!=" : String).toList, c.toNat < 256) ∧ ("!=" : String).toList.map (fun c => Value.int (own_byteI c.toNat.toUInt16)) = own_L47.map Value.int := by decide +kernel
def own_g0 : Nat → Int32 := fun ii => ([61] : List Int32).getD ii 0
def own_g1 : Nat → Int32 := fun ii => ([33, 61] : List Int32).getD ii 0
def own_g2 : Nat → Int32 := fun ii => ([60] : List Int32).getD ii 0
def own_g3 : Nat → Int32 := fun ii => ([62] : List Int32).getD ii 0
def own_g4 : Nat → Int32 := fun ii => ([60, 61] : List Int32).getD ii 0
def own_g5 : Nat → Int32 := fun ii => ([62, 61] : List Int32).getD ii 0
def own_c39 : Nat → Int32 := fun ii => own_L39.getD ii 0
def own_c47 : Nat → Int32 := fun ii => own_L47.getD ii 0
theorem own_wS {Z : State} {a0 : Array Value} (hw : ∀ d ∈ tables_1, d.before a0 Z = true) : ∀ d ∈ Bundle.stringAtoms, d.before a0 Z = true := by
  intro d hd
  simp only [Bundle.stringAtoms, List.mem_cons, List.not_mem_nil, or_false] at hd
  rcases hd with rfl | rfl | rfl | rfl | rfl | rfl | rfl
  · exact hw _ (List.mem_of_getElem? (i := 16) rfl)
  · exact hw _ (List.mem_of_getElem? (i := 17) rfl)
  · exact hw _ (List.mem_of_getElem? (i := 18) rfl)
  · exact hw _ (List.mem_of_getElem? (i := 19) rfl)
  · exact hw _ (List.mem_of_getElem? (i := 20) rfl)
  · exact hw _ (List.mem_of_getElem? (i := 21) rfl)
  · exact hw _ (List.mem_of_getElem? (i := 22) rfl)
theorem own_last (p : Int32) {i : Int32} (e : i = ((p &&& (2147483647 : Int32)) % (6 : Int32))) (h0 : ¬ i = 0) (h1 : ¬ i = 1) (h2 : ¬ i = 2) (h3 : ¬ i = 3) (h4 : ¬ i = 4) : i = (5 : Int32) := by
  have a := c_and p 2147483647 (by decide)
  have b := (c_irem (p &&& (2147483647 : Int32)) 6 6 (by decide)).1 a.1
  rw [← e] at b
  have k : ∀ (x : Int32) (n : Int), x.toInt = n → i.toInt = n → i = x := fun x n q r => Int32.toInt_inj.mp (r.trans q.symm)
  have q0 : i.toInt ≠ 0 := fun q => h0 (k 0 0 (by decide) q)
  have q1 : i.toInt ≠ 1 := fun q => h1 (k 1 1 (by decide) q)
  have q2 : i.toInt ≠ 2 := fun q => h2 (k 2 2 (by decide) q)
  have q3 : i.toInt ≠ 3 := fun q => h3 (k 3 3 (by decide) q)
  have q4 : i.toInt ≠ 4 := fun q => h4 (k 4 4 (by decide) q)
  exact k 5 5 (by decide) (by omega)
theorem own_strNe {Z : State} {h : Heap} {a1 b1 a2 b2 : Addr} {c1 c2 n1 n2 : Int32} {g1 g2 : Nat → Int32} (S1 : own_Str Z h a1 b1 c1) (A1 : own_Arr Z h b1 .byte n1 (fun i => Value.int (g1 i))) (S2 : own_Str Z h a2 b2 c2) (A2 : own_Arr Z h b2 .byte n2 (fun i => Value.int (g2 i)))
    (hd : n1.toNatClampNeg ≠ n2.toNatClampNeg ∨ (0 < n1.toNatClampNeg ∧ g1 0 ≠ g2 0)) : a1 ≠ a2 := by
  intro q
  subst q
  by_cases hb : b1 = b2
  · subst hb
    obtain ⟨d1, k1, z1, -, f1⟩ := A1
    obtain ⟨d2, k2, z2, -, f2⟩ := A2
    have ed : d1 = d2 := Option.some.inj (k1.1.symm.trans k2.1)
    subst ed
    rcases hd with hd | ⟨hp, hd⟩
    · exact hd (z1.symm.trans z2)
    · have u1 := f1 0 hp
      have u2 := f2 0 (by rw [← z2, z1]; exact hp)
      exact hd (Value.int.inj (Option.some.inj (u1.symm.trans u2)))
  · exact Fld.ne S1.2.1 S2.2.1 (fun e => hb (Value.ref.inj e)) rfl
section Start
variable {Z : State} {args : Array Value}
theorem own_eqI {a : Term} {x : Int32} (h : (Cond.eq a (.int x)).value args Z none Z [] = some true) : a.eval args Z none [] Z = some (.int x) := Cond.eq_int (by simp [Cond.holds, h]) (Term.int_eval x)
theorem own_el {t : Term} {j x : Int32} {k : Nat} {a : Addr} {cl : Cell} (e : (Cond.eq (.elem t (.int j)) (.int x)).value args Z none Z [] = some true) (ev : t.eval args Z none [] Z = some (.ref a)) (hc : Z.heap[a]? = some cl) (hk : j.toNatClampNeg = k) : cl.slots[k]? = some (.int x) := by
  subst hk; exact (elem_in (own_eqI e) ev (Term.int_eval j) hc).2
theorem own_lenlt {t : Term} {v : Value} {x : Addr} {cl : Cell} (ht : t.eval args Z none [] Z = some (.ref x)) (ha : Z.arrayAt? x = some cl) (h : (Term.length t).eval args Z none [] Z = some v) : cl.slots.size < 2 ^ 31 := by
  by_cases q : cl.slots.size < 2 ^ 31
  · exact q
  · have q' : ¬ cl.slots.size < 2147483648 := q
    simp [Term.eval, ht, ha, q'] at h
theorem own_opStart {n : String} {z : Int32} {L : List Int32} (hf : Fit Z) (hi : (Cond.initialized "com/example/solmap/solmap/sparql/Expression$Operator").before args Z = true) (hl : (Cond.laysStatic "com/example/solmap/solmap/sparql/Expression$Operator" n "Lcom/example/solmap/solmap/sparql/Expression$Operator;").before args Z = true)
    (e0 : (Cond.exactly (.static "com/example/solmap/solmap/sparql/Expression$Operator" n "Lcom/example/solmap/solmap/sparql/Expression$Operator;") "com/example/solmap/solmap/sparql/Expression$Operator").value args Z none Z [] = some true)
    (e1 : (Cond.exactly (.field (.static "com/example/solmap/solmap/sparql/Expression$Operator" n "Lcom/example/solmap/solmap/sparql/Expression$Operator;") "com/example/solmap/solmap/sparql/Expression$Operator" "symbol" "Ljava/lang/String;") "java/lang/String").value args Z none Z [] = some true)
    (e2 : (Cond.eq (.field (.field (.static "com/example/solmap/solmap/sparql/Expression$Operator" n "Lcom/example/solmap/solmap/sparql/Expression$Operator;") "com/example/solmap/solmap/sparql/Expression$Operator" "symbol" "Ljava/lang/String;") "java/lang/String" "coder" "B") (.int 0)).value args Z none Z [] = some true)
    (e3 : (Cond.arrayOf (.field (.field (.static "com/example/solmap/solmap/sparql/Expression$Operator" n "Lcom/example/solmap/solmap/sparql/Expression$Operator;") "com/example/solmap/solmap/sparql/Expression$Operator" "symbol" "Ljava/lang/String;") "java/lang/String" "value" "[B") .byte).value args Z none Z [] = some true)
    (e4 : (Cond.eq (.length (.field (.field (.static "com/example/solmap/solmap/sparql/Expression$Operator" n "Lcom/example/solmap/solmap/sparql/Expression$Operator;") "com/example/solmap/solmap/sparql/Expression$Operator" "symbol" "Ljava/lang/String;") "java/lang/String" "value" "[B")) (.int z)).value args Z none Z [] = some true)
    (e5 : ∀ a cl, (Term.field (.field (.static "com/example/solmap/solmap/sparql/Expression$Operator" n "Lcom/example/solmap/solmap/sparql/Expression$Operator;") "com/example/solmap/solmap/sparql/Expression$Operator" "symbol" "Ljava/lang/String;") "java/lang/String" "value" "[B").eval args Z none [] Z = some (.ref a) → Z.heap[a]? = some cl → HasL cl 0 (L.map Value.int))
    (hz : ¬ z < 0) (hL : z.toNatClampNeg = L.length) :
    ∃ a s1 v1, Sta Z Z.heap "com/example/solmap/solmap/sparql/Expression$Operator" n "Lcom/example/solmap/solmap/sparql/Expression$Operator;" (.ref a) ∧ own_Op Z Z.heap a s1 ∧ own_Str Z Z.heap s1 v1 0 ∧ own_Arr Z Z.heap v1 .byte z (fun i => Value.int (L.getD i 0)) ∧ (Term.static "com/example/solmap/solmap/sparql/Expression$Operator" n "Lcom/example/solmap/solmap/sparql/Expression$Operator;").eval args Z none [] Z = some (.ref a) := by
  obtain ⟨a, ea⟩ := exa_v e0
  obtain ⟨s1, es⟩ := exa_v e1
  obtain ⟨v1, ev⟩ := arr_v e3
  obtain ⟨cl, A⟩ := Arr.start ev e3
  have ha : Z.arrayAt? v1 = some cl := A.fin (Vm.Alike.refl _)
  have ln := own_eqI e4
  have q : cl.slots.size < 2 ^ 31 := own_lenlt ev ha ln
  have el := (len_f ev ha q).symm.trans ln
  have V := Arv.start (dv := .int 0) hf A q (Value.int.inj (Option.some.inj el)) hz (by rw [hL, List.length_map]) (e5 v1 cl ev A.1)
  refine ⟨a, s1, v1, Sta.start ea (Or.inr ⟨hi, hl⟩), ⟨Exa.start ea e0, Fld.start ((fld_at ea).symm.trans es)⟩, ⟨Exa.start es e1, Fld.start ((fld_at es).symm.trans ev), Fld.start ((fld_at es).symm.trans (own_eqI e2))⟩, own_arv V fun i hi => ?_, ea⟩
  simp only [List.getD_eq_getElem?_getD, List.getElem?_map]
  cases L[i]? <;> rfl
theorem own_ord {n : String} {a : Addr} {k : Int32} (ea : (Term.static "com/example/solmap/solmap/sparql/Expression$Operator" n "Lcom/example/solmap/solmap/sparql/Expression$Operator;").eval args Z none [] Z = some (.ref a)) (e : (Cond.eq (.field (.static "com/example/solmap/solmap/sparql/Expression$Operator" n "Lcom/example/solmap/solmap/sparql/Expression$Operator;") "java/lang/Enum" "ordinal" "I") (.int k)).value args Z none Z [] = some true) : Fld Z Z.heap a "java/lang/Enum" "ordinal" "I" (.int k) := Fld.start ((fld_at ea).symm.trans (own_eqI e))
end Start
theorem d1k0_0 : decode method_2_code 0 = .ok (.iload_n 0, 1) := by decide +kernel
theorem d1k0_1 : decode method_2_code 1 = .ok (.ifCond .ne 7, 3) := by decide +kernel
theorem d1k0_4 : decode method_2_code 4 = .ok (.getstatic 7, 3) := by decide +kernel
theorem d1k0_7 : decode method_2_code 7 = .ok (.areturn, 1) := by decide +kernel
theorem pn_1k0 : plainName "com/example/solmap/solmap/sparql/OperatorIsEqualityPinLaw" = true := by first | (simp [plainName, overriddenIn]; done) | decide +kernel
theorem ef_1k0 (m : MethodId) (x0 : Int32) : entryFrame m #[(.int x0)] 1 = mkF m 0 #[.val (.int x0)] [] := by first | (simp [entryFrame, mkF, argsToLocals, Value.category]; done) | rfl
def Q1k0 (Z : State) (ax : Addr) (h0 : Heap) (n0 : Nat) (v : Option Value) (h : Heap) (L : List Loc) : Prop := v = some (.ref ax) ∧ Fr n0 L ∧ h = h0
set_option maxRecDepth 65536 in
set_option maxHeartbeats 40000000 in
theorem rm1k0 (l : Launch) (Z : State) (a0 : Array Value) (hw : ∀ d ∈ tables_1, d.before a0 Z = true) (ws : List Jvm.Cond) (ax : Addr) (h0 : Heap) (n0 : Nat) (Z0 : n0 ≤ h0.size) (T1 : Sta Z h0 "com/example/solmap/solmap/sparql/Expression$Operator" "EQUAL" "Lcom/example/solmap/solmap/sparql/Expression$Operator;" (.ref ax)) :
    MetFree l (⟨"com/example/solmap/solmap/sparql/OperatorIsEqualityPinLaw", "pick", "(I)Lcom/example/solmap/solmap/sparql/Expression$Operator;"⟩ : MethodName) (head1 (Jvm.Cond.code (⟨"com/example/solmap/solmap/sparql/OperatorIsEqualityPinLaw", "pick", "(I)Lcom/example/solmap/solmap/sparql/Expression$Operator;"⟩ : MethodName) method_2_code 1 (some (.object "com/example/solmap/solmap/sparql/Expression$Operator")) :: ws) ({ frames := 0, cells := 0, slots := 0, locals := 0 } : Room)) (fun a U => a = #[(.int (0 : Int32))] ∧ Z.Warmed39 U.vm ∧ U.heap = h0) (fun _ _ _ _ _ => True) (fun _ U o U' => ∃ v L, o = .returned v ∧ Q1k0 Z ax h0 n0 v U'.heap L ∧ FrameEnd U o U' L ({ frames := 0, cells := 0, slots := 0, locals := 0 } : Room).cells ({ frames := 0, cells := 0, slots := 0, locals := 0 } : Room).slots) := by
  refine MetFree.of_bodySF (plainFor_of_name pn_1k0) hisR ?_
  intro p e s m args below meth c s₁ Bd hml0 hP hK
  obtain ⟨rfl, hZ, hh⟩ := hP
  have hx := Bd.exec
  have hby := Bd.bytes
  have hml : c.maxLocals = 1 := hml0
  have hown : s.vm.findClass "com/example/solmap/solmap/sparql/OperatorIsEqualityPinLaw" = some m.cls := findClass_of_methodNamed Bd.named
  have hnm := (name_of_methodNamed Bd.named Bd.method).1
  have X0 : Stand p l e ({ frames := 0, cells := 0, slots := 0, locals := 0 } : Room) s m #[(.int (0 : Int32))] below meth c s₁ [] 0 0 := Stand.of_body Bd
  have e0 : s₁.heap = h0 := by rw [← hh, Bd.state]; rfl
  have N0 := Fr.nil n0
  show own_End p e below s (s₁.setTop (entryFrame m #[(.int (0 : Int32))] 1)) (Q1k0 Z ax h0 n0) ({ frames := 0, cells := 0, slots := 0, locals := 0 } : Room).cells ({ frames := 0, cells := 0, slots := 0, locals := 0 } : Room).slots
  refine own_pre (A := s₁.setTop (mkF m 0 #[.val (.int (0 : Int32))] [])) (fun tt kt => castTop (ef_1k0 m (0 : Int32)) kt) ?_
  show own_End p e below s (s₁.setTop (mkF m 0 #[.val (.int (0 : Int32))] [])) (Q1k0 Z ax h0 n0) ({ frames := 0, cells := 0, slots := 0, locals := 0 } : Room).cells ({ frames := 0, cells := 0, slots := 0, locals := 0 } : Room).slots
  obtain ⟨T1, X1, e1, st1⟩ := getS2 X0 hx hZ hown (host := "") (Or.inl (hw _ (List.mem_of_getElem? (i := 5) rfl))) Via.refl e0 T1 (g := (mkF m 4 #[.val (.int (0 : Int32))] [])) rfl (hb hby d1k0_4)
  refine own_pre (A := T1.setTop (mkF m 7 #[.val (.int (0 : Int32))] [(.ref ax)])) (fun tt kt => ?_) ?_
  · show Steps p.tables e below (s₁.setTop (mkF m 0 #[.val (.int (0 : Int32))] [])) _
    refine XS.iloadN X0.here hx rfl (hb hby d1k0_0) rfl ?_
    refine XS.ifNo X0.here hx rfl (hb hby d1k0_1) rfl ((if0 _ _).trans (teq ((by decide) : (0 : Int32) = (0 : Int32))).2) ?_
    show Steps p.tables e below (s₁.setTop (mkF m 4 #[.val (.int (0 : Int32))] [])) _
    refine st1 _ ?_
    exact kt
  show own_End p e below s (T1.setTop (mkF m 7 #[.val (.int (0 : Int32))] [(.ref ax)])) (Q1k0 Z ax h0 n0) ({ frames := 0, cells := 0, slots := 0, locals := 0 } : Room).cells ({ frames := 0, cells := 0, slots := 0, locals := 0 } : Room).slots
  obtain ⟨fs, hr, hrun, hended, hW, hsame⟩ := X1.leave (v := some (.ref ax)) (fun h => by rw [Bd.returns] at h; cases h)
  refine ⟨_, _, ?_, hrun, hended, _, _, rfl, ?_, ⟨_, rfl⟩, hW, hsame.mono (by decide) (by decide)⟩
  · exact retOut X1 hx Bd.returns rfl (Or.inr (Or.inr (Or.inr (Or.inr ⟨rfl, rfl, rfl⟩)))) (hb hby d1k0_7) hr
  · show Q1k0 Z ax h0 n0 _ T1.heap _
    rw [e1]
    exact ⟨rfl, N0, rfl⟩
theorem d1k1_0 : decode method_2_code 0 = .ok (.iload_n 0, 1) := by decide +kernel
theorem d1k1_1 : decode method_2_code 1 = .ok (.ifCond .ne 7, 3) := by decide +kernel
theorem d1k1_8 : decode method_2_code 8 = .ok (.iload_n 0, 1) := by decide +kernel
theorem d1k1_9 : decode method_2_code 9 = .ok (.iconst 1, 1) := by decide +kernel
theorem d1k1_10 : decode method_2_code 10 = .ok (.if_icmp .ne 7, 3) := by decide +kernel
theorem d1k1_13 : decode method_2_code 13 = .ok (.getstatic 13, 3) := by decide +kernel
theorem d1k1_16 : decode method_2_code 16 = .ok (.areturn, 1) := by decide +kernel
theorem pn_1k1 : plainName "com/example/solmap/solmap/sparql/OperatorIsEqualityPinLaw" = true := by first | (simp [plainName, overriddenIn]; done) | decide +kernel
theorem ef_1k1 (m : MethodId) (x0 : Int32) : entryFrame m #[(.int x0)] 1 = mkF m 0 #[.val (.int x0)] [] := by first | (simp [entryFrame, mkF, argsToLocals, Value.category]; done) | rfl
def Q1k1 (Z : State) (ax : Addr) (h0 : Heap) (n0 : Nat) (v : Option Value) (h : Heap) (L : List Loc) : Prop := v = some (.ref ax) ∧ Fr n0 L ∧ h = h0
set_option maxRecDepth 65536 in
set_option maxHeartbeats 40000000 in
theorem rm1k1 (l : Launch) (Z : State) (a0 : Array Value) (hw : ∀ d ∈ tables_1, d.before a0 Z = true) (ws : List Jvm.Cond) (ax : Addr) (h0 : Heap) (n0 : Nat) (Z0 : n0 ≤ h0.size) (T1 : Sta Z h0 "com/example/solmap/solmap/sparql/Expression$Operator" "NOT_EQUAL" "Lcom/example/solmap/solmap/sparql/Expression$Operator;" (.ref ax)) :
    MetFree l (⟨"com/example/solmap/solmap/sparql/OperatorIsEqualityPinLaw", "pick", "(I)Lcom/example/solmap/solmap/sparql/Expression$Operator;"⟩ : MethodName) (head1 (Jvm.Cond.code (⟨"com/example/solmap/solmap/sparql/OperatorIsEqualityPinLaw", "pick", "(I)Lcom/example/solmap/solmap/sparql/Expression$Operator;"⟩ : MethodName) method_2_code 1 (some (.object "com/example/solmap/solmap/sparql/Expression$Operator")) :: ws) ({ frames := 0, cells := 0, slots := 0, locals := 0 } : Room)) (fun a U => a = #[(.int (1 : Int32))] ∧ Z.Warmed39 U.vm ∧ U.heap = h0) (fun _ _ _ _ _ => True) (fun _ U o U' => ∃ v L, o = .returned v ∧ Q1k1 Z ax h0 n0 v U'.heap L ∧ FrameEnd U o U' L ({ frames := 0, cells := 0, slots := 0, locals := 0 } : Room).cells ({ frames := 0, cells := 0, slots := 0, locals := 0 } : Room).slots) := by
  refine MetFree.of_bodySF (plainFor_of_name pn_1k1) hisR ?_
  intro p e s m args below meth c s₁ Bd hml0 hP hK
  obtain ⟨rfl, hZ, hh⟩ := hP
  have hx := Bd.exec
  have hby := Bd.bytes
  have hml : c.maxLocals = 1 := hml0
  have hown : s.vm.findClass "com/example/solmap/solmap/sparql/OperatorIsEqualityPinLaw" = some m.cls := findClass_of_methodNamed Bd.named
  have hnm := (name_of_methodNamed Bd.named Bd.method).1
  have X0 : Stand p l e ({ frames := 0, cells := 0, slots := 0, locals := 0 } : Room) s m #[(.int (1 : Int32))] below meth c s₁ [] 0 0 := Stand.of_body Bd
  have e0 : s₁.heap = h0 := by rw [← hh, Bd.state]; rfl
  have N0 := Fr.nil n0
  show own_End p e below s (s₁.setTop (entryFrame m #[(.int (1 : Int32))] 1)) (Q1k1 Z ax h0 n0) ({ frames := 0, cells := 0, slots := 0, locals := 0 } : Room).cells ({ frames := 0, cells := 0, slots := 0, locals := 0 } : Room).slots
  refine own_pre (A := s₁.setTop (mkF m 0 #[.val (.int (1 : Int32))] [])) (fun tt kt => castTop (ef_1k1 m (1 : Int32)) kt) ?_
  show own_End p e below s (s₁.setTop (mkF m 0 #[.val (.int (1 : Int32))] [])) (Q1k1 Z ax h0 n0) ({ frames := 0, cells := 0, slots := 0, locals := 0 } : Room).cells ({ frames := 0, cells := 0, slots := 0, locals := 0 } : Room).slots
  obtain ⟨T1, X1, e1, st1⟩ := getS2 X0 hx hZ hown (host := "") (Or.inl (hw _ (List.mem_of_getElem? (i := 50) rfl))) Via.refl e0 T1 (g := (mkF m 13 #[.val (.int (1 : Int32))] [])) rfl (hb hby d1k1_13)
  refine own_pre (A := T1.setTop (mkF m 16 #[.val (.int (1 : Int32))] [(.ref ax)])) (fun tt kt => ?_) ?_
  · show Steps p.tables e below (s₁.setTop (mkF m 0 #[.val (.int (1 : Int32))] [])) _
    refine XS.iloadN X0.here hx rfl (hb hby d1k1_0) rfl ?_
    refine XS.ifYes X0.here hx rfl (pc0 := 1) (pc' := 8) rfl (hb hby d1k1_1) rfl ((if0 _ _).trans (feq ((by decide) : ¬ ((1 : Int32) = (0 : Int32)))).2) (by decide) (by decide) ?_
    refine XS.iloadN X0.here hx rfl (hb hby d1k1_8) rfl ?_
    refine XS.iconst X0.here hx rfl (hb hby d1k1_9) ?_
    show Steps p.tables e below (s₁.setTop (mkF m 10 #[.val (.int (1 : Int32))] [(.int (1 : Int32)), (.int (1 : Int32))])) _
    refine XS.icmpNo X0.here hx rfl (hb hby d1k1_10) rfl (teq ((by decide) : (1 : Int32) = (1 : Int32))).2 ?_
    show Steps p.tables e below (s₁.setTop (mkF m 13 #[.val (.int (1 : Int32))] [])) _
    refine st1 _ ?_
    exact kt
  show own_End p e below s (T1.setTop (mkF m 16 #[.val (.int (1 : Int32))] [(.ref ax)])) (Q1k1 Z ax h0 n0) ({ frames := 0, cells := 0, slots := 0, locals := 0 } : Room).cells ({ frames := 0, cells := 0, slots := 0, locals := 0 } : Room).slots
  obtain ⟨fs, hr, hrun, hended, hW, hsame⟩ := X1.leave (v := some (.ref ax)) (fun h => by rw [Bd.returns] at h; cases h)
  refine ⟨_, _, ?_, hrun, hended, _, _, rfl, ?_, ⟨_, rfl⟩, hW, hsame.mono (by decide) (by decide)⟩
  · exact retOut X1 hx Bd.returns rfl (Or.inr (Or.inr (Or.inr (Or.inr ⟨rfl, rfl, rfl⟩)))) (hb hby d1k1_16) hr
  · show Q1k1 Z ax h0 n0 _ T1.heap _
    rw [e1]
    exact ⟨rfl, N0, rfl⟩
theorem d1k2_0 : decode method_2_code 0 = .ok (.iload_n 0, 1) := by decide +kernel
theorem d1k2_1 : decode method_2_code 1 = .ok (.ifCond .ne 7, 3) := by decide +kernel
theorem d1k2_8 : decode method_2_code 8 = .ok (.iload_n 0, 1) := by decide +kernel
theorem d1k2_9 : decode method_2_code 9 = .ok (.iconst 1, 1) := by decide +kernel
theorem d1k2_10 : decode method_2_code 10 = .ok (.if_icmp .ne 7, 3) := by decide +kernel
theorem d1k2_17 : decode method_2_code 17 = .ok (.iload_n 0, 1) := by decide +kernel
theorem d1k2_18 : decode method_2_code 18 = .ok (.iconst 2, 1) := by decide +kernel
theorem d1k2_19 : decode method_2_code 19 = .ok (.if_icmp .ne 7, 3) := by decide +kernel
theorem d1k2_22 : decode method_2_code 22 = .ok (.getstatic 16, 3) := by decide +kernel
theorem d1k2_25 : decode method_2_code 25 = .ok (.areturn, 1) := by decide +kernel
theorem pn_1k2 : plainName "com/example/solmap/solmap/sparql/OperatorIsEqualityPinLaw" = true := by first | (simp [plainName, overriddenIn]; done) | decide +kernel
theorem ef_1k2 (m : MethodId) (x0 : Int32) : entryFrame m #[(.int x0)] 1 = mkF m 0 #[.val (.int x0)] [] := by first | (simp [entryFrame, mkF, argsToLocals, Value.category]; done) | rfl
def Q1k2 (Z : State) (ax : Addr) (h0 : Heap) (n0 : Nat) (v : Option Value) (h : Heap) (L : List Loc) : Prop := v = some (.ref ax) ∧ Fr n0 L ∧ h = h0
set_option maxRecDepth 65536 in
set_option maxHeartbeats 40000000 in
theorem rm1k2 (l : Launch) (Z : State) (a0 : Array Value) (hw : ∀ d ∈ tables_1, d.before a0 Z = true) (ws : List Jvm.Cond) (ax : Addr) (h0 : Heap) (n0 : Nat) (Z0 : n0 ≤ h0.size) (T1 : Sta Z h0 "com/example/solmap/solmap/sparql/Expression$Operator" "LESS" "Lcom/example/solmap/solmap/sparql/Expression$Operator;" (.ref ax)) :
    MetFree l (⟨"com/example/solmap/solmap/sparql/OperatorIsEqualityPinLaw", "pick", "(I)Lcom/example/solmap/solmap/sparql/Expression$Operator;"⟩ : MethodName) (head1 (Jvm.Cond.code (⟨"com/example/solmap/solmap/sparql/OperatorIsEqualityPinLaw", "pick", "(I)Lcom/example/solmap/solmap/sparql/Expression$Operator;"⟩ : MethodName) method_2_code 1 (some (.object "com/example/solmap/solmap/sparql/Expression$Operator")) :: ws) ({ frames := 0, cells := 0, slots := 0, locals := 0 } : Room)) (fun a U => a = #[(.int (2 : Int32))] ∧ Z.Warmed39 U.vm ∧ U.heap = h0) (fun _ _ _ _ _ => True) (fun _ U o U' => ∃ v L, o = .returned v ∧ Q1k2 Z ax h0 n0 v U'.heap L ∧ FrameEnd U o U' L ({ frames := 0, cells := 0, slots := 0, locals := 0 } : Room).cells ({ frames := 0, cells := 0, slots := 0, locals := 0 } : Room).slots) := by
  refine MetFree.of_bodySF (plainFor_of_name pn_1k2) hisR ?_
  intro p e s m args below meth c s₁ Bd hml0 hP hK
  obtain ⟨rfl, hZ, hh⟩ := hP
  have hx := Bd.exec
  have hby := Bd.bytes
  have hml : c.maxLocals = 1 := hml0
  have hown : s.vm.findClass "com/example/solmap/solmap/sparql/OperatorIsEqualityPinLaw" = some m.cls := findClass_of_methodNamed Bd.named
  have hnm := (name_of_methodNamed Bd.named Bd.method).1
  have X0 : Stand p l e ({ frames := 0, cells := 0, slots := 0, locals := 0 } : Room) s m #[(.int (2 : Int32))] below meth c s₁ [] 0 0 := Stand.of_body Bd
  have e0 : s₁.heap = h0 := by rw [← hh, Bd.state]; rfl
  have N0 := Fr.nil n0
  show own_End p e below s (s₁.setTop (entryFrame m #[(.int (2 : Int32))] 1)) (Q1k2 Z ax h0 n0) ({ frames := 0, cells := 0, slots := 0, locals := 0 } : Room).cells ({ frames := 0, cells := 0, slots := 0, locals := 0 } : Room).slots
  refine own_pre (A := s₁.setTop (mkF m 0 #[.val (.int (2 : Int32))] [])) (fun tt kt => castTop (ef_1k2 m (2 : Int32)) kt) ?_
  show own_End p e below s (s₁.setTop (mkF m 0 #[.val (.int (2 : Int32))] [])) (Q1k2 Z ax h0 n0) ({ frames := 0, cells := 0, slots := 0, locals := 0 } : Room).cells ({ frames := 0, cells := 0, slots := 0, locals := 0 } : Room).slots
  obtain ⟨T1, X1, e1, st1⟩ := getS2 X0 hx hZ hown (host := "") (Or.inl (hw _ (List.mem_of_getElem? (i := 48) rfl))) Via.refl e0 T1 (g := (mkF m 22 #[.val (.int (2 : Int32))] [])) rfl (hb hby d1k2_22)
  refine own_pre (A := T1.setTop (mkF m 25 #[.val (.int (2 : Int32))] [(.ref ax)])) (fun tt kt => ?_) ?_
  · show Steps p.tables e below (s₁.setTop (mkF m 0 #[.val (.int (2 : Int32))] [])) _
    refine XS.iloadN X0.here hx rfl (hb hby d1k2_0) rfl ?_
    refine XS.ifYes X0.here hx rfl (pc0 := 1) (pc' := 8) rfl (hb hby d1k2_1) rfl ((if0 _ _).trans (feq ((by decide) : ¬ ((2 : Int32) = (0 : Int32)))).2) (by decide) (by decide) ?_
    refine XS.iloadN X0.here hx rfl (hb hby d1k2_8) rfl ?_
    refine XS.iconst X0.here hx rfl (hb hby d1k2_9) ?_
    show Steps p.tables e below (s₁.setTop (mkF m 10 #[.val (.int (2 : Int32))] [(.int (1 : Int32)), (.int (2 : Int32))])) _
    refine XS.icmpYes X0.here hx rfl (pc0 := 10) (pc' := 17) rfl (hb hby d1k2_10) rfl (feq ((by decide) : ¬ ((2 : Int32) = (1 : Int32)))).2 (by decide) (by decide) ?_
    refine XS.iloadN X0.here hx rfl (hb hby d1k2_17) rfl ?_
    refine XS.iconst X0.here hx rfl (hb hby d1k2_18) ?_
    refine XS.icmpNo X0.here hx rfl (hb hby d1k2_19) rfl (teq ((by decide) : (2 : Int32) = (2 : Int32))).2 ?_
    show Steps p.tables e below (s₁.setTop (mkF m 22 #[.val (.int (2 : Int32))] [])) _
    refine st1 _ ?_
    exact kt
  show own_End p e below s (T1.setTop (mkF m 25 #[.val (.int (2 : Int32))] [(.ref ax)])) (Q1k2 Z ax h0 n0) ({ frames := 0, cells := 0, slots := 0, locals := 0 } : Room).cells ({ frames := 0, cells := 0, slots := 0, locals := 0 } : Room).slots
  obtain ⟨fs, hr, hrun, hended, hW, hsame⟩ := X1.leave (v := some (.ref ax)) (fun h => by rw [Bd.returns] at h; cases h)
  refine ⟨_, _, ?_, hrun, hended, _, _, rfl, ?_, ⟨_, rfl⟩, hW, hsame.mono (by decide) (by decide)⟩
  · exact retOut X1 hx Bd.returns rfl (Or.inr (Or.inr (Or.inr (Or.inr ⟨rfl, rfl, rfl⟩)))) (hb hby d1k2_25) hr
  · show Q1k2 Z ax h0 n0 _ T1.heap _
    rw [e1]
    exact ⟨rfl, N0, rfl⟩
theorem d1k3_0 : decode method_2_code 0 = .ok (.iload_n 0, 1) := by decide +kernel
theorem d1k3_1 : decode method_2_code 1 = .ok (.ifCond .ne 7, 3) := by decide +kernel
theorem d1k3_8 : decode method_2_code 8 = .ok (.iload_n 0, 1) := by decide +kernel
theorem d1k3_9 : decode method_2_code 9 = .ok (.iconst 1, 1) := by decide +kernel
theorem d1k3_10 : decode method_2_code 10 = .ok (.if_icmp .ne 7, 3) := by decide +kernel
theorem d1k3_17 : decode method_2_code 17 = .ok (.iload_n 0, 1) := by decide +kernel
theorem d1k3_18 : decode method_2_code 18 = .ok (.iconst 2, 1) := by decide +kernel
theorem d1k3_19 : decode method_2_code 19 = .ok (.if_icmp .ne 7, 3) := by decide +kernel
theorem d1k3_26 : decode method_2_code 26 = .ok (.iload_n 0, 1) := by decide +kernel
theorem d1k3_27 : decode method_2_code 27 = .ok (.iconst 3, 1) := by decide +kernel
theorem d1k3_28 : decode method_2_code 28 = .ok (.if_icmp .ne 7, 3) := by decide +kernel
theorem d1k3_31 : decode method_2_code 31 = .ok (.getstatic 19, 3) := by decide +kernel
theorem d1k3_34 : decode method_2_code 34 = .ok (.areturn, 1) := by decide +kernel
theorem pn_1k3 : plainName "com/example/solmap/solmap/sparql/OperatorIsEqualityPinLaw" = true := by first | (simp [plainName, overriddenIn]; done) | decide +kernel
theorem ef_1k3 (m : MethodId) (x0 : Int32) : entryFrame m #[(.int x0)] 1 = mkF m 0 #[.val (.int x0)] [] := by first | (simp [entryFrame, mkF, argsToLocals, Value.category]; done) | rfl
def Q1k3 (Z : State) (ax : Addr) (h0 : Heap) (n0 : Nat) (v : Option Value) (h : Heap) (L : List Loc) : Prop := v = some (.ref ax) ∧ Fr n0 L ∧ h = h0
set_option maxRecDepth 65536 in
set_option maxHeartbeats 40000000 in
theorem rm1k3 (l : Launch) (Z : State) (a0 : Array Value) (hw : ∀ d ∈ tables_1, d.before a0 Z = true) (ws : List Jvm.Cond) (ax : Addr) (h0 : Heap) (n0 : Nat) (Z0 : n0 ≤ h0.size) (T1 : Sta Z h0 "com/example/solmap/solmap/sparql/Expression$Operator" "GREATER" "Lcom/example/solmap/solmap/sparql/Expression$Operator;" (.ref ax)) :
    MetFree l (⟨"com/example/solmap/solmap/sparql/OperatorIsEqualityPinLaw", "pick", "(I)Lcom/example/solmap/solmap/sparql/Expression$Operator;"⟩ : MethodName) (head1 (Jvm.Cond.code (⟨"com/example/solmap/solmap/sparql/OperatorIsEqualityPinLaw", "pick", "(I)Lcom/example/solmap/solmap/sparql/Expression$Operator;"⟩ : MethodName) method_2_code 1 (some (.object "com/example/solmap/solmap/sparql/Expression$Operator")) :: ws) ({ frames := 0, cells := 0, slots := 0, locals := 0 } : Room)) (fun a U => a = #[(.int (3 : Int32))] ∧ Z.Warmed39 U.vm ∧ U.heap = h0) (fun _ _ _ _ _ => True) (fun _ U o U' => ∃ v L, o = .returned v ∧ Q1k3 Z ax h0 n0 v U'.heap L ∧ FrameEnd U o U' L ({ frames := 0, cells := 0, slots := 0, locals := 0 } : Room).cells ({ frames := 0, cells := 0, slots := 0, locals := 0 } : Room).slots) := by
  refine MetFree.of_bodySF (plainFor_of_name pn_1k3) hisR ?_
  intro p e s m args below meth c s₁ Bd hml0 hP hK
  obtain ⟨rfl, hZ, hh⟩ := hP
  have hx := Bd.exec
  have hby := Bd.bytes
  have hml : c.maxLocals = 1 := hml0
  have hown : s.vm.findClass "com/example/solmap/solmap/sparql/OperatorIsEqualityPinLaw" = some m.cls := findClass_of_methodNamed Bd.named
  have hnm := (name_of_methodNamed Bd.named Bd.method).1
  have X0 : Stand p l e ({ frames := 0, cells := 0, slots := 0, locals := 0 } : Room) s m #[(.int (3 : Int32))] below meth c s₁ [] 0 0 := Stand.of_body Bd
  have e0 : s₁.heap = h0 := by rw [← hh, Bd.state]; rfl
  have N0 := Fr.nil n0
  show own_End p e below s (s₁.setTop (entryFrame m #[(.int (3 : Int32))] 1)) (Q1k3 Z ax h0 n0) ({ frames := 0, cells := 0, slots := 0, locals := 0 } : Room).cells ({ frames := 0, cells := 0, slots := 0, locals := 0 } : Room).slots
  refine own_pre (A := s₁.setTop (mkF m 0 #[.val (.int (3 : Int32))] [])) (fun tt kt => castTop (ef_1k3 m (3 : Int32)) kt) ?_
  show own_End p e below s (s₁.setTop (mkF m 0 #[.val (.int (3 : Int32))] [])) (Q1k3 Z ax h0 n0) ({ frames := 0, cells := 0, slots := 0, locals := 0 } : Room).cells ({ frames := 0, cells := 0, slots := 0, locals := 0 } : Room).slots
  obtain ⟨T1, X1, e1, st1⟩ := getS2 X0 hx hZ hown (host := "") (Or.inl (hw _ (List.mem_of_getElem? (i := 43) rfl))) Via.refl e0 T1 (g := (mkF m 31 #[.val (.int (3 : Int32))] [])) rfl (hb hby d1k3_31)
  refine own_pre (A := T1.setTop (mkF m 34 #[.val (.int (3 : Int32))] [(.ref ax)])) (fun tt kt => ?_) ?_
  · show Steps p.tables e below (s₁.setTop (mkF m 0 #[.val (.int (3 : Int32))] [])) _
    refine XS.iloadN X0.here hx rfl (hb hby d1k3_0) rfl ?_
    refine XS.ifYes X0.here hx rfl (pc0 := 1) (pc' := 8) rfl (hb hby d1k3_1) rfl ((if0 _ _).trans (feq ((by decide) : ¬ ((3 : Int32) = (0 : Int32)))).2) (by decide) (by decide) ?_
    refine XS.iloadN X0.here hx rfl (hb hby d1k3_8) rfl ?_
    refine XS.iconst X0.here hx rfl (hb hby d1k3_9) ?_
    show Steps p.tables e below (s₁.setTop (mkF m 10 #[.val (.int (3 : Int32))] [(.int (1 : Int32)), (.int (3 : Int32))])) _
    refine XS.icmpYes X0.here hx rfl (pc0 := 10) (pc' := 17) rfl (hb hby d1k3_10) rfl (feq ((by decide) : ¬ ((3 : Int32) = (1 : Int32)))).2 (by decide) (by decide) ?_
    refine XS.iloadN X0.here hx rfl (hb hby d1k3_17) rfl ?_
    refine XS.iconst X0.here hx rfl (hb hby d1k3_18) ?_
    refine XS.icmpYes X0.here hx rfl (pc0 := 19) (pc' := 26) rfl (hb hby d1k3_19) rfl (feq ((by decide) : ¬ ((3 : Int32) = (2 : Int32)))).2 (by decide) (by decide) ?_
    show Steps p.tables e below (s₁.setTop (mkF m 26 #[.val (.int (3 : Int32))] [])) _
    refine XS.iloadN X0.here hx rfl (hb hby d1k3_26) rfl ?_
    refine XS.iconst X0.here hx rfl (hb hby d1k3_27) ?_
    refine XS.icmpNo X0.here hx rfl (hb hby d1k3_28) rfl (teq ((by decide) : (3 : Int32) = (3 : Int32))).2 ?_
    show Steps p.tables e below (s₁.setTop (mkF m 31 #[.val (.int (3 : Int32))] [])) _
    refine st1 _ ?_
    exact kt
  show own_End p e below s (T1.setTop (mkF m 34 #[.val (.int (3 : Int32))] [(.ref ax)])) (Q1k3 Z ax h0 n0) ({ frames := 0, cells := 0, slots := 0, locals := 0 } : Room).cells ({ frames := 0, cells := 0, slots := 0, locals := 0 } : Room).slots
  obtain ⟨fs, hr, hrun, hended, hW, hsame⟩ := X1.leave (v := some (.ref ax)) (fun h => by rw [Bd.returns] at h; cases h)
  refine ⟨_, _, ?_, hrun, hended, _, _, rfl, ?_, ⟨_, rfl⟩, hW, hsame.mono (by decide) (by decide)⟩
  · exact retOut X1 hx Bd.returns rfl (Or.inr (Or.inr (Or.inr (Or.inr ⟨rfl, rfl, rfl⟩)))) (hb hby d1k3_34) hr
  · show Q1k3 Z ax h0 n0 _ T1.heap _
    rw [e1]
    exact ⟨rfl, N0, rfl⟩
theorem d1k4_0 : decode method_2_code 0 = .ok (.iload_n 0, 1) := by decide +kernel
theorem d1k4_1 : decode method_2_code 1 = .ok (.ifCond .ne 7, 3) := by decide +kernel
theorem d1k4_8 : decode method_2_code 8 = .ok (.iload_n 0, 1) := by decide +kernel
theorem d1k4_9 : decode method_2_code 9 = .ok (.iconst 1, 1) := by decide +kernel
theorem d1k4_10 : decode method_2_code 10 = .ok (.if_icmp .ne 7, 3) := by decide +kernel
theorem d1k4_17 : decode method_2_code 17 = .ok (.iload_n 0, 1) := by decide +kernel
theorem d1k4_18 : decode method_2_code 18 = .ok (.iconst 2, 1) := by decide +kernel
theorem d1k4_19 : decode method_2_code 19 = .ok (.if_icmp .ne 7, 3) := by decide +kernel
theorem d1k4_26 : decode method_2_code 26 = .ok (.iload_n 0, 1) := by decide +kernel
theorem d1k4_27 : decode method_2_code 27 = .ok (.iconst 3, 1) := by decide +kernel
theorem d1k4_28 : decode method_2_code 28 = .ok (.if_icmp .ne 7, 3) := by decide +kernel
theorem d1k4_35 : decode method_2_code 35 = .ok (.iload_n 0, 1) := by decide +kernel
theorem d1k4_36 : decode method_2_code 36 = .ok (.iconst 4, 1) := by decide +kernel
theorem d1k4_37 : decode method_2_code 37 = .ok (.if_icmp .ne 7, 3) := by decide +kernel
theorem d1k4_40 : decode method_2_code 40 = .ok (.getstatic 22, 3) := by decide +kernel
theorem d1k4_43 : decode method_2_code 43 = .ok (.areturn, 1) := by decide +kernel
theorem pn_1k4 : plainName "com/example/solmap/solmap/sparql/OperatorIsEqualityPinLaw" = true := by first | (simp [plainName, overriddenIn]; done) | decide +kernel
theorem ef_1k4 (m : MethodId) (x0 : Int32) : entryFrame m #[(.int x0)] 1 = mkF m 0 #[.val (.int x0)] [] := by first | (simp [entryFrame, mkF, argsToLocals, Value.category]; done) | rfl
def Q1k4 (Z : State) (ax : Addr) (h0 : Heap) (n0 : Nat) (v : Option Value) (h : Heap) (L : List Loc) : Prop := v = some (.ref ax) ∧ Fr n0 L ∧ h = h0
set_option maxRecDepth 65536 in
set_option maxHeartbeats 40000000 in
theorem rm1k4 (l : Launch) (Z : State) (a0 : Array Value) (hw : ∀ d ∈ tables_1, d.before a0 Z = true) (ws : List Jvm.Cond) (ax : Addr) (h0 : Heap) (n0 : Nat) (Z0 : n0 ≤ h0.size) (T1 : Sta Z h0 "com/example/solmap/solmap/sparql/Expression$Operator" "LESS_OR_EQUAL" "Lcom/example/solmap/solmap/sparql/Expression$Operator;" (.ref ax)) :
    MetFree l (⟨"com/example/solmap/solmap/sparql/OperatorIsEqualityPinLaw", "pick", "(I)Lcom/example/solmap/solmap/sparql/Expression$Operator;"⟩ : MethodName) (head1 (Jvm.Cond.code (⟨"com/example/solmap/solmap/sparql/OperatorIsEqualityPinLaw", "pick", "(I)Lcom/example/solmap/solmap/sparql/Expression$Operator;"⟩ : MethodName) method_2_code 1 (some (.object "com/example/solmap/solmap/sparql/Expression$Operator")) :: ws) ({ frames := 0, cells := 0, slots := 0, locals := 0 } : Room)) (fun a U => a = #[(.int (4 : Int32))] ∧ Z.Warmed39 U.vm ∧ U.heap = h0) (fun _ _ _ _ _ => True) (fun _ U o U' => ∃ v L, o = .returned v ∧ Q1k4 Z ax h0 n0 v U'.heap L ∧ FrameEnd U o U' L ({ frames := 0, cells := 0, slots := 0, locals := 0 } : Room).cells ({ frames := 0, cells := 0, slots := 0, locals := 0 } : Room).slots) := by
  refine MetFree.of_bodySF (plainFor_of_name pn_1k4) hisR ?_
  intro p e s m args below meth c s₁ Bd hml0 hP hK
  obtain ⟨rfl, hZ, hh⟩ := hP
  have hx := Bd.exec
  have hby := Bd.bytes
  have hml : c.maxLocals = 1 := hml0
  have hown : s.vm.findClass "com/example/solmap/solmap/sparql/OperatorIsEqualityPinLaw" = some m.cls := findClass_of_methodNamed Bd.named
  have hnm := (name_of_methodNamed Bd.named Bd.method).1
  have X0 : Stand p l e ({ frames := 0, cells := 0, slots := 0, locals := 0 } : Room) s m #[(.int (4 : Int32))] below meth c s₁ [] 0 0 := Stand.of_body Bd
  have e0 : s₁.heap = h0 := by rw [← hh, Bd.state]; rfl
  have N0 := Fr.nil n0
  show own_End p e below s (s₁.setTop (entryFrame m #[(.int (4 : Int32))] 1)) (Q1k4 Z ax h0 n0) ({ frames := 0, cells := 0, slots := 0, locals := 0 } : Room).cells ({ frames := 0, cells := 0, slots := 0, locals := 0 } : Room).slots
  refine own_pre (A := s₁.setTop (mkF m 0 #[.val (.int (4 : Int32))] [])) (fun tt kt => castTop (ef_1k4 m (4 : Int32)) kt) ?_
  show own_End p e below s (s₁.setTop (mkF m 0 #[.val (.int (4 : Int32))] [])) (Q1k4 Z ax h0 n0) ({ frames := 0, cells := 0, slots := 0, locals := 0 } : Room).cells ({ frames := 0, cells := 0, slots := 0, locals := 0 } : Room).slots
  obtain ⟨T1, X1, e1, st1⟩ := getS2 X0 hx hZ hown (host := "") (Or.inl (hw _ (List.mem_of_getElem? (i := 53) rfl))) Via.refl e0 T1 (g := (mkF m 40 #[.val (.int (4 : Int32))] [])) rfl (hb hby d1k4_40)
  refine own_pre (A := T1.setTop (mkF m 43 #[.val (.int (4 : Int32))] [(.ref ax)])) (fun tt kt => ?_) ?_
  · show Steps p.tables e below (s₁.setTop (mkF m 0 #[.val (.int (4 : Int32))] [])) _
    refine XS.iloadN X0.here hx rfl (hb hby d1k4_0) rfl ?_
    refine XS.ifYes X0.here hx rfl (pc0 := 1) (pc' := 8) rfl (hb hby d1k4_1) rfl ((if0 _ _).trans (feq ((by decide) : ¬ ((4 : Int32) = (0 : Int32)))).2) (by decide) (by decide) ?_
    refine XS.iloadN X0.here hx rfl (hb hby d1k4_8) rfl ?_
    refine XS.iconst X0.here hx rfl (hb hby d1k4_9) ?_
    show Steps p.tables e below (s₁.setTop (mkF m 10 #[.val (.int (4 : Int32))] [(.int (1 : Int32)), (.int (4 : Int32))])) _
    refine XS.icmpYes X0.here hx rfl (pc0 := 10) (pc' := 17) rfl (hb hby d1k4_10) rfl (feq ((by decide) : ¬ ((4 : Int32) = (1 : Int32)))).2 (by decide) (by decide) ?_
    refine XS.iloadN X0.here hx rfl (hb hby d1k4_17) rfl ?_
    refine XS.iconst X0.here hx rfl (hb hby d1k4_18) ?_
    refine XS.icmpYes X0.here hx rfl (pc0 := 19) (pc' := 26) rfl (hb hby d1k4_19) rfl (feq ((by decide) : ¬ ((4 : Int32) = (2 : Int32)))).2 (by decide) (by decide) ?_
    show Steps p.tables e below (s₁.setTop (mkF m 26 #[.val (.int (4 : Int32))] [])) _
    refine XS.iloadN X0.here hx rfl (hb hby d1k4_26) rfl ?_
    refine XS.iconst X0.here hx rfl (hb hby d1k4_27) ?_
    refine XS.icmpYes X0.here hx rfl (pc0 := 28) (pc' := 35) rfl (hb hby d1k4_28) rfl (feq ((by decide) : ¬ ((4 : Int32) = (3 : Int32)))).2 (by decide) (by decide) ?_
    refine XS.iloadN X0.here hx rfl (hb hby d1k4_35) rfl ?_
    show Steps p.tables e below (s₁.setTop (mkF m 36 #[.val (.int (4 : Int32))] [(.int (4 : Int32))])) _
    refine XS.iconst X0.here hx rfl (hb hby d1k4_36) ?_
    refine XS.icmpNo X0.here hx rfl (hb hby d1k4_37) rfl (teq ((by decide) : (4 : Int32) = (4 : Int32))).2 ?_
    show Steps p.tables e below (s₁.setTop (mkF m 40 #[.val (.int (4 : Int32))] [])) _
    refine st1 _ ?_
    exact kt
  show own_End p e below s (T1.setTop (mkF m 43 #[.val (.int (4 : Int32))] [(.ref ax)])) (Q1k4 Z ax h0 n0) ({ frames := 0, cells := 0, slots := 0, locals := 0 } : Room).cells ({ frames := 0, cells := 0, slots := 0, locals := 0 } : Room).slots
  obtain ⟨fs, hr, hrun, hended, hW, hsame⟩ := X1.leave (v := some (.ref ax)) (fun h => by rw [Bd.returns] at h; cases h)
  refine ⟨_, _, ?_, hrun, hended, _, _, rfl, ?_, ⟨_, rfl⟩, hW, hsame.mono (by decide) (by decide)⟩
  · exact retOut X1 hx Bd.returns rfl (Or.inr (Or.inr (Or.inr (Or.inr ⟨rfl, rfl, rfl⟩)))) (hb hby d1k4_43) hr
  · show Q1k4 Z ax h0 n0 _ T1.heap _
    rw [e1]
    exact ⟨rfl, N0, rfl⟩
theorem d1k5_0 : decode method_2_code 0 = .ok (.iload_n 0, 1) := by decide +kernel
theorem d1k5_1 : decode method_2_code 1 = .ok (.ifCond .ne 7, 3) := by decide +kernel
theorem d1k5_8 : decode method_2_code 8 = .ok (.iload_n 0, 1) := by decide +kernel
theorem d1k5_9 : decode method_2_code 9 = .ok (.iconst 1, 1) := by decide +kernel
theorem d1k5_10 : decode method_2_code 10 = .ok (.if_icmp .ne 7, 3) := by decide +kernel
theorem d1k5_17 : decode method_2_code 17 = .ok (.iload_n 0, 1) := by decide +kernel
theorem d1k5_18 : decode method_2_code 18 = .ok (.iconst 2, 1) := by decide +kernel
theorem d1k5_19 : decode method_2_code 19 = .ok (.if_icmp .ne 7, 3) := by decide +kernel
theorem d1k5_26 : decode method_2_code 26 = .ok (.iload_n 0, 1) := by decide +kernel
theorem d1k5_27 : decode method_2_code 27 = .ok (.iconst 3, 1) := by decide +kernel
theorem d1k5_28 : decode method_2_code 28 = .ok (.if_icmp .ne 7, 3) := by decide +kernel
theorem d1k5_35 : decode method_2_code 35 = .ok (.iload_n 0, 1) := by decide +kernel
theorem d1k5_36 : decode method_2_code 36 = .ok (.iconst 4, 1) := by decide +kernel
theorem d1k5_37 : decode method_2_code 37 = .ok (.if_icmp .ne 7, 3) := by decide +kernel
theorem d1k5_44 : decode method_2_code 44 = .ok (.getstatic 25, 3) := by decide +kernel
theorem d1k5_47 : decode method_2_code 47 = .ok (.areturn, 1) := by decide +kernel
theorem pn_1k5 : plainName "com/example/solmap/solmap/sparql/OperatorIsEqualityPinLaw" = true := by first | (simp [plainName, overriddenIn]; done) | decide +kernel
theorem ef_1k5 (m : MethodId) (x0 : Int32) : entryFrame m #[(.int x0)] 1 = mkF m 0 #[.val (.int x0)] [] := by first | (simp [entryFrame, mkF, argsToLocals, Value.category]; done) | rfl
def Q1k5 (Z : State) (ax : Addr) (h0 : Heap) (n0 : Nat) (v : Option Value) (h : Heap) (L : List Loc) : Prop := v = some (.ref ax) ∧ Fr n0 L ∧ h = h0
set_option maxRecDepth 65536 in
set_option maxHeartbeats 40000000 in
theorem rm1k5 (l : Launch) (Z : State) (a0 : Array Value) (hw : ∀ d ∈ tables_1, d.before a0 Z = true) (ws : List Jvm.Cond) (ax : Addr) (h0 : Heap) (n0 : Nat) (Z0 : n0 ≤ h0.size) (T1 : Sta Z h0 "com/example/solmap/solmap/sparql/Expression$Operator" "GREATER_OR_EQUAL" "Lcom/example/solmap/solmap/sparql/Expression$Operator;" (.ref ax)) :
    MetFree l (⟨"com/example/solmap/solmap/sparql/OperatorIsEqualityPinLaw", "pick", "(I)Lcom/example/solmap/solmap/sparql/Expression$Operator;"⟩ : MethodName) (head1 (Jvm.Cond.code (⟨"com/example/solmap/solmap/sparql/OperatorIsEqualityPinLaw", "pick", "(I)Lcom/example/solmap/solmap/sparql/Expression$Operator;"⟩ : MethodName) method_2_code 1 (some (.object "com/example/solmap/solmap/sparql/Expression$Operator")) :: ws) ({ frames := 0, cells := 0, slots := 0, locals := 0 } : Room)) (fun a U => a = #[(.int (5 : Int32))] ∧ Z.Warmed39 U.vm ∧ U.heap = h0) (fun _ _ _ _ _ => True) (fun _ U o U' => ∃ v L, o = .returned v ∧ Q1k5 Z ax h0 n0 v U'.heap L ∧ FrameEnd U o U' L ({ frames := 0, cells := 0, slots := 0, locals := 0 } : Room).cells ({ frames := 0, cells := 0, slots := 0, locals := 0 } : Room).slots) := by
  refine MetFree.of_bodySF (plainFor_of_name pn_1k5) hisR ?_
  intro p e s m args below meth c s₁ Bd hml0 hP hK
  obtain ⟨rfl, hZ, hh⟩ := hP
  have hx := Bd.exec
  have hby := Bd.bytes
  have hml : c.maxLocals = 1 := hml0
  have hown : s.vm.findClass "com/example/solmap/solmap/sparql/OperatorIsEqualityPinLaw" = some m.cls := findClass_of_methodNamed Bd.named
  have hnm := (name_of_methodNamed Bd.named Bd.method).1
  have X0 : Stand p l e ({ frames := 0, cells := 0, slots := 0, locals := 0 } : Room) s m #[(.int (5 : Int32))] below meth c s₁ [] 0 0 := Stand.of_body Bd
  have e0 : s₁.heap = h0 := by rw [← hh, Bd.state]; rfl
  have N0 := Fr.nil n0
  show own_End p e below s (s₁.setTop (entryFrame m #[(.int (5 : Int32))] 1)) (Q1k5 Z ax h0 n0) ({ frames := 0, cells := 0, slots := 0, locals := 0 } : Room).cells ({ frames := 0, cells := 0, slots := 0, locals := 0 } : Room).slots
  refine own_pre (A := s₁.setTop (mkF m 0 #[.val (.int (5 : Int32))] [])) (fun tt kt => castTop (ef_1k5 m (5 : Int32)) kt) ?_
  show own_End p e below s (s₁.setTop (mkF m 0 #[.val (.int (5 : Int32))] [])) (Q1k5 Z ax h0 n0) ({ frames := 0, cells := 0, slots := 0, locals := 0 } : Room).cells ({ frames := 0, cells := 0, slots := 0, locals := 0 } : Room).slots
  obtain ⟨T1, X1, e1, st1⟩ := getS2 X0 hx hZ hown (host := "") (Or.inl (hw _ (List.mem_of_getElem? (i := 51) rfl))) Via.refl e0 T1 (g := (mkF m 44 #[.val (.int (5 : Int32))] [])) rfl (hb hby d1k5_44)
  refine own_pre (A := T1.setTop (mkF m 47 #[.val (.int (5 : Int32))] [(.ref ax)])) (fun tt kt => ?_) ?_
  · show Steps p.tables e below (s₁.setTop (mkF m 0 #[.val (.int (5 : Int32))] [])) _
    refine XS.iloadN X0.here hx rfl (hb hby d1k5_0) rfl ?_
    refine XS.ifYes X0.here hx rfl (pc0 := 1) (pc' := 8) rfl (hb hby d1k5_1) rfl ((if0 _ _).trans (feq ((by decide) : ¬ ((5 : Int32) = (0 : Int32)))).2) (by decide) (by decide) ?_
    refine XS.iloadN X0.here hx rfl (hb hby d1k5_8) rfl ?_
    refine XS.iconst X0.here hx rfl (hb hby d1k5_9) ?_
    show Steps p.tables e below (s₁.setTop (mkF m 10 #[.val (.int (5 : Int32))] [(.int (1 : Int32)), (.int (5 : Int32))])) _
    refine XS.icmpYes X0.here hx rfl (pc0 := 10) (pc' := 17) rfl (hb hby d1k5_10) rfl (feq ((by decide) : ¬ ((5 : Int32) = (1 : Int32)))).2 (by decide) (by decide) ?_
    refine XS.iloadN X0.here hx rfl (hb hby d1k5_17) rfl ?_
    refine XS.iconst X0.here hx rfl (hb hby d1k5_18) ?_
    refine XS.icmpYes X0.here hx rfl (pc0 := 19) (pc' := 26) rfl (hb hby d1k5_19) rfl (feq ((by decide) : ¬ ((5 : Int32) = (2 : Int32)))).2 (by decide) (by decide) ?_
    show Steps p.tables e below (s₁.setTop (mkF m 26 #[.val (.int (5 : Int32))] [])) _
    refine XS.iloadN X0.here hx rfl (hb hby d1k5_26) rfl ?_
    refine XS.iconst X0.here hx rfl (hb hby d1k5_27) ?_
    refine XS.icmpYes X0.here hx rfl (pc0 := 28) (pc' := 35) rfl (hb hby d1k5_28) rfl (feq ((by decide) : ¬ ((5 : Int32) = (3 : Int32)))).2 (by decide) (by decide) ?_
    refine XS.iloadN X0.here hx rfl (hb hby d1k5_35) rfl ?_
    show Steps p.tables e below (s₁.setTop (mkF m 36 #[.val (.int (5 : Int32))] [(.int (5 : Int32))])) _
    refine XS.iconst X0.here hx rfl (hb hby d1k5_36) ?_
    refine XS.icmpYes X0.here hx rfl (pc0 := 37) (pc' := 44) rfl (hb hby d1k5_37) rfl (feq ((by decide) : ¬ ((5 : Int32) = (4 : Int32)))).2 (by decide) (by decide) ?_
    show Steps p.tables e below (s₁.setTop (mkF m 44 #[.val (.int (5 : Int32))] [])) _
    refine st1 _ ?_
    exact kt
  show own_End p e below s (T1.setTop (mkF m 47 #[.val (.int (5 : Int32))] [(.ref ax)])) (Q1k5 Z ax h0 n0) ({ frames := 0, cells := 0, slots := 0, locals := 0 } : Room).cells ({ frames := 0, cells := 0, slots := 0, locals := 0 } : Room).slots
  obtain ⟨fs, hr, hrun, hended, hW, hsame⟩ := X1.leave (v := some (.ref ax)) (fun h => by rw [Bd.returns] at h; cases h)
  refine ⟨_, _, ?_, hrun, hended, _, _, rfl, ?_, ⟨_, rfl⟩, hW, hsame.mono (by decide) (by decide)⟩
  · exact retOut X1 hx Bd.returns rfl (Or.inr (Or.inr (Or.inr (Or.inr ⟨rfl, rfl, rfl⟩)))) (hb hby d1k5_47) hr
  · show Q1k5 Z ax h0 n0 _ T1.heap _
    rw [e1]
    exact ⟨rfl, N0, rfl⟩
theorem d2_0 : decode prog_111_method_4_code 0 = .ok (.aload_n 0, 1) := by decide +kernel
theorem d2_1 : decode prog_111_method_4_code 1 = .ok (.getfield 41, 3) := by decide +kernel
theorem d2_4 : decode prog_111_method_4_code 4 = .ok (.areturn, 1) := by decide +kernel
theorem pn_2 : plainName "com/example/solmap/solmap/sparql/Expression$Operator" = true := by first | (simp [plainName, overriddenIn]; done) | decide +kernel
theorem ef_2 (m : MethodId) (x0 : Addr) : entryFrame m #[(.ref x0)] 1 = mkF m 0 #[.val (.ref x0)] [] := by first | (simp [entryFrame, mkF, argsToLocals, Value.category]; done) | rfl
def Q2 (Z : State) (a1 : Addr) (s1 : Addr) (h0 : Heap) (n0 : Nat) (v : Option Value) (h : Heap) (L : List Loc) : Prop := v = some (.ref s1) ∧ Fr n0 L ∧ h = h0
set_option maxRecDepth 65536 in
set_option maxHeartbeats 40000000 in
theorem rm2 (l : Launch) (Z : State) (a0 : Array Value) (hw : ∀ d ∈ tables_1, d.before a0 Z = true) (ws : List Jvm.Cond) (a1 : Addr) (s1 : Addr) (h0 : Heap) (n0 : Nat) (Z0 : n0 ≤ h0.size) (O_a1 : own_Op Z h0 a1 s1) :
    MetFree l (⟨"com/example/solmap/solmap/sparql/Expression$Operator", "symbol", "()Ljava/lang/String;"⟩ : MethodName) (head1 (Jvm.Cond.code (⟨"com/example/solmap/solmap/sparql/Expression$Operator", "symbol", "()Ljava/lang/String;"⟩ : MethodName) prog_111_method_4_code 1 (some (.object "java/lang/String")) :: ws) ({ frames := 0, cells := 0, slots := 0, locals := 0 } : Room)) (fun a U => a = #[(.ref a1)] ∧ Z.Warmed39 U.vm ∧ U.heap = h0) (fun _ _ _ _ _ => True) (fun _ U o U' => ∃ v L, o = .returned v ∧ Q2 Z a1 s1 h0 n0 v U'.heap L ∧ FrameEnd U o U' L ({ frames := 0, cells := 0, slots := 0, locals := 0 } : Room).cells ({ frames := 0, cells := 0, slots := 0, locals := 0 } : Room).slots) := by
  refine MetFree.of_bodySF (plainFor_of_name pn_2) hisR ?_
  intro p e s m args below meth c s₁ Bd hml0 hP hK
  obtain ⟨rfl, hZ, hh⟩ := hP
  have hx := Bd.exec
  have hby := Bd.bytes
  have hml : c.maxLocals = 1 := hml0
  have hown : s.vm.findClass "com/example/solmap/solmap/sparql/Expression$Operator" = some m.cls := findClass_of_methodNamed Bd.named
  have hnm := (name_of_methodNamed Bd.named Bd.method).1
  have X0 : Stand p l e ({ frames := 0, cells := 0, slots := 0, locals := 0 } : Room) s m #[(.ref a1)] below meth c s₁ [] 0 0 := Stand.of_body Bd
  have e0 : s₁.heap = h0 := by rw [← hh, Bd.state]; rfl
  have N0 := Fr.nil n0
  show own_End p e below s (s₁.setTop (entryFrame m #[(.ref a1)] 1)) (Q2 Z a1 s1 h0 n0) ({ frames := 0, cells := 0, slots := 0, locals := 0 } : Room).cells ({ frames := 0, cells := 0, slots := 0, locals := 0 } : Room).slots
  obtain ⟨E_a1_1, F_symbol_a1_2⟩ := O_a1
  refine own_pre (A := s₁.setTop (mkF m 0 #[.val (.ref a1)] [])) (fun tt kt => castTop (ef_2 m a1) kt) ?_
  show own_End p e below s (s₁.setTop (mkF m 0 #[.val (.ref a1)] [])) (Q2 Z a1 s1 h0 n0) ({ frames := 0, cells := 0, slots := 0, locals := 0 } : Room).cells ({ frames := 0, cells := 0, slots := 0, locals := 0 } : Room).slots
  obtain ⟨T3, X3, e3, st3⟩ := getF X0 hx hZ hown (host := "") (Or.inl (hw _ (List.mem_of_getElem? (i := 13) rfl))) Via.refl e0 F_symbol_a1_2 (g := (mkF m 1 #[.val (.ref a1)] [(.ref a1)])) rfl rfl (hb hby d2_1)
  refine own_pre (A := T3.setTop (mkF m 4 #[.val (.ref a1)] [(.ref s1)])) (fun tt kt => ?_) ?_
  · show Steps p.tables e below (s₁.setTop (mkF m 0 #[.val (.ref a1)] [])) _
    refine XS.aloadN X0.here hx rfl (hb hby d2_0) rfl rfl ?_
    show Steps p.tables e below (s₁.setTop (mkF m 1 #[.val (.ref a1)] [(.ref a1)])) _
    refine st3 _ ?_
    exact kt
  show own_End p e below s (T3.setTop (mkF m 4 #[.val (.ref a1)] [(.ref s1)])) (Q2 Z a1 s1 h0 n0) ({ frames := 0, cells := 0, slots := 0, locals := 0 } : Room).cells ({ frames := 0, cells := 0, slots := 0, locals := 0 } : Room).slots
  obtain ⟨fs, hr, hrun, hended, hW, hsame⟩ := X3.leave (v := some (.ref s1)) (fun h => by rw [Bd.returns] at h; cases h)
  refine ⟨_, _, ?_, hrun, hended, _, _, rfl, ?_, ⟨_, rfl⟩, hW, hsame.mono (by decide) (by decide)⟩
  · exact retOut X3 hx Bd.returns rfl (Or.inr (Or.inr (Or.inr (Or.inr ⟨rfl, rfl, rfl⟩)))) (hb hby d2_4) hr
  · show Q2 Z a1 s1 h0 n0 _ T3.heap _
    rw [e3]
    exact ⟨rfl, N0, rfl⟩
def own_l11 (g1 : Nat → Int32) (g2 : Nat → Int32) : Int32 := (if (g1 0) = (g2 0) then (1 : Int32) else (0 : Int32))
theorem d4x11_0 : decode jdk_43_method_13_code 0 = .ok (.aload_n 0, 1) := by decide +kernel
theorem d4x11_1 : decode jdk_43_method_13_code 1 = .ok (.arraylength, 1) := by decide +kernel
theorem d4x11_2 : decode jdk_43_method_13_code 2 = .ok (.aload_n 1, 1) := by decide +kernel
theorem d4x11_3 : decode jdk_43_method_13_code 3 = .ok (.arraylength, 1) := by decide +kernel
theorem d4x11_4 : decode jdk_43_method_13_code 4 = .ok (.if_icmp .ne 30, 3) := by decide +kernel
theorem d4x11_7 : decode jdk_43_method_13_code 7 = .ok (.iconst 0, 1) := by decide +kernel
theorem d4x11_8 : decode jdk_43_method_13_code 8 = .ok (.istore_n 2, 1) := by decide +kernel
theorem d4x11_9 : decode jdk_43_method_13_code 9 = .ok (.iload_n 2, 1) := by decide +kernel
theorem d4x11_10 : decode jdk_43_method_13_code 10 = .ok (.aload_n 0, 1) := by decide +kernel
theorem d4x11_11 : decode jdk_43_method_13_code 11 = .ok (.arraylength, 1) := by decide +kernel
theorem d4x11_12 : decode jdk_43_method_13_code 12 = .ok (.if_icmp .ge 20, 3) := by decide +kernel
theorem d4x11_15 : decode jdk_43_method_13_code 15 = .ok (.aload_n 0, 1) := by decide +kernel
theorem d4x11_16 : decode jdk_43_method_13_code 16 = .ok (.iload_n 2, 1) := by decide +kernel
theorem d4x11_17 : decode jdk_43_method_13_code 17 = .ok (.baload, 1) := by decide +kernel
theorem d4x11_18 : decode jdk_43_method_13_code 18 = .ok (.aload_n 1, 1) := by decide +kernel
theorem d4x11_19 : decode jdk_43_method_13_code 19 = .ok (.iload_n 2, 1) := by decide +kernel
theorem d4x11_20 : decode jdk_43_method_13_code 20 = .ok (.baload, 1) := by decide +kernel
theorem d4x11_21 : decode jdk_43_method_13_code 21 = .ok (.if_icmp .eq 5, 3) := by decide +kernel
theorem d4x11_24 : decode jdk_43_method_13_code 24 = .ok (.iconst 0, 1) := by decide +kernel
theorem d4x11_25 : decode jdk_43_method_13_code 25 = .ok (.ireturn, 1) := by decide +kernel
theorem d4x11_26 : decode jdk_43_method_13_code 26 = .ok (.iinc 2 1, 3) := by decide +kernel
theorem d4x11_29 : decode jdk_43_method_13_code 29 = .ok (.goto (-20), 3) := by decide +kernel
theorem d4x11_32 : decode jdk_43_method_13_code 32 = .ok (.iconst 1, 1) := by decide +kernel
theorem d4x11_33 : decode jdk_43_method_13_code 33 = .ok (.ireturn, 1) := by decide +kernel
theorem pn_4x11 : plainName "java/lang/StringLatin1" = true := by first | (simp [plainName, overriddenIn]; done) | decide +kernel
theorem ef_4x11 (m : MethodId) (x0 : Addr) (x1 : Addr) : entryFrame m #[(.ref x0), (.ref x1)] 3 = mkF m 0 #[.val (.ref x0), .val (.ref x1), .unset] [] := by first | (simp [entryFrame, mkF, argsToLocals, Value.category]; done) | rfl
def Q4x11 (Z : State) (a1 : Addr) (a2 : Addr) (g1 : Nat → Int32) (g2 : Nat → Int32) (h0 : Heap) (n0 : Nat) (v : Option Value) (h : Heap) (L : List Loc) : Prop := v = some (.int (own_l11 g1 g2)) ∧ Fr n0 L ∧ h = h0
set_option maxRecDepth 65536 in
set_option maxHeartbeats 40000000 in
theorem rm4x11 (l : Launch) (Z : State) (a0 : Array Value) (hw : ∀ d ∈ tables_1, d.before a0 Z = true) (ws : List Jvm.Cond) (a1 : Addr) (a2 : Addr) (g1 : Nat → Int32) (g2 : Nat → Int32) (h0 : Heap) (n0 : Nat) (Z0 : n0 ≤ h0.size) (V_a1 : own_Arr Z h0 a1 .byte (1 : Int32) (fun i => Value.int (g1 i))) (V_a2 : own_Arr Z h0 a2 .byte (1 : Int32) (fun i => Value.int (g2 i))) :
    MetFree l (⟨"java/lang/StringLatin1", "equals", "([B[B)Z"⟩ : MethodName) (head1 (Jvm.Cond.code (⟨"java/lang/StringLatin1", "equals", "([B[B)Z"⟩ : MethodName) jdk_43_method_13_code 3 (some .boolean) :: ws) ({ frames := 0, cells := 0, slots := 0, locals := 0 } : Room)) (fun a U => a = #[(.ref a1), (.ref a2)] ∧ Z.Warmed39 U.vm ∧ U.heap = h0) (fun _ _ _ _ _ => True) (fun _ U o U' => ∃ v L, o = .returned v ∧ Q4x11 Z a1 a2 g1 g2 h0 n0 v U'.heap L ∧ FrameEnd U o U' L ({ frames := 0, cells := 0, slots := 0, locals := 0 } : Room).cells ({ frames := 0, cells := 0, slots := 0, locals := 0 } : Room).slots) := by
  refine MetFree.of_bodySF (plainFor_of_name pn_4x11) hisR ?_
  intro p e s m args below meth c s₁ Bd hml0 hP hK
  obtain ⟨rfl, hZ, hh⟩ := hP
  have hx := Bd.exec
  have hby := Bd.bytes
  have hml : c.maxLocals = 3 := hml0
  have hown : s.vm.findClass "java/lang/StringLatin1" = some m.cls := findClass_of_methodNamed Bd.named
  have hnm := (name_of_methodNamed Bd.named Bd.method).1
  have X0 : Stand p l e ({ frames := 0, cells := 0, slots := 0, locals := 0 } : Room) s m #[(.ref a1), (.ref a2)] below meth c s₁ [] 0 0 := Stand.of_body Bd
  have e0 : s₁.heap = h0 := by rw [← hh, Bd.state]; rfl
  have N0 := Fr.nil n0
  show own_End p e below s (s₁.setTop (entryFrame m #[(.ref a1), (.ref a2)] 3)) (Q4x11 Z a1 a2 g1 g2 h0 n0) ({ frames := 0, cells := 0, slots := 0, locals := 0 } : Room).cells ({ frames := 0, cells := 0, slots := 0, locals := 0 } : Room).slots
  refine own_pre (A := s₁.setTop (mkF m 0 #[.val (.ref a1), .val (.ref a2), .unset] [])) (fun tt kt => castTop (ef_4x11 m a1 a2) kt) ?_
  show own_End p e below s (s₁.setTop (mkF m 0 #[.val (.ref a1), .val (.ref a2), .unset] [])) (Q4x11 Z a1 a2 g1 g2 h0 n0) ({ frames := 0, cells := 0, slots := 0, locals := 0 } : Room).cells ({ frames := 0, cells := 0, slots := 0, locals := 0 } : Room).slots
  have hj : own_l11 g1 g2 = own_l11 g1 g2 := rfl
  obtain ⟨cl1, Ar1, S1, Nn1, G1⟩ := id V_a1
  obtain ⟨cl2, Ar2, S2, Nn2, G2⟩ := id V_a2
  obtain ⟨cl3, Ar3, S3, Nn3, G3⟩ := id V_a1
  obtain ⟨cl4, Ar4, S4, Nn4, G4⟩ := id V_a1
  have hin4 : ¬ ((0 : Int32) < 0 ∨ cl4.slots.size ≤ (0 : Int32).toNatClampNeg) := inb_of S4 (⟨by decide, by decide⟩ : ¬ (0 : Int32) < 0 ∧ (0 : Int32) < (1 : Int32))
  have hat4 : cl4.slots[(0 : Int32).toNatClampNeg]? = some (.int (g1 0)) := own_at S4 G4 hin4
  obtain ⟨cl5, Ar5, S5, Nn5, G5⟩ := id V_a2
  have hin5 : ¬ ((0 : Int32) < 0 ∨ cl5.slots.size ≤ (0 : Int32).toNatClampNeg) := inb_of S5 (⟨by decide, by decide⟩ : ¬ (0 : Int32) < 0 ∧ (0 : Int32) < (1 : Int32))
  have hat5 : cl5.slots[(0 : Int32).toNatClampNeg]? = some (.int (g2 0)) := own_at S5 G5 hin5
  refine own_pre (A := s₁.setTop (mkF m 21 #[.val (.ref a1), .val (.ref a2), .val (.int (0 : Int32))] [(.int (g2 0)), (.int (g1 0))])) (fun tt kt => ?_) ?_
  · show Steps p.tables e below (s₁.setTop (mkF m 0 #[.val (.ref a1), .val (.ref a2), .unset] [])) _
    refine XS.aloadN X0.here hx rfl (hb hby d4x11_0) rfl rfl ?_
    show Steps p.tables e below (s₁.setTop (mkF m 1 #[.val (.ref a1), .val (.ref a2), .unset] [(.ref a1)])) _
    refine X0.arraylength hx (by rw [e0]; exact Ar1.1) (State.isArrayOf_alike hZ.alike Ar1.2.1) (g := (mkF m 1 #[.val (.ref a1), .val (.ref a2), .unset] [(.ref a1)])) rfl rfl (hb hby d4x11_1) _ ?_
    rw [len_of S1 Nn1]
    show Steps p.tables e below (s₁.setTop (mkF m 2 #[.val (.ref a1), .val (.ref a2), .unset] [(.int (1 : Int32))])) _
    refine XS.aloadN X0.here hx rfl (hb hby d4x11_2) rfl rfl ?_
    show Steps p.tables e below (s₁.setTop (mkF m 3 #[.val (.ref a1), .val (.ref a2), .unset] [(.ref a2), (.int (1 : Int32))])) _
    refine X0.arraylength hx (by rw [e0]; exact Ar2.1) (State.isArrayOf_alike hZ.alike Ar2.2.1) (g := (mkF m 3 #[.val (.ref a1), .val (.ref a2), .unset] [(.ref a2), (.int (1 : Int32))])) rfl rfl (hb hby d4x11_3) _ ?_
    rw [len_of S2 Nn2]
    show Steps p.tables e below (s₁.setTop (mkF m 4 #[.val (.ref a1), .val (.ref a2), .unset] [(.int (1 : Int32)), (.int (1 : Int32))])) _
    refine XS.icmpNo X0.here hx rfl (hb hby d4x11_4) rfl (teq ((by decide) : (1 : Int32) = (1 : Int32))).2 ?_
    refine XS.iconst X0.here hx rfl (hb hby d4x11_7) ?_
    refine XS.istoreN X0.here hx rfl (hb hby d4x11_8) rfl (l' := #[.val (.ref a1), .val (.ref a2), .val (.int (0 : Int32))]) rfl ?_
    refine XS.iloadN X0.here hx rfl (hb hby d4x11_9) rfl ?_
    show Steps p.tables e below (s₁.setTop (mkF m 10 #[.val (.ref a1), .val (.ref a2), .val (.int (0 : Int32))] [(.int (0 : Int32))])) _
    refine XS.aloadN X0.here hx rfl (hb hby d4x11_10) rfl rfl ?_
    show Steps p.tables e below (s₁.setTop (mkF m 11 #[.val (.ref a1), .val (.ref a2), .val (.int (0 : Int32))] [(.ref a1), (.int (0 : Int32))])) _
    refine X0.arraylength hx (by rw [e0]; exact Ar3.1) (State.isArrayOf_alike hZ.alike Ar3.2.1) (g := (mkF m 11 #[.val (.ref a1), .val (.ref a2), .val (.int (0 : Int32))] [(.ref a1), (.int (0 : Int32))])) rfl rfl (hb hby d4x11_11) _ ?_
    rw [len_of S3 Nn3]
    show Steps p.tables e below (s₁.setTop (mkF m 12 #[.val (.ref a1), .val (.ref a2), .val (.int (0 : Int32))] [(.int (1 : Int32)), (.int (0 : Int32))])) _
    refine XS.icmpNo X0.here hx rfl (hb hby d4x11_12) rfl (tlt ((by decide) : (0 : Int32) < (1 : Int32))).2.1 ?_
    refine XS.aloadN X0.here hx rfl (hb hby d4x11_15) rfl rfl ?_
    refine XS.iloadN X0.here hx rfl (hb hby d4x11_16) rfl ?_
    show Steps p.tables e below (s₁.setTop (mkF m 17 #[.val (.ref a1), .val (.ref a2), .val (.int (0 : Int32))] [(.int (0 : Int32)), (.ref a1)])) _
    refine X0.baloadBytes hx (j := (0 : Int32)) (v := (.int (g1 0))) (by rw [e0]; exact Ar4.1) (State.isArrayOf_alike hZ.alike Ar4.2.1) Ar4.2.2 hin4 hat4 (g := (mkF m 17 #[.val (.ref a1), .val (.ref a2), .val (.int (0 : Int32))] [(.int (0 : Int32)), (.ref a1)])) rfl rfl (hb hby d4x11_17) _ ?_
    show Steps p.tables e below (s₁.setTop (mkF m 18 #[.val (.ref a1), .val (.ref a2), .val (.int (0 : Int32))] [(.int (g1 0))])) _
    refine XS.aloadN X0.here hx rfl (hb hby d4x11_18) rfl rfl ?_
    refine XS.iloadN X0.here hx rfl (hb hby d4x11_19) rfl ?_
    show Steps p.tables e below (s₁.setTop (mkF m 20 #[.val (.ref a1), .val (.ref a2), .val (.int (0 : Int32))] [(.int (0 : Int32)), (.ref a2), (.int (g1 0))])) _
    refine X0.baloadBytes hx (j := (0 : Int32)) (v := (.int (g2 0))) (by rw [e0]; exact Ar5.1) (State.isArrayOf_alike hZ.alike Ar5.2.1) Ar5.2.2 hin5 hat5 (g := (mkF m 20 #[.val (.ref a1), .val (.ref a2), .val (.int (0 : Int32))] [(.int (0 : Int32)), (.ref a2), (.int (g1 0))])) rfl rfl (hb hby d4x11_20) _ ?_
    exact kt
  show own_End p e below s (s₁.setTop (mkF m 21 #[.val (.ref a1), .val (.ref a2), .val (.int (0 : Int32))] [(.int (g2 0)), (.int (g1 0))])) (Q4x11 Z a1 a2 g1 g2 h0 n0) ({ frames := 0, cells := 0, slots := 0, locals := 0 } : Room).cells ({ frames := 0, cells := 0, slots := 0, locals := 0 } : Room).slots
  by_cases hc21_6 : (g1 0) = (g2 0)
  · obtain ⟨cl7, Ar7, S7, Nn7, G7⟩ := id V_a1
    refine own_pre (A := s₁.setTop (mkF m 33 #[.val (.ref a1), .val (.ref a2), .val (.int (1 : Int32))] [(.int (1 : Int32))])) (fun tt kt => ?_) ?_
    · show Steps p.tables e below (s₁.setTop (mkF m 21 #[.val (.ref a1), .val (.ref a2), .val (.int (0 : Int32))] [(.int (g2 0)), (.int (g1 0))])) _
      refine XS.icmpYes X0.here hx rfl (pc0 := 21) (pc' := 26) rfl (hb hby d4x11_21) rfl (teq hc21_6).1 (by decide) (by decide) ?_
      refine XS.iinc X0.here hx rfl (hb hby d4x11_26) rfl (l' := #[.val (.ref a1), .val (.ref a2), .val (.int (1 : Int32))]) rfl ?_
      refine XS.goto X0.here hx rfl (pc0 := 29) (pc' := 9) rfl (hb hby d4x11_29) (by decide) (by decide) ?_
      refine XS.iloadN X0.here hx rfl (hb hby d4x11_9) rfl ?_
      show Steps p.tables e below (s₁.setTop (mkF m 10 #[.val (.ref a1), .val (.ref a2), .val (.int (1 : Int32))] [(.int (1 : Int32))])) _
      refine XS.aloadN X0.here hx rfl (hb hby d4x11_10) rfl rfl ?_
      show Steps p.tables e below (s₁.setTop (mkF m 11 #[.val (.ref a1), .val (.ref a2), .val (.int (1 : Int32))] [(.ref a1), (.int (1 : Int32))])) _
      refine X0.arraylength hx (by rw [e0]; exact Ar7.1) (State.isArrayOf_alike hZ.alike Ar7.2.1) (g := (mkF m 11 #[.val (.ref a1), .val (.ref a2), .val (.int (1 : Int32))] [(.ref a1), (.int (1 : Int32))])) rfl rfl (hb hby d4x11_11) _ ?_
      rw [len_of S7 Nn7]
      show Steps p.tables e below (s₁.setTop (mkF m 12 #[.val (.ref a1), .val (.ref a2), .val (.int (1 : Int32))] [(.int (1 : Int32)), (.int (1 : Int32))])) _
      refine XS.icmpYes X0.here hx rfl (pc0 := 12) (pc' := 32) rfl (hb hby d4x11_12) rfl (flt ((by decide) : ¬ ((1 : Int32) < (1 : Int32)))).2.1 (by decide) (by decide) ?_
      refine XS.iconst X0.here hx rfl (hb hby d4x11_32) ?_
      exact kt
    show own_End p e below s (s₁.setTop (mkF m 33 #[.val (.ref a1), .val (.ref a2), .val (.int (1 : Int32))] [(.int (1 : Int32))])) (Q4x11 Z a1 a2 g1 g2 h0 n0) ({ frames := 0, cells := 0, slots := 0, locals := 0 } : Room).cells ({ frames := 0, cells := 0, slots := 0, locals := 0 } : Room).slots
    have hv : (own_l11 g1 g2) = (1 : Int32) := hj.trans (by simp only [own_l11, if_pos hc21_6])
    obtain ⟨fs, hr, hrun, hended, hW, hsame⟩ := X0.leave (v := some (.int (1 : Int32))) (fun h => by rw [Bd.returns] at h; cases h)
    refine ⟨_, _, ?_, hrun, hended, _, _, rfl, ?_, ⟨_, rfl⟩, hW, hsame.mono (by decide) (by decide)⟩
    · exact retN X0 hx (t := .boolean) Bd.returns (by simp) (hb hby d4x11_33) hr
    · show Q4x11 Z a1 a2 g1 g2 h0 n0 _ s₁.heap _
      rw [e0]
      exact ⟨(congrArg (fun z => some (Value.int z)) hv.symm), N0, rfl⟩
  · refine own_pre (A := s₁.setTop (mkF m 25 #[.val (.ref a1), .val (.ref a2), .val (.int (0 : Int32))] [(.int (0 : Int32))])) (fun tt kt => ?_) ?_
    · show Steps p.tables e below (s₁.setTop (mkF m 21 #[.val (.ref a1), .val (.ref a2), .val (.int (0 : Int32))] [(.int (g2 0)), (.int (g1 0))])) _
      refine XS.icmpNo X0.here hx rfl (hb hby d4x11_21) rfl (feq hc21_6).1 ?_
      refine XS.iconst X0.here hx rfl (hb hby d4x11_24) ?_
      exact kt
    show own_End p e below s (s₁.setTop (mkF m 25 #[.val (.ref a1), .val (.ref a2), .val (.int (0 : Int32))] [(.int (0 : Int32))])) (Q4x11 Z a1 a2 g1 g2 h0 n0) ({ frames := 0, cells := 0, slots := 0, locals := 0 } : Room).cells ({ frames := 0, cells := 0, slots := 0, locals := 0 } : Room).slots
    have hv : (own_l11 g1 g2) = (0 : Int32) := hj.trans (by simp only [own_l11, if_neg hc21_6])
    obtain ⟨fs, hr, hrun, hended, hW, hsame⟩ := X0.leave (v := some (.int (0 : Int32))) (fun h => by rw [Bd.returns] at h; cases h)
    refine ⟨_, _, ?_, hrun, hended, _, _, rfl, ?_, ⟨_, rfl⟩, hW, hsame.mono (by decide) (by decide)⟩
    · exact retN X0 hx (t := .boolean) Bd.returns (by simp) (hb hby d4x11_25) hr
    · show Q4x11 Z a1 a2 g1 g2 h0 n0 _ s₁.heap _
      rw [e0]
      exact ⟨(congrArg (fun z => some (Value.int z)) hv.symm), N0, rfl⟩
def own_l12 (g1 : Nat → Int32) (g2 : Nat → Int32) : Int32 := (0 : Int32)
theorem d4x12_0 : decode jdk_43_method_13_code 0 = .ok (.aload_n 0, 1) := by decide +kernel
theorem d4x12_1 : decode jdk_43_method_13_code 1 = .ok (.arraylength, 1) := by decide +kernel
theorem d4x12_2 : decode jdk_43_method_13_code 2 = .ok (.aload_n 1, 1) := by decide +kernel
theorem d4x12_3 : decode jdk_43_method_13_code 3 = .ok (.arraylength, 1) := by decide +kernel
theorem d4x12_4 : decode jdk_43_method_13_code 4 = .ok (.if_icmp .ne 30, 3) := by decide +kernel
theorem d4x12_34 : decode jdk_43_method_13_code 34 = .ok (.iconst 0, 1) := by decide +kernel
theorem d4x12_35 : decode jdk_43_method_13_code 35 = .ok (.ireturn, 1) := by decide +kernel
theorem pn_4x12 : plainName "java/lang/StringLatin1" = true := by first | (simp [plainName, overriddenIn]; done) | decide +kernel
theorem ef_4x12 (m : MethodId) (x0 : Addr) (x1 : Addr) : entryFrame m #[(.ref x0), (.ref x1)] 3 = mkF m 0 #[.val (.ref x0), .val (.ref x1), .unset] [] := by first | (simp [entryFrame, mkF, argsToLocals, Value.category]; done) | rfl
def Q4x12 (Z : State) (a1 : Addr) (a2 : Addr) (g1 : Nat → Int32) (g2 : Nat → Int32) (h0 : Heap) (n0 : Nat) (v : Option Value) (h : Heap) (L : List Loc) : Prop := v = some (.int (own_l12 g1 g2)) ∧ Fr n0 L ∧ h = h0
set_option maxRecDepth 65536 in
set_option maxHeartbeats 40000000 in
theorem rm4x12 (l : Launch) (Z : State) (a0 : Array Value) (hw : ∀ d ∈ tables_1, d.before a0 Z = true) (ws : List Jvm.Cond) (a1 : Addr) (a2 : Addr) (g1 : Nat → Int32) (g2 : Nat → Int32) (h0 : Heap) (n0 : Nat) (Z0 : n0 ≤ h0.size) (V_a1 : own_Arr Z h0 a1 .byte (1 : Int32) (fun i => Value.int (g1 i))) (V_a2 : own_Arr Z h0 a2 .byte (2 : Int32) (fun i => Value.int (g2 i))) :
    MetFree l (⟨"java/lang/StringLatin1", "equals", "([B[B)Z"⟩ : MethodName) (head1 (Jvm.Cond.code (⟨"java/lang/StringLatin1", "equals", "([B[B)Z"⟩ : MethodName) jdk_43_method_13_code 3 (some .boolean) :: ws) ({ frames := 0, cells := 0, slots := 0, locals := 0 } : Room)) (fun a U => a = #[(.ref a1), (.ref a2)] ∧ Z.Warmed39 U.vm ∧ U.heap = h0) (fun _ _ _ _ _ => True) (fun _ U o U' => ∃ v L, o = .returned v ∧ Q4x12 Z a1 a2 g1 g2 h0 n0 v U'.heap L ∧ FrameEnd U o U' L ({ frames := 0, cells := 0, slots := 0, locals := 0 } : Room).cells ({ frames := 0, cells := 0, slots := 0, locals := 0 } : Room).slots) := by
  refine MetFree.of_bodySF (plainFor_of_name pn_4x12) hisR ?_
  intro p e s m args below meth c s₁ Bd hml0 hP hK
  obtain ⟨rfl, hZ, hh⟩ := hP
  have hx := Bd.exec
  have hby := Bd.bytes
  have hml : c.maxLocals = 3 := hml0
  have hown : s.vm.findClass "java/lang/StringLatin1" = some m.cls := findClass_of_methodNamed Bd.named
  have hnm := (name_of_methodNamed Bd.named Bd.method).1
  have X0 : Stand p l e ({ frames := 0, cells := 0, slots := 0, locals := 0 } : Room) s m #[(.ref a1), (.ref a2)] below meth c s₁ [] 0 0 := Stand.of_body Bd
  have e0 : s₁.heap = h0 := by rw [← hh, Bd.state]; rfl
  have N0 := Fr.nil n0
  show own_End p e below s (s₁.setTop (entryFrame m #[(.ref a1), (.ref a2)] 3)) (Q4x12 Z a1 a2 g1 g2 h0 n0) ({ frames := 0, cells := 0, slots := 0, locals := 0 } : Room).cells ({ frames := 0, cells := 0, slots := 0, locals := 0 } : Room).slots
  refine own_pre (A := s₁.setTop (mkF m 0 #[.val (.ref a1), .val (.ref a2), .unset] [])) (fun tt kt => castTop (ef_4x12 m a1 a2) kt) ?_
  show own_End p e below s (s₁.setTop (mkF m 0 #[.val (.ref a1), .val (.ref a2), .unset] [])) (Q4x12 Z a1 a2 g1 g2 h0 n0) ({ frames := 0, cells := 0, slots := 0, locals := 0 } : Room).cells ({ frames := 0, cells := 0, slots := 0, locals := 0 } : Room).slots
  have hj : own_l12 g1 g2 = own_l12 g1 g2 := rfl
  obtain ⟨cl1, Ar1, S1, Nn1, G1⟩ := id V_a1
  obtain ⟨cl2, Ar2, S2, Nn2, G2⟩ := id V_a2
  refine own_pre (A := s₁.setTop (mkF m 35 #[.val (.ref a1), .val (.ref a2), .unset] [(.int (0 : Int32))])) (fun tt kt => ?_) ?_
  · show Steps p.tables e below (s₁.setTop (mkF m 0 #[.val (.ref a1), .val (.ref a2), .unset] [])) _
    refine XS.aloadN X0.here hx rfl (hb hby d4x12_0) rfl rfl ?_
    show Steps p.tables e below (s₁.setTop (mkF m 1 #[.val (.ref a1), .val (.ref a2), .unset] [(.ref a1)])) _
    refine X0.arraylength hx (by rw [e0]; exact Ar1.1) (State.isArrayOf_alike hZ.alike Ar1.2.1) (g := (mkF m 1 #[.val (.ref a1), .val (.ref a2), .unset] [(.ref a1)])) rfl rfl (hb hby d4x12_1) _ ?_
    rw [len_of S1 Nn1]
    show Steps p.tables e below (s₁.setTop (mkF m 2 #[.val (.ref a1), .val (.ref a2), .unset] [(.int (1 : Int32))])) _
    refine XS.aloadN X0.here hx rfl (hb hby d4x12_2) rfl rfl ?_
    show Steps p.tables e below (s₁.setTop (mkF m 3 #[.val (.ref a1), .val (.ref a2), .unset] [(.ref a2), (.int (1 : Int32))])) _
    refine X0.arraylength hx (by rw [e0]; exact Ar2.1) (State.isArrayOf_alike hZ.alike Ar2.2.1) (g := (mkF m 3 #[.val (.ref a1), .val (.ref a2), .unset] [(.ref a2), (.int (1 : Int32))])) rfl rfl (hb hby d4x12_3) _ ?_
    rw [len_of S2 Nn2]
    show Steps p.tables e below (s₁.setTop (mkF m 4 #[.val (.ref a1), .val (.ref a2), .unset] [(.int (2 : Int32)), (.int (1 : Int32))])) _
    refine XS.icmpYes X0.here hx rfl (pc0 := 4) (pc' := 34) rfl (hb hby d4x12_4) rfl (feq ((by decide) : ¬ ((1 : Int32) = (2 : Int32)))).2 (by decide) (by decide) ?_
    refine XS.iconst X0.here hx rfl (hb hby d4x12_34) ?_
    exact kt
  show own_End p e below s (s₁.setTop (mkF m 35 #[.val (.ref a1), .val (.ref a2), .unset] [(.int (0 : Int32))])) (Q4x12 Z a1 a2 g1 g2 h0 n0) ({ frames := 0, cells := 0, slots := 0, locals := 0 } : Room).cells ({ frames := 0, cells := 0, slots := 0, locals := 0 } : Room).slots
  have hv : (own_l12 g1 g2) = (0 : Int32) := hj.trans (by simp only [own_l12])
  obtain ⟨fs, hr, hrun, hended, hW, hsame⟩ := X0.leave (v := some (.int (0 : Int32))) (fun h => by rw [Bd.returns] at h; cases h)
  refine ⟨_, _, ?_, hrun, hended, _, _, rfl, ?_, ⟨_, rfl⟩, hW, hsame.mono (by decide) (by decide)⟩
  · exact retN X0 hx (t := .boolean) Bd.returns (by simp) (hb hby d4x12_35) hr
  · show Q4x12 Z a1 a2 g1 g2 h0 n0 _ s₁.heap _
    rw [e0]
    exact ⟨(congrArg (fun z => some (Value.int z)) hv.symm), N0, rfl⟩
def own_l21 (g1 : Nat → Int32) (g2 : Nat → Int32) : Int32 := (0 : Int32)
theorem d4x21_0 : decode jdk_43_method_13_code 0 = .ok (.aload_n 0, 1) := by decide +kernel
theorem d4x21_1 : decode jdk_43_method_13_code 1 = .ok (.arraylength, 1) := by decide +kernel
theorem d4x21_2 : decode jdk_43_method_13_code 2 = .ok (.aload_n 1, 1) := by decide +kernel
theorem d4x21_3 : decode jdk_43_method_13_code 3 = .ok (.arraylength, 1) := by decide +kernel
theorem d4x21_4 : decode jdk_43_method_13_code 4 = .ok (.if_icmp .ne 30, 3) := by decide +kernel
theorem d4x21_34 : decode jdk_43_method_13_code 34 = .ok (.iconst 0, 1) := by decide +kernel
theorem d4x21_35 : decode jdk_43_method_13_code 35 = .ok (.ireturn, 1) := by decide +kernel
theorem pn_4x21 : plainName "java/lang/StringLatin1" = true := by first | (simp [plainName, overriddenIn]; done) | decide +kernel
theorem ef_4x21 (m : MethodId) (x0 : Addr) (x1 : Addr) : entryFrame m #[(.ref x0), (.ref x1)] 3 = mkF m 0 #[.val (.ref x0), .val (.ref x1), .unset] [] := by first | (simp [entryFrame, mkF, argsToLocals, Value.category]; done) | rfl
def Q4x21 (Z : State) (a1 : Addr) (a2 : Addr) (g1 : Nat → Int32) (g2 : Nat → Int32) (h0 : Heap) (n0 : Nat) (v : Option Value) (h : Heap) (L : List Loc) : Prop := v = some (.int (own_l21 g1 g2)) ∧ Fr n0 L ∧ h = h0
set_option maxRecDepth 65536 in
set_option maxHeartbeats 40000000 in
theorem rm4x21 (l : Launch) (Z : State) (a0 : Array Value) (hw : ∀ d ∈ tables_1, d.before a0 Z = true) (ws : List Jvm.Cond) (a1 : Addr) (a2 : Addr) (g1 : Nat → Int32) (g2 : Nat → Int32) (h0 : Heap) (n0 : Nat) (Z0 : n0 ≤ h0.size) (V_a1 : own_Arr Z h0 a1 .byte (2 : Int32) (fun i => Value.int (g1 i))) (V_a2 : own_Arr Z h0 a2 .byte (1 : Int32) (fun i => Value.int (g2 i))) :
    MetFree l (⟨"java/lang/StringLatin1", "equals", "([B[B)Z"⟩ : MethodName) (head1 (Jvm.Cond.code (⟨"java/lang/StringLatin1", "equals", "([B[B)Z"⟩ : MethodName) jdk_43_method_13_code 3 (some .boolean) :: ws) ({ frames := 0, cells := 0, slots := 0, locals := 0 } : Room)) (fun a U => a = #[(.ref a1), (.ref a2)] ∧ Z.Warmed39 U.vm ∧ U.heap = h0) (fun _ _ _ _ _ => True) (fun _ U o U' => ∃ v L, o = .returned v ∧ Q4x21 Z a1 a2 g1 g2 h0 n0 v U'.heap L ∧ FrameEnd U o U' L ({ frames := 0, cells := 0, slots := 0, locals := 0 } : Room).cells ({ frames := 0, cells := 0, slots := 0, locals := 0 } : Room).slots) := by
  refine MetFree.of_bodySF (plainFor_of_name pn_4x21) hisR ?_
  intro p e s m args below meth c s₁ Bd hml0 hP hK
  obtain ⟨rfl, hZ, hh⟩ := hP
  have hx := Bd.exec
  have hby := Bd.bytes
  have hml : c.maxLocals = 3 := hml0
  have hown : s.vm.findClass "java/lang/StringLatin1" = some m.cls := findClass_of_methodNamed Bd.named
  have hnm := (name_of_methodNamed Bd.named Bd.method).1
  have X0 : Stand p l e ({ frames := 0, cells := 0, slots := 0, locals := 0 } : Room) s m #[(.ref a1), (.ref a2)] below meth c s₁ [] 0 0 := Stand.of_body Bd
  have e0 : s₁.heap = h0 := by rw [← hh, Bd.state]; rfl
  have N0 := Fr.nil n0
  show own_End p e below s (s₁.setTop (entryFrame m #[(.ref a1), (.ref a2)] 3)) (Q4x21 Z a1 a2 g1 g2 h0 n0) ({ frames := 0, cells := 0, slots := 0, locals := 0 } : Room).cells ({ frames := 0, cells := 0, slots := 0, locals := 0 } : Room).slots
  refine own_pre (A := s₁.setTop (mkF m 0 #[.val (.ref a1), .val (.ref a2), .unset] [])) (fun tt kt => castTop (ef_4x21 m a1 a2) kt) ?_
  show own_End p e below s (s₁.setTop (mkF m 0 #[.val (.ref a1), .val (.ref a2), .unset] [])) (Q4x21 Z a1 a2 g1 g2 h0 n0) ({ frames := 0, cells := 0, slots := 0, locals := 0 } : Room).cells ({ frames := 0, cells := 0, slots := 0, locals := 0 } : Room).slots
  have hj : own_l21 g1 g2 = own_l21 g1 g2 := rfl
  obtain ⟨cl1, Ar1, S1, Nn1, G1⟩ := id V_a1
  obtain ⟨cl2, Ar2, S2, Nn2, G2⟩ := id V_a2
  refine own_pre (A := s₁.setTop (mkF m 35 #[.val (.ref a1), .val (.ref a2), .unset] [(.int (0 : Int32))])) (fun tt kt => ?_) ?_
  · show Steps p.tables e below (s₁.setTop (mkF m 0 #[.val (.ref a1), .val (.ref a2), .unset] [])) _
    refine XS.aloadN X0.here hx rfl (hb hby d4x21_0) rfl rfl ?_
    show Steps p.tables e below (s₁.setTop (mkF m 1 #[.val (.ref a1), .val (.ref a2), .unset] [(.ref a1)])) _
    refine X0.arraylength hx (by rw [e0]; exact Ar1.1) (State.isArrayOf_alike hZ.alike Ar1.2.1) (g := (mkF m 1 #[.val (.ref a1), .val (.ref a2), .unset] [(.ref a1)])) rfl rfl (hb hby d4x21_1) _ ?_
    rw [len_of S1 Nn1]
    show Steps p.tables e below (s₁.setTop (mkF m 2 #[.val (.ref a1), .val (.ref a2), .unset] [(.int (2 : Int32))])) _
    refine XS.aloadN X0.here hx rfl (hb hby d4x21_2) rfl rfl ?_
    show Steps p.tables e below (s₁.setTop (mkF m 3 #[.val (.ref a1), .val (.ref a2), .unset] [(.ref a2), (.int (2 : Int32))])) _
    refine X0.arraylength hx (by rw [e0]; exact Ar2.1) (State.isArrayOf_alike hZ.alike Ar2.2.1) (g := (mkF m 3 #[.val (.ref a1), .val (.ref a2), .unset] [(.ref a2), (.int (2 : Int32))])) rfl rfl (hb hby d4x21_3) _ ?_
    rw [len_of S2 Nn2]
    show Steps p.tables e below (s₁.setTop (mkF m 4 #[.val (.ref a1), .val (.ref a2), .unset] [(.int (1 : Int32)), (.int (2 : Int32))])) _
    refine XS.icmpYes X0.here hx rfl (pc0 := 4) (pc' := 34) rfl (hb hby d4x21_4) rfl (feq ((by decide) : ¬ ((2 : Int32) = (1 : Int32)))).2 (by decide) (by decide) ?_
    refine XS.iconst X0.here hx rfl (hb hby d4x21_34) ?_
    exact kt
  show own_End p e below s (s₁.setTop (mkF m 35 #[.val (.ref a1), .val (.ref a2), .unset] [(.int (0 : Int32))])) (Q4x21 Z a1 a2 g1 g2 h0 n0) ({ frames := 0, cells := 0, slots := 0, locals := 0 } : Room).cells ({ frames := 0, cells := 0, slots := 0, locals := 0 } : Room).slots
  have hv : (own_l21 g1 g2) = (0 : Int32) := hj.trans (by simp only [own_l21])
  obtain ⟨fs, hr, hrun, hended, hW, hsame⟩ := X0.leave (v := some (.int (0 : Int32))) (fun h => by rw [Bd.returns] at h; cases h)
  refine ⟨_, _, ?_, hrun, hended, _, _, rfl, ?_, ⟨_, rfl⟩, hW, hsame.mono (by decide) (by decide)⟩
  · exact retN X0 hx (t := .boolean) Bd.returns (by simp) (hb hby d4x21_35) hr
  · show Q4x21 Z a1 a2 g1 g2 h0 n0 _ s₁.heap _
    rw [e0]
    exact ⟨(congrArg (fun z => some (Value.int z)) hv.symm), N0, rfl⟩
def own_l22 (g1 : Nat → Int32) (g2 : Nat → Int32) : Int32 := (if (g1 0) = (g2 0) then (if (g1 1) = (g2 1) then (1 : Int32) else (0 : Int32)) else (0 : Int32))
theorem d4x22_0 : decode jdk_43_method_13_code 0 = .ok (.aload_n 0, 1) := by decide +kernel
theorem d4x22_1 : decode jdk_43_method_13_code 1 = .ok (.arraylength, 1) := by decide +kernel
theorem d4x22_2 : decode jdk_43_method_13_code 2 = .ok (.aload_n 1, 1) := by decide +kernel
theorem d4x22_3 : decode jdk_43_method_13_code 3 = .ok (.arraylength, 1) := by decide +kernel
theorem d4x22_4 : decode jdk_43_method_13_code 4 = .ok (.if_icmp .ne 30, 3) := by decide +kernel
theorem d4x22_7 : decode jdk_43_method_13_code 7 = .ok (.iconst 0, 1) := by decide +kernel
theorem d4x22_8 : decode jdk_43_method_13_code 8 = .ok (.istore_n 2, 1) := by decide +kernel
theorem d4x22_9 : decode jdk_43_method_13_code 9 = .ok (.iload_n 2, 1) := by decide +kernel
theorem d4x22_10 : decode jdk_43_method_13_code 10 = .ok (.aload_n 0, 1) := by decide +kernel
theorem d4x22_11 : decode jdk_43_method_13_code 11 = .ok (.arraylength, 1) := by decide +kernel
theorem d4x22_12 : decode jdk_43_method_13_code 12 = .ok (.if_icmp .ge 20, 3) := by decide +kernel
theorem d4x22_15 : decode jdk_43_method_13_code 15 = .ok (.aload_n 0, 1) := by decide +kernel
theorem d4x22_16 : decode jdk_43_method_13_code 16 = .ok (.iload_n 2, 1) := by decide +kernel
theorem d4x22_17 : decode jdk_43_method_13_code 17 = .ok (.baload, 1) := by decide +kernel
theorem d4x22_18 : decode jdk_43_method_13_code 18 = .ok (.aload_n 1, 1) := by decide +kernel
theorem d4x22_19 : decode jdk_43_method_13_code 19 = .ok (.iload_n 2, 1) := by decide +kernel
theorem d4x22_20 : decode jdk_43_method_13_code 20 = .ok (.baload, 1) := by decide +kernel
theorem d4x22_21 : decode jdk_43_method_13_code 21 = .ok (.if_icmp .eq 5, 3) := by decide +kernel
theorem d4x22_24 : decode jdk_43_method_13_code 24 = .ok (.iconst 0, 1) := by decide +kernel
theorem d4x22_25 : decode jdk_43_method_13_code 25 = .ok (.ireturn, 1) := by decide +kernel
theorem d4x22_26 : decode jdk_43_method_13_code 26 = .ok (.iinc 2 1, 3) := by decide +kernel
theorem d4x22_29 : decode jdk_43_method_13_code 29 = .ok (.goto (-20), 3) := by decide +kernel
theorem d4x22_32 : decode jdk_43_method_13_code 32 = .ok (.iconst 1, 1) := by decide +kernel
theorem d4x22_33 : decode jdk_43_method_13_code 33 = .ok (.ireturn, 1) := by decide +kernel
theorem pn_4x22 : plainName "java/lang/StringLatin1" = true := by first | (simp [plainName, overriddenIn]; done) | decide +kernel
theorem ef_4x22 (m : MethodId) (x0 : Addr) (x1 : Addr) : entryFrame m #[(.ref x0), (.ref x1)] 3 = mkF m 0 #[.val (.ref x0), .val (.ref x1), .unset] [] := by first | (simp [entryFrame, mkF, argsToLocals, Value.category]; done) | rfl
def Q4x22 (Z : State) (a1 : Addr) (a2 : Addr) (g1 : Nat → Int32) (g2 : Nat → Int32) (h0 : Heap) (n0 : Nat) (v : Option Value) (h : Heap) (L : List Loc) : Prop := v = some (.int (own_l22 g1 g2)) ∧ Fr n0 L ∧ h = h0
set_option maxRecDepth 65536 in
set_option maxHeartbeats 40000000 in
theorem rm4x22 (l : Launch) (Z : State) (a0 : Array Value) (hw : ∀ d ∈ tables_1, d.before a0 Z = true) (ws : List Jvm.Cond) (a1 : Addr) (a2 : Addr) (g1 : Nat → Int32) (g2 : Nat → Int32) (h0 : Heap) (n0 : Nat) (Z0 : n0 ≤ h0.size) (V_a1 : own_Arr Z h0 a1 .byte (2 : Int32) (fun i => Value.int (g1 i))) (V_a2 : own_Arr Z h0 a2 .byte (2 : Int32) (fun i => Value.int (g2 i))) :
    MetFree l (⟨"java/lang/StringLatin1", "equals", "([B[B)Z"⟩ : MethodName) (head1 (Jvm.Cond.code (⟨"java/lang/StringLatin1", "equals", "([B[B)Z"⟩ : MethodName) jdk_43_method_13_code 3 (some .boolean) :: ws) ({ frames := 0, cells := 0, slots := 0, locals := 0 } : Room)) (fun a U => a = #[(.ref a1), (.ref a2)] ∧ Z.Warmed39 U.vm ∧ U.heap = h0) (fun _ _ _ _ _ => True) (fun _ U o U' => ∃ v L, o = .returned v ∧ Q4x22 Z a1 a2 g1 g2 h0 n0 v U'.heap L ∧ FrameEnd U o U' L ({ frames := 0, cells := 0, slots := 0, locals := 0 } : Room).cells ({ frames := 0, cells := 0, slots := 0, locals := 0 } : Room).slots) := by
  refine MetFree.of_bodySF (plainFor_of_name pn_4x22) hisR ?_
  intro p e s m args below meth c s₁ Bd hml0 hP hK
  obtain ⟨rfl, hZ, hh⟩ := hP
  have hx := Bd.exec
  have hby := Bd.bytes
  have hml : c.maxLocals = 3 := hml0
  have hown : s.vm.findClass "java/lang/StringLatin1" = some m.cls := findClass_of_methodNamed Bd.named
  have hnm := (name_of_methodNamed Bd.named Bd.method).1
  have X0 : Stand p l e ({ frames := 0, cells := 0, slots := 0, locals := 0 } : Room) s m #[(.ref a1), (.ref a2)] below meth c s₁ [] 0 0 := Stand.of_body Bd
  have e0 : s₁.heap = h0 := by rw [← hh, Bd.state]; rfl
  have N0 := Fr.nil n0
  show own_End p e below s (s₁.setTop (entryFrame m #[(.ref a1), (.ref a2)] 3)) (Q4x22 Z a1 a2 g1 g2 h0 n0) ({ frames := 0, cells := 0, slots := 0, locals := 0 } : Room).cells ({ frames := 0, cells := 0, slots := 0, locals := 0 } : Room).slots
  refine own_pre (A := s₁.setTop (mkF m 0 #[.val (.ref a1), .val (.ref a2), .unset] [])) (fun tt kt => castTop (ef_4x22 m a1 a2) kt) ?_
  show own_End p e below s (s₁.setTop (mkF m 0 #[.val (.ref a1), .val (.ref a2), .unset] [])) (Q4x22 Z a1 a2 g1 g2 h0 n0) ({ frames := 0, cells := 0, slots := 0, locals := 0 } : Room).cells ({ frames := 0, cells := 0, slots := 0, locals := 0 } : Room).slots
  have hj : own_l22 g1 g2 = own_l22 g1 g2 := rfl
  obtain ⟨cl1, Ar1, S1, Nn1, G1⟩ := id V_a1
  obtain ⟨cl2, Ar2, S2, Nn2, G2⟩ := id V_a2
  obtain ⟨cl3, Ar3, S3, Nn3, G3⟩ := id V_a1
  obtain ⟨cl4, Ar4, S4, Nn4, G4⟩ := id V_a1
  have hin4 : ¬ ((0 : Int32) < 0 ∨ cl4.slots.size ≤ (0 : Int32).toNatClampNeg) := inb_of S4 (⟨by decide, by decide⟩ : ¬ (0 : Int32) < 0 ∧ (0 : Int32) < (2 : Int32))
  have hat4 : cl4.slots[(0 : Int32).toNatClampNeg]? = some (.int (g1 0)) := own_at S4 G4 hin4
  obtain ⟨cl5, Ar5, S5, Nn5, G5⟩ := id V_a2
  have hin5 : ¬ ((0 : Int32) < 0 ∨ cl5.slots.size ≤ (0 : Int32).toNatClampNeg) := inb_of S5 (⟨by decide, by decide⟩ : ¬ (0 : Int32) < 0 ∧ (0 : Int32) < (2 : Int32))
  have hat5 : cl5.slots[(0 : Int32).toNatClampNeg]? = some (.int (g2 0)) := own_at S5 G5 hin5
  refine own_pre (A := s₁.setTop (mkF m 21 #[.val (.ref a1), .val (.ref a2), .val (.int (0 : Int32))] [(.int (g2 0)), (.int (g1 0))])) (fun tt kt => ?_) ?_
  · show Steps p.tables e below (s₁.setTop (mkF m 0 #[.val (.ref a1), .val (.ref a2), .unset] [])) _
    refine XS.aloadN X0.here hx rfl (hb hby d4x22_0) rfl rfl ?_
    show Steps p.tables e below (s₁.setTop (mkF m 1 #[.val (.ref a1), .val (.ref a2), .unset] [(.ref a1)])) _
    refine X0.arraylength hx (by rw [e0]; exact Ar1.1) (State.isArrayOf_alike hZ.alike Ar1.2.1) (g := (mkF m 1 #[.val (.ref a1), .val (.ref a2), .unset] [(.ref a1)])) rfl rfl (hb hby d4x22_1) _ ?_
    rw [len_of S1 Nn1]
    show Steps p.tables e below (s₁.setTop (mkF m 2 #[.val (.ref a1), .val (.ref a2), .unset] [(.int (2 : Int32))])) _
    refine XS.aloadN X0.here hx rfl (hb hby d4x22_2) rfl rfl ?_
    show Steps p.tables e below (s₁.setTop (mkF m 3 #[.val (.ref a1), .val (.ref a2), .unset] [(.ref a2), (.int (2 : Int32))])) _
    refine X0.arraylength hx (by rw [e0]; exact Ar2.1) (State.isArrayOf_alike hZ.alike Ar2.2.1) (g := (mkF m 3 #[.val (.ref a1), .val (.ref a2), .unset] [(.ref a2), (.int (2 : Int32))])) rfl rfl (hb hby d4x22_3) _ ?_
    rw [len_of S2 Nn2]
    show Steps p.tables e below (s₁.setTop (mkF m 4 #[.val (.ref a1), .val (.ref a2), .unset] [(.int (2 : Int32)), (.int (2 : Int32))])) _
    refine XS.icmpNo X0.here hx rfl (hb hby d4x22_4) rfl (teq ((by decide) : (2 : Int32) = (2 : Int32))).2 ?_
    refine XS.iconst X0.here hx rfl (hb hby d4x22_7) ?_
    refine XS.istoreN X0.here hx rfl (hb hby d4x22_8) rfl (l' := #[.val (.ref a1), .val (.ref a2), .val (.int (0 : Int32))]) rfl ?_
    refine XS.iloadN X0.here hx rfl (hb hby d4x22_9) rfl ?_
    show Steps p.tables e below (s₁.setTop (mkF m 10 #[.val (.ref a1), .val (.ref a2), .val (.int (0 : Int32))] [(.int (0 : Int32))])) _
    refine XS.aloadN X0.here hx rfl (hb hby d4x22_10) rfl rfl ?_
    show Steps p.tables e below (s₁.setTop (mkF m 11 #[.val (.ref a1), .val (.ref a2), .val (.int (0 : Int32))] [(.ref a1), (.int (0 : Int32))])) _
    refine X0.arraylength hx (by rw [e0]; exact Ar3.1) (State.isArrayOf_alike hZ.alike Ar3.2.1) (g := (mkF m 11 #[.val (.ref a1), .val (.ref a2), .val (.int (0 : Int32))] [(.ref a1), (.int (0 : Int32))])) rfl rfl (hb hby d4x22_11) _ ?_
    rw [len_of S3 Nn3]
    show Steps p.tables e below (s₁.setTop (mkF m 12 #[.val (.ref a1), .val (.ref a2), .val (.int (0 : Int32))] [(.int (2 : Int32)), (.int (0 : Int32))])) _
    refine XS.icmpNo X0.here hx rfl (hb hby d4x22_12) rfl (tlt ((by decide) : (0 : Int32) < (2 : Int32))).2.1 ?_
    refine XS.aloadN X0.here hx rfl (hb hby d4x22_15) rfl rfl ?_
    refine XS.iloadN X0.here hx rfl (hb hby d4x22_16) rfl ?_
    show Steps p.tables e below (s₁.setTop (mkF m 17 #[.val (.ref a1), .val (.ref a2), .val (.int (0 : Int32))] [(.int (0 : Int32)), (.ref a1)])) _
    refine X0.baloadBytes hx (j := (0 : Int32)) (v := (.int (g1 0))) (by rw [e0]; exact Ar4.1) (State.isArrayOf_alike hZ.alike Ar4.2.1) Ar4.2.2 hin4 hat4 (g := (mkF m 17 #[.val (.ref a1), .val (.ref a2), .val (.int (0 : Int32))] [(.int (0 : Int32)), (.ref a1)])) rfl rfl (hb hby d4x22_17) _ ?_
    show Steps p.tables e below (s₁.setTop (mkF m 18 #[.val (.ref a1), .val (.ref a2), .val (.int (0 : Int32))] [(.int (g1 0))])) _
    refine XS.aloadN X0.here hx rfl (hb hby d4x22_18) rfl rfl ?_
    refine XS.iloadN X0.here hx rfl (hb hby d4x22_19) rfl ?_
    show Steps p.tables e below (s₁.setTop (mkF m 20 #[.val (.ref a1), .val (.ref a2), .val (.int (0 : Int32))] [(.int (0 : Int32)), (.ref a2), (.int (g1 0))])) _
    refine X0.baloadBytes hx (j := (0 : Int32)) (v := (.int (g2 0))) (by rw [e0]; exact Ar5.1) (State.isArrayOf_alike hZ.alike Ar5.2.1) Ar5.2.2 hin5 hat5 (g := (mkF m 20 #[.val (.ref a1), .val (.ref a2), .val (.int (0 : Int32))] [(.int (0 : Int32)), (.ref a2), (.int (g1 0))])) rfl rfl (hb hby d4x22_20) _ ?_
    exact kt
  show own_End p e below s (s₁.setTop (mkF m 21 #[.val (.ref a1), .val (.ref a2), .val (.int (0 : Int32))] [(.int (g2 0)), (.int (g1 0))])) (Q4x22 Z a1 a2 g1 g2 h0 n0) ({ frames := 0, cells := 0, slots := 0, locals := 0 } : Room).cells ({ frames := 0, cells := 0, slots := 0, locals := 0 } : Room).slots
  by_cases hc21_6 : (g1 0) = (g2 0)
  · obtain ⟨cl7, Ar7, S7, Nn7, G7⟩ := id V_a1
    obtain ⟨cl8, Ar8, S8, Nn8, G8⟩ := id V_a1
    have hin8 : ¬ ((1 : Int32) < 0 ∨ cl8.slots.size ≤ (1 : Int32).toNatClampNeg) := inb_of S8 (⟨by decide, by decide⟩ : ¬ (1 : Int32) < 0 ∧ (1 : Int32) < (2 : Int32))
    have hat8 : cl8.slots[(1 : Int32).toNatClampNeg]? = some (.int (g1 1)) := own_at S8 G8 hin8
    obtain ⟨cl9, Ar9, S9, Nn9, G9⟩ := id V_a2
    have hin9 : ¬ ((1 : Int32) < 0 ∨ cl9.slots.size ≤ (1 : Int32).toNatClampNeg) := inb_of S9 (⟨by decide, by decide⟩ : ¬ (1 : Int32) < 0 ∧ (1 : Int32) < (2 : Int32))
    have hat9 : cl9.slots[(1 : Int32).toNatClampNeg]? = some (.int (g2 1)) := own_at S9 G9 hin9
    refine own_pre (A := s₁.setTop (mkF m 21 #[.val (.ref a1), .val (.ref a2), .val (.int (1 : Int32))] [(.int (g2 1)), (.int (g1 1))])) (fun tt kt => ?_) ?_
    · show Steps p.tables e below (s₁.setTop (mkF m 21 #[.val (.ref a1), .val (.ref a2), .val (.int (0 : Int32))] [(.int (g2 0)), (.int (g1 0))])) _
      refine XS.icmpYes X0.here hx rfl (pc0 := 21) (pc' := 26) rfl (hb hby d4x22_21) rfl (teq hc21_6).1 (by decide) (by decide) ?_
      refine XS.iinc X0.here hx rfl (hb hby d4x22_26) rfl (l' := #[.val (.ref a1), .val (.ref a2), .val (.int (1 : Int32))]) rfl ?_
      refine XS.goto X0.here hx rfl (pc0 := 29) (pc' := 9) rfl (hb hby d4x22_29) (by decide) (by decide) ?_
      refine XS.iloadN X0.here hx rfl (hb hby d4x22_9) rfl ?_
      show Steps p.tables e below (s₁.setTop (mkF m 10 #[.val (.ref a1), .val (.ref a2), .val (.int (1 : Int32))] [(.int (1 : Int32))])) _
      refine XS.aloadN X0.here hx rfl (hb hby d4x22_10) rfl rfl ?_
      show Steps p.tables e below (s₁.setTop (mkF m 11 #[.val (.ref a1), .val (.ref a2), .val (.int (1 : Int32))] [(.ref a1), (.int (1 : Int32))])) _
      refine X0.arraylength hx (by rw [e0]; exact Ar7.1) (State.isArrayOf_alike hZ.alike Ar7.2.1) (g := (mkF m 11 #[.val (.ref a1), .val (.ref a2), .val (.int (1 : Int32))] [(.ref a1), (.int (1 : Int32))])) rfl rfl (hb hby d4x22_11) _ ?_
      rw [len_of S7 Nn7]
      show Steps p.tables e below (s₁.setTop (mkF m 12 #[.val (.ref a1), .val (.ref a2), .val (.int (1 : Int32))] [(.int (2 : Int32)), (.int (1 : Int32))])) _
      refine XS.icmpNo X0.here hx rfl (hb hby d4x22_12) rfl (tlt ((by decide) : (1 : Int32) < (2 : Int32))).2.1 ?_
      refine XS.aloadN X0.here hx rfl (hb hby d4x22_15) rfl rfl ?_
      refine XS.iloadN X0.here hx rfl (hb hby d4x22_16) rfl ?_
      show Steps p.tables e below (s₁.setTop (mkF m 17 #[.val (.ref a1), .val (.ref a2), .val (.int (1 : Int32))] [(.int (1 : Int32)), (.ref a1)])) _
      refine X0.baloadBytes hx (j := (1 : Int32)) (v := (.int (g1 1))) (by rw [e0]; exact Ar8.1) (State.isArrayOf_alike hZ.alike Ar8.2.1) Ar8.2.2 hin8 hat8 (g := (mkF m 17 #[.val (.ref a1), .val (.ref a2), .val (.int (1 : Int32))] [(.int (1 : Int32)), (.ref a1)])) rfl rfl (hb hby d4x22_17) _ ?_
      show Steps p.tables e below (s₁.setTop (mkF m 18 #[.val (.ref a1), .val (.ref a2), .val (.int (1 : Int32))] [(.int (g1 1))])) _
      refine XS.aloadN X0.here hx rfl (hb hby d4x22_18) rfl rfl ?_
      refine XS.iloadN X0.here hx rfl (hb hby d4x22_19) rfl ?_
      show Steps p.tables e below (s₁.setTop (mkF m 20 #[.val (.ref a1), .val (.ref a2), .val (.int (1 : Int32))] [(.int (1 : Int32)), (.ref a2), (.int (g1 1))])) _
      refine X0.baloadBytes hx (j := (1 : Int32)) (v := (.int (g2 1))) (by rw [e0]; exact Ar9.1) (State.isArrayOf_alike hZ.alike Ar9.2.1) Ar9.2.2 hin9 hat9 (g := (mkF m 20 #[.val (.ref a1), .val (.ref a2), .val (.int (1 : Int32))] [(.int (1 : Int32)), (.ref a2), (.int (g1 1))])) rfl rfl (hb hby d4x22_20) _ ?_
      exact kt
    show own_End p e below s (s₁.setTop (mkF m 21 #[.val (.ref a1), .val (.ref a2), .val (.int (1 : Int32))] [(.int (g2 1)), (.int (g1 1))])) (Q4x22 Z a1 a2 g1 g2 h0 n0) ({ frames := 0, cells := 0, slots := 0, locals := 0 } : Room).cells ({ frames := 0, cells := 0, slots := 0, locals := 0 } : Room).slots
    by_cases hc21_10 : (g1 1) = (g2 1)
    · obtain ⟨cl11, Ar11, S11, Nn11, G11⟩ := id V_a1
      refine own_pre (A := s₁.setTop (mkF m 33 #[.val (.ref a1), .val (.ref a2), .val (.int (2 : Int32))] [(.int (1 : Int32))])) (fun tt kt => ?_) ?_
      · show Steps p.tables e below (s₁.setTop (mkF m 21 #[.val (.ref a1), .val (.ref a2), .val (.int (1 : Int32))] [(.int (g2 1)), (.int (g1 1))])) _
        refine XS.icmpYes X0.here hx rfl (pc0 := 21) (pc' := 26) rfl (hb hby d4x22_21) rfl (teq hc21_10).1 (by decide) (by decide) ?_
        refine XS.iinc X0.here hx rfl (hb hby d4x22_26) rfl (l' := #[.val (.ref a1), .val (.ref a2), .val (.int (2 : Int32))]) rfl ?_
        refine XS.goto X0.here hx rfl (pc0 := 29) (pc' := 9) rfl (hb hby d4x22_29) (by decide) (by decide) ?_
        refine XS.iloadN X0.here hx rfl (hb hby d4x22_9) rfl ?_
        show Steps p.tables e below (s₁.setTop (mkF m 10 #[.val (.ref a1), .val (.ref a2), .val (.int (2 : Int32))] [(.int (2 : Int32))])) _
        refine XS.aloadN X0.here hx rfl (hb hby d4x22_10) rfl rfl ?_
        show Steps p.tables e below (s₁.setTop (mkF m 11 #[.val (.ref a1), .val (.ref a2), .val (.int (2 : Int32))] [(.ref a1), (.int (2 : Int32))])) _
        refine X0.arraylength hx (by rw [e0]; exact Ar11.1) (State.isArrayOf_alike hZ.alike Ar11.2.1) (g := (mkF m 11 #[.val (.ref a1), .val (.ref a2), .val (.int (2 : Int32))] [(.ref a1), (.int (2 : Int32))])) rfl rfl (hb hby d4x22_11) _ ?_
        rw [len_of S11 Nn11]
        show Steps p.tables e below (s₁.setTop (mkF m 12 #[.val (.ref a1), .val (.ref a2), .val (.int (2 : Int32))] [(.int (2 : Int32)), (.int (2 : Int32))])) _
        refine XS.icmpYes X0.here hx rfl (pc0 := 12) (pc' := 32) rfl (hb hby d4x22_12) rfl (flt ((by decide) : ¬ ((2 : Int32) < (2 : Int32)))).2.1 (by decide) (by decide) ?_
        refine XS.iconst X0.here hx rfl (hb hby d4x22_32) ?_
        exact kt
      show own_End p e below s (s₁.setTop (mkF m 33 #[.val (.ref a1), .val (.ref a2), .val (.int (2 : Int32))] [(.int (1 : Int32))])) (Q4x22 Z a1 a2 g1 g2 h0 n0) ({ frames := 0, cells := 0, slots := 0, locals := 0 } : Room).cells ({ frames := 0, cells := 0, slots := 0, locals := 0 } : Room).slots
      have hv : (own_l22 g1 g2) = (1 : Int32) := hj.trans (by simp only [own_l22, if_pos hc21_6, if_pos hc21_10])
      obtain ⟨fs, hr, hrun, hended, hW, hsame⟩ := X0.leave (v := some (.int (1 : Int32))) (fun h => by rw [Bd.returns] at h; cases h)
      refine ⟨_, _, ?_, hrun, hended, _, _, rfl, ?_, ⟨_, rfl⟩, hW, hsame.mono (by decide) (by decide)⟩
      · exact retN X0 hx (t := .boolean) Bd.returns (by simp) (hb hby d4x22_33) hr
      · show Q4x22 Z a1 a2 g1 g2 h0 n0 _ s₁.heap _
        rw [e0]
        exact ⟨(congrArg (fun z => some (Value.int z)) hv.symm), N0, rfl⟩
    · refine own_pre (A := s₁.setTop (mkF m 25 #[.val (.ref a1), .val (.ref a2), .val (.int (1 : Int32))] [(.int (0 : Int32))])) (fun tt kt => ?_) ?_
      · show Steps p.tables e below (s₁.setTop (mkF m 21 #[.val (.ref a1), .val (.ref a2), .val (.int (1 : Int32))] [(.int (g2 1)), (.int (g1 1))])) _
        refine XS.icmpNo X0.here hx rfl (hb hby d4x22_21) rfl (feq hc21_10).1 ?_
        refine XS.iconst X0.here hx rfl (hb hby d4x22_24) ?_
        exact kt
      show own_End p e below s (s₁.setTop (mkF m 25 #[.val (.ref a1), .val (.ref a2), .val (.int (1 : Int32))] [(.int (0 : Int32))])) (Q4x22 Z a1 a2 g1 g2 h0 n0) ({ frames := 0, cells := 0, slots := 0, locals := 0 } : Room).cells ({ frames := 0, cells := 0, slots := 0, locals := 0 } : Room).slots
      have hv : (own_l22 g1 g2) = (0 : Int32) := hj.trans (by simp only [own_l22, if_pos hc21_6, if_neg hc21_10])
      obtain ⟨fs, hr, hrun, hended, hW, hsame⟩ := X0.leave (v := some (.int (0 : Int32))) (fun h => by rw [Bd.returns] at h; cases h)
      refine ⟨_, _, ?_, hrun, hended, _, _, rfl, ?_, ⟨_, rfl⟩, hW, hsame.mono (by decide) (by decide)⟩
      · exact retN X0 hx (t := .boolean) Bd.returns (by simp) (hb hby d4x22_25) hr
      · show Q4x22 Z a1 a2 g1 g2 h0 n0 _ s₁.heap _
        rw [e0]
        exact ⟨(congrArg (fun z => some (Value.int z)) hv.symm), N0, rfl⟩
  · refine own_pre (A := s₁.setTop (mkF m 25 #[.val (.ref a1), .val (.ref a2), .val (.int (0 : Int32))] [(.int (0 : Int32))])) (fun tt kt => ?_) ?_
    · show Steps p.tables e below (s₁.setTop (mkF m 21 #[.val (.ref a1), .val (.ref a2), .val (.int (0 : Int32))] [(.int (g2 0)), (.int (g1 0))])) _
      refine XS.icmpNo X0.here hx rfl (hb hby d4x22_21) rfl (feq hc21_6).1 ?_
      refine XS.iconst X0.here hx rfl (hb hby d4x22_24) ?_
      exact kt
    show own_End p e below s (s₁.setTop (mkF m 25 #[.val (.ref a1), .val (.ref a2), .val (.int (0 : Int32))] [(.int (0 : Int32))])) (Q4x22 Z a1 a2 g1 g2 h0 n0) ({ frames := 0, cells := 0, slots := 0, locals := 0 } : Room).cells ({ frames := 0, cells := 0, slots := 0, locals := 0 } : Room).slots
    have hv : (own_l22 g1 g2) = (0 : Int32) := hj.trans (by simp only [own_l22, if_neg hc21_6])
    obtain ⟨fs, hr, hrun, hended, hW, hsame⟩ := X0.leave (v := some (.int (0 : Int32))) (fun h => by rw [Bd.returns] at h; cases h)
    refine ⟨_, _, ?_, hrun, hended, _, _, rfl, ?_, ⟨_, rfl⟩, hW, hsame.mono (by decide) (by decide)⟩
    · exact retN X0 hx (t := .boolean) Bd.returns (by simp) (hb hby d4x22_25) hr
    · show Q4x22 Z a1 a2 g1 g2 h0 n0 _ s₁.heap _
      rw [e0]
      exact ⟨(congrArg (fun z => some (Value.int z)) hv.symm), N0, rfl⟩
theorem d3x11_0 : decode jdk_42_method_66_code 0 = .ok (.aload_n 0, 1) := by decide +kernel
theorem d3x11_1 : decode jdk_42_method_66_code 1 = .ok (.aload_n 1, 1) := by decide +kernel
theorem d3x11_2 : decode jdk_42_method_66_code 2 = .ok (.if_acmp .ne 5, 3) := by decide +kernel
theorem d3x11_5 : decode jdk_42_method_66_code 5 = .ok (.iconst 1, 1) := by decide +kernel
theorem d3x11_6 : decode jdk_42_method_66_code 6 = .ok (.ireturn, 1) := by decide +kernel
theorem d3x11_7 : decode jdk_42_method_66_code 7 = .ok (.aload_n 1, 1) := by decide +kernel
theorem d3x11_8 : decode jdk_42_method_66_code 8 = .ok (.instanceof 10, 3) := by decide +kernel
theorem d3x11_11 : decode jdk_42_method_66_code 11 = .ok (.ifCond .eq 43, 3) := by decide +kernel
theorem d3x11_14 : decode jdk_42_method_66_code 14 = .ok (.aload_n 1, 1) := by decide +kernel
theorem d3x11_15 : decode jdk_42_method_66_code 15 = .ok (.checkcast 10, 3) := by decide +kernel
theorem d3x11_18 : decode jdk_42_method_66_code 18 = .ok (.astore_n 2, 1) := by decide +kernel
theorem d3x11_19 : decode jdk_42_method_66_code 19 = .ok (.getstatic 38, 3) := by decide +kernel
theorem d3x11_22 : decode jdk_42_method_66_code 22 = .ok (.ifCond .eq 14, 3) := by decide +kernel
theorem d3x11_25 : decode jdk_42_method_66_code 25 = .ok (.aload_n 0, 1) := by decide +kernel
theorem d3x11_26 : decode jdk_42_method_66_code 26 = .ok (.getfield 15, 3) := by decide +kernel
theorem d3x11_29 : decode jdk_42_method_66_code 29 = .ok (.aload_n 2, 1) := by decide +kernel
theorem d3x11_30 : decode jdk_42_method_66_code 30 = .ok (.getfield 15, 3) := by decide +kernel
theorem d3x11_33 : decode jdk_42_method_66_code 33 = .ok (.if_icmp .ne 21, 3) := by decide +kernel
theorem d3x11_36 : decode jdk_42_method_66_code 36 = .ok (.aload_n 0, 1) := by decide +kernel
theorem d3x11_37 : decode jdk_42_method_66_code 37 = .ok (.getfield 9, 3) := by decide +kernel
theorem d3x11_40 : decode jdk_42_method_66_code 40 = .ok (.aload_n 2, 1) := by decide +kernel
theorem d3x11_41 : decode jdk_42_method_66_code 41 = .ok (.getfield 9, 3) := by decide +kernel
theorem d3x11_44 : decode jdk_42_method_66_code 44 = .ok (.invokestatic 541, 3) := by decide +kernel
theorem d3x11_47 : decode jdk_42_method_66_code 47 = .ok (.ifCond .eq 7, 3) := by decide +kernel
theorem d3x11_50 : decode jdk_42_method_66_code 50 = .ok (.iconst 1, 1) := by decide +kernel
theorem d3x11_51 : decode jdk_42_method_66_code 51 = .ok (.goto 4, 3) := by decide +kernel
theorem d3x11_54 : decode jdk_42_method_66_code 54 = .ok (.iconst 0, 1) := by decide +kernel
theorem d3x11_55 : decode jdk_42_method_66_code 55 = .ok (.ireturn, 1) := by decide +kernel
theorem pn_3x11 : plainName "java/lang/String" = true := by first | (simp [plainName, overriddenIn]; done) | decide +kernel
theorem pd_3x11_0 : parseMethodDescriptor "([B[B)Z" = some ⟨[(.array .byte), (.array .byte)], some .boolean⟩ := by decide +kernel
theorem ef_3x11 (m : MethodId) (x0 : Addr) (x1 : Addr) : entryFrame m #[(.ref x0), (.ref x1)] 3 = mkF m 0 #[.val (.ref x0), .val (.ref x1), .unset] [] := by first | (simp [entryFrame, mkF, argsToLocals, Value.category]; done) | rfl
def Q3x11 (Z : State) (a1 : Addr) (a2 : Addr) (b1 : Addr) (b2 : Addr) (g1 : Nat → Int32) (g2 : Nat → Int32) (GA : Int32) (r : Int32) (h0 : Heap) (n0 : Nat) (v : Option Value) (h : Heap) (L : List Loc) : Prop := v = some (.int r) ∧ Fr n0 L ∧ h = h0
set_option maxRecDepth 65536 in
set_option maxHeartbeats 40000000 in
theorem rm3x11 (l : Launch) (Z : State) (a0 : Array Value) (hw : ∀ d ∈ tables_1, d.before a0 Z = true) (ws : List Jvm.Cond) (a1 : Addr) (a2 : Addr) (b1 : Addr) (b2 : Addr) (g1 : Nat → Int32) (g2 : Nat → Int32) (GA : Int32) (r : Int32) (h0 : Heap) (n0 : Nat) (Z0 : n0 ≤ h0.size) (O_a1 : own_Str Z h0 a1 b1 (0 : Int32)) (O_a2 : own_Str Z h0 a2 b2 (0 : Int32)) (V_b1 : own_Arr Z h0 b1 .byte (1 : Int32) (fun i => Value.int (g1 i))) (V_b2 : own_Arr Z h0 b2 .byte (1 : Int32) (fun i => Value.int (g2 i))) (O2 : Sta Z h0 "java/lang/String" "COMPACT_STRINGS" "Z" (.int GA)) (P5 : ¬ (GA = (0 : Int32))) (hr : own_l11 g1 g2 = r) (hq : a1 = a2 → r = (1 : Int32)) (h01 : r = (0 : Int32) ∨ r = (1 : Int32)) :
    MetFree l (⟨"java/lang/String", "equals", "(Ljava/lang/Object;)Z"⟩ : MethodName) (head1 (Jvm.Cond.code (⟨"java/lang/String", "equals", "(Ljava/lang/Object;)Z"⟩ : MethodName) jdk_42_method_66_code 3 (some .boolean) :: ws) ({ frames := 1, cells := 0, slots := 0, locals := 14 } : Room)) (fun a U => a = #[(.ref a1), (.ref a2)] ∧ Z.Warmed39 U.vm ∧ U.heap = h0) (fun _ _ _ _ _ => True) (fun _ U o U' => ∃ v L, o = .returned v ∧ Q3x11 Z a1 a2 b1 b2 g1 g2 GA r h0 n0 v U'.heap L ∧ FrameEnd U o U' L ({ frames := 1, cells := 0, slots := 0, locals := 14 } : Room).cells ({ frames := 1, cells := 0, slots := 0, locals := 14 } : Room).slots) := by
  refine MetFree.of_bodySF (plainFor_of_name pn_3x11) hisR ?_
  intro p e s m args below meth c s₁ Bd hml0 hP hK
  obtain ⟨rfl, hZ, hh⟩ := hP
  have hx := Bd.exec
  have hby := Bd.bytes
  have hml : c.maxLocals = 3 := hml0
  have hown : s.vm.findClass "java/lang/String" = some m.cls := findClass_of_methodNamed Bd.named
  have hnm := (name_of_methodNamed Bd.named Bd.method).1
  have X0 : Stand p l e ({ frames := 1, cells := 0, slots := 0, locals := 14 } : Room) s m #[(.ref a1), (.ref a2)] below meth c s₁ [] 0 0 := Stand.of_body Bd
  have e0 : s₁.heap = h0 := by rw [← hh, Bd.state]; rfl
  have N0 := Fr.nil n0
  show own_End p e below s (s₁.setTop (entryFrame m #[(.ref a1), (.ref a2)] 3)) (Q3x11 Z a1 a2 b1 b2 g1 g2 GA r h0 n0) ({ frames := 1, cells := 0, slots := 0, locals := 14 } : Room).cells ({ frames := 1, cells := 0, slots := 0, locals := 14 } : Room).slots
  obtain ⟨E_a1_1, F_value_a1_2, F_coder_a1_3⟩ := O_a1
  obtain ⟨E_a2_4, F_value_a2_5, F_coder_a2_6⟩ := O_a2
  refine own_pre (A := s₁.setTop (mkF m 0 #[.val (.ref a1), .val (.ref a2), .unset] [])) (fun tt kt => castTop (ef_3x11 m a1 a2) kt) ?_
  show own_End p e below s (s₁.setTop (mkF m 0 #[.val (.ref a1), .val (.ref a2), .unset] [])) (Q3x11 Z a1 a2 b1 b2 g1 g2 GA r h0 n0) ({ frames := 1, cells := 0, slots := 0, locals := 14 } : Room).cells ({ frames := 1, cells := 0, slots := 0, locals := 14 } : Room).slots
  refine own_pre (A := s₁.setTop (mkF m 2 #[.val (.ref a1), .val (.ref a2), .unset] [(.ref a2), (.ref a1)])) (fun tt kt => ?_) ?_
  · show Steps p.tables e below (s₁.setTop (mkF m 0 #[.val (.ref a1), .val (.ref a2), .unset] [])) _
    refine XS.aloadN X0.here hx rfl (hb hby d3x11_0) rfl rfl ?_
    refine XS.aloadN X0.here hx rfl (hb hby d3x11_1) rfl rfl ?_
    exact kt
  show own_End p e below s (s₁.setTop (mkF m 2 #[.val (.ref a1), .val (.ref a2), .unset] [(.ref a2), (.ref a1)])) (Q3x11 Z a1 a2 b1 b2 g1 g2 GA r h0 n0) ({ frames := 1, cells := 0, slots := 0, locals := 14 } : Room).cells ({ frames := 1, cells := 0, slots := 0, locals := 14 } : Room).slots
  by_cases hac2_7 : a1 = a2
  · refine own_pre (A := s₁.setTop (mkF m 6 #[.val (.ref a1), .val (.ref a2), .unset] [(.int (1 : Int32))])) (fun tt kt => ?_) ?_
    · show Steps p.tables e below (s₁.setTop (mkF m 2 #[.val (.ref a1), .val (.ref a2), .unset] [(.ref a2), (.ref a1)])) _
      refine acmp X0 hx rfl (cd := .ne) (x := (.ref a1)) (y := (.ref a2)) rfl rfl (pc0 := 2) (pc' := 5) (same := true) rfl (hb hby d3x11_2) rfl (decide_eq_true (congrArg Value.ref hac2_7)) (by decide) (by decide) ?_
      refine XS.iconst X0.here hx rfl (hb hby d3x11_5) ?_
      exact kt
    show own_End p e below s (s₁.setTop (mkF m 6 #[.val (.ref a1), .val (.ref a2), .unset] [(.int (1 : Int32))])) (Q3x11 Z a1 a2 b1 b2 g1 g2 GA r h0 n0) ({ frames := 1, cells := 0, slots := 0, locals := 14 } : Room).cells ({ frames := 1, cells := 0, slots := 0, locals := 14 } : Room).slots
    have hv : r = (1 : Int32) := (hq hac2_7)
    obtain ⟨fs, hr, hrun, hended, hW, hsame⟩ := X0.leave (v := some (.int (1 : Int32))) (fun h => by rw [Bd.returns] at h; cases h)
    refine ⟨_, _, ?_, hrun, hended, _, _, rfl, ?_, ⟨_, rfl⟩, hW, hsame.mono (by decide) (by decide)⟩
    · exact retN X0 hx (t := .boolean) Bd.returns (by simp) (hb hby d3x11_6) hr
    · show Q3x11 Z a1 a2 b1 b2 g1 g2 GA r h0 n0 _ s₁.heap _
      rw [e0]
      exact ⟨(congrArg (fun z => some (Value.int z)) hv.symm), N0, rfl⟩
  · obtain ⟨T8, X8, e8, st8⟩ := instY X0 hx hZ hown (hw _ (List.mem_of_getElem? (i := 28) rfl)) e0 (Ins.self E_a2_4) (g := (mkF m 8 #[.val (.ref a1), .val (.ref a2), .unset] [(.ref a2)])) rfl rfl (hb hby d3x11_8)
    obtain ⟨T9, X9, e9, st9⟩ := castY X8 hx hZ hown (hw _ (List.mem_of_getElem? (i := 28) rfl)) e8 (Ins.self E_a2_4) (g := (mkF m 15 #[.val (.ref a1), .val (.ref a2), .unset] [(.ref a2)])) rfl rfl (hb hby d3x11_15)
    obtain ⟨T10, X10, e10, st10⟩ := getS2 X9 hx hZ hown (host := "") (Or.inl (hw _ (List.mem_of_getElem? (i := 30) rfl))) Via.refl e9 O2 (g := (mkF m 19 #[.val (.ref a1), .val (.ref a2), .val (.ref a2)] [])) rfl (hb hby d3x11_19)
    obtain ⟨T11, X11, e11, st11⟩ := getF X10 hx hZ hown (host := "") (Or.inl (hw _ (List.mem_of_getElem? (i := 31) rfl))) Via.refl e10 F_coder_a1_3 (g := (mkF m 26 #[.val (.ref a1), .val (.ref a2), .val (.ref a2)] [(.ref a1)])) rfl rfl (hb hby d3x11_26)
    obtain ⟨T12, X12, e12, st12⟩ := getF X11 hx hZ hown (host := "") (Or.inl (hw _ (List.mem_of_getElem? (i := 31) rfl))) Via.refl e11 F_coder_a2_6 (g := (mkF m 30 #[.val (.ref a1), .val (.ref a2), .val (.ref a2)] [(.ref a2), (.int (0 : Int32))])) rfl rfl (hb hby d3x11_30)
    obtain ⟨T13, X13, e13, st13⟩ := getF X12 hx hZ hown (host := "") (Or.inl (hw _ (List.mem_of_getElem? (i := 32) rfl))) Via.refl e12 F_value_a1_2 (g := (mkF m 37 #[.val (.ref a1), .val (.ref a2), .val (.ref a2)] [(.ref a1)])) rfl rfl (hb hby d3x11_37)
    obtain ⟨T14, X14, e14, st14⟩ := getF X13 hx hZ hown (host := "") (Or.inl (hw _ (List.mem_of_getElem? (i := 32) rfl))) Via.refl e13 F_value_a2_5 (g := (mkF m 41 #[.val (.ref a1), .val (.ref a2), .val (.ref a2)] [(.ref a2), (.ref b1)])) rfl rfl (hb hby d3x11_41)
    obtain ⟨_, _, ⟨T15, L15, k15, n15⟩, -, X15, ⟨Lc15, hQ15, l15, y15, z15⟩, st15⟩ := Jvm.LawKit.callS X14 hx (y := (⟨"java/lang/StringLatin1", "equals", "([B[B)Z"⟩ : MethodName)) hown (mvT hZ (hw _ (List.mem_of_getElem? (i := 33) rfl))) (mvT hZ (hw _ (List.mem_of_getElem? (i := 34) rfl))) (mvT hZ (hw _ (List.mem_of_getElem? (i := 35) rfl))) (mvT hZ (hw _ (List.mem_of_getElem? (i := 36) rfl))) (by decide) (backOf (W := 0) (rm4x11 l Z a0 hw [] b1 b2 g1 g2 h0 n0 Z0 V_b1 V_b2) hZ (hw _ (List.mem_of_getElem? (i := 36) rfl)) (hw _ (List.mem_of_getElem? (i := 35) rfl)) (by decide) (by decide)) (g := (mkF m 44 #[.val (.ref a1), .val (.ref a2), .val (.ref a2)] [(.ref b2), (.ref b1)])) rfl (by rw [hml]; rfl) (argsL := [(.ref b1), (.ref b2)]) (rest := []) (lenOf pd_3x11_0 rfl) rfl (by show 2 * 0 + _ ≤ _; exact Nat.le_of_eq rfl) (hb hby d3x11_44) (fun _ _ => ⟨rfl, e14, (by decide : 0 + 0 ≤ _), (by decide : 0 + 0 ≤ _)⟩)
    dsimp only [Pt.U, Pt.locs, Pt.cells, Pt.slots] at X15 l15 y15 z15 st15 hQ15
    subst l15 y15 z15
    obtain ⟨rfl, N15q, e15⟩ := hQ15
    have N15 := Fr.app N0 N15q
    refine own_pre (A := T15.setTop (mkF m 47 #[.val (.ref a1), .val (.ref a2), .val (.ref a2)] [(.int (own_l11 g1 g2))])) (fun tt kt => ?_) ?_
    · show Steps p.tables e below (s₁.setTop (mkF m 2 #[.val (.ref a1), .val (.ref a2), .unset] [(.ref a2), (.ref a1)])) _
      refine acmp X0 hx rfl (cd := .ne) (x := (.ref a1)) (y := (.ref a2)) rfl rfl (pc0 := 2) (pc' := 7) (same := false) rfl (hb hby d3x11_2) rfl (decide_eq_false (fun q => hac2_7 (Value.ref.inj q))) (by decide) (by decide) ?_
      refine XS.aloadN X0.here hx rfl (hb hby d3x11_7) rfl rfl ?_
      show Steps p.tables e below (s₁.setTop (mkF m 8 #[.val (.ref a1), .val (.ref a2), .unset] [(.ref a2)])) _
      refine st8 _ ?_
      show Steps p.tables e below (T8.setTop (mkF m 11 #[.val (.ref a1), .val (.ref a2), .unset] [(.int (1 : Int32))])) _
      refine XS.ifNo X8.here hx rfl (hb hby d3x11_11) rfl ((if0 _ _).trans (feq ((by decide) : ¬ ((1 : Int32) = (0 : Int32)))).1) ?_
      refine XS.aloadN X8.here hx rfl (hb hby d3x11_14) rfl rfl ?_
      show Steps p.tables e below (T8.setTop (mkF m 15 #[.val (.ref a1), .val (.ref a2), .unset] [(.ref a2)])) _
      refine st9 _ ?_
      show Steps p.tables e below (T9.setTop (mkF m 18 #[.val (.ref a1), .val (.ref a2), .unset] [(.ref a2)])) _
      refine XS.astoreN X9.here hx rfl (hb hby d3x11_18) rfl rfl (l' := #[.val (.ref a1), .val (.ref a2), .val (.ref a2)]) rfl ?_
      show Steps p.tables e below (T9.setTop (mkF m 19 #[.val (.ref a1), .val (.ref a2), .val (.ref a2)] [])) _
      refine st10 _ ?_
      show Steps p.tables e below (T10.setTop (mkF m 22 #[.val (.ref a1), .val (.ref a2), .val (.ref a2)] [(.int GA)])) _
      refine XS.ifNo X10.here hx rfl (hb hby d3x11_22) rfl ((if0 _ _).trans (feq (P5 : ¬ (GA = (0 : Int32)))).1) ?_
      refine XS.aloadN X10.here hx rfl (hb hby d3x11_25) rfl rfl ?_
      show Steps p.tables e below (T10.setTop (mkF m 26 #[.val (.ref a1), .val (.ref a2), .val (.ref a2)] [(.ref a1)])) _
      refine st11 _ ?_
      show Steps p.tables e below (T11.setTop (mkF m 29 #[.val (.ref a1), .val (.ref a2), .val (.ref a2)] [(.int (0 : Int32))])) _
      refine XS.aloadN X11.here hx rfl (hb hby d3x11_29) rfl rfl ?_
      show Steps p.tables e below (T11.setTop (mkF m 30 #[.val (.ref a1), .val (.ref a2), .val (.ref a2)] [(.ref a2), (.int (0 : Int32))])) _
      refine st12 _ ?_
      show Steps p.tables e below (T12.setTop (mkF m 33 #[.val (.ref a1), .val (.ref a2), .val (.ref a2)] [(.int (0 : Int32)), (.int (0 : Int32))])) _
      refine XS.icmpNo X12.here hx rfl (hb hby d3x11_33) rfl (teq ((by decide) : (0 : Int32) = (0 : Int32))).2 ?_
      refine XS.aloadN X12.here hx rfl (hb hby d3x11_36) rfl rfl ?_
      show Steps p.tables e below (T12.setTop (mkF m 37 #[.val (.ref a1), .val (.ref a2), .val (.ref a2)] [(.ref a1)])) _
      refine st13 _ ?_
      show Steps p.tables e below (T13.setTop (mkF m 40 #[.val (.ref a1), .val (.ref a2), .val (.ref a2)] [(.ref b1)])) _
      refine XS.aloadN X13.here hx rfl (hb hby d3x11_40) rfl rfl ?_
      show Steps p.tables e below (T13.setTop (mkF m 41 #[.val (.ref a1), .val (.ref a2), .val (.ref a2)] [(.ref a2), (.ref b1)])) _
      refine st14 _ ?_
      show Steps p.tables e below (T14.setTop (mkF m 44 #[.val (.ref a1), .val (.ref a2), .val (.ref a2)] [(.ref b2), (.ref b1)])) _
      refine st15 _ ?_
      exact kt
    show own_End p e below s (T15.setTop (mkF m 47 #[.val (.ref a1), .val (.ref a2), .val (.ref a2)] [(.int (own_l11 g1 g2))])) (Q3x11 Z a1 a2 b1 b2 g1 g2 GA r h0 n0) ({ frames := 1, cells := 0, slots := 0, locals := 14 } : Room).cells ({ frames := 1, cells := 0, slots := 0, locals := 14 } : Room).slots
    by_cases hc47_16 : (own_l11 g1 g2) = (0 : Int32)
    · refine own_pre (A := T15.setTop (mkF m 55 #[.val (.ref a1), .val (.ref a2), .val (.ref a2)] [(.int (0 : Int32))])) (fun tt kt => ?_) ?_
      · show Steps p.tables e below (T15.setTop (mkF m 47 #[.val (.ref a1), .val (.ref a2), .val (.ref a2)] [(.int (own_l11 g1 g2))])) _
        refine XS.ifYes X15.here hx rfl (pc0 := 47) (pc' := 54) rfl (hb hby d3x11_47) rfl ((if0 _ _).trans (teq hc47_16).1) (by decide) (by decide) ?_
        refine XS.iconst X15.here hx rfl (hb hby d3x11_54) ?_
        exact kt
      show own_End p e below s (T15.setTop (mkF m 55 #[.val (.ref a1), .val (.ref a2), .val (.ref a2)] [(.int (0 : Int32))])) (Q3x11 Z a1 a2 b1 b2 g1 g2 GA r h0 n0) ({ frames := 1, cells := 0, slots := 0, locals := 14 } : Room).cells ({ frames := 1, cells := 0, slots := 0, locals := 14 } : Room).slots
      have hv : r = (0 : Int32) := (hr.symm.trans hc47_16)
      obtain ⟨fs, hr, hrun, hended, hW, hsame⟩ := X15.leave (v := some (.int (0 : Int32))) (fun h => by rw [Bd.returns] at h; cases h)
      refine ⟨_, _, ?_, hrun, hended, _, _, rfl, ?_, ⟨_, rfl⟩, hW, hsame.mono (by decide) (by decide)⟩
      · exact retN X15 hx (t := .boolean) Bd.returns (by simp) (hb hby d3x11_55) hr
      · show Q3x11 Z a1 a2 b1 b2 g1 g2 GA r h0 n0 _ T15.heap _
        rw [e15]
        exact ⟨(congrArg (fun z => some (Value.int z)) hv.symm), N15, rfl⟩
    · refine own_pre (A := T15.setTop (mkF m 55 #[.val (.ref a1), .val (.ref a2), .val (.ref a2)] [(.int (1 : Int32))])) (fun tt kt => ?_) ?_
      · show Steps p.tables e below (T15.setTop (mkF m 47 #[.val (.ref a1), .val (.ref a2), .val (.ref a2)] [(.int (own_l11 g1 g2))])) _
        refine XS.ifNo X15.here hx rfl (hb hby d3x11_47) rfl ((if0 _ _).trans (feq hc47_16).1) ?_
        refine XS.iconst X15.here hx rfl (hb hby d3x11_50) ?_
        refine XS.goto X15.here hx rfl (pc0 := 51) (pc' := 55) rfl (hb hby d3x11_51) (by decide) (by decide) ?_
        exact kt
      show own_End p e below s (T15.setTop (mkF m 55 #[.val (.ref a1), .val (.ref a2), .val (.ref a2)] [(.int (1 : Int32))])) (Q3x11 Z a1 a2 b1 b2 g1 g2 GA r h0 n0) ({ frames := 1, cells := 0, slots := 0, locals := 14 } : Room).cells ({ frames := 1, cells := 0, slots := 0, locals := 14 } : Room).slots
      have hv : r = (1 : Int32) := (h01.resolve_left (fun q => hc47_16 (hr.trans q)))
      obtain ⟨fs, hr, hrun, hended, hW, hsame⟩ := X15.leave (v := some (.int (1 : Int32))) (fun h => by rw [Bd.returns] at h; cases h)
      refine ⟨_, _, ?_, hrun, hended, _, _, rfl, ?_, ⟨_, rfl⟩, hW, hsame.mono (by decide) (by decide)⟩
      · exact retN X15 hx (t := .boolean) Bd.returns (by simp) (hb hby d3x11_55) hr
      · show Q3x11 Z a1 a2 b1 b2 g1 g2 GA r h0 n0 _ T15.heap _
        rw [e15]
        exact ⟨(congrArg (fun z => some (Value.int z)) hv.symm), N15, rfl⟩
theorem d3x12_0 : decode jdk_42_method_66_code 0 = .ok (.aload_n 0, 1) := by decide +kernel
theorem d3x12_1 : decode jdk_42_method_66_code 1 = .ok (.aload_n 1, 1) := by decide +kernel
theorem d3x12_2 : decode jdk_42_method_66_code 2 = .ok (.if_acmp .ne 5, 3) := by decide +kernel
theorem d3x12_5 : decode jdk_42_method_66_code 5 = .ok (.iconst 1, 1) := by decide +kernel
theorem d3x12_6 : decode jdk_42_method_66_code 6 = .ok (.ireturn, 1) := by decide +kernel
theorem d3x12_7 : decode jdk_42_method_66_code 7 = .ok (.aload_n 1, 1) := by decide +kernel
theorem d3x12_8 : decode jdk_42_method_66_code 8 = .ok (.instanceof 10, 3) := by decide +kernel
theorem d3x12_11 : decode jdk_42_method_66_code 11 = .ok (.ifCond .eq 43, 3) := by decide +kernel
theorem d3x12_14 : decode jdk_42_method_66_code 14 = .ok (.aload_n 1, 1) := by decide +kernel
theorem d3x12_15 : decode jdk_42_method_66_code 15 = .ok (.checkcast 10, 3) := by decide +kernel
theorem d3x12_18 : decode jdk_42_method_66_code 18 = .ok (.astore_n 2, 1) := by decide +kernel
theorem d3x12_19 : decode jdk_42_method_66_code 19 = .ok (.getstatic 38, 3) := by decide +kernel
theorem d3x12_22 : decode jdk_42_method_66_code 22 = .ok (.ifCond .eq 14, 3) := by decide +kernel
theorem d3x12_25 : decode jdk_42_method_66_code 25 = .ok (.aload_n 0, 1) := by decide +kernel
theorem d3x12_26 : decode jdk_42_method_66_code 26 = .ok (.getfield 15, 3) := by decide +kernel
theorem d3x12_29 : decode jdk_42_method_66_code 29 = .ok (.aload_n 2, 1) := by decide +kernel
theorem d3x12_30 : decode jdk_42_method_66_code 30 = .ok (.getfield 15, 3) := by decide +kernel
theorem d3x12_33 : decode jdk_42_method_66_code 33 = .ok (.if_icmp .ne 21, 3) := by decide +kernel
theorem d3x12_36 : decode jdk_42_method_66_code 36 = .ok (.aload_n 0, 1) := by decide +kernel
theorem d3x12_37 : decode jdk_42_method_66_code 37 = .ok (.getfield 9, 3) := by decide +kernel
theorem d3x12_40 : decode jdk_42_method_66_code 40 = .ok (.aload_n 2, 1) := by decide +kernel
theorem d3x12_41 : decode jdk_42_method_66_code 41 = .ok (.getfield 9, 3) := by decide +kernel
theorem d3x12_44 : decode jdk_42_method_66_code 44 = .ok (.invokestatic 541, 3) := by decide +kernel
theorem d3x12_47 : decode jdk_42_method_66_code 47 = .ok (.ifCond .eq 7, 3) := by decide +kernel
theorem d3x12_50 : decode jdk_42_method_66_code 50 = .ok (.iconst 1, 1) := by decide +kernel
theorem d3x12_51 : decode jdk_42_method_66_code 51 = .ok (.goto 4, 3) := by decide +kernel
theorem d3x12_54 : decode jdk_42_method_66_code 54 = .ok (.iconst 0, 1) := by decide +kernel
theorem d3x12_55 : decode jdk_42_method_66_code 55 = .ok (.ireturn, 1) := by decide +kernel
theorem pn_3x12 : plainName "java/lang/String" = true := by first | (simp [plainName, overriddenIn]; done) | decide +kernel
theorem pd_3x12_0 : parseMethodDescriptor "([B[B)Z" = some ⟨[(.array .byte), (.array .byte)], some .boolean⟩ := by decide +kernel
theorem ef_3x12 (m : MethodId) (x0 : Addr) (x1 : Addr) : entryFrame m #[(.ref x0), (.ref x1)] 3 = mkF m 0 #[.val (.ref x0), .val (.ref x1), .unset] [] := by first | (simp [entryFrame, mkF, argsToLocals, Value.category]; done) | rfl
def Q3x12 (Z : State) (a1 : Addr) (a2 : Addr) (b1 : Addr) (b2 : Addr) (g1 : Nat → Int32) (g2 : Nat → Int32) (GA : Int32) (r : Int32) (h0 : Heap) (n0 : Nat) (v : Option Value) (h : Heap) (L : List Loc) : Prop := v = some (.int r) ∧ Fr n0 L ∧ h = h0
set_option maxRecDepth 65536 in
set_option maxHeartbeats 40000000 in
theorem rm3x12 (l : Launch) (Z : State) (a0 : Array Value) (hw : ∀ d ∈ tables_1, d.before a0 Z = true) (ws : List Jvm.Cond) (a1 : Addr) (a2 : Addr) (b1 : Addr) (b2 : Addr) (g1 : Nat → Int32) (g2 : Nat → Int32) (GA : Int32) (r : Int32) (h0 : Heap) (n0 : Nat) (Z0 : n0 ≤ h0.size) (O_a1 : own_Str Z h0 a1 b1 (0 : Int32)) (O_a2 : own_Str Z h0 a2 b2 (0 : Int32)) (V_b1 : own_Arr Z h0 b1 .byte (1 : Int32) (fun i => Value.int (g1 i))) (V_b2 : own_Arr Z h0 b2 .byte (2 : Int32) (fun i => Value.int (g2 i))) (O2 : Sta Z h0 "java/lang/String" "COMPACT_STRINGS" "Z" (.int GA)) (P5 : ¬ (GA = (0 : Int32))) (hr : own_l12 g1 g2 = r) (hq : a1 = a2 → r = (1 : Int32)) (h01 : r = (0 : Int32) ∨ r = (1 : Int32)) :
    MetFree l (⟨"java/lang/String", "equals", "(Ljava/lang/Object;)Z"⟩ : MethodName) (head1 (Jvm.Cond.code (⟨"java/lang/String", "equals", "(Ljava/lang/Object;)Z"⟩ : MethodName) jdk_42_method_66_code 3 (some .boolean) :: ws) ({ frames := 1, cells := 0, slots := 0, locals := 14 } : Room)) (fun a U => a = #[(.ref a1), (.ref a2)] ∧ Z.Warmed39 U.vm ∧ U.heap = h0) (fun _ _ _ _ _ => True) (fun _ U o U' => ∃ v L, o = .returned v ∧ Q3x12 Z a1 a2 b1 b2 g1 g2 GA r h0 n0 v U'.heap L ∧ FrameEnd U o U' L ({ frames := 1, cells := 0, slots := 0, locals := 14 } : Room).cells ({ frames := 1, cells := 0, slots := 0, locals := 14 } : Room).slots) := by
  refine MetFree.of_bodySF (plainFor_of_name pn_3x12) hisR ?_
  intro p e s m args below meth c s₁ Bd hml0 hP hK
  obtain ⟨rfl, hZ, hh⟩ := hP
  have hx := Bd.exec
  have hby := Bd.bytes
  have hml : c.maxLocals = 3 := hml0
  have hown : s.vm.findClass "java/lang/String" = some m.cls := findClass_of_methodNamed Bd.named
  have hnm := (name_of_methodNamed Bd.named Bd.method).1
  have X0 : Stand p l e ({ frames := 1, cells := 0, slots := 0, locals := 14 } : Room) s m #[(.ref a1), (.ref a2)] below meth c s₁ [] 0 0 := Stand.of_body Bd
  have e0 : s₁.heap = h0 := by rw [← hh, Bd.state]; rfl
  have N0 := Fr.nil n0
  show own_End p e below s (s₁.setTop (entryFrame m #[(.ref a1), (.ref a2)] 3)) (Q3x12 Z a1 a2 b1 b2 g1 g2 GA r h0 n0) ({ frames := 1, cells := 0, slots := 0, locals := 14 } : Room).cells ({ frames := 1, cells := 0, slots := 0, locals := 14 } : Room).slots
  obtain ⟨E_a1_1, F_value_a1_2, F_coder_a1_3⟩ := O_a1
  obtain ⟨E_a2_4, F_value_a2_5, F_coder_a2_6⟩ := O_a2
  refine own_pre (A := s₁.setTop (mkF m 0 #[.val (.ref a1), .val (.ref a2), .unset] [])) (fun tt kt => castTop (ef_3x12 m a1 a2) kt) ?_
  show own_End p e below s (s₁.setTop (mkF m 0 #[.val (.ref a1), .val (.ref a2), .unset] [])) (Q3x12 Z a1 a2 b1 b2 g1 g2 GA r h0 n0) ({ frames := 1, cells := 0, slots := 0, locals := 14 } : Room).cells ({ frames := 1, cells := 0, slots := 0, locals := 14 } : Room).slots
  refine own_pre (A := s₁.setTop (mkF m 2 #[.val (.ref a1), .val (.ref a2), .unset] [(.ref a2), (.ref a1)])) (fun tt kt => ?_) ?_
  · show Steps p.tables e below (s₁.setTop (mkF m 0 #[.val (.ref a1), .val (.ref a2), .unset] [])) _
    refine XS.aloadN X0.here hx rfl (hb hby d3x12_0) rfl rfl ?_
    refine XS.aloadN X0.here hx rfl (hb hby d3x12_1) rfl rfl ?_
    exact kt
  show own_End p e below s (s₁.setTop (mkF m 2 #[.val (.ref a1), .val (.ref a2), .unset] [(.ref a2), (.ref a1)])) (Q3x12 Z a1 a2 b1 b2 g1 g2 GA r h0 n0) ({ frames := 1, cells := 0, slots := 0, locals := 14 } : Room).cells ({ frames := 1, cells := 0, slots := 0, locals := 14 } : Room).slots
  by_cases hac2_7 : a1 = a2
  · refine own_pre (A := s₁.setTop (mkF m 6 #[.val (.ref a1), .val (.ref a2), .unset] [(.int (1 : Int32))])) (fun tt kt => ?_) ?_
    · show Steps p.tables e below (s₁.setTop (mkF m 2 #[.val (.ref a1), .val (.ref a2), .unset] [(.ref a2), (.ref a1)])) _
      refine acmp X0 hx rfl (cd := .ne) (x := (.ref a1)) (y := (.ref a2)) rfl rfl (pc0 := 2) (pc' := 5) (same := true) rfl (hb hby d3x12_2) rfl (decide_eq_true (congrArg Value.ref hac2_7)) (by decide) (by decide) ?_
      refine XS.iconst X0.here hx rfl (hb hby d3x12_5) ?_
      exact kt
    show own_End p e below s (s₁.setTop (mkF m 6 #[.val (.ref a1), .val (.ref a2), .unset] [(.int (1 : Int32))])) (Q3x12 Z a1 a2 b1 b2 g1 g2 GA r h0 n0) ({ frames := 1, cells := 0, slots := 0, locals := 14 } : Room).cells ({ frames := 1, cells := 0, slots := 0, locals := 14 } : Room).slots
    have hv : r = (1 : Int32) := (hq hac2_7)
    obtain ⟨fs, hr, hrun, hended, hW, hsame⟩ := X0.leave (v := some (.int (1 : Int32))) (fun h => by rw [Bd.returns] at h; cases h)
    refine ⟨_, _, ?_, hrun, hended, _, _, rfl, ?_, ⟨_, rfl⟩, hW, hsame.mono (by decide) (by decide)⟩
    · exact retN X0 hx (t := .boolean) Bd.returns (by simp) (hb hby d3x12_6) hr
    · show Q3x12 Z a1 a2 b1 b2 g1 g2 GA r h0 n0 _ s₁.heap _
      rw [e0]
      exact ⟨(congrArg (fun z => some (Value.int z)) hv.symm), N0, rfl⟩
  · obtain ⟨T8, X8, e8, st8⟩ := instY X0 hx hZ hown (hw _ (List.mem_of_getElem? (i := 28) rfl)) e0 (Ins.self E_a2_4) (g := (mkF m 8 #[.val (.ref a1), .val (.ref a2), .unset] [(.ref a2)])) rfl rfl (hb hby d3x12_8)
    obtain ⟨T9, X9, e9, st9⟩ := castY X8 hx hZ hown (hw _ (List.mem_of_getElem? (i := 28) rfl)) e8 (Ins.self E_a2_4) (g := (mkF m 15 #[.val (.ref a1), .val (.ref a2), .unset] [(.ref a2)])) rfl rfl (hb hby d3x12_15)
    obtain ⟨T10, X10, e10, st10⟩ := getS2 X9 hx hZ hown (host := "") (Or.inl (hw _ (List.mem_of_getElem? (i := 30) rfl))) Via.refl e9 O2 (g := (mkF m 19 #[.val (.ref a1), .val (.ref a2), .val (.ref a2)] [])) rfl (hb hby d3x12_19)
    obtain ⟨T11, X11, e11, st11⟩ := getF X10 hx hZ hown (host := "") (Or.inl (hw _ (List.mem_of_getElem? (i := 31) rfl))) Via.refl e10 F_coder_a1_3 (g := (mkF m 26 #[.val (.ref a1), .val (.ref a2), .val (.ref a2)] [(.ref a1)])) rfl rfl (hb hby d3x12_26)
    obtain ⟨T12, X12, e12, st12⟩ := getF X11 hx hZ hown (host := "") (Or.inl (hw _ (List.mem_of_getElem? (i := 31) rfl))) Via.refl e11 F_coder_a2_6 (g := (mkF m 30 #[.val (.ref a1), .val (.ref a2), .val (.ref a2)] [(.ref a2), (.int (0 : Int32))])) rfl rfl (hb hby d3x12_30)
    obtain ⟨T13, X13, e13, st13⟩ := getF X12 hx hZ hown (host := "") (Or.inl (hw _ (List.mem_of_getElem? (i := 32) rfl))) Via.refl e12 F_value_a1_2 (g := (mkF m 37 #[.val (.ref a1), .val (.ref a2), .val (.ref a2)] [(.ref a1)])) rfl rfl (hb hby d3x12_37)
    obtain ⟨T14, X14, e14, st14⟩ := getF X13 hx hZ hown (host := "") (Or.inl (hw _ (List.mem_of_getElem? (i := 32) rfl))) Via.refl e13 F_value_a2_5 (g := (mkF m 41 #[.val (.ref a1), .val (.ref a2), .val (.ref a2)] [(.ref a2), (.ref b1)])) rfl rfl (hb hby d3x12_41)
    obtain ⟨_, _, ⟨T15, L15, k15, n15⟩, -, X15, ⟨Lc15, hQ15, l15, y15, z15⟩, st15⟩ := Jvm.LawKit.callS X14 hx (y := (⟨"java/lang/StringLatin1", "equals", "([B[B)Z"⟩ : MethodName)) hown (mvT hZ (hw _ (List.mem_of_getElem? (i := 33) rfl))) (mvT hZ (hw _ (List.mem_of_getElem? (i := 34) rfl))) (mvT hZ (hw _ (List.mem_of_getElem? (i := 35) rfl))) (mvT hZ (hw _ (List.mem_of_getElem? (i := 36) rfl))) (by decide) (backOf (W := 0) (rm4x12 l Z a0 hw [] b1 b2 g1 g2 h0 n0 Z0 V_b1 V_b2) hZ (hw _ (List.mem_of_getElem? (i := 36) rfl)) (hw _ (List.mem_of_getElem? (i := 35) rfl)) (by decide) (by decide)) (g := (mkF m 44 #[.val (.ref a1), .val (.ref a2), .val (.ref a2)] [(.ref b2), (.ref b1)])) rfl (by rw [hml]; rfl) (argsL := [(.ref b1), (.ref b2)]) (rest := []) (lenOf pd_3x12_0 rfl) rfl (by show 2 * 0 + _ ≤ _; exact Nat.le_of_eq rfl) (hb hby d3x12_44) (fun _ _ => ⟨rfl, e14, (by decide : 0 + 0 ≤ _), (by decide : 0 + 0 ≤ _)⟩)
    dsimp only [Pt.U, Pt.locs, Pt.cells, Pt.slots] at X15 l15 y15 z15 st15 hQ15
    subst l15 y15 z15
    obtain ⟨rfl, N15q, e15⟩ := hQ15
    have N15 := Fr.app N0 N15q
    refine own_pre (A := T15.setTop (mkF m 47 #[.val (.ref a1), .val (.ref a2), .val (.ref a2)] [(.int (own_l12 g1 g2))])) (fun tt kt => ?_) ?_
    · show Steps p.tables e below (s₁.setTop (mkF m 2 #[.val (.ref a1), .val (.ref a2), .unset] [(.ref a2), (.ref a1)])) _
      refine acmp X0 hx rfl (cd := .ne) (x := (.ref a1)) (y := (.ref a2)) rfl rfl (pc0 := 2) (pc' := 7) (same := false) rfl (hb hby d3x12_2) rfl (decide_eq_false (fun q => hac2_7 (Value.ref.inj q))) (by decide) (by decide) ?_
      refine XS.aloadN X0.here hx rfl (hb hby d3x12_7) rfl rfl ?_
      show Steps p.tables e below (s₁.setTop (mkF m 8 #[.val (.ref a1), .val (.ref a2), .unset] [(.ref a2)])) _
      refine st8 _ ?_
      show Steps p.tables e below (T8.setTop (mkF m 11 #[.val (.ref a1), .val (.ref a2), .unset] [(.int (1 : Int32))])) _
      refine XS.ifNo X8.here hx rfl (hb hby d3x12_11) rfl ((if0 _ _).trans (feq ((by decide) : ¬ ((1 : Int32) = (0 : Int32)))).1) ?_
      refine XS.aloadN X8.here hx rfl (hb hby d3x12_14) rfl rfl ?_
      show Steps p.tables e below (T8.setTop (mkF m 15 #[.val (.ref a1), .val (.ref a2), .unset] [(.ref a2)])) _
      refine st9 _ ?_
      show Steps p.tables e below (T9.setTop (mkF m 18 #[.val (.ref a1), .val (.ref a2), .unset] [(.ref a2)])) _
      refine XS.astoreN X9.here hx rfl (hb hby d3x12_18) rfl rfl (l' := #[.val (.ref a1), .val (.ref a2), .val (.ref a2)]) rfl ?_
      show Steps p.tables e below (T9.setTop (mkF m 19 #[.val (.ref a1), .val (.ref a2), .val (.ref a2)] [])) _
      refine st10 _ ?_
      show Steps p.tables e below (T10.setTop (mkF m 22 #[.val (.ref a1), .val (.ref a2), .val (.ref a2)] [(.int GA)])) _
      refine XS.ifNo X10.here hx rfl (hb hby d3x12_22) rfl ((if0 _ _).trans (feq (P5 : ¬ (GA = (0 : Int32)))).1) ?_
      refine XS.aloadN X10.here hx rfl (hb hby d3x12_25) rfl rfl ?_
      show Steps p.tables e below (T10.setTop (mkF m 26 #[.val (.ref a1), .val (.ref a2), .val (.ref a2)] [(.ref a1)])) _
      refine st11 _ ?_
      show Steps p.tables e below (T11.setTop (mkF m 29 #[.val (.ref a1), .val (.ref a2), .val (.ref a2)] [(.int (0 : Int32))])) _
      refine XS.aloadN X11.here hx rfl (hb hby d3x12_29) rfl rfl ?_
      show Steps p.tables e below (T11.setTop (mkF m 30 #[.val (.ref a1), .val (.ref a2), .val (.ref a2)] [(.ref a2), (.int (0 : Int32))])) _
      refine st12 _ ?_
      show Steps p.tables e below (T12.setTop (mkF m 33 #[.val (.ref a1), .val (.ref a2), .val (.ref a2)] [(.int (0 : Int32)), (.int (0 : Int32))])) _
      refine XS.icmpNo X12.here hx rfl (hb hby d3x12_33) rfl (teq ((by decide) : (0 : Int32) = (0 : Int32))).2 ?_
      refine XS.aloadN X12.here hx rfl (hb hby d3x12_36) rfl rfl ?_
      show Steps p.tables e below (T12.setTop (mkF m 37 #[.val (.ref a1), .val (.ref a2), .val (.ref a2)] [(.ref a1)])) _
      refine st13 _ ?_
      show Steps p.tables e below (T13.setTop (mkF m 40 #[.val (.ref a1), .val (.ref a2), .val (.ref a2)] [(.ref b1)])) _
      refine XS.aloadN X13.here hx rfl (hb hby d3x12_40) rfl rfl ?_
      show Steps p.tables e below (T13.setTop (mkF m 41 #[.val (.ref a1), .val (.ref a2), .val (.ref a2)] [(.ref a2), (.ref b1)])) _
      refine st14 _ ?_
      show Steps p.tables e below (T14.setTop (mkF m 44 #[.val (.ref a1), .val (.ref a2), .val (.ref a2)] [(.ref b2), (.ref b1)])) _
      refine st15 _ ?_
      exact kt
    show own_End p e below s (T15.setTop (mkF m 47 #[.val (.ref a1), .val (.ref a2), .val (.ref a2)] [(.int (own_l12 g1 g2))])) (Q3x12 Z a1 a2 b1 b2 g1 g2 GA r h0 n0) ({ frames := 1, cells := 0, slots := 0, locals := 14 } : Room).cells ({ frames := 1, cells := 0, slots := 0, locals := 14 } : Room).slots
    by_cases hc47_16 : (own_l12 g1 g2) = (0 : Int32)
    · refine own_pre (A := T15.setTop (mkF m 55 #[.val (.ref a1), .val (.ref a2), .val (.ref a2)] [(.int (0 : Int32))])) (fun tt kt => ?_) ?_
      · show Steps p.tables e below (T15.setTop (mkF m 47 #[.val (.ref a1), .val (.ref a2), .val (.ref a2)] [(.int (own_l12 g1 g2))])) _
        refine XS.ifYes X15.here hx rfl (pc0 := 47) (pc' := 54) rfl (hb hby d3x12_47) rfl ((if0 _ _).trans (teq hc47_16).1) (by decide) (by decide) ?_
        refine XS.iconst X15.here hx rfl (hb hby d3x12_54) ?_
        exact kt
      show own_End p e below s (T15.setTop (mkF m 55 #[.val (.ref a1), .val (.ref a2), .val (.ref a2)] [(.int (0 : Int32))])) (Q3x12 Z a1 a2 b1 b2 g1 g2 GA r h0 n0) ({ frames := 1, cells := 0, slots := 0, locals := 14 } : Room).cells ({ frames := 1, cells := 0, slots := 0, locals := 14 } : Room).slots
      have hv : r = (0 : Int32) := (hr.symm.trans hc47_16)
      obtain ⟨fs, hr, hrun, hended, hW, hsame⟩ := X15.leave (v := some (.int (0 : Int32))) (fun h => by rw [Bd.returns] at h; cases h)
      refine ⟨_, _, ?_, hrun, hended, _, _, rfl, ?_, ⟨_, rfl⟩, hW, hsame.mono (by decide) (by decide)⟩
      · exact retN X15 hx (t := .boolean) Bd.returns (by simp) (hb hby d3x12_55) hr
      · show Q3x12 Z a1 a2 b1 b2 g1 g2 GA r h0 n0 _ T15.heap _
        rw [e15]
        exact ⟨(congrArg (fun z => some (Value.int z)) hv.symm), N15, rfl⟩
    · refine own_pre (A := T15.setTop (mkF m 55 #[.val (.ref a1), .val (.ref a2), .val (.ref a2)] [(.int (1 : Int32))])) (fun tt kt => ?_) ?_
      · show Steps p.tables e below (T15.setTop (mkF m 47 #[.val (.ref a1), .val (.ref a2), .val (.ref a2)] [(.int (own_l12 g1 g2))])) _
        refine XS.ifNo X15.here hx rfl (hb hby d3x12_47) rfl ((if0 _ _).trans (feq hc47_16).1) ?_
        refine XS.iconst X15.here hx rfl (hb hby d3x12_50) ?_
        refine XS.goto X15.here hx rfl (pc0 := 51) (pc' := 55) rfl (hb hby d3x12_51) (by decide) (by decide) ?_
        exact kt
      show own_End p e below s (T15.setTop (mkF m 55 #[.val (.ref a1), .val (.ref a2), .val (.ref a2)] [(.int (1 : Int32))])) (Q3x12 Z a1 a2 b1 b2 g1 g2 GA r h0 n0) ({ frames := 1, cells := 0, slots := 0, locals := 14 } : Room).cells ({ frames := 1, cells := 0, slots := 0, locals := 14 } : Room).slots
      have hv : r = (1 : Int32) := (h01.resolve_left (fun q => hc47_16 (hr.trans q)))
      obtain ⟨fs, hr, hrun, hended, hW, hsame⟩ := X15.leave (v := some (.int (1 : Int32))) (fun h => by rw [Bd.returns] at h; cases h)
      refine ⟨_, _, ?_, hrun, hended, _, _, rfl, ?_, ⟨_, rfl⟩, hW, hsame.mono (by decide) (by decide)⟩
      · exact retN X15 hx (t := .boolean) Bd.returns (by simp) (hb hby d3x12_55) hr
      · show Q3x12 Z a1 a2 b1 b2 g1 g2 GA r h0 n0 _ T15.heap _
        rw [e15]
        exact ⟨(congrArg (fun z => some (Value.int z)) hv.symm), N15, rfl⟩
theorem d3x21_0 : decode jdk_42_method_66_code 0 = .ok (.aload_n 0, 1) := by decide +kernel
theorem d3x21_1 : decode jdk_42_method_66_code 1 = .ok (.aload_n 1, 1) := by decide +kernel
theorem d3x21_2 : decode jdk_42_method_66_code 2 = .ok (.if_acmp .ne 5, 3) := by decide +kernel
theorem d3x21_5 : decode jdk_42_method_66_code 5 = .ok (.iconst 1, 1) := by decide +kernel
theorem d3x21_6 : decode jdk_42_method_66_code 6 = .ok (.ireturn, 1) := by decide +kernel
theorem d3x21_7 : decode jdk_42_method_66_code 7 = .ok (.aload_n 1, 1) := by decide +kernel
theorem d3x21_8 : decode jdk_42_method_66_code 8 = .ok (.instanceof 10, 3) := by decide +kernel
theorem d3x21_11 : decode jdk_42_method_66_code 11 = .ok (.ifCond .eq 43, 3) := by decide +kernel
theorem d3x21_14 : decode jdk_42_method_66_code 14 = .ok (.aload_n 1, 1) := by decide +kernel
theorem d3x21_15 : decode jdk_42_method_66_code 15 = .ok (.checkcast 10, 3) := by decide +kernel
theorem d3x21_18 : decode jdk_42_method_66_code 18 = .ok (.astore_n 2, 1) := by decide +kernel
theorem d3x21_19 : decode jdk_42_method_66_code 19 = .ok (.getstatic 38, 3) := by decide +kernel
theorem d3x21_22 : decode jdk_42_method_66_code 22 = .ok (.ifCond .eq 14, 3) := by decide +kernel
theorem d3x21_25 : decode jdk_42_method_66_code 25 = .ok (.aload_n 0, 1) := by decide +kernel
theorem d3x21_26 : decode jdk_42_method_66_code 26 = .ok (.getfield 15, 3) := by decide +kernel
theorem d3x21_29 : decode jdk_42_method_66_code 29 = .ok (.aload_n 2, 1) := by decide +kernel
theorem d3x21_30 : decode jdk_42_method_66_code 30 = .ok (.getfield 15, 3) := by decide +kernel
theorem d3x21_33 : decode jdk_42_method_66_code 33 = .ok (.if_icmp .ne 21, 3) := by decide +kernel
theorem d3x21_36 : decode jdk_42_method_66_code 36 = .ok (.aload_n 0, 1) := by decide +kernel
theorem d3x21_37 : decode jdk_42_method_66_code 37 = .ok (.getfield 9, 3) := by decide +kernel
theorem d3x21_40 : decode jdk_42_method_66_code 40 = .ok (.aload_n 2, 1) := by decide +kernel
theorem d3x21_41 : decode jdk_42_method_66_code 41 = .ok (.getfield 9, 3) := by decide +kernel
theorem d3x21_44 : decode jdk_42_method_66_code 44 = .ok (.invokestatic 541, 3) := by decide +kernel
theorem d3x21_47 : decode jdk_42_method_66_code 47 = .ok (.ifCond .eq 7, 3) := by decide +kernel
theorem d3x21_50 : decode jdk_42_method_66_code 50 = .ok (.iconst 1, 1) := by decide +kernel
theorem d3x21_51 : decode jdk_42_method_66_code 51 = .ok (.goto 4, 3) := by decide +kernel
theorem d3x21_54 : decode jdk_42_method_66_code 54 = .ok (.iconst 0, 1) := by decide +kernel
theorem d3x21_55 : decode jdk_42_method_66_code 55 = .ok (.ireturn, 1) := by decide +kernel
theorem pn_3x21 : plainName "java/lang/String" = true := by first | (simp [plainName, overriddenIn]; done) | decide +kernel
theorem pd_3x21_0 : parseMethodDescriptor "([B[B)Z" = some ⟨[(.array .byte), (.array .byte)], some .boolean⟩ := by decide +kernel
theorem ef_3x21 (m : MethodId) (x0 : Addr) (x1 : Addr) : entryFrame m #[(.ref x0), (.ref x1)] 3 = mkF m 0 #[.val (.ref x0), .val (.ref x1), .unset] [] := by first | (simp [entryFrame, mkF, argsToLocals, Value.category]; done) | rfl
def Q3x21 (Z : State) (a1 : Addr) (a2 : Addr) (b1 : Addr) (b2 : Addr) (g1 : Nat → Int32) (g2 : Nat → Int32) (GA : Int32) (r : Int32) (h0 : Heap) (n0 : Nat) (v : Option Value) (h : Heap) (L : List Loc) : Prop := v = some (.int r) ∧ Fr n0 L ∧ h = h0
set_option maxRecDepth 65536 in
set_option maxHeartbeats 40000000 in
theorem rm3x21 (l : Launch) (Z : State) (a0 : Array Value) (hw : ∀ d ∈ tables_1, d.before a0 Z = true) (ws : List Jvm.Cond) (a1 : Addr) (a2 : Addr) (b1 : Addr) (b2 : Addr) (g1 : Nat → Int32) (g2 : Nat → Int32) (GA : Int32) (r : Int32) (h0 : Heap) (n0 : Nat) (Z0 : n0 ≤ h0.size) (O_a1 : own_Str Z h0 a1 b1 (0 : Int32)) (O_a2 : own_Str Z h0 a2 b2 (0 : Int32)) (V_b1 : own_Arr Z h0 b1 .byte (2 : Int32) (fun i => Value.int (g1 i))) (V_b2 : own_Arr Z h0 b2 .byte (1 : Int32) (fun i => Value.int (g2 i))) (O2 : Sta Z h0 "java/lang/String" "COMPACT_STRINGS" "Z" (.int GA)) (P5 : ¬ (GA = (0 : Int32))) (hr : own_l21 g1 g2 = r) (hq : a1 = a2 → r = (1 : Int32)) (h01 : r = (0 : Int32) ∨ r = (1 : Int32)) :
    MetFree l (⟨"java/lang/String", "equals", "(Ljava/lang/Object;)Z"⟩ : MethodName) (head1 (Jvm.Cond.code (⟨"java/lang/String", "equals", "(Ljava/lang/Object;)Z"⟩ : MethodName) jdk_42_method_66_code 3 (some .boolean) :: ws) ({ frames := 1, cells := 0, slots := 0, locals := 14 } : Room)) (fun a U => a = #[(.ref a1), (.ref a2)] ∧ Z.Warmed39 U.vm ∧ U.heap = h0) (fun _ _ _ _ _ => True) (fun _ U o U' => ∃ v L, o = .returned v ∧ Q3x21 Z a1 a2 b1 b2 g1 g2 GA r h0 n0 v U'.heap L ∧ FrameEnd U o U' L ({ frames := 1, cells := 0, slots := 0, locals := 14 } : Room).cells ({ frames := 1, cells := 0, slots := 0, locals := 14 } : Room).slots) := by
  refine MetFree.of_bodySF (plainFor_of_name pn_3x21) hisR ?_
  intro p e s m args below meth c s₁ Bd hml0 hP hK
  obtain ⟨rfl, hZ, hh⟩ := hP
  have hx := Bd.exec
  have hby := Bd.bytes
  have hml : c.maxLocals = 3 := hml0
  have hown : s.vm.findClass "java/lang/String" = some m.cls := findClass_of_methodNamed Bd.named
  have hnm := (name_of_methodNamed Bd.named Bd.method).1
  have X0 : Stand p l e ({ frames := 1, cells := 0, slots := 0, locals := 14 } : Room) s m #[(.ref a1), (.ref a2)] below meth c s₁ [] 0 0 := Stand.of_body Bd
  have e0 : s₁.heap = h0 := by rw [← hh, Bd.state]; rfl
  have N0 := Fr.nil n0
  show own_End p e below s (s₁.setTop (entryFrame m #[(.ref a1), (.ref a2)] 3)) (Q3x21 Z a1 a2 b1 b2 g1 g2 GA r h0 n0) ({ frames := 1, cells := 0, slots := 0, locals := 14 } : Room).cells ({ frames := 1, cells := 0, slots := 0, locals := 14 } : Room).slots
  obtain ⟨E_a1_1, F_value_a1_2, F_coder_a1_3⟩ := O_a1
  obtain ⟨E_a2_4, F_value_a2_5, F_coder_a2_6⟩ := O_a2
  refine own_pre (A := s₁.setTop (mkF m 0 #[.val (.ref a1), .val (.ref a2), .unset] [])) (fun tt kt => castTop (ef_3x21 m a1 a2) kt) ?_
  show own_End p e below s (s₁.setTop (mkF m 0 #[.val (.ref a1), .val (.ref a2), .unset] [])) (Q3x21 Z a1 a2 b1 b2 g1 g2 GA r h0 n0) ({ frames := 1, cells := 0, slots := 0, locals := 14 } : Room).cells ({ frames := 1, cells := 0, slots := 0, locals := 14 } : Room).slots
  refine own_pre (A := s₁.setTop (mkF m 2 #[.val (.ref a1), .val (.ref a2), .unset] [(.ref a2), (.ref a1)])) (fun tt kt => ?_) ?_
  · show Steps p.tables e below (s₁.setTop (mkF m 0 #[.val (.ref a1), .val (.ref a2), .unset] [])) _
    refine XS.aloadN X0.here hx rfl (hb hby d3x21_0) rfl rfl ?_
    refine XS.aloadN X0.here hx rfl (hb hby d3x21_1) rfl rfl ?_
    exact kt
  show own_End p e below s (s₁.setTop (mkF m 2 #[.val (.ref a1), .val (.ref a2), .unset] [(.ref a2), (.ref a1)])) (Q3x21 Z a1 a2 b1 b2 g1 g2 GA r h0 n0) ({ frames := 1, cells := 0, slots := 0, locals := 14 } : Room).cells ({ frames := 1, cells := 0, slots := 0, locals := 14 } : Room).slots
  by_cases hac2_7 : a1 = a2
  · refine own_pre (A := s₁.setTop (mkF m 6 #[.val (.ref a1), .val (.ref a2), .unset] [(.int (1 : Int32))])) (fun tt kt => ?_) ?_
    · show Steps p.tables e below (s₁.setTop (mkF m 2 #[.val (.ref a1), .val (.ref a2), .unset] [(.ref a2), (.ref a1)])) _
      refine acmp X0 hx rfl (cd := .ne) (x := (.ref a1)) (y := (.ref a2)) rfl rfl (pc0 := 2) (pc' := 5) (same := true) rfl (hb hby d3x21_2) rfl (decide_eq_true (congrArg Value.ref hac2_7)) (by decide) (by decide) ?_
      refine XS.iconst X0.here hx rfl (hb hby d3x21_5) ?_
      exact kt
    show own_End p e below s (s₁.setTop (mkF m 6 #[.val (.ref a1), .val (.ref a2), .unset] [(.int (1 : Int32))])) (Q3x21 Z a1 a2 b1 b2 g1 g2 GA r h0 n0) ({ frames := 1, cells := 0, slots := 0, locals := 14 } : Room).cells ({ frames := 1, cells := 0, slots := 0, locals := 14 } : Room).slots
    have hv : r = (1 : Int32) := (hq hac2_7)
    obtain ⟨fs, hr, hrun, hended, hW, hsame⟩ := X0.leave (v := some (.int (1 : Int32))) (fun h => by rw [Bd.returns] at h; cases h)
    refine ⟨_, _, ?_, hrun, hended, _, _, rfl, ?_, ⟨_, rfl⟩, hW, hsame.mono (by decide) (by decide)⟩
    · exact retN X0 hx (t := .boolean) Bd.returns (by simp) (hb hby d3x21_6) hr
    · show Q3x21 Z a1 a2 b1 b2 g1 g2 GA r h0 n0 _ s₁.heap _
      rw [e0]
      exact ⟨(congrArg (fun z => some (Value.int z)) hv.symm), N0, rfl⟩
  · obtain ⟨T8, X8, e8, st8⟩ := instY X0 hx hZ hown (hw _ (List.mem_of_getElem? (i := 28) rfl)) e0 (Ins.self E_a2_4) (g := (mkF m 8 #[.val (.ref a1), .val (.ref a2), .unset] [(.ref a2)])) rfl rfl (hb hby d3x21_8)
    obtain ⟨T9, X9, e9, st9⟩ := castY X8 hx hZ hown (hw _ (List.mem_of_getElem? (i := 28) rfl)) e8 (Ins.self E_a2_4) (g := (mkF m 15 #[.val (.ref a1), .val (.ref a2), .unset] [(.ref a2)])) rfl rfl (hb hby d3x21_15)
    obtain ⟨T10, X10, e10, st10⟩ := getS2 X9 hx hZ hown (host := "") (Or.inl (hw _ (List.mem_of_getElem? (i := 30) rfl))) Via.refl e9 O2 (g := (mkF m 19 #[.val (.ref a1), .val (.ref a2), .val (.ref a2)] [])) rfl (hb hby d3x21_19)
    obtain ⟨T11, X11, e11, st11⟩ := getF X10 hx hZ hown (host := "") (Or.inl (hw _ (List.mem_of_getElem? (i := 31) rfl))) Via.refl e10 F_coder_a1_3 (g := (mkF m 26 #[.val (.ref a1), .val (.ref a2), .val (.ref a2)] [(.ref a1)])) rfl rfl (hb hby d3x21_26)
    obtain ⟨T12, X12, e12, st12⟩ := getF X11 hx hZ hown (host := "") (Or.inl (hw _ (List.mem_of_getElem? (i := 31) rfl))) Via.refl e11 F_coder_a2_6 (g := (mkF m 30 #[.val (.ref a1), .val (.ref a2), .val (.ref a2)] [(.ref a2), (.int (0 : Int32))])) rfl rfl (hb hby d3x21_30)
    obtain ⟨T13, X13, e13, st13⟩ := getF X12 hx hZ hown (host := "") (Or.inl (hw _ (List.mem_of_getElem? (i := 32) rfl))) Via.refl e12 F_value_a1_2 (g := (mkF m 37 #[.val (.ref a1), .val (.ref a2), .val (.ref a2)] [(.ref a1)])) rfl rfl (hb hby d3x21_37)
    obtain ⟨T14, X14, e14, st14⟩ := getF X13 hx hZ hown (host := "") (Or.inl (hw _ (List.mem_of_getElem? (i := 32) rfl))) Via.refl e13 F_value_a2_5 (g := (mkF m 41 #[.val (.ref a1), .val (.ref a2), .val (.ref a2)] [(.ref a2), (.ref b1)])) rfl rfl (hb hby d3x21_41)
    obtain ⟨_, _, ⟨T15, L15, k15, n15⟩, -, X15, ⟨Lc15, hQ15, l15, y15, z15⟩, st15⟩ := Jvm.LawKit.callS X14 hx (y := (⟨"java/lang/StringLatin1", "equals", "([B[B)Z"⟩ : MethodName)) hown (mvT hZ (hw _ (List.mem_of_getElem? (i := 33) rfl))) (mvT hZ (hw _ (List.mem_of_getElem? (i := 34) rfl))) (mvT hZ (hw _ (List.mem_of_getElem? (i := 35) rfl))) (mvT hZ (hw _ (List.mem_of_getElem? (i := 36) rfl))) (by decide) (backOf (W := 0) (rm4x21 l Z a0 hw [] b1 b2 g1 g2 h0 n0 Z0 V_b1 V_b2) hZ (hw _ (List.mem_of_getElem? (i := 36) rfl)) (hw _ (List.mem_of_getElem? (i := 35) rfl)) (by decide) (by decide)) (g := (mkF m 44 #[.val (.ref a1), .val (.ref a2), .val (.ref a2)] [(.ref b2), (.ref b1)])) rfl (by rw [hml]; rfl) (argsL := [(.ref b1), (.ref b2)]) (rest := []) (lenOf pd_3x21_0 rfl) rfl (by show 2 * 0 + _ ≤ _; exact Nat.le_of_eq rfl) (hb hby d3x21_44) (fun _ _ => ⟨rfl, e14, (by decide : 0 + 0 ≤ _), (by decide : 0 + 0 ≤ _)⟩)
    dsimp only [Pt.U, Pt.locs, Pt.cells, Pt.slots] at X15 l15 y15 z15 st15 hQ15
    subst l15 y15 z15
    obtain ⟨rfl, N15q, e15⟩ := hQ15
    have N15 := Fr.app N0 N15q
    refine own_pre (A := T15.setTop (mkF m 47 #[.val (.ref a1), .val (.ref a2), .val (.ref a2)] [(.int (own_l21 g1 g2))])) (fun tt kt => ?_) ?_
    · show Steps p.tables e below (s₁.setTop (mkF m 2 #[.val (.ref a1), .val (.ref a2), .unset] [(.ref a2), (.ref a1)])) _
      refine acmp X0 hx rfl (cd := .ne) (x := (.ref a1)) (y := (.ref a2)) rfl rfl (pc0 := 2) (pc' := 7) (same := false) rfl (hb hby d3x21_2) rfl (decide_eq_false (fun q => hac2_7 (Value.ref.inj q))) (by decide) (by decide) ?_
      refine XS.aloadN X0.here hx rfl (hb hby d3x21_7) rfl rfl ?_
      show Steps p.tables e below (s₁.setTop (mkF m 8 #[.val (.ref a1), .val (.ref a2), .unset] [(.ref a2)])) _
      refine st8 _ ?_
      show Steps p.tables e below (T8.setTop (mkF m 11 #[.val (.ref a1), .val (.ref a2), .unset] [(.int (1 : Int32))])) _
      refine XS.ifNo X8.here hx rfl (hb hby d3x21_11) rfl ((if0 _ _).trans (feq ((by decide) : ¬ ((1 : Int32) = (0 : Int32)))).1) ?_
      refine XS.aloadN X8.here hx rfl (hb hby d3x21_14) rfl rfl ?_
      show Steps p.tables e below (T8.setTop (mkF m 15 #[.val (.ref a1), .val (.ref a2), .unset] [(.ref a2)])) _
      refine st9 _ ?_
      show Steps p.tables e below (T9.setTop (mkF m 18 #[.val (.ref a1), .val (.ref a2), .unset] [(.ref a2)])) _
      refine XS.astoreN X9.here hx rfl (hb hby d3x21_18) rfl rfl (l' := #[.val (.ref a1), .val (.ref a2), .val (.ref a2)]) rfl ?_
      show Steps p.tables e below (T9.setTop (mkF m 19 #[.val (.ref a1), .val (.ref a2), .val (.ref a2)] [])) _
      refine st10 _ ?_
      show Steps p.tables e below (T10.setTop (mkF m 22 #[.val (.ref a1), .val (.ref a2), .val (.ref a2)] [(.int GA)])) _
      refine XS.ifNo X10.here hx rfl (hb hby d3x21_22) rfl ((if0 _ _).trans (feq (P5 : ¬ (GA = (0 : Int32)))).1) ?_
      refine XS.aloadN X10.here hx rfl (hb hby d3x21_25) rfl rfl ?_
      show Steps p.tables e below (T10.setTop (mkF m 26 #[.val (.ref a1), .val (.ref a2), .val (.ref a2)] [(.ref a1)])) _
      refine st11 _ ?_
      show Steps p.tables e below (T11.setTop (mkF m 29 #[.val (.ref a1), .val (.ref a2), .val (.ref a2)] [(.int (0 : Int32))])) _
      refine XS.aloadN X11.here hx rfl (hb hby d3x21_29) rfl rfl ?_
      show Steps p.tables e below (T11.setTop (mkF m 30 #[.val (.ref a1), .val (.ref a2), .val (.ref a2)] [(.ref a2), (.int (0 : Int32))])) _
      refine st12 _ ?_
      show Steps p.tables e below (T12.setTop (mkF m 33 #[.val (.ref a1), .val (.ref a2), .val (.ref a2)] [(.int (0 : Int32)), (.int (0 : Int32))])) _
      refine XS.icmpNo X12.here hx rfl (hb hby d3x21_33) rfl (teq ((by decide) : (0 : Int32) = (0 : Int32))).2 ?_
      refine XS.aloadN X12.here hx rfl (hb hby d3x21_36) rfl rfl ?_
      show Steps p.tables e below (T12.setTop (mkF m 37 #[.val (.ref a1), .val (.ref a2), .val (.ref a2)] [(.ref a1)])) _
      refine st13 _ ?_
      show Steps p.tables e below (T13.setTop (mkF m 40 #[.val (.ref a1), .val (.ref a2), .val (.ref a2)] [(.ref b1)])) _
      refine XS.aloadN X13.here hx rfl (hb hby d3x21_40) rfl rfl ?_
      show Steps p.tables e below (T13.setTop (mkF m 41 #[.val (.ref a1), .val (.ref a2), .val (.ref a2)] [(.ref a2), (.ref b1)])) _
      refine st14 _ ?_
      show Steps p.tables e below (T14.setTop (mkF m 44 #[.val (.ref a1), .val (.ref a2), .val (.ref a2)] [(.ref b2), (.ref b1)])) _
      refine st15 _ ?_
      exact kt
    show own_End p e below s (T15.setTop (mkF m 47 #[.val (.ref a1), .val (.ref a2), .val (.ref a2)] [(.int (own_l21 g1 g2))])) (Q3x21 Z a1 a2 b1 b2 g1 g2 GA r h0 n0) ({ frames := 1, cells := 0, slots := 0, locals := 14 } : Room).cells ({ frames := 1, cells := 0, slots := 0, locals := 14 } : Room).slots
    by_cases hc47_16 : (own_l21 g1 g2) = (0 : Int32)
    · refine own_pre (A := T15.setTop (mkF m 55 #[.val (.ref a1), .val (.ref a2), .val (.ref a2)] [(.int (0 : Int32))])) (fun tt kt => ?_) ?_
      · show Steps p.tables e below (T15.setTop (mkF m 47 #[.val (.ref a1), .val (.ref a2), .val (.ref a2)] [(.int (own_l21 g1 g2))])) _
        refine XS.ifYes X15.here hx rfl (pc0 := 47) (pc' := 54) rfl (hb hby d3x21_47) rfl ((if0 _ _).trans (teq hc47_16).1) (by decide) (by decide) ?_
        refine XS.iconst X15.here hx rfl (hb hby d3x21_54) ?_
        exact kt
      show own_End p e below s (T15.setTop (mkF m 55 #[.val (.ref a1), .val (.ref a2), .val (.ref a2)] [(.int (0 : Int32))])) (Q3x21 Z a1 a2 b1 b2 g1 g2 GA r h0 n0) ({ frames := 1, cells := 0, slots := 0, locals := 14 } : Room).cells ({ frames := 1, cells := 0, slots := 0, locals := 14 } : Room).slots
      have hv : r = (0 : Int32) := (hr.symm.trans hc47_16)
      obtain ⟨fs, hr, hrun, hended, hW, hsame⟩ := X15.leave (v := some (.int (0 : Int32))) (fun h => by rw [Bd.returns] at h; cases h)
      refine ⟨_, _, ?_, hrun, hended, _, _, rfl, ?_, ⟨_, rfl⟩, hW, hsame.mono (by decide) (by decide)⟩
      · exact retN X15 hx (t := .boolean) Bd.returns (by simp) (hb hby d3x21_55) hr
      · show Q3x21 Z a1 a2 b1 b2 g1 g2 GA r h0 n0 _ T15.heap _
        rw [e15]
        exact ⟨(congrArg (fun z => some (Value.int z)) hv.symm), N15, rfl⟩
    · refine own_pre (A := T15.setTop (mkF m 55 #[.val (.ref a1), .val (.ref a2), .val (.ref a2)] [(.int (1 : Int32))])) (fun tt kt => ?_) ?_
      · show Steps p.tables e below (T15.setTop (mkF m 47 #[.val (.ref a1), .val (.ref a2), .val (.ref a2)] [(.int (own_l21 g1 g2))])) _
        refine XS.ifNo X15.here hx rfl (hb hby d3x21_47) rfl ((if0 _ _).trans (feq hc47_16).1) ?_
        refine XS.iconst X15.here hx rfl (hb hby d3x21_50) ?_
        refine XS.goto X15.here hx rfl (pc0 := 51) (pc' := 55) rfl (hb hby d3x21_51) (by decide) (by decide) ?_
        exact kt
      show own_End p e below s (T15.setTop (mkF m 55 #[.val (.ref a1), .val (.ref a2), .val (.ref a2)] [(.int (1 : Int32))])) (Q3x21 Z a1 a2 b1 b2 g1 g2 GA r h0 n0) ({ frames := 1, cells := 0, slots := 0, locals := 14 } : Room).cells ({ frames := 1, cells := 0, slots := 0, locals := 14 } : Room).slots
      have hv : r = (1 : Int32) := (h01.resolve_left (fun q => hc47_16 (hr.trans q)))
      obtain ⟨fs, hr, hrun, hended, hW, hsame⟩ := X15.leave (v := some (.int (1 : Int32))) (fun h => by rw [Bd.returns] at h; cases h)
      refine ⟨_, _, ?_, hrun, hended, _, _, rfl, ?_, ⟨_, rfl⟩, hW, hsame.mono (by decide) (by decide)⟩
      · exact retN X15 hx (t := .boolean) Bd.returns (by simp) (hb hby d3x21_55) hr
      · show Q3x21 Z a1 a2 b1 b2 g1 g2 GA r h0 n0 _ T15.heap _
        rw [e15]
        exact ⟨(congrArg (fun z => some (Value.int z)) hv.symm), N15, rfl⟩
theorem d3x22_0 : decode jdk_42_method_66_code 0 = .ok (.aload_n 0, 1) := by decide +kernel
theorem d3x22_1 : decode jdk_42_method_66_code 1 = .ok (.aload_n 1, 1) := by decide +kernel
theorem d3x22_2 : decode jdk_42_method_66_code 2 = .ok (.if_acmp .ne 5, 3) := by decide +kernel
theorem d3x22_5 : decode jdk_42_method_66_code 5 = .ok (.iconst 1, 1) := by decide +kernel
theorem d3x22_6 : decode jdk_42_method_66_code 6 = .ok (.ireturn, 1) := by decide +kernel
theorem d3x22_7 : decode jdk_42_method_66_code 7 = .ok (.aload_n 1, 1) := by decide +kernel
theorem d3x22_8 : decode jdk_42_method_66_code 8 = .ok (.instanceof 10, 3) := by decide +kernel
theorem d3x22_11 : decode jdk_42_method_66_code 11 = .ok (.ifCond .eq 43, 3) := by decide +kernel
theorem d3x22_14 : decode jdk_42_method_66_code 14 = .ok (.aload_n 1, 1) := by decide +kernel
theorem d3x22_15 : decode jdk_42_method_66_code 15 = .ok (.checkcast 10, 3) := by decide +kernel
theorem d3x22_18 : decode jdk_42_method_66_code 18 = .ok (.astore_n 2, 1) := by decide +kernel
theorem d3x22_19 : decode jdk_42_method_66_code 19 = .ok (.getstatic 38, 3) := by decide +kernel
theorem d3x22_22 : decode jdk_42_method_66_code 22 = .ok (.ifCond .eq 14, 3) := by decide +kernel
theorem d3x22_25 : decode jdk_42_method_66_code 25 = .ok (.aload_n 0, 1) := by decide +kernel
theorem d3x22_26 : decode jdk_42_method_66_code 26 = .ok (.getfield 15, 3) := by decide +kernel
theorem d3x22_29 : decode jdk_42_method_66_code 29 = .ok (.aload_n 2, 1) := by decide +kernel
theorem d3x22_30 : decode jdk_42_method_66_code 30 = .ok (.getfield 15, 3) := by decide +kernel
theorem d3x22_33 : decode jdk_42_method_66_code 33 = .ok (.if_icmp .ne 21, 3) := by decide +kernel
theorem d3x22_36 : decode jdk_42_method_66_code 36 = .ok (.aload_n 0, 1) := by decide +kernel
theorem d3x22_37 : decode jdk_42_method_66_code 37 = .ok (.getfield 9, 3) := by decide +kernel
theorem d3x22_40 : decode jdk_42_method_66_code 40 = .ok (.aload_n 2, 1) := by decide +kernel
theorem d3x22_41 : decode jdk_42_method_66_code 41 = .ok (.getfield 9, 3) := by decide +kernel
theorem d3x22_44 : decode jdk_42_method_66_code 44 = .ok (.invokestatic 541, 3) := by decide +kernel
theorem d3x22_47 : decode jdk_42_method_66_code 47 = .ok (.ifCond .eq 7, 3) := by decide +kernel
theorem d3x22_50 : decode jdk_42_method_66_code 50 = .ok (.iconst 1, 1) := by decide +kernel
theorem d3x22_51 : decode jdk_42_method_66_code 51 = .ok (.goto 4, 3) := by decide +kernel
theorem d3x22_54 : decode jdk_42_method_66_code 54 = .ok (.iconst 0, 1) := by decide +kernel
theorem d3x22_55 : decode jdk_42_method_66_code 55 = .ok (.ireturn, 1) := by decide +kernel
theorem pn_3x22 : plainName "java/lang/String" = true := by first | (simp [plainName, overriddenIn]; done) | decide +kernel
theorem pd_3x22_0 : parseMethodDescriptor "([B[B)Z" = some ⟨[(.array .byte), (.array .byte)], some .boolean⟩ := by decide +kernel
theorem ef_3x22 (m : MethodId) (x0 : Addr) (x1 : Addr) : entryFrame m #[(.ref x0), (.ref x1)] 3 = mkF m 0 #[.val (.ref x0), .val (.ref x1), .unset] [] := by first | (simp [entryFrame, mkF, argsToLocals, Value.category]; done) | rfl
def Q3x22 (Z : State) (a1 : Addr) (a2 : Addr) (b1 : Addr) (b2 : Addr) (g1 : Nat → Int32) (g2 : Nat → Int32) (GA : Int32) (r : Int32) (h0 : Heap) (n0 : Nat) (v : Option Value) (h : Heap) (L : List Loc) : Prop := v = some (.int r) ∧ Fr n0 L ∧ h = h0
set_option maxRecDepth 65536 in
set_option maxHeartbeats 40000000 in
theorem rm3x22 (l : Launch) (Z : State) (a0 : Array Value) (hw : ∀ d ∈ tables_1, d.before a0 Z = true) (ws : List Jvm.Cond) (a1 : Addr) (a2 : Addr) (b1 : Addr) (b2 : Addr) (g1 : Nat → Int32) (g2 : Nat → Int32) (GA : Int32) (r : Int32) (h0 : Heap) (n0 : Nat) (Z0 : n0 ≤ h0.size) (O_a1 : own_Str Z h0 a1 b1 (0 : Int32)) (O_a2 : own_Str Z h0 a2 b2 (0 : Int32)) (V_b1 : own_Arr Z h0 b1 .byte (2 : Int32) (fun i => Value.int (g1 i))) (V_b2 : own_Arr Z h0 b2 .byte (2 : Int32) (fun i => Value.int (g2 i))) (O2 : Sta Z h0 "java/lang/String" "COMPACT_STRINGS" "Z" (.int GA)) (P5 : ¬ (GA = (0 : Int32))) (hr : own_l22 g1 g2 = r) (hq : a1 = a2 → r = (1 : Int32)) (h01 : r = (0 : Int32) ∨ r = (1 : Int32)) :
    MetFree l (⟨"java/lang/String", "equals", "(Ljava/lang/Object;)Z"⟩ : MethodName) (head1 (Jvm.Cond.code (⟨"java/lang/String", "equals", "(Ljava/lang/Object;)Z"⟩ : MethodName) jdk_42_method_66_code 3 (some .boolean) :: ws) ({ frames := 1, cells := 0, slots := 0, locals := 14 } : Room)) (fun a U => a = #[(.ref a1), (.ref a2)] ∧ Z.Warmed39 U.vm ∧ U.heap = h0) (fun _ _ _ _ _ => True) (fun _ U o U' => ∃ v L, o = .returned v ∧ Q3x22 Z a1 a2 b1 b2 g1 g2 GA r h0 n0 v U'.heap L ∧ FrameEnd U o U' L ({ frames := 1, cells := 0, slots := 0, locals := 14 } : Room).cells ({ frames := 1, cells := 0, slots := 0, locals := 14 } : Room).slots) := by
  refine MetFree.of_bodySF (plainFor_of_name pn_3x22) hisR ?_
  intro p e s m args below meth c s₁ Bd hml0 hP hK
  obtain ⟨rfl, hZ, hh⟩ := hP
  have hx := Bd.exec
  have hby := Bd.bytes
  have hml : c.maxLocals = 3 := hml0
  have hown : s.vm.findClass "java/lang/String" = some m.cls := findClass_of_methodNamed Bd.named
  have hnm := (name_of_methodNamed Bd.named Bd.method).1
  have X0 : Stand p l e ({ frames := 1, cells := 0, slots := 0, locals := 14 } : Room) s m #[(.ref a1), (.ref a2)] below meth c s₁ [] 0 0 := Stand.of_body Bd
  have e0 : s₁.heap = h0 := by rw [← hh, Bd.state]; rfl
  have N0 := Fr.nil n0
  show own_End p e below s (s₁.setTop (entryFrame m #[(.ref a1), (.ref a2)] 3)) (Q3x22 Z a1 a2 b1 b2 g1 g2 GA r h0 n0) ({ frames := 1, cells := 0, slots := 0, locals := 14 } : Room).cells ({ frames := 1, cells := 0, slots := 0, locals := 14 } : Room).slots
  obtain ⟨E_a1_1, F_value_a1_2, F_coder_a1_3⟩ := O_a1
  obtain ⟨E_a2_4, F_value_a2_5, F_coder_a2_6⟩ := O_a2
  refine own_pre (A := s₁.setTop (mkF m 0 #[.val (.ref a1), .val (.ref a2), .unset] [])) (fun tt kt => castTop (ef_3x22 m a1 a2) kt) ?_
  show own_End p e below s (s₁.setTop (mkF m 0 #[.val (.ref a1), .val (.ref a2), .unset] [])) (Q3x22 Z a1 a2 b1 b2 g1 g2 GA r h0 n0) ({ frames := 1, cells := 0, slots := 0, locals := 14 } : Room).cells ({ frames := 1, cells := 0, slots := 0, locals := 14 } : Room).slots
  refine own_pre (A := s₁.setTop (mkF m 2 #[.val (.ref a1), .val (.ref a2), .unset] [(.ref a2), (.ref a1)])) (fun tt kt => ?_) ?_
  · show Steps p.tables e below (s₁.setTop (mkF m 0 #[.val (.ref a1), .val (.ref a2), .unset] [])) _
    refine XS.aloadN X0.here hx rfl (hb hby d3x22_0) rfl rfl ?_
    refine XS.aloadN X0.here hx rfl (hb hby d3x22_1) rfl rfl ?_
    exact kt
  show own_End p e below s (s₁.setTop (mkF m 2 #[.val (.ref a1), .val (.ref a2), .unset] [(.ref a2), (.ref a1)])) (Q3x22 Z a1 a2 b1 b2 g1 g2 GA r h0 n0) ({ frames := 1, cells := 0, slots := 0, locals := 14 } : Room).cells ({ frames := 1, cells := 0, slots := 0, locals := 14 } : Room).slots
  by_cases hac2_7 : a1 = a2
  · refine own_pre (A := s₁.setTop (mkF m 6 #[.val (.ref a1), .val (.ref a2), .unset] [(.int (1 : Int32))])) (fun tt kt => ?_) ?_
    · show Steps p.tables e below (s₁.setTop (mkF m 2 #[.val (.ref a1), .val (.ref a2), .unset] [(.ref a2), (.ref a1)])) _
      refine acmp X0 hx rfl (cd := .ne) (x := (.ref a1)) (y := (.ref a2)) rfl rfl (pc0 := 2) (pc' := 5) (same := true) rfl (hb hby d3x22_2) rfl (decide_eq_true (congrArg Value.ref hac2_7)) (by decide) (by decide) ?_
      refine XS.iconst X0.here hx rfl (hb hby d3x22_5) ?_
      exact kt
    show own_End p e below s (s₁.setTop (mkF m 6 #[.val (.ref a1), .val (.ref a2), .unset] [(.int (1 : Int32))])) (Q3x22 Z a1 a2 b1 b2 g1 g2 GA r h0 n0) ({ frames := 1, cells := 0, slots := 0, locals := 14 } : Room).cells ({ frames := 1, cells := 0, slots := 0, locals := 14 } : Room).slots
    have hv : r = (1 : Int32) := (hq hac2_7)
    obtain ⟨fs, hr, hrun, hended, hW, hsame⟩ := X0.leave (v := some (.int (1 : Int32))) (fun h => by rw [Bd.returns] at h; cases h)
    refine ⟨_, _, ?_, hrun, hended, _, _, rfl, ?_, ⟨_, rfl⟩, hW, hsame.mono (by decide) (by decide)⟩
    · exact retN X0 hx (t := .boolean) Bd.returns (by simp) (hb hby d3x22_6) hr
    · show Q3x22 Z a1 a2 b1 b2 g1 g2 GA r h0 n0 _ s₁.heap _
      rw [e0]
      exact ⟨(congrArg (fun z => some (Value.int z)) hv.symm), N0, rfl⟩
  · obtain ⟨T8, X8, e8, st8⟩ := instY X0 hx hZ hown (hw _ (List.mem_of_getElem? (i := 28) rfl)) e0 (Ins.self E_a2_4) (g := (mkF m 8 #[.val (.ref a1), .val (.ref a2), .unset] [(.ref a2)])) rfl rfl (hb hby d3x22_8)
    obtain ⟨T9, X9, e9, st9⟩ := castY X8 hx hZ hown (hw _ (List.mem_of_getElem? (i := 28) rfl)) e8 (Ins.self E_a2_4) (g := (mkF m 15 #[.val (.ref a1), .val (.ref a2), .unset] [(.ref a2)])) rfl rfl (hb hby d3x22_15)
    obtain ⟨T10, X10, e10, st10⟩ := getS2 X9 hx hZ hown (host := "") (Or.inl (hw _ (List.mem_of_getElem? (i := 30) rfl))) Via.refl e9 O2 (g := (mkF m 19 #[.val (.ref a1), .val (.ref a2), .val (.ref a2)] [])) rfl (hb hby d3x22_19)
    obtain ⟨T11, X11, e11, st11⟩ := getF X10 hx hZ hown (host := "") (Or.inl (hw _ (List.mem_of_getElem? (i := 31) rfl))) Via.refl e10 F_coder_a1_3 (g := (mkF m 26 #[.val (.ref a1), .val (.ref a2), .val (.ref a2)] [(.ref a1)])) rfl rfl (hb hby d3x22_26)
    obtain ⟨T12, X12, e12, st12⟩ := getF X11 hx hZ hown (host := "") (Or.inl (hw _ (List.mem_of_getElem? (i := 31) rfl))) Via.refl e11 F_coder_a2_6 (g := (mkF m 30 #[.val (.ref a1), .val (.ref a2), .val (.ref a2)] [(.ref a2), (.int (0 : Int32))])) rfl rfl (hb hby d3x22_30)
    obtain ⟨T13, X13, e13, st13⟩ := getF X12 hx hZ hown (host := "") (Or.inl (hw _ (List.mem_of_getElem? (i := 32) rfl))) Via.refl e12 F_value_a1_2 (g := (mkF m 37 #[.val (.ref a1), .val (.ref a2), .val (.ref a2)] [(.ref a1)])) rfl rfl (hb hby d3x22_37)
    obtain ⟨T14, X14, e14, st14⟩ := getF X13 hx hZ hown (host := "") (Or.inl (hw _ (List.mem_of_getElem? (i := 32) rfl))) Via.refl e13 F_value_a2_5 (g := (mkF m 41 #[.val (.ref a1), .val (.ref a2), .val (.ref a2)] [(.ref a2), (.ref b1)])) rfl rfl (hb hby d3x22_41)
    obtain ⟨_, _, ⟨T15, L15, k15, n15⟩, -, X15, ⟨Lc15, hQ15, l15, y15, z15⟩, st15⟩ := Jvm.LawKit.callS X14 hx (y := (⟨"java/lang/StringLatin1", "equals", "([B[B)Z"⟩ : MethodName)) hown (mvT hZ (hw _ (List.mem_of_getElem? (i := 33) rfl))) (mvT hZ (hw _ (List.mem_of_getElem? (i := 34) rfl))) (mvT hZ (hw _ (List.mem_of_getElem? (i := 35) rfl))) (mvT hZ (hw _ (List.mem_of_getElem? (i := 36) rfl))) (by decide) (backOf (W := 0) (rm4x22 l Z a0 hw [] b1 b2 g1 g2 h0 n0 Z0 V_b1 V_b2) hZ (hw _ (List.mem_of_getElem? (i := 36) rfl)) (hw _ (List.mem_of_getElem? (i := 35) rfl)) (by decide) (by decide)) (g := (mkF m 44 #[.val (.ref a1), .val (.ref a2), .val (.ref a2)] [(.ref b2), (.ref b1)])) rfl (by rw [hml]; rfl) (argsL := [(.ref b1), (.ref b2)]) (rest := []) (lenOf pd_3x22_0 rfl) rfl (by show 2 * 0 + _ ≤ _; exact Nat.le_of_eq rfl) (hb hby d3x22_44) (fun _ _ => ⟨rfl, e14, (by decide : 0 + 0 ≤ _), (by decide : 0 + 0 ≤ _)⟩)
    dsimp only [Pt.U, Pt.locs, Pt.cells, Pt.slots] at X15 l15 y15 z15 st15 hQ15
    subst l15 y15 z15
    obtain ⟨rfl, N15q, e15⟩ := hQ15
    have N15 := Fr.app N0 N15q
    refine own_pre (A := T15.setTop (mkF m 47 #[.val (.ref a1), .val (.ref a2), .val (.ref a2)] [(.int (own_l22 g1 g2))])) (fun tt kt => ?_) ?_
    · show Steps p.tables e below (s₁.setTop (mkF m 2 #[.val (.ref a1), .val (.ref a2), .unset] [(.ref a2), (.ref a1)])) _
      refine acmp X0 hx rfl (cd := .ne) (x := (.ref a1)) (y := (.ref a2)) rfl rfl (pc0 := 2) (pc' := 7) (same := false) rfl (hb hby d3x22_2) rfl (decide_eq_false (fun q => hac2_7 (Value.ref.inj q))) (by decide) (by decide) ?_
      refine XS.aloadN X0.here hx rfl (hb hby d3x22_7) rfl rfl ?_
      show Steps p.tables e below (s₁.setTop (mkF m 8 #[.val (.ref a1), .val (.ref a2), .unset] [(.ref a2)])) _
      refine st8 _ ?_
      show Steps p.tables e below (T8.setTop (mkF m 11 #[.val (.ref a1), .val (.ref a2), .unset] [(.int (1 : Int32))])) _
      refine XS.ifNo X8.here hx rfl (hb hby d3x22_11) rfl ((if0 _ _).trans (feq ((by decide) : ¬ ((1 : Int32) = (0 : Int32)))).1) ?_
      refine XS.aloadN X8.here hx rfl (hb hby d3x22_14) rfl rfl ?_
      show Steps p.tables e below (T8.setTop (mkF m 15 #[.val (.ref a1), .val (.ref a2), .unset] [(.ref a2)])) _
      refine st9 _ ?_
      show Steps p.tables e below (T9.setTop (mkF m 18 #[.val (.ref a1), .val (.ref a2), .unset] [(.ref a2)])) _
      refine XS.astoreN X9.here hx rfl (hb hby d3x22_18) rfl rfl (l' := #[.val (.ref a1), .val (.ref a2), .val (.ref a2)]) rfl ?_
      show Steps p.tables e below (T9.setTop (mkF m 19 #[.val (.ref a1), .val (.ref a2), .val (.ref a2)] [])) _
      refine st10 _ ?_
      show Steps p.tables e below (T10.setTop (mkF m 22 #[.val (.ref a1), .val (.ref a2), .val (.ref a2)] [(.int GA)])) _
      refine XS.ifNo X10.here hx rfl (hb hby d3x22_22) rfl ((if0 _ _).trans (feq (P5 : ¬ (GA = (0 : Int32)))).1) ?_
      refine XS.aloadN X10.here hx rfl (hb hby d3x22_25) rfl rfl ?_
      show Steps p.tables e below (T10.setTop (mkF m 26 #[.val (.ref a1), .val (.ref a2), .val (.ref a2)] [(.ref a1)])) _
      refine st11 _ ?_
      show Steps p.tables e below (T11.setTop (mkF m 29 #[.val (.ref a1), .val (.ref a2), .val (.ref a2)] [(.int (0 : Int32))])) _
      refine XS.aloadN X11.here hx rfl (hb hby d3x22_29) rfl rfl ?_
      show Steps p.tables e below (T11.setTop (mkF m 30 #[.val (.ref a1), .val (.ref a2), .val (.ref a2)] [(.ref a2), (.int (0 : Int32))])) _
      refine st12 _ ?_
      show Steps p.tables e below (T12.setTop (mkF m 33 #[.val (.ref a1), .val (.ref a2), .val (.ref a2)] [(.int (0 : Int32)), (.int (0 : Int32))])) _
      refine XS.icmpNo X12.here hx rfl (hb hby d3x22_33) rfl (teq ((by decide) : (0 : Int32) = (0 : Int32))).2 ?_
      refine XS.aloadN X12.here hx rfl (hb hby d3x22_36) rfl rfl ?_
      show Steps p.tables e below (T12.setTop (mkF m 37 #[.val (.ref a1), .val (.ref a2), .val (.ref a2)] [(.ref a1)])) _
      refine st13 _ ?_
      show Steps p.tables e below (T13.setTop (mkF m 40 #[.val (.ref a1), .val (.ref a2), .val (.ref a2)] [(.ref b1)])) _
      refine XS.aloadN X13.here hx rfl (hb hby d3x22_40) rfl rfl ?_
      show Steps p.tables e below (T13.setTop (mkF m 41 #[.val (.ref a1), .val (.ref a2), .val (.ref a2)] [(.ref a2), (.ref b1)])) _
      refine st14 _ ?_
      show Steps p.tables e below (T14.setTop (mkF m 44 #[.val (.ref a1), .val (.ref a2), .val (.ref a2)] [(.ref b2), (.ref b1)])) _
      refine st15 _ ?_
      exact kt
    show own_End p e below s (T15.setTop (mkF m 47 #[.val (.ref a1), .val (.ref a2), .val (.ref a2)] [(.int (own_l22 g1 g2))])) (Q3x22 Z a1 a2 b1 b2 g1 g2 GA r h0 n0) ({ frames := 1, cells := 0, slots := 0, locals := 14 } : Room).cells ({ frames := 1, cells := 0, slots := 0, locals := 14 } : Room).slots
    by_cases hc47_16 : (own_l22 g1 g2) = (0 : Int32)
    · refine own_pre (A := T15.setTop (mkF m 55 #[.val (.ref a1), .val (.ref a2), .val (.ref a2)] [(.int (0 : Int32))])) (fun tt kt => ?_) ?_
      · show Steps p.tables e below (T15.setTop (mkF m 47 #[.val (.ref a1), .val (.ref a2), .val (.ref a2)] [(.int (own_l22 g1 g2))])) _
        refine XS.ifYes X15.here hx rfl (pc0 := 47) (pc' := 54) rfl (hb hby d3x22_47) rfl ((if0 _ _).trans (teq hc47_16).1) (by decide) (by decide) ?_
        refine XS.iconst X15.here hx rfl (hb hby d3x22_54) ?_
        exact kt
      show own_End p e below s (T15.setTop (mkF m 55 #[.val (.ref a1), .val (.ref a2), .val (.ref a2)] [(.int (0 : Int32))])) (Q3x22 Z a1 a2 b1 b2 g1 g2 GA r h0 n0) ({ frames := 1, cells := 0, slots := 0, locals := 14 } : Room).cells ({ frames := 1, cells := 0, slots := 0, locals := 14 } : Room).slots
      have hv : r = (0 : Int32) := (hr.symm.trans hc47_16)
      obtain ⟨fs, hr, hrun, hended, hW, hsame⟩ := X15.leave (v := some (.int (0 : Int32))) (fun h => by rw [Bd.returns] at h; cases h)
      refine ⟨_, _, ?_, hrun, hended, _, _, rfl, ?_, ⟨_, rfl⟩, hW, hsame.mono (by decide) (by decide)⟩
      · exact retN X15 hx (t := .boolean) Bd.returns (by simp) (hb hby d3x22_55) hr
      · show Q3x22 Z a1 a2 b1 b2 g1 g2 GA r h0 n0 _ T15.heap _
        rw [e15]
        exact ⟨(congrArg (fun z => some (Value.int z)) hv.symm), N15, rfl⟩
    · refine own_pre (A := T15.setTop (mkF m 55 #[.val (.ref a1), .val (.ref a2), .val (.ref a2)] [(.int (1 : Int32))])) (fun tt kt => ?_) ?_
      · show Steps p.tables e below (T15.setTop (mkF m 47 #[.val (.ref a1), .val (.ref a2), .val (.ref a2)] [(.int (own_l22 g1 g2))])) _
        refine XS.ifNo X15.here hx rfl (hb hby d3x22_47) rfl ((if0 _ _).trans (feq hc47_16).1) ?_
        refine XS.iconst X15.here hx rfl (hb hby d3x22_50) ?_
        refine XS.goto X15.here hx rfl (pc0 := 51) (pc' := 55) rfl (hb hby d3x22_51) (by decide) (by decide) ?_
        exact kt
      show own_End p e below s (T15.setTop (mkF m 55 #[.val (.ref a1), .val (.ref a2), .val (.ref a2)] [(.int (1 : Int32))])) (Q3x22 Z a1 a2 b1 b2 g1 g2 GA r h0 n0) ({ frames := 1, cells := 0, slots := 0, locals := 14 } : Room).cells ({ frames := 1, cells := 0, slots := 0, locals := 14 } : Room).slots
      have hv : r = (1 : Int32) := (h01.resolve_left (fun q => hc47_16 (hr.trans q)))
      obtain ⟨fs, hr, hrun, hended, hW, hsame⟩ := X15.leave (v := some (.int (1 : Int32))) (fun h => by rw [Bd.returns] at h; cases h)
      refine ⟨_, _, ?_, hrun, hended, _, _, rfl, ?_, ⟨_, rfl⟩, hW, hsame.mono (by decide) (by decide)⟩
      · exact retN X15 hx (t := .boolean) Bd.returns (by simp) (hb hby d3x22_55) hr
      · show Q3x22 Z a1 a2 b1 b2 g1 g2 GA r h0 n0 _ T15.heap _
        rw [e15]
        exact ⟨(congrArg (fun z => some (Value.int z)) hv.symm), N15, rfl⟩
theorem d5e_0 : decode prog_111_method_5_code 0 = .ok (.aload_n 0, 1) := by decide +kernel
theorem d5e_1 : decode prog_111_method_5_code 1 = .ok (.getstatic 3, 3) := by decide +kernel
theorem d5e_4 : decode prog_111_method_5_code 4 = .ok (.if_acmp .eq 10, 3) := by decide +kernel
theorem d5e_14 : decode prog_111_method_5_code 14 = .ok (.iconst 1, 1) := by decide +kernel
theorem d5e_15 : decode prog_111_method_5_code 15 = .ok (.goto 4, 3) := by decide +kernel
theorem d5e_19 : decode prog_111_method_5_code 19 = .ok (.ireturn, 1) := by decide +kernel
theorem pn_5e : plainName "com/example/solmap/solmap/sparql/Expression$Operator" = true := by first | (simp [plainName, overriddenIn]; done) | decide +kernel
theorem ef_5e (m : MethodId) (x0 : Addr) : entryFrame m #[(.ref x0)] 1 = mkF m 0 #[.val (.ref x0)] [] := by first | (simp [entryFrame, mkF, argsToLocals, Value.category]; done) | rfl
def Q5e (Z : State) (a1 : Addr) (h0 : Heap) (n0 : Nat) (v : Option Value) (h : Heap) (L : List Loc) : Prop := v = some (.int (1 : Int32)) ∧ Fr n0 L ∧ h = h0
set_option maxRecDepth 65536 in
set_option maxHeartbeats 40000000 in
theorem rm5e (l : Launch) (Z : State) (a0 : Array Value) (hw : ∀ d ∈ tables_1, d.before a0 Z = true) (ws : List Jvm.Cond) (a1 : Addr) (h0 : Heap) (n0 : Nat) (Z0 : n0 ≤ h0.size) (T1 : Sta Z h0 "com/example/solmap/solmap/sparql/Expression$Operator" "EQUAL" "Lcom/example/solmap/solmap/sparql/Expression$Operator;" (.ref a1)) :
    MetFree l (⟨"com/example/solmap/solmap/sparql/Expression$Operator", "isEquality", "()Z"⟩ : MethodName) (head1 (Jvm.Cond.code (⟨"com/example/solmap/solmap/sparql/Expression$Operator", "isEquality", "()Z"⟩ : MethodName) prog_111_method_5_code 1 (some .boolean) :: ws) ({ frames := 0, cells := 0, slots := 0, locals := 0 } : Room)) (fun a U => a = #[(.ref a1)] ∧ Z.Warmed39 U.vm ∧ U.heap = h0) (fun _ _ _ _ _ => True) (fun _ U o U' => ∃ v L, o = .returned v ∧ Q5e Z a1 h0 n0 v U'.heap L ∧ FrameEnd U o U' L ({ frames := 0, cells := 0, slots := 0, locals := 0 } : Room).cells ({ frames := 0, cells := 0, slots := 0, locals := 0 } : Room).slots) := by
  refine MetFree.of_bodySF (plainFor_of_name pn_5e) hisR ?_
  intro p e s m args below meth c s₁ Bd hml0 hP hK
  obtain ⟨rfl, hZ, hh⟩ := hP
  have hx := Bd.exec
  have hby := Bd.bytes
  have hml : c.maxLocals = 1 := hml0
  have hown : s.vm.findClass "com/example/solmap/solmap/sparql/Expression$Operator" = some m.cls := findClass_of_methodNamed Bd.named
  have hnm := (name_of_methodNamed Bd.named Bd.method).1
  have X0 : Stand p l e ({ frames := 0, cells := 0, slots := 0, locals := 0 } : Room) s m #[(.ref a1)] below meth c s₁ [] 0 0 := Stand.of_body Bd
  have e0 : s₁.heap = h0 := by rw [← hh, Bd.state]; rfl
  have N0 := Fr.nil n0
  show own_End p e below s (s₁.setTop (entryFrame m #[(.ref a1)] 1)) (Q5e Z a1 h0 n0) ({ frames := 0, cells := 0, slots := 0, locals := 0 } : Room).cells ({ frames := 0, cells := 0, slots := 0, locals := 0 } : Room).slots
  refine own_pre (A := s₁.setTop (mkF m 0 #[.val (.ref a1)] [])) (fun tt kt => castTop (ef_5e m a1) kt) ?_
  show own_End p e below s (s₁.setTop (mkF m 0 #[.val (.ref a1)] [])) (Q5e Z a1 h0 n0) ({ frames := 0, cells := 0, slots := 0, locals := 0 } : Room).cells ({ frames := 0, cells := 0, slots := 0, locals := 0 } : Room).slots
  obtain ⟨T1, X1, e1, st1⟩ := getS2 X0 hx hZ hown (host := "") (Or.inl (hw _ (List.mem_of_getElem? (i := 42) rfl))) Via.refl e0 T1 (g := (mkF m 1 #[.val (.ref a1)] [(.ref a1)])) rfl (hb hby d5e_1)
  refine own_pre (A := T1.setTop (mkF m 19 #[.val (.ref a1)] [(.int (1 : Int32))])) (fun tt kt => ?_) ?_
  · show Steps p.tables e below (s₁.setTop (mkF m 0 #[.val (.ref a1)] [])) _
    refine XS.aloadN X0.here hx rfl (hb hby d5e_0) rfl rfl ?_
    show Steps p.tables e below (s₁.setTop (mkF m 1 #[.val (.ref a1)] [(.ref a1)])) _
    refine st1 _ ?_
    show Steps p.tables e below (T1.setTop (mkF m 4 #[.val (.ref a1)] [(.ref a1), (.ref a1)])) _
    refine acmp X1 hx rfl (cd := .eq) (x := (.ref a1)) (y := (.ref a1)) rfl rfl (pc0 := 4) (pc' := 14) (same := true) rfl (hb hby d5e_4) rfl (decide_eq_true (congrArg Value.ref rfl)) (by decide) (by decide) ?_
    refine XS.iconst X1.here hx rfl (hb hby d5e_14) ?_
    refine XS.goto X1.here hx rfl (pc0 := 15) (pc' := 19) rfl (hb hby d5e_15) (by decide) (by decide) ?_
    exact kt
  show own_End p e below s (T1.setTop (mkF m 19 #[.val (.ref a1)] [(.int (1 : Int32))])) (Q5e Z a1 h0 n0) ({ frames := 0, cells := 0, slots := 0, locals := 0 } : Room).cells ({ frames := 0, cells := 0, slots := 0, locals := 0 } : Room).slots
  obtain ⟨fs, hr, hrun, hended, hW, hsame⟩ := X1.leave (v := some (.int (1 : Int32))) (fun h => by rw [Bd.returns] at h; cases h)
  refine ⟨_, _, ?_, hrun, hended, _, _, rfl, ?_, ⟨_, rfl⟩, hW, hsame.mono (by decide) (by decide)⟩
  · exact retN X1 hx (t := .boolean) Bd.returns (by simp) (hb hby d5e_19) hr
  · show Q5e Z a1 h0 n0 _ T1.heap _
    rw [e1]
    exact ⟨rfl, N0, rfl⟩
theorem d5n_0 : decode prog_111_method_5_code 0 = .ok (.aload_n 0, 1) := by decide +kernel
theorem d5n_1 : decode prog_111_method_5_code 1 = .ok (.getstatic 3, 3) := by decide +kernel
theorem d5n_4 : decode prog_111_method_5_code 4 = .ok (.if_acmp .eq 10, 3) := by decide +kernel
theorem d5n_7 : decode prog_111_method_5_code 7 = .ok (.aload_n 0, 1) := by decide +kernel
theorem d5n_8 : decode prog_111_method_5_code 8 = .ok (.getstatic 7, 3) := by decide +kernel
theorem d5n_11 : decode prog_111_method_5_code 11 = .ok (.if_acmp .ne 7, 3) := by decide +kernel
theorem d5n_14 : decode prog_111_method_5_code 14 = .ok (.iconst 1, 1) := by decide +kernel
theorem d5n_15 : decode prog_111_method_5_code 15 = .ok (.goto 4, 3) := by decide +kernel
theorem d5n_19 : decode prog_111_method_5_code 19 = .ok (.ireturn, 1) := by decide +kernel
theorem pn_5n : plainName "com/example/solmap/solmap/sparql/Expression$Operator" = true := by first | (simp [plainName, overriddenIn]; done) | decide +kernel
theorem ef_5n (m : MethodId) (x0 : Addr) : entryFrame m #[(.ref x0)] 1 = mkF m 0 #[.val (.ref x0)] [] := by first | (simp [entryFrame, mkF, argsToLocals, Value.category]; done) | rfl
def Q5n (Z : State) (a1 : Addr) (aE : Addr) (h0 : Heap) (n0 : Nat) (v : Option Value) (h : Heap) (L : List Loc) : Prop := v = some (.int (1 : Int32)) ∧ Fr n0 L ∧ h = h0
set_option maxRecDepth 65536 in
set_option maxHeartbeats 40000000 in
theorem rm5n (l : Launch) (Z : State) (a0 : Array Value) (hw : ∀ d ∈ tables_1, d.before a0 Z = true) (ws : List Jvm.Cond) (a1 : Addr) (aE : Addr) (h0 : Heap) (n0 : Nat) (Z0 : n0 ≤ h0.size) (T1 : Sta Z h0 "com/example/solmap/solmap/sparql/Expression$Operator" "EQUAL" "Lcom/example/solmap/solmap/sparql/Expression$Operator;" (.ref aE)) (T2 : Sta Z h0 "com/example/solmap/solmap/sparql/Expression$Operator" "NOT_EQUAL" "Lcom/example/solmap/solmap/sparql/Expression$Operator;" (.ref a1)) (u1 : a1 ≠ aE) :
    MetFree l (⟨"com/example/solmap/solmap/sparql/Expression$Operator", "isEquality", "()Z"⟩ : MethodName) (head1 (Jvm.Cond.code (⟨"com/example/solmap/solmap/sparql/Expression$Operator", "isEquality", "()Z"⟩ : MethodName) prog_111_method_5_code 1 (some .boolean) :: ws) ({ frames := 0, cells := 0, slots := 0, locals := 0 } : Room)) (fun a U => a = #[(.ref a1)] ∧ Z.Warmed39 U.vm ∧ U.heap = h0) (fun _ _ _ _ _ => True) (fun _ U o U' => ∃ v L, o = .returned v ∧ Q5n Z a1 aE h0 n0 v U'.heap L ∧ FrameEnd U o U' L ({ frames := 0, cells := 0, slots := 0, locals := 0 } : Room).cells ({ frames := 0, cells := 0, slots := 0, locals := 0 } : Room).slots) := by
  refine MetFree.of_bodySF (plainFor_of_name pn_5n) hisR ?_
  intro p e s m args below meth c s₁ Bd hml0 hP hK
  obtain ⟨rfl, hZ, hh⟩ := hP
  have hx := Bd.exec
  have hby := Bd.bytes
  have hml : c.maxLocals = 1 := hml0
  have hown : s.vm.findClass "com/example/solmap/solmap/sparql/Expression$Operator" = some m.cls := findClass_of_methodNamed Bd.named
  have hnm := (name_of_methodNamed Bd.named Bd.method).1
  have X0 : Stand p l e ({ frames := 0, cells := 0, slots := 0, locals := 0 } : Room) s m #[(.ref a1)] below meth c s₁ [] 0 0 := Stand.of_body Bd
  have e0 : s₁.heap = h0 := by rw [← hh, Bd.state]; rfl
  have N0 := Fr.nil n0
  show own_End p e below s (s₁.setTop (entryFrame m #[(.ref a1)] 1)) (Q5n Z a1 aE h0 n0) ({ frames := 0, cells := 0, slots := 0, locals := 0 } : Room).cells ({ frames := 0, cells := 0, slots := 0, locals := 0 } : Room).slots
  refine own_pre (A := s₁.setTop (mkF m 0 #[.val (.ref a1)] [])) (fun tt kt => castTop (ef_5n m a1) kt) ?_
  show own_End p e below s (s₁.setTop (mkF m 0 #[.val (.ref a1)] [])) (Q5n Z a1 aE h0 n0) ({ frames := 0, cells := 0, slots := 0, locals := 0 } : Room).cells ({ frames := 0, cells := 0, slots := 0, locals := 0 } : Room).slots
  obtain ⟨T1, X1, e1, st1⟩ := getS2 X0 hx hZ hown (host := "") (Or.inl (hw _ (List.mem_of_getElem? (i := 42) rfl))) Via.refl e0 T1 (g := (mkF m 1 #[.val (.ref a1)] [(.ref a1)])) rfl (hb hby d5n_1)
  obtain ⟨T2, X2, e2, st2⟩ := getS2 X1 hx hZ hown (host := "") (Or.inl (hw _ (List.mem_of_getElem? (i := 46) rfl))) Via.refl e1 T2 (g := (mkF m 8 #[.val (.ref a1)] [(.ref a1)])) rfl (hb hby d5n_8)
  refine own_pre (A := T2.setTop (mkF m 19 #[.val (.ref a1)] [(.int (1 : Int32))])) (fun tt kt => ?_) ?_
  · show Steps p.tables e below (s₁.setTop (mkF m 0 #[.val (.ref a1)] [])) _
    refine XS.aloadN X0.here hx rfl (hb hby d5n_0) rfl rfl ?_
    show Steps p.tables e below (s₁.setTop (mkF m 1 #[.val (.ref a1)] [(.ref a1)])) _
    refine st1 _ ?_
    show Steps p.tables e below (T1.setTop (mkF m 4 #[.val (.ref a1)] [(.ref aE), (.ref a1)])) _
    refine acmp X1 hx rfl (cd := .eq) (x := (.ref a1)) (y := (.ref aE)) rfl rfl (pc0 := 4) (pc' := 7) (same := false) rfl (hb hby d5n_4) rfl (decide_eq_false (fun q => u1 (Value.ref.inj q))) (by decide) (by decide) ?_
    refine XS.aloadN X1.here hx rfl (hb hby d5n_7) rfl rfl ?_
    show Steps p.tables e below (T1.setTop (mkF m 8 #[.val (.ref a1)] [(.ref a1)])) _
    refine st2 _ ?_
    show Steps p.tables e below (T2.setTop (mkF m 11 #[.val (.ref a1)] [(.ref a1), (.ref a1)])) _
    refine acmp X2 hx rfl (cd := .ne) (x := (.ref a1)) (y := (.ref a1)) rfl rfl (pc0 := 11) (pc' := 14) (same := true) rfl (hb hby d5n_11) rfl (decide_eq_true (congrArg Value.ref rfl)) (by decide) (by decide) ?_
    refine XS.iconst X2.here hx rfl (hb hby d5n_14) ?_
    refine XS.goto X2.here hx rfl (pc0 := 15) (pc' := 19) rfl (hb hby d5n_15) (by decide) (by decide) ?_
    exact kt
  show own_End p e below s (T2.setTop (mkF m 19 #[.val (.ref a1)] [(.int (1 : Int32))])) (Q5n Z a1 aE h0 n0) ({ frames := 0, cells := 0, slots := 0, locals := 0 } : Room).cells ({ frames := 0, cells := 0, slots := 0, locals := 0 } : Room).slots
  obtain ⟨fs, hr, hrun, hended, hW, hsame⟩ := X2.leave (v := some (.int (1 : Int32))) (fun h => by rw [Bd.returns] at h; cases h)
  refine ⟨_, _, ?_, hrun, hended, _, _, rfl, ?_, ⟨_, rfl⟩, hW, hsame.mono (by decide) (by decide)⟩
  · exact retN X2 hx (t := .boolean) Bd.returns (by simp) (hb hby d5n_19) hr
  · show Q5n Z a1 aE h0 n0 _ T2.heap _
    rw [e2]
    exact ⟨rfl, N0, rfl⟩
theorem d5o_0 : decode prog_111_method_5_code 0 = .ok (.aload_n 0, 1) := by decide +kernel
theorem d5o_1 : decode prog_111_method_5_code 1 = .ok (.getstatic 3, 3) := by decide +kernel
theorem d5o_4 : decode prog_111_method_5_code 4 = .ok (.if_acmp .eq 10, 3) := by decide +kernel
theorem d5o_7 : decode prog_111_method_5_code 7 = .ok (.aload_n 0, 1) := by decide +kernel
theorem d5o_8 : decode prog_111_method_5_code 8 = .ok (.getstatic 7, 3) := by decide +kernel
theorem d5o_11 : decode prog_111_method_5_code 11 = .ok (.if_acmp .ne 7, 3) := by decide +kernel
theorem d5o_18 : decode prog_111_method_5_code 18 = .ok (.iconst 0, 1) := by decide +kernel
theorem d5o_19 : decode prog_111_method_5_code 19 = .ok (.ireturn, 1) := by decide +kernel
theorem pn_5o : plainName "com/example/solmap/solmap/sparql/Expression$Operator" = true := by first | (simp [plainName, overriddenIn]; done) | decide +kernel
theorem ef_5o (m : MethodId) (x0 : Addr) : entryFrame m #[(.ref x0)] 1 = mkF m 0 #[.val (.ref x0)] [] := by first | (simp [entryFrame, mkF, argsToLocals, Value.category]; done) | rfl
def Q5o (Z : State) (a1 : Addr) (aE : Addr) (aN : Addr) (h0 : Heap) (n0 : Nat) (v : Option Value) (h : Heap) (L : List Loc) : Prop := v = some (.int (0 : Int32)) ∧ Fr n0 L ∧ h = h0
set_option maxRecDepth 65536 in
set_option maxHeartbeats 40000000 in
theorem rm5o (l : Launch) (Z : State) (a0 : Array Value) (hw : ∀ d ∈ tables_1, d.before a0 Z = true) (ws : List Jvm.Cond) (a1 : Addr) (aE : Addr) (aN : Addr) (h0 : Heap) (n0 : Nat) (Z0 : n0 ≤ h0.size) (T1 : Sta Z h0 "com/example/solmap/solmap/sparql/Expression$Operator" "EQUAL" "Lcom/example/solmap/solmap/sparql/Expression$Operator;" (.ref aE)) (T2 : Sta Z h0 "com/example/solmap/solmap/sparql/Expression$Operator" "NOT_EQUAL" "Lcom/example/solmap/solmap/sparql/Expression$Operator;" (.ref aN)) (u1 : a1 ≠ aE) (u2 : a1 ≠ aN) :
    MetFree l (⟨"com/example/solmap/solmap/sparql/Expression$Operator", "isEquality", "()Z"⟩ : MethodName) (head1 (Jvm.Cond.code (⟨"com/example/solmap/solmap/sparql/Expression$Operator", "isEquality", "()Z"⟩ : MethodName) prog_111_method_5_code 1 (some .boolean) :: ws) ({ frames := 0, cells := 0, slots := 0, locals := 0 } : Room)) (fun a U => a = #[(.ref a1)] ∧ Z.Warmed39 U.vm ∧ U.heap = h0) (fun _ _ _ _ _ => True) (fun _ U o U' => ∃ v L, o = .returned v ∧ Q5o Z a1 aE aN h0 n0 v U'.heap L ∧ FrameEnd U o U' L ({ frames := 0, cells := 0, slots := 0, locals := 0 } : Room).cells ({ frames := 0, cells := 0, slots := 0, locals := 0 } : Room).slots) := by
  refine MetFree.of_bodySF (plainFor_of_name pn_5o) hisR ?_
  intro p e s m args below meth c s₁ Bd hml0 hP hK
  obtain ⟨rfl, hZ, hh⟩ := hP
  have hx := Bd.exec
  have hby := Bd.bytes
  have hml : c.maxLocals = 1 := hml0
  have hown : s.vm.findClass "com/example/solmap/solmap/sparql/Expression$Operator" = some m.cls := findClass_of_methodNamed Bd.named
  have hnm := (name_of_methodNamed Bd.named Bd.method).1
  have X0 : Stand p l e ({ frames := 0, cells := 0, slots := 0, locals := 0 } : Room) s m #[(.ref a1)] below meth c s₁ [] 0 0 := Stand.of_body Bd
  have e0 : s₁.heap = h0 := by rw [← hh, Bd.state]; rfl
  have N0 := Fr.nil n0
  show own_End p e below s (s₁.setTop (entryFrame m #[(.ref a1)] 1)) (Q5o Z a1 aE aN h0 n0) ({ frames := 0, cells := 0, slots := 0, locals := 0 } : Room).cells ({ frames := 0, cells := 0, slots := 0, locals := 0 } : Room).slots
  refine own_pre (A := s₁.setTop (mkF m 0 #[.val (.ref a1)] [])) (fun tt kt => castTop (ef_5o m a1) kt) ?_
  show own_End p e below s (s₁.setTop (mkF m 0 #[.val (.ref a1)] [])) (Q5o Z a1 aE aN h0 n0) ({ frames := 0, cells := 0, slots := 0, locals := 0 } : Room).cells ({ frames := 0, cells := 0, slots := 0, locals := 0 } : Room).slots
  obtain ⟨T1, X1, e1, st1⟩ := getS2 X0 hx hZ hown (host := "") (Or.inl (hw _ (List.mem_of_getElem? (i := 42) rfl))) Via.refl e0 T1 (g := (mkF m 1 #[.val (.ref a1)] [(.ref a1)])) rfl (hb hby d5o_1)
  obtain ⟨T2, X2, e2, st2⟩ := getS2 X1 hx hZ hown (host := "") (Or.inl (hw _ (List.mem_of_getElem? (i := 46) rfl))) Via.refl e1 T2 (g := (mkF m 8 #[.val (.ref a1)] [(.ref a1)])) rfl (hb hby d5o_8)
  refine own_pre (A := T2.setTop (mkF m 19 #[.val (.ref a1)] [(.int (0 : Int32))])) (fun tt kt => ?_) ?_
  · show Steps p.tables e below (s₁.setTop (mkF m 0 #[.val (.ref a1)] [])) _
    refine XS.aloadN X0.here hx rfl (hb hby d5o_0) rfl rfl ?_
    show Steps p.tables e below (s₁.setTop (mkF m 1 #[.val (.ref a1)] [(.ref a1)])) _
    refine st1 _ ?_
    show Steps p.tables e below (T1.setTop (mkF m 4 #[.val (.ref a1)] [(.ref aE), (.ref a1)])) _
    refine acmp X1 hx rfl (cd := .eq) (x := (.ref a1)) (y := (.ref aE)) rfl rfl (pc0 := 4) (pc' := 7) (same := false) rfl (hb hby d5o_4) rfl (decide_eq_false (fun q => u1 (Value.ref.inj q))) (by decide) (by decide) ?_
    refine XS.aloadN X1.here hx rfl (hb hby d5o_7) rfl rfl ?_
    show Steps p.tables e below (T1.setTop (mkF m 8 #[.val (.ref a1)] [(.ref a1)])) _
    refine st2 _ ?_
    show Steps p.tables e below (T2.setTop (mkF m 11 #[.val (.ref a1)] [(.ref aN), (.ref a1)])) _
    refine acmp X2 hx rfl (cd := .ne) (x := (.ref a1)) (y := (.ref aN)) rfl rfl (pc0 := 11) (pc' := 18) (same := false) rfl (hb hby d5o_11) rfl (decide_eq_false (fun q => u2 (Value.ref.inj q))) (by decide) (by decide) ?_
    refine XS.iconst X2.here hx rfl (hb hby d5o_18) ?_
    exact kt
  show own_End p e below s (T2.setTop (mkF m 19 #[.val (.ref a1)] [(.int (0 : Int32))])) (Q5o Z a1 aE aN h0 n0) ({ frames := 0, cells := 0, slots := 0, locals := 0 } : Room).cells ({ frames := 0, cells := 0, slots := 0, locals := 0 } : Room).slots
  obtain ⟨fs, hr, hrun, hended, hW, hsame⟩ := X2.leave (v := some (.int (0 : Int32))) (fun h => by rw [Bd.returns] at h; cases h)
  refine ⟨_, _, ?_, hrun, hended, _, _, rfl, ?_, ⟨_, rfl⟩, hW, hsame.mono (by decide) (by decide)⟩
  · exact retN X2 hx (t := .boolean) Bd.returns (by simp) (hb hby d5o_19) hr
  · show Q5o Z a1 aE aN h0 n0 _ T2.heap _
    rw [e2]
    exact ⟨rfl, N0, rfl⟩
theorem pn_0 : plainName "com/example/solmap/solmap/sparql/OperatorIsEqualityPinLaw" = true := by first | (simp [plainName, overriddenIn]; done) | decide +kernel
theorem pd_0_0 : parseMethodDescriptor "(I)Lcom/example/solmap/solmap/sparql/Expression$Operator;" = some ⟨[.int], some (.object "com/example/solmap/solmap/sparql/Expression$Operator")⟩ := by decide +kernel
theorem pd_0_1 : parseMethodDescriptor "()Ljava/lang/String;" = some ⟨[], some (.object "java/lang/String")⟩ := by decide +kernel
theorem pd_0_2 : parseMethodDescriptor "(Ljava/lang/Object;)Z" = some ⟨[(.object "java/lang/Object")], some .boolean⟩ := by decide +kernel
theorem pd_0_3 : parseMethodDescriptor "()Z" = some ⟨[], some .boolean⟩ := by decide +kernel
theorem ef_0 (m : MethodId) (x0 : Int32) : entryFrame m #[(.int x0)] maxLocals = mkF m 0 #[.val (.int x0), .unset, .unset, .unset, .unset, .unset] [] := by first | (simp [entryFrame, mkF, argsToLocals, Value.category, maxLocals]; done) | rfl
def Q0 (Z : State) (p1 : Int32) (GA : Int32) (ad0 : Addr) (sd0 : Addr) (vd0 : Addr) (ad1 : Addr) (sd1 : Addr) (vd1 : Addr) (ad2 : Addr) (sd2 : Addr) (vd2 : Addr) (ad3 : Addr) (sd3 : Addr) (vd3 : Addr) (ad4 : Addr) (sd4 : Addr) (vd4 : Addr) (ad5 : Addr) (sd5 : Addr) (vd5 : Addr) (h0 : Heap) (n0 : Nat) (v : Option Value) (h : Heap) (L : List Loc) : Prop := v = some (.int (1 : Int32)) ∧ Fr n0 L
set_option maxRecDepth 65536 in
set_option maxHeartbeats 40000000 in
theorem rm0 (l : Launch) (Z : State) (a0 : Array Value) (hw : ∀ d ∈ tables_1, d.before a0 Z = true) (ws : List Jvm.Cond) (p1 : Int32) (GA : Int32) (ad0 : Addr) (sd0 : Addr) (vd0 : Addr) (ad1 : Addr) (sd1 : Addr) (vd1 : Addr) (ad2 : Addr) (sd2 : Addr) (vd2 : Addr) (ad3 : Addr) (sd3 : Addr) (vd3 : Addr) (ad4 : Addr) (sd4 : Addr) (vd4 : Addr) (ad5 : Addr) (sd5 : Addr) (vd5 : Addr) (h0 : Heap) (n0 : Nat) (Z0 : n0 ≤ h0.size) (O2 : Sta Z h0 "java/lang/String" "COMPACT_STRINGS" "Z" (.int GA)) (P5 : ¬ (GA = (0 : Int32))) (hn0 : n0 = h0.size) (hZh : Z.heap = h0) (hheld39 : own_held Z "com/example/solmap/solmap/sparql/OperatorIsEqualityPinLaw" 39) (hheld47 : own_held Z "com/example/solmap/solmap/sparql/OperatorIsEqualityPinLaw" 47) (hcw : own_cw.before a0 Z = true) (T_0 : Sta Z h0 "com/example/solmap/solmap/sparql/Expression$Operator" "EQUAL" "Lcom/example/solmap/solmap/sparql/Expression$Operator;" (.ref ad0)) (O_0 : own_Op Z h0 ad0 sd0) (S_0 : own_Str Z h0 sd0 vd0 (0 : Int32)) (V_0 : own_Arr Z h0 vd0 .byte (1 : Int32) (fun i => Value.int (own_g0 i))) (T_1 : Sta Z h0 "com/example/solmap/solmap/sparql/Expression$Operator" "NOT_EQUAL" "Lcom/example/solmap/solmap/sparql/Expression$Operator;" (.ref ad1)) (O_1 : own_Op Z h0 ad1 sd1) (S_1 : own_Str Z h0 sd1 vd1 (0 : Int32)) (V_1 : own_Arr Z h0 vd1 .byte (2 : Int32) (fun i => Value.int (own_g1 i))) (T_2 : Sta Z h0 "com/example/solmap/solmap/sparql/Expression$Operator" "LESS" "Lcom/example/solmap/solmap/sparql/Expression$Operator;" (.ref ad2)) (O_2 : own_Op Z h0 ad2 sd2) (S_2 : own_Str Z h0 sd2 vd2 (0 : Int32)) (V_2 : own_Arr Z h0 vd2 .byte (1 : Int32) (fun i => Value.int (own_g2 i))) (T_3 : Sta Z h0 "com/example/solmap/solmap/sparql/Expression$Operator" "GREATER" "Lcom/example/solmap/solmap/sparql/Expression$Operator;" (.ref ad3)) (O_3 : own_Op Z h0 ad3 sd3) (S_3 : own_Str Z h0 sd3 vd3 (0 : Int32)) (V_3 : own_Arr Z h0 vd3 .byte (1 : Int32) (fun i => Value.int (own_g3 i))) (T_4 : Sta Z h0 "com/example/solmap/solmap/sparql/Expression$Operator" "LESS_OR_EQUAL" "Lcom/example/solmap/solmap/sparql/Expression$Operator;" (.ref ad4)) (O_4 : own_Op Z h0 ad4 sd4) (S_4 : own_Str Z h0 sd4 vd4 (0 : Int32)) (V_4 : own_Arr Z h0 vd4 .byte (2 : Int32) (fun i => Value.int (own_g4 i))) (T_5 : Sta Z h0 "com/example/solmap/solmap/sparql/Expression$Operator" "GREATER_OR_EQUAL" "Lcom/example/solmap/solmap/sparql/Expression$Operator;" (.ref ad5)) (O_5 : own_Op Z h0 ad5 sd5) (S_5 : own_Str Z h0 sd5 vd5 (0 : Int32)) (V_5 : own_Arr Z h0 vd5 .byte (2 : Int32) (fun i => Value.int (own_g5 i))) (ne1_0 : ad1 ≠ ad0) (ne2_0 : ad2 ≠ ad0) (ne3_0 : ad3 ≠ ad0) (ne4_0 : ad4 ≠ ad0) (ne5_0 : ad5 ≠ ad0) (ne2_1 : ad2 ≠ ad1) (ne3_1 : ad3 ≠ ad1) (ne4_1 : ad4 ≠ ad1) (ne5_1 : ad5 ≠ ad1) :
    MetFree l x (head1 (Jvm.Cond.code x code maxLocals ret :: ws) room_1) (fun a U => a = #[(.int p1)] ∧ Z.Warmed39 U.vm ∧ U.heap = h0 ∧ U.vm = Z.vm) (fun _ _ _ _ _ => True) (fun _ U o U' => ∃ v L, o = .returned v ∧ Q0 Z p1 GA ad0 sd0 vd0 ad1 sd1 vd1 ad2 sd2 vd2 ad3 sd3 vd3 ad4 sd4 vd4 ad5 sd5 vd5 h0 n0 v U'.heap L ∧ ReturnedEndW U o U' L room_1.cells room_1.slots) := by
  refine MetFree.of_bodySF (plainFor_of_name pn_0) hisR ?_
  intro p e s m args below meth c s₁ Bd hml0 hP hK
  obtain ⟨rfl, hZ, hh, hvm⟩ := hP
  have hx := Bd.exec
  have hby := Bd.bytes
  have hml : c.maxLocals = 6 := hml0
  have hown : s.vm.findClass "com/example/solmap/solmap/sparql/OperatorIsEqualityPinLaw" = some m.cls := findClass_of_methodNamed Bd.named
  have hnm := (name_of_methodNamed Bd.named Bd.method).1
  have X0 : Stand p l e room_1 s m #[(.int p1)] below meth c s₁ [] 0 0 := Stand.of_body Bd
  have e0 : s₁.heap = h0 := by rw [← hh, Bd.state]; rfl
  have N0 := Fr.nil n0
  replace X0 : Stand p l e room_1 (s.setVm s.vm) m #[(.int p1)] below meth c s₁ [] 0 0 := X0
  replace hZ : Z.Warmed39 (s.setVm s.vm).vm := hZ
  replace hown : (s.setVm s.vm).vm.findClass "com/example/solmap/solmap/sparql/OperatorIsEqualityPinLaw" = some m.cls := hown
  have hSs : s.Since s.vm h0.size := (State.WarmedH.refl s).since _
  have hkeep := own_kp hh hZh
  have I0 : IB Z s.vm [] := hvm ▸ IB.start
  have wS := own_wS hw
  show own_EndW p e below s (s₁.setTop (entryFrame m #[(.int p1)] maxLocals)) (Q0 Z p1 GA ad0 sd0 vd0 ad1 sd1 vd1 ad2 sd2 vd2 ad3 sd3 vd3 ad4 sd4 vd4 ad5 sd5 vd5 h0 n0) room_1.cells room_1.slots
  refine own_preW (A := s₁.setTop (mkF m 0 #[.val (.int p1), .unset, .unset, .unset, .unset, .unset] [])) (fun tt kt => castTop (ef_0 m p1) kt) ?_
  show own_EndW p e below s (s₁.setTop (mkF m 0 #[.val (.int p1), .unset, .unset, .unset, .unset, .unset] [])) (Q0 Z p1 GA ad0 sd0 vd0 ad1 sd1 vd1 ad2 sd2 vd2 ad3 sd3 vd3 ad4 sd4 vd4 ad5 sd5 vd5 h0 n0) room_1.cells room_1.slots
  refine own_preW (A := s₁.setTop (mkF m 8 #[.val (.int p1), .val (.int ((p1 &&& (2147483647 : Int32)) % (6 : Int32))), .unset, .unset, .unset, .unset] [])) (fun tt kt => ?_) ?_
  · show Steps p.tables e below (s₁.setTop (mkF m 0 #[.val (.int p1), .unset, .unset, .unset, .unset, .unset] [])) _
    refine XS.iloadN X0.here hx rfl (hb hby at_0) rfl ?_
    show Steps p.tables e below (s₁.setTop (mkF m 1 #[.val (.int p1), .unset, .unset, .unset, .unset, .unset] [(.int p1)])) _
    refine X0.ldcInt hx hown (mvT hZ (hw _ (List.mem_of_getElem? (i := 0) rfl))) (g := (mkF m 1 #[.val (.int p1), .unset, .unset, .unset, .unset, .unset] [(.int p1)])) rfl (hb hby at_1) _ ?_
    show Steps p.tables e below (s₁.setTop (mkF m 3 #[.val (.int p1), .unset, .unset, .unset, .unset, .unset] [(.int (2147483647 : Int32)), (.int p1)])) _
    refine XS.iand X0.here hx rfl (hb hby at_3) rfl ?_
    refine XS.bipush X0.here hx rfl (hb hby at_4) ?_
    refine iremM X0 hx rfl (hb hby at_6) rfl (by decide : ¬ ((6 : Int32) = (0 : Int32))) ?_
    refine XS.istoreN X0.here hx rfl (hb hby at_7) rfl (l' := #[.val (.int p1), .val (.int ((p1 &&& (2147483647 : Int32)) % (6 : Int32))), .unset, .unset, .unset, .unset]) rfl ?_
    exact kt
  show own_EndW p e below s (s₁.setTop (mkF m 8 #[.val (.int p1), .val (.int ((p1 &&& (2147483647 : Int32)) % (6 : Int32))), .unset, .unset, .unset, .unset] [])) (Q0 Z p1 GA ad0 sd0 vd0 ad1 sd1 vd1 ad2 sd2 vd2 ad3 sd3 vd3 ad4 sd4 vd4 ad5 sd5 vd5 h0 n0) room_1.cells room_1.slots
  obtain ⟨iv, e_iv⟩ : ∃ z : Int32, z = ((p1 &&& (2147483647 : Int32)) % (6 : Int32)) := ⟨_, rfl⟩
  rw [← e_iv]
  by_cases hs1_0 : iv = (0 : Int32)
  · rw [hs1_0]
    obtain ⟨E_ad0_2, F_symbol_ad0_3⟩ := O_0
    obtain ⟨E_sd0_4, F_value_sd0_5, F_coder_sd0_6⟩ := S_0
    obtain ⟨_, _, ⟨T7, L7, k7, n7⟩, -, X7, ⟨Lc7, hQ7, l7, y7, z7⟩, st7⟩ := Jvm.LawKit.callS X0 hx (y := (⟨"com/example/solmap/solmap/sparql/OperatorIsEqualityPinLaw", "pick", "(I)Lcom/example/solmap/solmap/sparql/Expression$Operator;"⟩ : MethodName)) hown (mvT hZ (hw _ (List.mem_of_getElem? (i := 1) rfl))) (mvT hZ (hw _ (List.mem_of_getElem? (i := 2) rfl))) (mvT hZ (hw _ (List.mem_of_getElem? (i := 3) rfl))) (mvT hZ (hw _ (List.mem_of_getElem? (i := 4) rfl))) (by decide) (backOf (W := 0) (rm1k0 l Z a0 hw []  ad0 h0 n0 Z0 T_0) hZ (hw _ (List.mem_of_getElem? (i := 4) rfl)) (hw _ (List.mem_of_getElem? (i := 3) rfl)) (by decide) (by decide)) (g := (mkF m 9 #[.val (.int p1), .val (.int (0 : Int32)), .unset, .unset, .unset, .unset] [(.int (0 : Int32))])) rfl (by rw [hml]; rfl) (argsL := [(.int (0 : Int32))]) (rest := []) (lenOf pd_0_0 rfl) rfl (by show 2 * 0 + _ ≤ _; exact Nat.le_of_eq rfl) (hb hby at_9) (fun _ _ => ⟨rfl, e0, (by decide : 0 + 0 ≤ _), (by decide : 0 + 0 ≤ _)⟩)
    dsimp only [Pt.U, Pt.locs, Pt.cells, Pt.slots] at X7 l7 y7 z7 st7 hQ7
    subst l7 y7 z7
    obtain ⟨rfl, N7q, e7⟩ := hQ7
    have N7 := Fr.app N0 N7q
    obtain ⟨cq8, kq8, q8a, q8b, q8c⟩ := isOf hZ e7 E_ad0_2
    obtain ⟨_, _, ⟨T8, L8, k8, n8⟩, -, X8, ⟨Lc8, hQ8, l8, y8, z8⟩, st8⟩ := X7.virtualBack hx (y := (⟨"com/example/solmap/solmap/sparql/Expression$Operator", "symbol", "()Ljava/lang/String;"⟩ : MethodName)) (z := (⟨"com/example/solmap/solmap/sparql/Expression$Operator", "symbol", "()Ljava/lang/String;"⟩ : MethodName)) hown (mvT hZ (hw _ (List.mem_of_getElem? (i := 8) rfl))) (mvT hZ (hw _ (List.mem_of_getElem? (i := 9) rfl))) (notFace_of_selects (args := #[]) (mvT hZ (hw _ (List.mem_of_getElem? (i := 11) rfl)))) (mvT hZ (hw _ (List.mem_of_getElem? (i := 11) rfl))) (mvT hZ (hw _ (List.mem_of_getElem? (i := 10) rfl))) (by decide) (backOf (W := 0) (rm2 l Z a0 hw [] ad0 sd0 h0 n0 Z0 ⟨E_ad0_2, F_symbol_ad0_3⟩) hZ (hw _ (List.mem_of_getElem? (i := 12) rfl)) (hw _ (List.mem_of_getElem? (i := 6) rfl)) (by decide) (by decide)) q8a q8c (g := (mkF m 29 #[.val (.int p1), .val (.int (0 : Int32)), .val (.ref ad0), .val (.int (1 : Int32)), .unset, .unset] [(.ref ad0)])) rfl (by rw [hml]; rfl) (Steps.refl _) (argsL := []) (rest := []) (lenOf pd_0_1 rfl) rfl (by show 2 * 0 + _ ≤ _; exact Nat.le_of_eq rfl) (hb hby at_29) (fun _ _ => ⟨rfl, e7, (by decide : 0 + 0 ≤ _), (by decide : 0 + 0 ≤ _)⟩)
    dsimp only [Pt.U, Pt.locs, Pt.cells, Pt.slots] at X8 l8 y8 z8 st8 hQ8
    subst l8 y8 z8
    obtain ⟨rfl, N8q, e8⟩ := hQ8
    have N8 := Fr.app N7 N8q
    obtain ⟨a9, T9, h9, b9, X9, e9, E9, hSs, hZ, hown, A9, C9, V9, R9, I9, Lt9, Wv9, st9⟩ := own_ldc (s := s) (vm0 := s.vm) X8 hx hZ hown (hw _ (List.mem_of_getElem? (i := 15) rfl)) wS e8 hSs (own_fr hh hn0 N8) hkeep I0 (by decide) hheld39 hcw (L := own_L39) (z := 1) ht_39 (by decide) (by decide) (g := (mkF m 36 #[.val (.int p1), .val (.int (0 : Int32)), .val (.ref ad0), .val (.int (1 : Int32)), .val (.ref sd0), .unset] [(.ref sd0)])) rfl (hb hby at_36) (n := 4) (by decide) (by decide) (by decide) (by decide)
    have fS_java_lang_String_COMPACT_STRINGS_x9 := (O2.ext E9)
    have fS_com_example_solmap_solmap_sparql_Expression_Operator_EQUAL_x9 := (T_0.ext E9)
    have fS_com_example_solmap_solmap_sparql_Expression_Operator_NOT_EQUAL_x9 := (T_1.ext E9)
    have fE_ad0_x9 := (E_ad0_2.ext E9)
    have fF_ad0_symbol_x9 := (F_symbol_ad0_3.ext E9)
    have fE_sd0_x9 := (E_sd0_4.ext E9)
    have fF_sd0_value_x9 := (F_value_sd0_5.ext E9)
    have fF_sd0_coder_x9 := (F_coder_sd0_6.ext E9)
    have fA_vd0_x9 := (V_0.ext E9)
    have K9 : Keep h0 h9 [] := Keep.ext (Keep.refl h0 _) E9
    have Z9 : n0 ≤ h9.size := Nat.le_trans Z0 E9.1
    obtain ⟨cq10, kq10, q10a, q10b, q10c⟩ := isOf hZ e9 fE_sd0_x9
    obtain ⟨_, _, ⟨T10, L10, k10, n10⟩, -, X10, ⟨Lc10, hQ10, l10, y10, z10⟩, st10⟩ := X9.virtualBack hx (y := (⟨"java/lang/String", "equals", "(Ljava/lang/Object;)Z"⟩ : MethodName)) (z := (⟨"java/lang/String", "equals", "(Ljava/lang/Object;)Z"⟩ : MethodName)) hown (mvT hZ (hw _ (List.mem_of_getElem? (i := 23) rfl))) (mvT hZ (hw _ (List.mem_of_getElem? (i := 24) rfl))) (notFace_of_selects (args := #[]) (mvT hZ (hw _ (List.mem_of_getElem? (i := 26) rfl)))) (mvT hZ (hw _ (List.mem_of_getElem? (i := 26) rfl))) (mvT hZ (hw _ (List.mem_of_getElem? (i := 25) rfl))) (by decide) (backOf (W := 0) (rm3x11 l Z a0 hw [] sd0 a9 vd0 b9 own_g0 own_c39 GA (1 : Int32) h9 n0 Z9 ⟨fE_sd0_x9, fF_sd0_value_x9, fF_sd0_coder_x9⟩ ⟨A9, V9, C9⟩ fA_vd0_x9 R9 fS_java_lang_String_COMPACT_STRINGS_x9 P5 (by decide) (fun _ => rfl) (by decide)) hZ (hw _ (List.mem_of_getElem? (i := 27) rfl)) (hw _ (List.mem_of_getElem? (i := 16) rfl)) (by decide) (by decide)) q10a q10c (g := (mkF m 38 #[.val (.int p1), .val (.int (0 : Int32)), .val (.ref ad0), .val (.int (1 : Int32)), .val (.ref sd0), .unset] [(.ref a9), (.ref sd0)])) rfl (by rw [hml]; rfl) (Steps.refl _) (argsL := [(.ref a9)]) (rest := []) (lenOf pd_0_2 rfl) rfl (by show 2 * 0 + _ ≤ _; exact Nat.le_of_eq rfl) (hb hby at_38) (fun _ _ => ⟨rfl, e9, (by decide : 2 + 0 ≤ _), (by decide : 8 + 0 ≤ _)⟩)
    dsimp only [Pt.U, Pt.locs, Pt.cells, Pt.slots] at X10 l10 y10 z10 st10 hQ10
    subst l10 y10 z10
    obtain ⟨rfl, N10q, e10⟩ := hQ10
    have N10 := Fr.app N8 N10q
    obtain ⟨cq11, kq11, q11a, q11b, q11c⟩ := isOf hZ e10 fE_ad0_x9
    obtain ⟨_, _, ⟨T11, L11, k11, n11⟩, -, X11, ⟨Lc11, hQ11, l11, y11, z11⟩, st11⟩ := X10.virtualBack hx (y := (⟨"com/example/solmap/solmap/sparql/Expression$Operator", "isEquality", "()Z"⟩ : MethodName)) (z := (⟨"com/example/solmap/solmap/sparql/Expression$Operator", "isEquality", "()Z"⟩ : MethodName)) hown (mvT hZ (hw _ (List.mem_of_getElem? (i := 37) rfl))) (mvT hZ (hw _ (List.mem_of_getElem? (i := 38) rfl))) (notFace_of_selects (args := #[]) (mvT hZ (hw _ (List.mem_of_getElem? (i := 40) rfl)))) (mvT hZ (hw _ (List.mem_of_getElem? (i := 40) rfl))) (mvT hZ (hw _ (List.mem_of_getElem? (i := 39) rfl))) (by decide) (backOf (W := 0) (rm5e l Z a0 hw [] ad0  h9 n0 Z9 fS_com_example_solmap_solmap_sparql_Expression_Operator_EQUAL_x9) hZ (hw _ (List.mem_of_getElem? (i := 41) rfl)) (hw _ (List.mem_of_getElem? (i := 6) rfl)) (by decide) (by decide)) q11a q11c (g := (mkF m 62 #[.val (.int p1), .val (.int (0 : Int32)), .val (.ref ad0), .val (.int (1 : Int32)), .val (.ref sd0), .val (.int (1 : Int32))] [(.ref ad0)])) rfl (by rw [hml]; rfl) (Steps.refl _) (argsL := []) (rest := []) (lenOf pd_0_3 rfl) rfl (by show 2 * 0 + _ ≤ _; exact Nat.le_of_eq rfl) (hb hby at_62) (fun _ _ => ⟨rfl, e10, (by decide : 2 + 0 ≤ _), (by decide : 8 + 0 ≤ _)⟩)
    dsimp only [Pt.U, Pt.locs, Pt.cells, Pt.slots] at X11 l11 y11 z11 st11 hQ11
    subst l11 y11 z11
    obtain ⟨rfl, N11q, e11⟩ := hQ11
    have N11 := Fr.app N10 N11q
    refine own_preW (A := T11.setTop (mkF m 80 #[.val (.int p1), .val (.int (0 : Int32)), .val (.ref ad0), .val (.int (1 : Int32)), .val (.ref sd0), .val (.int (1 : Int32))] [(.int (1 : Int32))])) (fun tt kt => ?_) ?_
    · show Steps p.tables e below (s₁.setTop (mkF m 8 #[.val (.int p1), .val (.int (0 : Int32)), .unset, .unset, .unset, .unset] [])) _
      refine XS.iloadN X0.here hx rfl (hb hby at_8) rfl ?_
      show Steps p.tables e below (s₁.setTop (mkF m 9 #[.val (.int p1), .val (.int (0 : Int32)), .unset, .unset, .unset, .unset] [(.int (0 : Int32))])) _
      refine st7 _ ?_
      show Steps p.tables e below (T7.setTop (mkF m 12 #[.val (.int p1), .val (.int (0 : Int32)), .unset, .unset, .unset, .unset] [(.ref ad0)])) _
      refine XS.astoreN X7.here hx rfl (hb hby at_12) rfl rfl (l' := #[.val (.int p1), .val (.int (0 : Int32)), .val (.ref ad0), .unset, .unset, .unset]) rfl ?_
      refine XS.iloadN X7.here hx rfl (hb hby at_13) rfl ?_
      refine XS.ifYes X7.here hx rfl (pc0 := 14) (pc' := 22) rfl (hb hby at_14) rfl ((if0 _ _).trans (teq ((by decide) : (0 : Int32) = (0 : Int32))).1) (by decide) (by decide) ?_
      refine XS.iconst X7.here hx rfl (hb hby at_22) ?_
      show Steps p.tables e below (T7.setTop (mkF m 23 #[.val (.int p1), .val (.int (0 : Int32)), .val (.ref ad0), .unset, .unset, .unset] [(.int (1 : Int32))])) _
      refine XS.goto X7.here hx rfl (pc0 := 23) (pc' := 27) rfl (hb hby at_23) (by decide) (by decide) ?_
      refine XS.istoreN X7.here hx rfl (hb hby at_27) rfl (l' := #[.val (.int p1), .val (.int (0 : Int32)), .val (.ref ad0), .val (.int (1 : Int32)), .unset, .unset]) rfl ?_
      refine XS.aloadN X7.here hx rfl (hb hby at_28) rfl rfl ?_
      show Steps p.tables e below (T7.setTop (mkF m 29 #[.val (.int p1), .val (.int (0 : Int32)), .val (.ref ad0), .val (.int (1 : Int32)), .unset, .unset] [(.ref ad0)])) _
      refine st8.trans ?_
      show Steps p.tables e below (T8.setTop (mkF m 32 #[.val (.int p1), .val (.int (0 : Int32)), .val (.ref ad0), .val (.int (1 : Int32)), .unset, .unset] [(.ref sd0)])) _
      refine XS.astore X8.here hx rfl (hb hby at_32) rfl rfl (l' := #[.val (.int p1), .val (.int (0 : Int32)), .val (.ref ad0), .val (.int (1 : Int32)), .val (.ref sd0), .unset]) rfl ?_
      refine XS.aload X8.here hx rfl (hb hby at_34) rfl rfl ?_
      show Steps p.tables e below (T8.setTop (mkF m 36 #[.val (.int p1), .val (.int (0 : Int32)), .val (.ref ad0), .val (.int (1 : Int32)), .val (.ref sd0), .unset] [(.ref sd0)])) _
      refine st9 _ ?_
      show Steps p.tables e below (T9.setTop (mkF m 38 #[.val (.int p1), .val (.int (0 : Int32)), .val (.ref ad0), .val (.int (1 : Int32)), .val (.ref sd0), .unset] [(.ref a9), (.ref sd0)])) _
      refine st10.trans ?_
      show Steps p.tables e below (T10.setTop (mkF m 41 #[.val (.int p1), .val (.int (0 : Int32)), .val (.ref ad0), .val (.int (1 : Int32)), .val (.ref sd0), .unset] [(.int (1 : Int32))])) _
      refine XS.ifYes X10.here hx rfl (pc0 := 41) (pc' := 54) rfl (hb hby at_41) rfl ((if0 _ _).trans (feq ((by decide) : ¬ ((1 : Int32) = (0 : Int32)))).2) (by decide) (by decide) ?_
      refine XS.iconst X10.here hx rfl (hb hby at_54) ?_
      refine XS.goto X10.here hx rfl (pc0 := 55) (pc' := 59) rfl (hb hby at_55) (by decide) (by decide) ?_
      refine XS.istore X10.here hx rfl (hb hby at_59) rfl (l' := #[.val (.int p1), .val (.int (0 : Int32)), .val (.ref ad0), .val (.int (1 : Int32)), .val (.ref sd0), .val (.int (1 : Int32))]) rfl ?_
      show Steps p.tables e below (T10.setTop (mkF m 61 #[.val (.int p1), .val (.int (0 : Int32)), .val (.ref ad0), .val (.int (1 : Int32)), .val (.ref sd0), .val (.int (1 : Int32))] [])) _
      refine XS.aloadN X10.here hx rfl (hb hby at_61) rfl rfl ?_
      show Steps p.tables e below (T10.setTop (mkF m 62 #[.val (.int p1), .val (.int (0 : Int32)), .val (.ref ad0), .val (.int (1 : Int32)), .val (.ref sd0), .val (.int (1 : Int32))] [(.ref ad0)])) _
      refine st11.trans ?_
      show Steps p.tables e below (T11.setTop (mkF m 65 #[.val (.int p1), .val (.int (0 : Int32)), .val (.ref ad0), .val (.int (1 : Int32)), .val (.ref sd0), .val (.int (1 : Int32))] [(.int (1 : Int32))])) _
      refine XS.iloadN X11.here hx rfl (hb hby at_65) rfl ?_
      refine XS.icmpNo X11.here hx rfl (hb hby at_66) rfl (teq ((by decide) : (1 : Int32) = (1 : Int32))).2 ?_
      refine XS.iloadN X11.here hx rfl (hb hby at_69) rfl ?_
      refine XS.iload X11.here hx rfl (hb hby at_70) rfl ?_
      show Steps p.tables e below (T11.setTop (mkF m 72 #[.val (.int p1), .val (.int (0 : Int32)), .val (.ref ad0), .val (.int (1 : Int32)), .val (.ref sd0), .val (.int (1 : Int32))] [(.int (1 : Int32)), (.int (1 : Int32))])) _
      refine XS.icmpNo X11.here hx rfl (hb hby at_72) rfl (teq ((by decide) : (1 : Int32) = (1 : Int32))).2 ?_
      refine XS.iconst X11.here hx rfl (hb hby at_75) ?_
      refine XS.goto X11.here hx rfl (pc0 := 76) (pc' := 80) rfl (hb hby at_76) (by decide) (by decide) ?_
      exact kt
    show own_EndW p e below s (T11.setTop (mkF m 80 #[.val (.int p1), .val (.int (0 : Int32)), .val (.ref ad0), .val (.int (1 : Int32)), .val (.ref sd0), .val (.int (1 : Int32))] [(.int (1 : Int32))])) (Q0 Z p1 GA ad0 sd0 vd0 ad1 sd1 vd1 ad2 sd2 vd2 ad3 sd3 vd3 ad4 sd4 vd4 ad5 sd5 vd5 h0 n0) room_1.cells room_1.slots
    obtain ⟨fs, hr, hrun, hended, hEnd⟩ := Stand.leaveW (s := s) (vm₁ := T9.vm) X11 hSs (by rw [e11]; exact Nat.le_refl _) (v := some (.int (1 : Int32))) (fun h => by rw [Bd.returns] at h; cases h)
    refine ⟨_, _, ?_, hrun, hended, _, _, rfl, ?_, hEnd.1, hEnd.2.1, hEnd.2.2.1, hEnd.2.2.2.mono (by decide) (by decide)⟩
    · exact retN X11 hx (t := .boolean) Bd.returns (by simp) (hb hby at_80) hr
    · show Q0 Z p1 GA ad0 sd0 vd0 ad1 sd1 vd1 ad2 sd2 vd2 ad3 sd3 vd3 ad4 sd4 vd4 ad5 sd5 vd5 h0 n0 _ T11.heap _
      rw [e11]
      exact ⟨rfl, N11⟩
  by_cases hs1_1 : iv = (1 : Int32)
  · rw [hs1_1]
    obtain ⟨E_ad1_12, F_symbol_ad1_13⟩ := O_1
    obtain ⟨E_sd1_14, F_value_sd1_15, F_coder_sd1_16⟩ := S_1
    obtain ⟨_, _, ⟨T17, L17, k17, n17⟩, -, X17, ⟨Lc17, hQ17, l17, y17, z17⟩, st17⟩ := Jvm.LawKit.callS X0 hx (y := (⟨"com/example/solmap/solmap/sparql/OperatorIsEqualityPinLaw", "pick", "(I)Lcom/example/solmap/solmap/sparql/Expression$Operator;"⟩ : MethodName)) hown (mvT hZ (hw _ (List.mem_of_getElem? (i := 1) rfl))) (mvT hZ (hw _ (List.mem_of_getElem? (i := 2) rfl))) (mvT hZ (hw _ (List.mem_of_getElem? (i := 3) rfl))) (mvT hZ (hw _ (List.mem_of_getElem? (i := 4) rfl))) (by decide) (backOf (W := 0) (rm1k1 l Z a0 hw []  ad1 h0 n0 Z0 T_1) hZ (hw _ (List.mem_of_getElem? (i := 4) rfl)) (hw _ (List.mem_of_getElem? (i := 3) rfl)) (by decide) (by decide)) (g := (mkF m 9 #[.val (.int p1), .val (.int (1 : Int32)), .unset, .unset, .unset, .unset] [(.int (1 : Int32))])) rfl (by rw [hml]; rfl) (argsL := [(.int (1 : Int32))]) (rest := []) (lenOf pd_0_0 rfl) rfl (by show 2 * 0 + _ ≤ _; exact Nat.le_of_eq rfl) (hb hby at_9) (fun _ _ => ⟨rfl, e0, (by decide : 0 + 0 ≤ _), (by decide : 0 + 0 ≤ _)⟩)
    dsimp only [Pt.U, Pt.locs, Pt.cells, Pt.slots] at X17 l17 y17 z17 st17 hQ17
    subst l17 y17 z17
    obtain ⟨rfl, N17q, e17⟩ := hQ17
    have N17 := Fr.app N0 N17q
    obtain ⟨cq18, kq18, q18a, q18b, q18c⟩ := isOf hZ e17 E_ad1_12
    obtain ⟨_, _, ⟨T18, L18, k18, n18⟩, -, X18, ⟨Lc18, hQ18, l18, y18, z18⟩, st18⟩ := X17.virtualBack hx (y := (⟨"com/example/solmap/solmap/sparql/Expression$Operator", "symbol", "()Ljava/lang/String;"⟩ : MethodName)) (z := (⟨"com/example/solmap/solmap/sparql/Expression$Operator", "symbol", "()Ljava/lang/String;"⟩ : MethodName)) hown (mvT hZ (hw _ (List.mem_of_getElem? (i := 8) rfl))) (mvT hZ (hw _ (List.mem_of_getElem? (i := 9) rfl))) (notFace_of_selects (args := #[]) (mvT hZ (hw _ (List.mem_of_getElem? (i := 11) rfl)))) (mvT hZ (hw _ (List.mem_of_getElem? (i := 11) rfl))) (mvT hZ (hw _ (List.mem_of_getElem? (i := 10) rfl))) (by decide) (backOf (W := 0) (rm2 l Z a0 hw [] ad1 sd1 h0 n0 Z0 ⟨E_ad1_12, F_symbol_ad1_13⟩) hZ (hw _ (List.mem_of_getElem? (i := 12) rfl)) (hw _ (List.mem_of_getElem? (i := 6) rfl)) (by decide) (by decide)) q18a q18c (g := (mkF m 29 #[.val (.int p1), .val (.int (1 : Int32)), .val (.ref ad1), .val (.int (1 : Int32)), .unset, .unset] [(.ref ad1)])) rfl (by rw [hml]; rfl) (Steps.refl _) (argsL := []) (rest := []) (lenOf pd_0_1 rfl) rfl (by show 2 * 0 + _ ≤ _; exact Nat.le_of_eq rfl) (hb hby at_29) (fun _ _ => ⟨rfl, e17, (by decide : 0 + 0 ≤ _), (by decide : 0 + 0 ≤ _)⟩)
    dsimp only [Pt.U, Pt.locs, Pt.cells, Pt.slots] at X18 l18 y18 z18 st18 hQ18
    subst l18 y18 z18
    obtain ⟨rfl, N18q, e18⟩ := hQ18
    have N18 := Fr.app N17 N18q
    obtain ⟨a19, T19, h19, b19, X19, e19, E19, hSs, hZ, hown, A19, C19, V19, R19, I19, Lt19, Wv19, st19⟩ := own_ldc (s := s) (vm0 := s.vm) X18 hx hZ hown (hw _ (List.mem_of_getElem? (i := 15) rfl)) wS e18 hSs (own_fr hh hn0 N18) hkeep I0 (by decide) hheld39 hcw (L := own_L39) (z := 1) ht_39 (by decide) (by decide) (g := (mkF m 36 #[.val (.int p1), .val (.int (1 : Int32)), .val (.ref ad1), .val (.int (1 : Int32)), .val (.ref sd1), .unset] [(.ref sd1)])) rfl (hb hby at_36) (n := 4) (by decide) (by decide) (by decide) (by decide)
    have fS_java_lang_String_COMPACT_STRINGS_x19 := (O2.ext E19)
    have fS_com_example_solmap_solmap_sparql_Expression_Operator_NOT_EQUAL_x19 := (T_1.ext E19)
    have fS_com_example_solmap_solmap_sparql_Expression_Operator_EQUAL_x19 := (T_0.ext E19)
    have fE_ad1_x19 := (E_ad1_12.ext E19)
    have fF_ad1_symbol_x19 := (F_symbol_ad1_13.ext E19)
    have fE_sd1_x19 := (E_sd1_14.ext E19)
    have fF_sd1_value_x19 := (F_value_sd1_15.ext E19)
    have fF_sd1_coder_x19 := (F_coder_sd1_16.ext E19)
    have fA_vd1_x19 := (V_1.ext E19)
    have K19 : Keep h0 h19 [] := Keep.ext (Keep.refl h0 _) E19
    have Z19 : n0 ≤ h19.size := Nat.le_trans Z0 E19.1
    obtain ⟨cq20, kq20, q20a, q20b, q20c⟩ := isOf hZ e19 fE_sd1_x19
    obtain ⟨_, _, ⟨T20, L20, k20, n20⟩, -, X20, ⟨Lc20, hQ20, l20, y20, z20⟩, st20⟩ := X19.virtualBack hx (y := (⟨"java/lang/String", "equals", "(Ljava/lang/Object;)Z"⟩ : MethodName)) (z := (⟨"java/lang/String", "equals", "(Ljava/lang/Object;)Z"⟩ : MethodName)) hown (mvT hZ (hw _ (List.mem_of_getElem? (i := 23) rfl))) (mvT hZ (hw _ (List.mem_of_getElem? (i := 24) rfl))) (notFace_of_selects (args := #[]) (mvT hZ (hw _ (List.mem_of_getElem? (i := 26) rfl)))) (mvT hZ (hw _ (List.mem_of_getElem? (i := 26) rfl))) (mvT hZ (hw _ (List.mem_of_getElem? (i := 25) rfl))) (by decide) (backOf (W := 0) (rm3x21 l Z a0 hw [] sd1 a19 vd1 b19 own_g1 own_c39 GA (0 : Int32) h19 n0 Z19 ⟨fE_sd1_x19, fF_sd1_value_x19, fF_sd1_coder_x19⟩ ⟨A19, V19, C19⟩ fA_vd1_x19 R19 fS_java_lang_String_COMPACT_STRINGS_x19 P5 (by decide) (fun q => absurd q (own_strNe ⟨fE_sd1_x19, fF_sd1_value_x19, fF_sd1_coder_x19⟩ fA_vd1_x19 ⟨A19, V19, C19⟩ R19 (Or.inl (by decide)))) (by decide)) hZ (hw _ (List.mem_of_getElem? (i := 27) rfl)) (hw _ (List.mem_of_getElem? (i := 16) rfl)) (by decide) (by decide)) q20a q20c (g := (mkF m 38 #[.val (.int p1), .val (.int (1 : Int32)), .val (.ref ad1), .val (.int (1 : Int32)), .val (.ref sd1), .unset] [(.ref a19), (.ref sd1)])) rfl (by rw [hml]; rfl) (Steps.refl _) (argsL := [(.ref a19)]) (rest := []) (lenOf pd_0_2 rfl) rfl (by show 2 * 0 + _ ≤ _; exact Nat.le_of_eq rfl) (hb hby at_38) (fun _ _ => ⟨rfl, e19, (by decide : 2 + 0 ≤ _), (by decide : 8 + 0 ≤ _)⟩)
    dsimp only [Pt.U, Pt.locs, Pt.cells, Pt.slots] at X20 l20 y20 z20 st20 hQ20
    subst l20 y20 z20
    obtain ⟨rfl, N20q, e20⟩ := hQ20
    have N20 := Fr.app N18 N20q
    obtain ⟨a21, T21, h21, b21, X21, e21, E21, hSs, hZ, hown, A21, C21, V21, R21, I21, Lt21, Wv21, st21⟩ := own_ldc (s := s) (vm0 := T19.vm) X20 hx hZ hown (hw _ (List.mem_of_getElem? (i := 45) rfl)) wS e20 hSs (own_fr hh hn0 N20) hkeep I19 (by decide) hheld47 hcw (L := own_L47) (z := 2) ht_47 (by decide) (by decide) (g := (mkF m 46 #[.val (.int p1), .val (.int (1 : Int32)), .val (.ref ad1), .val (.int (1 : Int32)), .val (.ref sd1), .unset] [(.ref sd1)])) rfl (hb hby at_46) (n := 8) (by decide) (by decide) (by decide) (by decide)
    have fS_java_lang_String_COMPACT_STRINGS_x21 := (fS_java_lang_String_COMPACT_STRINGS_x19.ext E21)
    have fS_com_example_solmap_solmap_sparql_Expression_Operator_NOT_EQUAL_x21 := (fS_com_example_solmap_solmap_sparql_Expression_Operator_NOT_EQUAL_x19.ext E21)
    have fS_com_example_solmap_solmap_sparql_Expression_Operator_EQUAL_x21 := (fS_com_example_solmap_solmap_sparql_Expression_Operator_EQUAL_x19.ext E21)
    have fE_ad1_x21 := (fE_ad1_x19.ext E21)
    have fF_ad1_symbol_x21 := (fF_ad1_symbol_x19.ext E21)
    have fE_sd1_x21 := (fE_sd1_x19.ext E21)
    have fF_sd1_value_x21 := (fF_sd1_value_x19.ext E21)
    have fF_sd1_coder_x21 := (fF_sd1_coder_x19.ext E21)
    have fA_vd1_x21 := (fA_vd1_x19.ext E21)
    have fE_a19_x21 := (A19.ext E21)
    have fF_a19_coder_x21 := (C19.ext E21)
    have fF_a19_value_x21 := (V19.ext E21)
    have fA_b19_x21 := (R19.ext E21)
    have Lt21_39 := Lit.stays Lt19 Wv21
    have K21 : Keep h0 h21 [] := Keep.ext K19 E21
    have Z21 : n0 ≤ h21.size := Nat.le_trans Z19 E21.1
    obtain ⟨cq22, kq22, q22a, q22b, q22c⟩ := isOf hZ e21 fE_sd1_x21
    obtain ⟨_, _, ⟨T22, L22, k22, n22⟩, -, X22, ⟨Lc22, hQ22, l22, y22, z22⟩, st22⟩ := X21.virtualBack hx (y := (⟨"java/lang/String", "equals", "(Ljava/lang/Object;)Z"⟩ : MethodName)) (z := (⟨"java/lang/String", "equals", "(Ljava/lang/Object;)Z"⟩ : MethodName)) hown (mvT hZ (hw _ (List.mem_of_getElem? (i := 23) rfl))) (mvT hZ (hw _ (List.mem_of_getElem? (i := 24) rfl))) (notFace_of_selects (args := #[]) (mvT hZ (hw _ (List.mem_of_getElem? (i := 26) rfl)))) (mvT hZ (hw _ (List.mem_of_getElem? (i := 26) rfl))) (mvT hZ (hw _ (List.mem_of_getElem? (i := 25) rfl))) (by decide) (backOf (W := 0) (rm3x22 l Z a0 hw [] sd1 a21 vd1 b21 own_g1 own_c47 GA (1 : Int32) h21 n0 Z21 ⟨fE_sd1_x21, fF_sd1_value_x21, fF_sd1_coder_x21⟩ ⟨A21, V21, C21⟩ fA_vd1_x21 R21 fS_java_lang_String_COMPACT_STRINGS_x21 P5 (by decide) (fun _ => rfl) (by decide)) hZ (hw _ (List.mem_of_getElem? (i := 27) rfl)) (hw _ (List.mem_of_getElem? (i := 16) rfl)) (by decide) (by decide)) q22a q22c (g := (mkF m 48 #[.val (.int p1), .val (.int (1 : Int32)), .val (.ref ad1), .val (.int (1 : Int32)), .val (.ref sd1), .unset] [(.ref a21), (.ref sd1)])) rfl (by rw [hml]; rfl) (Steps.refl _) (argsL := [(.ref a21)]) (rest := []) (lenOf pd_0_2 rfl) rfl (by show 2 * 0 + _ ≤ _; exact Nat.le_of_eq rfl) (hb hby at_48) (fun _ _ => ⟨rfl, e21, (by decide : 4 + 0 ≤ _), (by decide : 20 + 0 ≤ _)⟩)
    dsimp only [Pt.U, Pt.locs, Pt.cells, Pt.slots] at X22 l22 y22 z22 st22 hQ22
    subst l22 y22 z22
    obtain ⟨rfl, N22q, e22⟩ := hQ22
    have N22 := Fr.app N20 N22q
    obtain ⟨cq23, kq23, q23a, q23b, q23c⟩ := isOf hZ e22 fE_ad1_x21
    obtain ⟨_, _, ⟨T23, L23, k23, n23⟩, -, X23, ⟨Lc23, hQ23, l23, y23, z23⟩, st23⟩ := X22.virtualBack hx (y := (⟨"com/example/solmap/solmap/sparql/Expression$Operator", "isEquality", "()Z"⟩ : MethodName)) (z := (⟨"com/example/solmap/solmap/sparql/Expression$Operator", "isEquality", "()Z"⟩ : MethodName)) hown (mvT hZ (hw _ (List.mem_of_getElem? (i := 37) rfl))) (mvT hZ (hw _ (List.mem_of_getElem? (i := 38) rfl))) (notFace_of_selects (args := #[]) (mvT hZ (hw _ (List.mem_of_getElem? (i := 40) rfl)))) (mvT hZ (hw _ (List.mem_of_getElem? (i := 40) rfl))) (mvT hZ (hw _ (List.mem_of_getElem? (i := 39) rfl))) (by decide) (backOf (W := 0) (rm5n l Z a0 hw [] ad1 ad0 h21 n0 Z21 fS_com_example_solmap_solmap_sparql_Expression_Operator_EQUAL_x21 fS_com_example_solmap_solmap_sparql_Expression_Operator_NOT_EQUAL_x21 ne1_0) hZ (hw _ (List.mem_of_getElem? (i := 41) rfl)) (hw _ (List.mem_of_getElem? (i := 6) rfl)) (by decide) (by decide)) q23a q23c (g := (mkF m 62 #[.val (.int p1), .val (.int (1 : Int32)), .val (.ref ad1), .val (.int (1 : Int32)), .val (.ref sd1), .val (.int (1 : Int32))] [(.ref ad1)])) rfl (by rw [hml]; rfl) (Steps.refl _) (argsL := []) (rest := []) (lenOf pd_0_3 rfl) rfl (by show 2 * 0 + _ ≤ _; exact Nat.le_of_eq rfl) (hb hby at_62) (fun _ _ => ⟨rfl, e22, (by decide : 4 + 0 ≤ _), (by decide : 20 + 0 ≤ _)⟩)
    dsimp only [Pt.U, Pt.locs, Pt.cells, Pt.slots] at X23 l23 y23 z23 st23 hQ23
    subst l23 y23 z23
    obtain ⟨rfl, N23q, e23⟩ := hQ23
    have N23 := Fr.app N22 N23q
    refine own_preW (A := T23.setTop (mkF m 80 #[.val (.int p1), .val (.int (1 : Int32)), .val (.ref ad1), .val (.int (1 : Int32)), .val (.ref sd1), .val (.int (1 : Int32))] [(.int (1 : Int32))])) (fun tt kt => ?_) ?_
    · show Steps p.tables e below (s₁.setTop (mkF m 8 #[.val (.int p1), .val (.int (1 : Int32)), .unset, .unset, .unset, .unset] [])) _
      refine XS.iloadN X0.here hx rfl (hb hby at_8) rfl ?_
      show Steps p.tables e below (s₁.setTop (mkF m 9 #[.val (.int p1), .val (.int (1 : Int32)), .unset, .unset, .unset, .unset] [(.int (1 : Int32))])) _
      refine st17 _ ?_
      show Steps p.tables e below (T17.setTop (mkF m 12 #[.val (.int p1), .val (.int (1 : Int32)), .unset, .unset, .unset, .unset] [(.ref ad1)])) _
      refine XS.astoreN X17.here hx rfl (hb hby at_12) rfl rfl (l' := #[.val (.int p1), .val (.int (1 : Int32)), .val (.ref ad1), .unset, .unset, .unset]) rfl ?_
      refine XS.iloadN X17.here hx rfl (hb hby at_13) rfl ?_
      refine XS.ifNo X17.here hx rfl (hb hby at_14) rfl ((if0 _ _).trans (feq ((by decide) : ¬ ((1 : Int32) = (0 : Int32)))).1) ?_
      refine XS.iloadN X17.here hx rfl (hb hby at_17) rfl ?_
      show Steps p.tables e below (T17.setTop (mkF m 18 #[.val (.int p1), .val (.int (1 : Int32)), .val (.ref ad1), .unset, .unset, .unset] [(.int (1 : Int32))])) _
      refine XS.iconst X17.here hx rfl (hb hby at_18) ?_
      refine XS.icmpNo X17.here hx rfl (hb hby at_19) rfl (teq ((by decide) : (1 : Int32) = (1 : Int32))).2 ?_
      refine XS.iconst X17.here hx rfl (hb hby at_22) ?_
      refine XS.goto X17.here hx rfl (pc0 := 23) (pc' := 27) rfl (hb hby at_23) (by decide) (by decide) ?_
      show Steps p.tables e below (T17.setTop (mkF m 27 #[.val (.int p1), .val (.int (1 : Int32)), .val (.ref ad1), .unset, .unset, .unset] [(.int (1 : Int32))])) _
      refine XS.istoreN X17.here hx rfl (hb hby at_27) rfl (l' := #[.val (.int p1), .val (.int (1 : Int32)), .val (.ref ad1), .val (.int (1 : Int32)), .unset, .unset]) rfl ?_
      refine XS.aloadN X17.here hx rfl (hb hby at_28) rfl rfl ?_
      show Steps p.tables e below (T17.setTop (mkF m 29 #[.val (.int p1), .val (.int (1 : Int32)), .val (.ref ad1), .val (.int (1 : Int32)), .unset, .unset] [(.ref ad1)])) _
      refine st18.trans ?_
      show Steps p.tables e below (T18.setTop (mkF m 32 #[.val (.int p1), .val (.int (1 : Int32)), .val (.ref ad1), .val (.int (1 : Int32)), .unset, .unset] [(.ref sd1)])) _
      refine XS.astore X18.here hx rfl (hb hby at_32) rfl rfl (l' := #[.val (.int p1), .val (.int (1 : Int32)), .val (.ref ad1), .val (.int (1 : Int32)), .val (.ref sd1), .unset]) rfl ?_
      refine XS.aload X18.here hx rfl (hb hby at_34) rfl rfl ?_
      show Steps p.tables e below (T18.setTop (mkF m 36 #[.val (.int p1), .val (.int (1 : Int32)), .val (.ref ad1), .val (.int (1 : Int32)), .val (.ref sd1), .unset] [(.ref sd1)])) _
      refine st19 _ ?_
      show Steps p.tables e below (T19.setTop (mkF m 38 #[.val (.int p1), .val (.int (1 : Int32)), .val (.ref ad1), .val (.int (1 : Int32)), .val (.ref sd1), .unset] [(.ref a19), (.ref sd1)])) _
      refine st20.trans ?_
      show Steps p.tables e below (T20.setTop (mkF m 41 #[.val (.int p1), .val (.int (1 : Int32)), .val (.ref ad1), .val (.int (1 : Int32)), .val (.ref sd1), .unset] [(.int (0 : Int32))])) _
      refine XS.ifNo X20.here hx rfl (hb hby at_41) rfl ((if0 _ _).trans (teq ((by decide) : (0 : Int32) = (0 : Int32))).2) ?_
      refine XS.aload X20.here hx rfl (hb hby at_44) rfl rfl ?_
      show Steps p.tables e below (T20.setTop (mkF m 46 #[.val (.int p1), .val (.int (1 : Int32)), .val (.ref ad1), .val (.int (1 : Int32)), .val (.ref sd1), .unset] [(.ref sd1)])) _
      refine st21 _ ?_
      show Steps p.tables e below (T21.setTop (mkF m 48 #[.val (.int p1), .val (.int (1 : Int32)), .val (.ref ad1), .val (.int (1 : Int32)), .val (.ref sd1), .unset] [(.ref a21), (.ref sd1)])) _
      refine st22.trans ?_
      show Steps p.tables e below (T22.setTop (mkF m 51 #[.val (.int p1), .val (.int (1 : Int32)), .val (.ref ad1), .val (.int (1 : Int32)), .val (.ref sd1), .unset] [(.int (1 : Int32))])) _
      refine XS.ifNo X22.here hx rfl (hb hby at_51) rfl ((if0 _ _).trans (feq ((by decide) : ¬ ((1 : Int32) = (0 : Int32)))).1) ?_
      refine XS.iconst X22.here hx rfl (hb hby at_54) ?_
      refine XS.goto X22.here hx rfl (pc0 := 55) (pc' := 59) rfl (hb hby at_55) (by decide) (by decide) ?_
      refine XS.istore X22.here hx rfl (hb hby at_59) rfl (l' := #[.val (.int p1), .val (.int (1 : Int32)), .val (.ref ad1), .val (.int (1 : Int32)), .val (.ref sd1), .val (.int (1 : Int32))]) rfl ?_
      show Steps p.tables e below (T22.setTop (mkF m 61 #[.val (.int p1), .val (.int (1 : Int32)), .val (.ref ad1), .val (.int (1 : Int32)), .val (.ref sd1), .val (.int (1 : Int32))] [])) _
      refine XS.aloadN X22.here hx rfl (hb hby at_61) rfl rfl ?_
      show Steps p.tables e below (T22.setTop (mkF m 62 #[.val (.int p1), .val (.int (1 : Int32)), .val (.ref ad1), .val (.int (1 : Int32)), .val (.ref sd1), .val (.int (1 : Int32))] [(.ref ad1)])) _
      refine st23.trans ?_
      show Steps p.tables e below (T23.setTop (mkF m 65 #[.val (.int p1), .val (.int (1 : Int32)), .val (.ref ad1), .val (.int (1 : Int32)), .val (.ref sd1), .val (.int (1 : Int32))] [(.int (1 : Int32))])) _
      refine XS.iloadN X23.here hx rfl (hb hby at_65) rfl ?_
      refine XS.icmpNo X23.here hx rfl (hb hby at_66) rfl (teq ((by decide) : (1 : Int32) = (1 : Int32))).2 ?_
      refine XS.iloadN X23.here hx rfl (hb hby at_69) rfl ?_
      refine XS.iload X23.here hx rfl (hb hby at_70) rfl ?_
      show Steps p.tables e below (T23.setTop (mkF m 72 #[.val (.int p1), .val (.int (1 : Int32)), .val (.ref ad1), .val (.int (1 : Int32)), .val (.ref sd1), .val (.int (1 : Int32))] [(.int (1 : Int32)), (.int (1 : Int32))])) _
      refine XS.icmpNo X23.here hx rfl (hb hby at_72) rfl (teq ((by decide) : (1 : Int32) = (1 : Int32))).2 ?_
      refine XS.iconst X23.here hx rfl (hb hby at_75) ?_
      refine XS.goto X23.here hx rfl (pc0 := 76) (pc' := 80) rfl (hb hby at_76) (by decide) (by decide) ?_
      exact kt
    show own_EndW p e below s (T23.setTop (mkF m 80 #[.val (.int p1), .val (.int (1 : Int32)), .val (.ref ad1), .val (.int (1 : Int32)), .val (.ref sd1), .val (.int (1 : Int32))] [(.int (1 : Int32))])) (Q0 Z p1 GA ad0 sd0 vd0 ad1 sd1 vd1 ad2 sd2 vd2 ad3 sd3 vd3 ad4 sd4 vd4 ad5 sd5 vd5 h0 n0) room_1.cells room_1.slots
    obtain ⟨fs, hr, hrun, hended, hEnd⟩ := Stand.leaveW (s := s) (vm₁ := T21.vm) X23 hSs (by rw [e23]; exact Nat.le_refl _) (v := some (.int (1 : Int32))) (fun h => by rw [Bd.returns] at h; cases h)
    refine ⟨_, _, ?_, hrun, hended, _, _, rfl, ?_, hEnd.1, hEnd.2.1, hEnd.2.2.1, hEnd.2.2.2.mono (by decide) (by decide)⟩
    · exact retN X23 hx (t := .boolean) Bd.returns (by simp) (hb hby at_80) hr
    · show Q0 Z p1 GA ad0 sd0 vd0 ad1 sd1 vd1 ad2 sd2 vd2 ad3 sd3 vd3 ad4 sd4 vd4 ad5 sd5 vd5 h0 n0 _ T23.heap _
      rw [e23]
      exact ⟨rfl, N23⟩
  by_cases hs1_2 : iv = (2 : Int32)
  · rw [hs1_2]
    obtain ⟨E_ad2_24, F_symbol_ad2_25⟩ := O_2
    obtain ⟨E_sd2_26, F_value_sd2_27, F_coder_sd2_28⟩ := S_2
    obtain ⟨_, _, ⟨T29, L29, k29, n29⟩, -, X29, ⟨Lc29, hQ29, l29, y29, z29⟩, st29⟩ := Jvm.LawKit.callS X0 hx (y := (⟨"com/example/solmap/solmap/sparql/OperatorIsEqualityPinLaw", "pick", "(I)Lcom/example/solmap/solmap/sparql/Expression$Operator;"⟩ : MethodName)) hown (mvT hZ (hw _ (List.mem_of_getElem? (i := 1) rfl))) (mvT hZ (hw _ (List.mem_of_getElem? (i := 2) rfl))) (mvT hZ (hw _ (List.mem_of_getElem? (i := 3) rfl))) (mvT hZ (hw _ (List.mem_of_getElem? (i := 4) rfl))) (by decide) (backOf (W := 0) (rm1k2 l Z a0 hw []  ad2 h0 n0 Z0 T_2) hZ (hw _ (List.mem_of_getElem? (i := 4) rfl)) (hw _ (List.mem_of_getElem? (i := 3) rfl)) (by decide) (by decide)) (g := (mkF m 9 #[.val (.int p1), .val (.int (2 : Int32)), .unset, .unset, .unset, .unset] [(.int (2 : Int32))])) rfl (by rw [hml]; rfl) (argsL := [(.int (2 : Int32))]) (rest := []) (lenOf pd_0_0 rfl) rfl (by show 2 * 0 + _ ≤ _; exact Nat.le_of_eq rfl) (hb hby at_9) (fun _ _ => ⟨rfl, e0, (by decide : 0 + 0 ≤ _), (by decide : 0 + 0 ≤ _)⟩)
    dsimp only [Pt.U, Pt.locs, Pt.cells, Pt.slots] at X29 l29 y29 z29 st29 hQ29
    subst l29 y29 z29
    obtain ⟨rfl, N29q, e29⟩ := hQ29
    have N29 := Fr.app N0 N29q
    obtain ⟨cq30, kq30, q30a, q30b, q30c⟩ := isOf hZ e29 E_ad2_24
    obtain ⟨_, _, ⟨T30, L30, k30, n30⟩, -, X30, ⟨Lc30, hQ30, l30, y30, z30⟩, st30⟩ := X29.virtualBack hx (y := (⟨"com/example/solmap/solmap/sparql/Expression$Operator", "symbol", "()Ljava/lang/String;"⟩ : MethodName)) (z := (⟨"com/example/solmap/solmap/sparql/Expression$Operator", "symbol", "()Ljava/lang/String;"⟩ : MethodName)) hown (mvT hZ (hw _ (List.mem_of_getElem? (i := 8) rfl))) (mvT hZ (hw _ (List.mem_of_getElem? (i := 9) rfl))) (notFace_of_selects (args := #[]) (mvT hZ (hw _ (List.mem_of_getElem? (i := 11) rfl)))) (mvT hZ (hw _ (List.mem_of_getElem? (i := 11) rfl))) (mvT hZ (hw _ (List.mem_of_getElem? (i := 10) rfl))) (by decide) (backOf (W := 0) (rm2 l Z a0 hw [] ad2 sd2 h0 n0 Z0 ⟨E_ad2_24, F_symbol_ad2_25⟩) hZ (hw _ (List.mem_of_getElem? (i := 12) rfl)) (hw _ (List.mem_of_getElem? (i := 6) rfl)) (by decide) (by decide)) q30a q30c (g := (mkF m 29 #[.val (.int p1), .val (.int (2 : Int32)), .val (.ref ad2), .val (.int (0 : Int32)), .unset, .unset] [(.ref ad2)])) rfl (by rw [hml]; rfl) (Steps.refl _) (argsL := []) (rest := []) (lenOf pd_0_1 rfl) rfl (by show 2 * 0 + _ ≤ _; exact Nat.le_of_eq rfl) (hb hby at_29) (fun _ _ => ⟨rfl, e29, (by decide : 0 + 0 ≤ _), (by decide : 0 + 0 ≤ _)⟩)
    dsimp only [Pt.U, Pt.locs, Pt.cells, Pt.slots] at X30 l30 y30 z30 st30 hQ30
    subst l30 y30 z30
    obtain ⟨rfl, N30q, e30⟩ := hQ30
    have N30 := Fr.app N29 N30q
    obtain ⟨a31, T31, h31, b31, X31, e31, E31, hSs, hZ, hown, A31, C31, V31, R31, I31, Lt31, Wv31, st31⟩ := own_ldc (s := s) (vm0 := s.vm) X30 hx hZ hown (hw _ (List.mem_of_getElem? (i := 15) rfl)) wS e30 hSs (own_fr hh hn0 N30) hkeep I0 (by decide) hheld39 hcw (L := own_L39) (z := 1) ht_39 (by decide) (by decide) (g := (mkF m 36 #[.val (.int p1), .val (.int (2 : Int32)), .val (.ref ad2), .val (.int (0 : Int32)), .val (.ref sd2), .unset] [(.ref sd2)])) rfl (hb hby at_36) (n := 4) (by decide) (by decide) (by decide) (by decide)
    have fS_java_lang_String_COMPACT_STRINGS_x31 := (O2.ext E31)
    have fS_com_example_solmap_solmap_sparql_Expression_Operator_LESS_x31 := (T_2.ext E31)
    have fS_com_example_solmap_solmap_sparql_Expression_Operator_EQUAL_x31 := (T_0.ext E31)
    have fS_com_example_solmap_solmap_sparql_Expression_Operator_NOT_EQUAL_x31 := (T_1.ext E31)
    have fE_ad2_x31 := (E_ad2_24.ext E31)
    have fF_ad2_symbol_x31 := (F_symbol_ad2_25.ext E31)
    have fE_sd2_x31 := (E_sd2_26.ext E31)
    have fF_sd2_value_x31 := (F_value_sd2_27.ext E31)
    have fF_sd2_coder_x31 := (F_coder_sd2_28.ext E31)
    have fA_vd2_x31 := (V_2.ext E31)
    have K31 : Keep h0 h31 [] := Keep.ext (Keep.refl h0 _) E31
    have Z31 : n0 ≤ h31.size := Nat.le_trans Z0 E31.1
    obtain ⟨cq32, kq32, q32a, q32b, q32c⟩ := isOf hZ e31 fE_sd2_x31
    obtain ⟨_, _, ⟨T32, L32, k32, n32⟩, -, X32, ⟨Lc32, hQ32, l32, y32, z32⟩, st32⟩ := X31.virtualBack hx (y := (⟨"java/lang/String", "equals", "(Ljava/lang/Object;)Z"⟩ : MethodName)) (z := (⟨"java/lang/String", "equals", "(Ljava/lang/Object;)Z"⟩ : MethodName)) hown (mvT hZ (hw _ (List.mem_of_getElem? (i := 23) rfl))) (mvT hZ (hw _ (List.mem_of_getElem? (i := 24) rfl))) (notFace_of_selects (args := #[]) (mvT hZ (hw _ (List.mem_of_getElem? (i := 26) rfl)))) (mvT hZ (hw _ (List.mem_of_getElem? (i := 26) rfl))) (mvT hZ (hw _ (List.mem_of_getElem? (i := 25) rfl))) (by decide) (backOf (W := 0) (rm3x11 l Z a0 hw [] sd2 a31 vd2 b31 own_g2 own_c39 GA (0 : Int32) h31 n0 Z31 ⟨fE_sd2_x31, fF_sd2_value_x31, fF_sd2_coder_x31⟩ ⟨A31, V31, C31⟩ fA_vd2_x31 R31 fS_java_lang_String_COMPACT_STRINGS_x31 P5 (by decide) (fun q => absurd q (own_strNe ⟨fE_sd2_x31, fF_sd2_value_x31, fF_sd2_coder_x31⟩ fA_vd2_x31 ⟨A31, V31, C31⟩ R31 (Or.inr ⟨by decide, by decide⟩))) (by decide)) hZ (hw _ (List.mem_of_getElem? (i := 27) rfl)) (hw _ (List.mem_of_getElem? (i := 16) rfl)) (by decide) (by decide)) q32a q32c (g := (mkF m 38 #[.val (.int p1), .val (.int (2 : Int32)), .val (.ref ad2), .val (.int (0 : Int32)), .val (.ref sd2), .unset] [(.ref a31), (.ref sd2)])) rfl (by rw [hml]; rfl) (Steps.refl _) (argsL := [(.ref a31)]) (rest := []) (lenOf pd_0_2 rfl) rfl (by show 2 * 0 + _ ≤ _; exact Nat.le_of_eq rfl) (hb hby at_38) (fun _ _ => ⟨rfl, e31, (by decide : 2 + 0 ≤ _), (by decide : 8 + 0 ≤ _)⟩)
    dsimp only [Pt.U, Pt.locs, Pt.cells, Pt.slots] at X32 l32 y32 z32 st32 hQ32
    subst l32 y32 z32
    obtain ⟨rfl, N32q, e32⟩ := hQ32
    have N32 := Fr.app N30 N32q
    obtain ⟨a33, T33, h33, b33, X33, e33, E33, hSs, hZ, hown, A33, C33, V33, R33, I33, Lt33, Wv33, st33⟩ := own_ldc (s := s) (vm0 := T31.vm) X32 hx hZ hown (hw _ (List.mem_of_getElem? (i := 45) rfl)) wS e32 hSs (own_fr hh hn0 N32) hkeep I31 (by decide) hheld47 hcw (L := own_L47) (z := 2) ht_47 (by decide) (by decide) (g := (mkF m 46 #[.val (.int p1), .val (.int (2 : Int32)), .val (.ref ad2), .val (.int (0 : Int32)), .val (.ref sd2), .unset] [(.ref sd2)])) rfl (hb hby at_46) (n := 8) (by decide) (by decide) (by decide) (by decide)
    have fS_java_lang_String_COMPACT_STRINGS_x33 := (fS_java_lang_String_COMPACT_STRINGS_x31.ext E33)
    have fS_com_example_solmap_solmap_sparql_Expression_Operator_LESS_x33 := (fS_com_example_solmap_solmap_sparql_Expression_Operator_LESS_x31.ext E33)
    have fS_com_example_solmap_solmap_sparql_Expression_Operator_EQUAL_x33 := (fS_com_example_solmap_solmap_sparql_Expression_Operator_EQUAL_x31.ext E33)
    have fS_com_example_solmap_solmap_sparql_Expression_Operator_NOT_EQUAL_x33 := (fS_com_example_solmap_solmap_sparql_Expression_Operator_NOT_EQUAL_x31.ext E33)
    have fE_ad2_x33 := (fE_ad2_x31.ext E33)
    have fF_ad2_symbol_x33 := (fF_ad2_symbol_x31.ext E33)
    have fE_sd2_x33 := (fE_sd2_x31.ext E33)
    have fF_sd2_value_x33 := (fF_sd2_value_x31.ext E33)
    have fF_sd2_coder_x33 := (fF_sd2_coder_x31.ext E33)
    have fA_vd2_x33 := (fA_vd2_x31.ext E33)
    have fE_a31_x33 := (A31.ext E33)
    have fF_a31_coder_x33 := (C31.ext E33)
    have fF_a31_value_x33 := (V31.ext E33)
    have fA_b31_x33 := (R31.ext E33)
    have Lt33_39 := Lit.stays Lt31 Wv33
    have K33 : Keep h0 h33 [] := Keep.ext K31 E33
    have Z33 : n0 ≤ h33.size := Nat.le_trans Z31 E33.1
    obtain ⟨cq34, kq34, q34a, q34b, q34c⟩ := isOf hZ e33 fE_sd2_x33
    obtain ⟨_, _, ⟨T34, L34, k34, n34⟩, -, X34, ⟨Lc34, hQ34, l34, y34, z34⟩, st34⟩ := X33.virtualBack hx (y := (⟨"java/lang/String", "equals", "(Ljava/lang/Object;)Z"⟩ : MethodName)) (z := (⟨"java/lang/String", "equals", "(Ljava/lang/Object;)Z"⟩ : MethodName)) hown (mvT hZ (hw _ (List.mem_of_getElem? (i := 23) rfl))) (mvT hZ (hw _ (List.mem_of_getElem? (i := 24) rfl))) (notFace_of_selects (args := #[]) (mvT hZ (hw _ (List.mem_of_getElem? (i := 26) rfl)))) (mvT hZ (hw _ (List.mem_of_getElem? (i := 26) rfl))) (mvT hZ (hw _ (List.mem_of_getElem? (i := 25) rfl))) (by decide) (backOf (W := 0) (rm3x12 l Z a0 hw [] sd2 a33 vd2 b33 own_g2 own_c47 GA (0 : Int32) h33 n0 Z33 ⟨fE_sd2_x33, fF_sd2_value_x33, fF_sd2_coder_x33⟩ ⟨A33, V33, C33⟩ fA_vd2_x33 R33 fS_java_lang_String_COMPACT_STRINGS_x33 P5 (by decide) (fun q => absurd q (own_strNe ⟨fE_sd2_x33, fF_sd2_value_x33, fF_sd2_coder_x33⟩ fA_vd2_x33 ⟨A33, V33, C33⟩ R33 (Or.inl (by decide)))) (by decide)) hZ (hw _ (List.mem_of_getElem? (i := 27) rfl)) (hw _ (List.mem_of_getElem? (i := 16) rfl)) (by decide) (by decide)) q34a q34c (g := (mkF m 48 #[.val (.int p1), .val (.int (2 : Int32)), .val (.ref ad2), .val (.int (0 : Int32)), .val (.ref sd2), .unset] [(.ref a33), (.ref sd2)])) rfl (by rw [hml]; rfl) (Steps.refl _) (argsL := [(.ref a33)]) (rest := []) (lenOf pd_0_2 rfl) rfl (by show 2 * 0 + _ ≤ _; exact Nat.le_of_eq rfl) (hb hby at_48) (fun _ _ => ⟨rfl, e33, (by decide : 4 + 0 ≤ _), (by decide : 20 + 0 ≤ _)⟩)
    dsimp only [Pt.U, Pt.locs, Pt.cells, Pt.slots] at X34 l34 y34 z34 st34 hQ34
    subst l34 y34 z34
    obtain ⟨rfl, N34q, e34⟩ := hQ34
    have N34 := Fr.app N32 N34q
    obtain ⟨cq35, kq35, q35a, q35b, q35c⟩ := isOf hZ e34 fE_ad2_x33
    obtain ⟨_, _, ⟨T35, L35, k35, n35⟩, -, X35, ⟨Lc35, hQ35, l35, y35, z35⟩, st35⟩ := X34.virtualBack hx (y := (⟨"com/example/solmap/solmap/sparql/Expression$Operator", "isEquality", "()Z"⟩ : MethodName)) (z := (⟨"com/example/solmap/solmap/sparql/Expression$Operator", "isEquality", "()Z"⟩ : MethodName)) hown (mvT hZ (hw _ (List.mem_of_getElem? (i := 37) rfl))) (mvT hZ (hw _ (List.mem_of_getElem? (i := 38) rfl))) (notFace_of_selects (args := #[]) (mvT hZ (hw _ (List.mem_of_getElem? (i := 40) rfl)))) (mvT hZ (hw _ (List.mem_of_getElem? (i := 40) rfl))) (mvT hZ (hw _ (List.mem_of_getElem? (i := 39) rfl))) (by decide) (backOf (W := 0) (rm5o l Z a0 hw [] ad2 ad0 ad1 h33 n0 Z33 fS_com_example_solmap_solmap_sparql_Expression_Operator_EQUAL_x33 fS_com_example_solmap_solmap_sparql_Expression_Operator_NOT_EQUAL_x33 ne2_0 ne2_1) hZ (hw _ (List.mem_of_getElem? (i := 41) rfl)) (hw _ (List.mem_of_getElem? (i := 6) rfl)) (by decide) (by decide)) q35a q35c (g := (mkF m 62 #[.val (.int p1), .val (.int (2 : Int32)), .val (.ref ad2), .val (.int (0 : Int32)), .val (.ref sd2), .val (.int (0 : Int32))] [(.ref ad2)])) rfl (by rw [hml]; rfl) (Steps.refl _) (argsL := []) (rest := []) (lenOf pd_0_3 rfl) rfl (by show 2 * 0 + _ ≤ _; exact Nat.le_of_eq rfl) (hb hby at_62) (fun _ _ => ⟨rfl, e34, (by decide : 4 + 0 ≤ _), (by decide : 20 + 0 ≤ _)⟩)
    dsimp only [Pt.U, Pt.locs, Pt.cells, Pt.slots] at X35 l35 y35 z35 st35 hQ35
    subst l35 y35 z35
    obtain ⟨rfl, N35q, e35⟩ := hQ35
    have N35 := Fr.app N34 N35q
    refine own_preW (A := T35.setTop (mkF m 80 #[.val (.int p1), .val (.int (2 : Int32)), .val (.ref ad2), .val (.int (0 : Int32)), .val (.ref sd2), .val (.int (0 : Int32))] [(.int (1 : Int32))])) (fun tt kt => ?_) ?_
    · show Steps p.tables e below (s₁.setTop (mkF m 8 #[.val (.int p1), .val (.int (2 : Int32)), .unset, .unset, .unset, .unset] [])) _
      refine XS.iloadN X0.here hx rfl (hb hby at_8) rfl ?_
      show Steps p.tables e below (s₁.setTop (mkF m 9 #[.val (.int p1), .val (.int (2 : Int32)), .unset, .unset, .unset, .unset] [(.int (2 : Int32))])) _
      refine st29 _ ?_
      show Steps p.tables e below (T29.setTop (mkF m 12 #[.val (.int p1), .val (.int (2 : Int32)), .unset, .unset, .unset, .unset] [(.ref ad2)])) _
      refine XS.astoreN X29.here hx rfl (hb hby at_12) rfl rfl (l' := #[.val (.int p1), .val (.int (2 : Int32)), .val (.ref ad2), .unset, .unset, .unset]) rfl ?_
      refine XS.iloadN X29.here hx rfl (hb hby at_13) rfl ?_
      refine XS.ifNo X29.here hx rfl (hb hby at_14) rfl ((if0 _ _).trans (feq ((by decide) : ¬ ((2 : Int32) = (0 : Int32)))).1) ?_
      refine XS.iloadN X29.here hx rfl (hb hby at_17) rfl ?_
      show Steps p.tables e below (T29.setTop (mkF m 18 #[.val (.int p1), .val (.int (2 : Int32)), .val (.ref ad2), .unset, .unset, .unset] [(.int (2 : Int32))])) _
      refine XS.iconst X29.here hx rfl (hb hby at_18) ?_
      refine XS.icmpYes X29.here hx rfl (pc0 := 19) (pc' := 26) rfl (hb hby at_19) rfl (feq ((by decide) : ¬ ((2 : Int32) = (1 : Int32)))).2 (by decide) (by decide) ?_
      refine XS.iconst X29.here hx rfl (hb hby at_26) ?_
      refine XS.istoreN X29.here hx rfl (hb hby at_27) rfl (l' := #[.val (.int p1), .val (.int (2 : Int32)), .val (.ref ad2), .val (.int (0 : Int32)), .unset, .unset]) rfl ?_
      show Steps p.tables e below (T29.setTop (mkF m 28 #[.val (.int p1), .val (.int (2 : Int32)), .val (.ref ad2), .val (.int (0 : Int32)), .unset, .unset] [])) _
      refine XS.aloadN X29.here hx rfl (hb hby at_28) rfl rfl ?_
      show Steps p.tables e below (T29.setTop (mkF m 29 #[.val (.int p1), .val (.int (2 : Int32)), .val (.ref ad2), .val (.int (0 : Int32)), .unset, .unset] [(.ref ad2)])) _
      refine st30.trans ?_
      show Steps p.tables e below (T30.setTop (mkF m 32 #[.val (.int p1), .val (.int (2 : Int32)), .val (.ref ad2), .val (.int (0 : Int32)), .unset, .unset] [(.ref sd2)])) _
      refine XS.astore X30.here hx rfl (hb hby at_32) rfl rfl (l' := #[.val (.int p1), .val (.int (2 : Int32)), .val (.ref ad2), .val (.int (0 : Int32)), .val (.ref sd2), .unset]) rfl ?_
      refine XS.aload X30.here hx rfl (hb hby at_34) rfl rfl ?_
      show Steps p.tables e below (T30.setTop (mkF m 36 #[.val (.int p1), .val (.int (2 : Int32)), .val (.ref ad2), .val (.int (0 : Int32)), .val (.ref sd2), .unset] [(.ref sd2)])) _
      refine st31 _ ?_
      show Steps p.tables e below (T31.setTop (mkF m 38 #[.val (.int p1), .val (.int (2 : Int32)), .val (.ref ad2), .val (.int (0 : Int32)), .val (.ref sd2), .unset] [(.ref a31), (.ref sd2)])) _
      refine st32.trans ?_
      show Steps p.tables e below (T32.setTop (mkF m 41 #[.val (.int p1), .val (.int (2 : Int32)), .val (.ref ad2), .val (.int (0 : Int32)), .val (.ref sd2), .unset] [(.int (0 : Int32))])) _
      refine XS.ifNo X32.here hx rfl (hb hby at_41) rfl ((if0 _ _).trans (teq ((by decide) : (0 : Int32) = (0 : Int32))).2) ?_
      refine XS.aload X32.here hx rfl (hb hby at_44) rfl rfl ?_
      show Steps p.tables e below (T32.setTop (mkF m 46 #[.val (.int p1), .val (.int (2 : Int32)), .val (.ref ad2), .val (.int (0 : Int32)), .val (.ref sd2), .unset] [(.ref sd2)])) _
      refine st33 _ ?_
      show Steps p.tables e below (T33.setTop (mkF m 48 #[.val (.int p1), .val (.int (2 : Int32)), .val (.ref ad2), .val (.int (0 : Int32)), .val (.ref sd2), .unset] [(.ref a33), (.ref sd2)])) _
      refine st34.trans ?_
      show Steps p.tables e below (T34.setTop (mkF m 51 #[.val (.int p1), .val (.int (2 : Int32)), .val (.ref ad2), .val (.int (0 : Int32)), .val (.ref sd2), .unset] [(.int (0 : Int32))])) _
      refine XS.ifYes X34.here hx rfl (pc0 := 51) (pc' := 58) rfl (hb hby at_51) rfl ((if0 _ _).trans (teq ((by decide) : (0 : Int32) = (0 : Int32))).1) (by decide) (by decide) ?_
      refine XS.iconst X34.here hx rfl (hb hby at_58) ?_
      refine XS.istore X34.here hx rfl (hb hby at_59) rfl (l' := #[.val (.int p1), .val (.int (2 : Int32)), .val (.ref ad2), .val (.int (0 : Int32)), .val (.ref sd2), .val (.int (0 : Int32))]) rfl ?_
      refine XS.aloadN X34.here hx rfl (hb hby at_61) rfl rfl ?_
      show Steps p.tables e below (T34.setTop (mkF m 62 #[.val (.int p1), .val (.int (2 : Int32)), .val (.ref ad2), .val (.int (0 : Int32)), .val (.ref sd2), .val (.int (0 : Int32))] [(.ref ad2)])) _
      refine st35.trans ?_
      show Steps p.tables e below (T35.setTop (mkF m 65 #[.val (.int p1), .val (.int (2 : Int32)), .val (.ref ad2), .val (.int (0 : Int32)), .val (.ref sd2), .val (.int (0 : Int32))] [(.int (0 : Int32))])) _
      refine XS.iloadN X35.here hx rfl (hb hby at_65) rfl ?_
      refine XS.icmpNo X35.here hx rfl (hb hby at_66) rfl (teq ((by decide) : (0 : Int32) = (0 : Int32))).2 ?_
      refine XS.iloadN X35.here hx rfl (hb hby at_69) rfl ?_
      refine XS.iload X35.here hx rfl (hb hby at_70) rfl ?_
      show Steps p.tables e below (T35.setTop (mkF m 72 #[.val (.int p1), .val (.int (2 : Int32)), .val (.ref ad2), .val (.int (0 : Int32)), .val (.ref sd2), .val (.int (0 : Int32))] [(.int (0 : Int32)), (.int (0 : Int32))])) _
      refine XS.icmpNo X35.here hx rfl (hb hby at_72) rfl (teq ((by decide) : (0 : Int32) = (0 : Int32))).2 ?_
      refine XS.iconst X35.here hx rfl (hb hby at_75) ?_
      refine XS.goto X35.here hx rfl (pc0 := 76) (pc' := 80) rfl (hb hby at_76) (by decide) (by decide) ?_
      exact kt
    show own_EndW p e below s (T35.setTop (mkF m 80 #[.val (.int p1), .val (.int (2 : Int32)), .val (.ref ad2), .val (.int (0 : Int32)), .val (.ref sd2), .val (.int (0 : Int32))] [(.int (1 : Int32))])) (Q0 Z p1 GA ad0 sd0 vd0 ad1 sd1 vd1 ad2 sd2 vd2 ad3 sd3 vd3 ad4 sd4 vd4 ad5 sd5 vd5 h0 n0) room_1.cells room_1.slots
    obtain ⟨fs, hr, hrun, hended, hEnd⟩ := Stand.leaveW (s := s) (vm₁ := T33.vm) X35 hSs (by rw [e35]; exact Nat.le_refl _) (v := some (.int (1 : Int32))) (fun h => by rw [Bd.returns] at h; cases h)
    refine ⟨_, _, ?_, hrun, hended, _, _, rfl, ?_, hEnd.1, hEnd.2.1, hEnd.2.2.1, hEnd.2.2.2.mono (by decide) (by decide)⟩
    · exact retN X35 hx (t := .boolean) Bd.returns (by simp) (hb hby at_80) hr
    · show Q0 Z p1 GA ad0 sd0 vd0 ad1 sd1 vd1 ad2 sd2 vd2 ad3 sd3 vd3 ad4 sd4 vd4 ad5 sd5 vd5 h0 n0 _ T35.heap _
      rw [e35]
      exact ⟨rfl, N35⟩
  by_cases hs1_3 : iv = (3 : Int32)
  · rw [hs1_3]
    obtain ⟨E_ad3_36, F_symbol_ad3_37⟩ := O_3
    obtain ⟨E_sd3_38, F_value_sd3_39, F_coder_sd3_40⟩ := S_3
    obtain ⟨_, _, ⟨T41, L41, k41, n41⟩, -, X41, ⟨Lc41, hQ41, l41, y41, z41⟩, st41⟩ := Jvm.LawKit.callS X0 hx (y := (⟨"com/example/solmap/solmap/sparql/OperatorIsEqualityPinLaw", "pick", "(I)Lcom/example/solmap/solmap/sparql/Expression$Operator;"⟩ : MethodName)) hown (mvT hZ (hw _ (List.mem_of_getElem? (i := 1) rfl))) (mvT hZ (hw _ (List.mem_of_getElem? (i := 2) rfl))) (mvT hZ (hw _ (List.mem_of_getElem? (i := 3) rfl))) (mvT hZ (hw _ (List.mem_of_getElem? (i := 4) rfl))) (by decide) (backOf (W := 0) (rm1k3 l Z a0 hw []  ad3 h0 n0 Z0 T_3) hZ (hw _ (List.mem_of_getElem? (i := 4) rfl)) (hw _ (List.mem_of_getElem? (i := 3) rfl)) (by decide) (by decide)) (g := (mkF m 9 #[.val (.int p1), .val (.int (3 : Int32)), .unset, .unset, .unset, .unset] [(.int (3 : Int32))])) rfl (by rw [hml]; rfl) (argsL := [(.int (3 : Int32))]) (rest := []) (lenOf pd_0_0 rfl) rfl (by show 2 * 0 + _ ≤ _; exact Nat.le_of_eq rfl) (hb hby at_9) (fun _ _ => ⟨rfl, e0, (by decide : 0 + 0 ≤ _), (by decide : 0 + 0 ≤ _)⟩)
    dsimp only [Pt.U, Pt.locs, Pt.cells, Pt.slots] at X41 l41 y41 z41 st41 hQ41
    subst l41 y41 z41
    obtain ⟨rfl, N41q, e41⟩ := hQ41
    have N41 := Fr.app N0 N41q
    obtain ⟨cq42, kq42, q42a, q42b, q42c⟩ := isOf hZ e41 E_ad3_36
    obtain ⟨_, _, ⟨T42, L42, k42, n42⟩, -, X42, ⟨Lc42, hQ42, l42, y42, z42⟩, st42⟩ := X41.virtualBack hx (y := (⟨"com/example/solmap/solmap/sparql/Expression$Operator", "symbol", "()Ljava/lang/String;"⟩ : MethodName)) (z := (⟨"com/example/solmap/solmap/sparql/Expression$Operator", "symbol", "()Ljava/lang/String;"⟩ : MethodName)) hown (mvT hZ (hw _ (List.mem_of_getElem? (i := 8) rfl))) (mvT hZ (hw _ (List.mem_of_getElem? (i := 9) rfl))) (notFace_of_selects (args := #[]) (mvT hZ (hw _ (List.mem_of_getElem? (i := 11) rfl)))) (mvT hZ (hw _ (List.mem_of_getElem? (i := 11) rfl))) (mvT hZ (hw _ (List.mem_of_getElem? (i := 10) rfl))) (by decide) (backOf (W := 0) (rm2 l Z a0 hw [] ad3 sd3 h0 n0 Z0 ⟨E_ad3_36, F_symbol_ad3_37⟩) hZ (hw _ (List.mem_of_getElem? (i := 12) rfl)) (hw _ (List.mem_of_getElem? (i := 6) rfl)) (by decide) (by decide)) q42a q42c (g := (mkF m 29 #[.val (.int p1), .val (.int (3 : Int32)), .val (.ref ad3), .val (.int (0 : Int32)), .unset, .unset] [(.ref ad3)])) rfl (by rw [hml]; rfl) (Steps.refl _) (argsL := []) (rest := []) (lenOf pd_0_1 rfl) rfl (by show 2 * 0 + _ ≤ _; exact Nat.le_of_eq rfl) (hb hby at_29) (fun _ _ => ⟨rfl, e41, (by decide : 0 + 0 ≤ _), (by decide : 0 + 0 ≤ _)⟩)
    dsimp only [Pt.U, Pt.locs, Pt.cells, Pt.slots] at X42 l42 y42 z42 st42 hQ42
    subst l42 y42 z42
    obtain ⟨rfl, N42q, e42⟩ := hQ42
    have N42 := Fr.app N41 N42q
    obtain ⟨a43, T43, h43, b43, X43, e43, E43, hSs, hZ, hown, A43, C43, V43, R43, I43, Lt43, Wv43, st43⟩ := own_ldc (s := s) (vm0 := s.vm) X42 hx hZ hown (hw _ (List.mem_of_getElem? (i := 15) rfl)) wS e42 hSs (own_fr hh hn0 N42) hkeep I0 (by decide) hheld39 hcw (L := own_L39) (z := 1) ht_39 (by decide) (by decide) (g := (mkF m 36 #[.val (.int p1), .val (.int (3 : Int32)), .val (.ref ad3), .val (.int (0 : Int32)), .val (.ref sd3), .unset] [(.ref sd3)])) rfl (hb hby at_36) (n := 4) (by decide) (by decide) (by decide) (by decide)
    have fS_java_lang_String_COMPACT_STRINGS_x43 := (O2.ext E43)
    have fS_com_example_solmap_solmap_sparql_Expression_Operator_GREATER_x43 := (T_3.ext E43)
    have fS_com_example_solmap_solmap_sparql_Expression_Operator_EQUAL_x43 := (T_0.ext E43)
    have fS_com_example_solmap_solmap_sparql_Expression_Operator_NOT_EQUAL_x43 := (T_1.ext E43)
    have fE_ad3_x43 := (E_ad3_36.ext E43)
    have fF_ad3_symbol_x43 := (F_symbol_ad3_37.ext E43)
    have fE_sd3_x43 := (E_sd3_38.ext E43)
    have fF_sd3_value_x43 := (F_value_sd3_39.ext E43)
    have fF_sd3_coder_x43 := (F_coder_sd3_40.ext E43)
    have fA_vd3_x43 := (V_3.ext E43)
    have K43 : Keep h0 h43 [] := Keep.ext (Keep.refl h0 _) E43
    have Z43 : n0 ≤ h43.size := Nat.le_trans Z0 E43.1
    obtain ⟨cq44, kq44, q44a, q44b, q44c⟩ := isOf hZ e43 fE_sd3_x43
    obtain ⟨_, _, ⟨T44, L44, k44, n44⟩, -, X44, ⟨Lc44, hQ44, l44, y44, z44⟩, st44⟩ := X43.virtualBack hx (y := (⟨"java/lang/String", "equals", "(Ljava/lang/Object;)Z"⟩ : MethodName)) (z := (⟨"java/lang/String", "equals", "(Ljava/lang/Object;)Z"⟩ : MethodName)) hown (mvT hZ (hw _ (List.mem_of_getElem? (i := 23) rfl))) (mvT hZ (hw _ (List.mem_of_getElem? (i := 24) rfl))) (notFace_of_selects (args := #[]) (mvT hZ (hw _ (List.mem_of_getElem? (i := 26) rfl)))) (mvT hZ (hw _ (List.mem_of_getElem? (i := 26) rfl))) (mvT hZ (hw _ (List.mem_of_getElem? (i := 25) rfl))) (by decide) (backOf (W := 0) (rm3x11 l Z a0 hw [] sd3 a43 vd3 b43 own_g3 own_c39 GA (0 : Int32) h43 n0 Z43 ⟨fE_sd3_x43, fF_sd3_value_x43, fF_sd3_coder_x43⟩ ⟨A43, V43, C43⟩ fA_vd3_x43 R43 fS_java_lang_String_COMPACT_STRINGS_x43 P5 (by decide) (fun q => absurd q (own_strNe ⟨fE_sd3_x43, fF_sd3_value_x43, fF_sd3_coder_x43⟩ fA_vd3_x43 ⟨A43, V43, C43⟩ R43 (Or.inr ⟨by decide, by decide⟩))) (by decide)) hZ (hw _ (List.mem_of_getElem? (i := 27) rfl)) (hw _ (List.mem_of_getElem? (i := 16) rfl)) (by decide) (by decide)) q44a q44c (g := (mkF m 38 #[.val (.int p1), .val (.int (3 : Int32)), .val (.ref ad3), .val (.int (0 : Int32)), .val (.ref sd3), .unset] [(.ref a43), (.ref sd3)])) rfl (by rw [hml]; rfl) (Steps.refl _) (argsL := [(.ref a43)]) (rest := []) (lenOf pd_0_2 rfl) rfl (by show 2 * 0 + _ ≤ _; exact Nat.le_of_eq rfl) (hb hby at_38) (fun _ _ => ⟨rfl, e43, (by decide : 2 + 0 ≤ _), (by decide : 8 + 0 ≤ _)⟩)
    dsimp only [Pt.U, Pt.locs, Pt.cells, Pt.slots] at X44 l44 y44 z44 st44 hQ44
    subst l44 y44 z44
    obtain ⟨rfl, N44q, e44⟩ := hQ44
    have N44 := Fr.app N42 N44q
    obtain ⟨a45, T45, h45, b45, X45, e45, E45, hSs, hZ, hown, A45, C45, V45, R45, I45, Lt45, Wv45, st45⟩ := own_ldc (s := s) (vm0 := T43.vm) X44 hx hZ hown (hw _ (List.mem_of_getElem? (i := 45) rfl)) wS e44 hSs (own_fr hh hn0 N44) hkeep I43 (by decide) hheld47 hcw (L := own_L47) (z := 2) ht_47 (by decide) (by decide) (g := (mkF m 46 #[.val (.int p1), .val (.int (3 : Int32)), .val (.ref ad3), .val (.int (0 : Int32)), .val (.ref sd3), .unset] [(.ref sd3)])) rfl (hb hby at_46) (n := 8) (by decide) (by decide) (by decide) (by decide)
    have fS_java_lang_String_COMPACT_STRINGS_x45 := (fS_java_lang_String_COMPACT_STRINGS_x43.ext E45)
    have fS_com_example_solmap_solmap_sparql_Expression_Operator_GREATER_x45 := (fS_com_example_solmap_solmap_sparql_Expression_Operator_GREATER_x43.ext E45)
    have fS_com_example_solmap_solmap_sparql_Expression_Operator_EQUAL_x45 := (fS_com_example_solmap_solmap_sparql_Expression_Operator_EQUAL_x43.ext E45)
    have fS_com_example_solmap_solmap_sparql_Expression_Operator_NOT_EQUAL_x45 := (fS_com_example_solmap_solmap_sparql_Expression_Operator_NOT_EQUAL_x43.ext E45)
    have fE_ad3_x45 := (fE_ad3_x43.ext E45)
    have fF_ad3_symbol_x45 := (fF_ad3_symbol_x43.ext E45)
    have fE_sd3_x45 := (fE_sd3_x43.ext E45)
    have fF_sd3_value_x45 := (fF_sd3_value_x43.ext E45)
    have fF_sd3_coder_x45 := (fF_sd3_coder_x43.ext E45)
    have fA_vd3_x45 := (fA_vd3_x43.ext E45)
    have fE_a43_x45 := (A43.ext E45)
    have fF_a43_coder_x45 := (C43.ext E45)
    have fF_a43_value_x45 := (V43.ext E45)
    have fA_b43_x45 := (R43.ext E45)
    have Lt45_39 := Lit.stays Lt43 Wv45
    have K45 : Keep h0 h45 [] := Keep.ext K43 E45
    have Z45 : n0 ≤ h45.size := Nat.le_trans Z43 E45.1
    obtain ⟨cq46, kq46, q46a, q46b, q46c⟩ := isOf hZ e45 fE_sd3_x45
    obtain ⟨_, _, ⟨T46, L46, k46, n46⟩, -, X46, ⟨Lc46, hQ46, l46, y46, z46⟩, st46⟩ := X45.virtualBack hx (y := (⟨"java/lang/String", "equals", "(Ljava/lang/Object;)Z"⟩ : MethodName)) (z := (⟨"java/lang/String", "equals", "(Ljava/lang/Object;)Z"⟩ : MethodName)) hown (mvT hZ (hw _ (List.mem_of_getElem? (i := 23) rfl))) (mvT hZ (hw _ (List.mem_of_getElem? (i := 24) rfl))) (notFace_of_selects (args := #[]) (mvT hZ (hw _ (List.mem_of_getElem? (i := 26) rfl)))) (mvT hZ (hw _ (List.mem_of_getElem? (i := 26) rfl))) (mvT hZ (hw _ (List.mem_of_getElem? (i := 25) rfl))) (by decide) (backOf (W := 0) (rm3x12 l Z a0 hw [] sd3 a45 vd3 b45 own_g3 own_c47 GA (0 : Int32) h45 n0 Z45 ⟨fE_sd3_x45, fF_sd3_value_x45, fF_sd3_coder_x45⟩ ⟨A45, V45, C45⟩ fA_vd3_x45 R45 fS_java_lang_String_COMPACT_STRINGS_x45 P5 (by decide) (fun q => absurd q (own_strNe ⟨fE_sd3_x45, fF_sd3_value_x45, fF_sd3_coder_x45⟩ fA_vd3_x45 ⟨A45, V45, C45⟩ R45 (Or.inl (by decide)))) (by decide)) hZ (hw _ (List.mem_of_getElem? (i := 27) rfl)) (hw _ (List.mem_of_getElem? (i := 16) rfl)) (by decide) (by decide)) q46a q46c (g := (mkF m 48 #[.val (.int p1), .val (.int (3 : Int32)), .val (.ref ad3), .val (.int (0 : Int32)), .val (.ref sd3), .unset] [(.ref a45), (.ref sd3)])) rfl (by rw [hml]; rfl) (Steps.refl _) (argsL := [(.ref a45)]) (rest := []) (lenOf pd_0_2 rfl) rfl (by show 2 * 0 + _ ≤ _; exact Nat.le_of_eq rfl) (hb hby at_48) (fun _ _ => ⟨rfl, e45, (by decide : 4 + 0 ≤ _), (by decide : 20 + 0 ≤ _)⟩)
    dsimp only [Pt.U, Pt.locs, Pt.cells, Pt.slots] at X46 l46 y46 z46 st46 hQ46
    subst l46 y46 z46
    obtain ⟨rfl, N46q, e46⟩ := hQ46
    have N46 := Fr.app N44 N46q
    obtain ⟨cq47, kq47, q47a, q47b, q47c⟩ := isOf hZ e46 fE_ad3_x45
    obtain ⟨_, _, ⟨T47, L47, k47, n47⟩, -, X47, ⟨Lc47, hQ47, l47, y47, z47⟩, st47⟩ := X46.virtualBack hx (y := (⟨"com/example/solmap/solmap/sparql/Expression$Operator", "isEquality", "()Z"⟩ : MethodName)) (z := (⟨"com/example/solmap/solmap/sparql/Expression$Operator", "isEquality", "()Z"⟩ : MethodName)) hown (mvT hZ (hw _ (List.mem_of_getElem? (i := 37) rfl))) (mvT hZ (hw _ (List.mem_of_getElem? (i := 38) rfl))) (notFace_of_selects (args := #[]) (mvT hZ (hw _ (List.mem_of_getElem? (i := 40) rfl)))) (mvT hZ (hw _ (List.mem_of_getElem? (i := 40) rfl))) (mvT hZ (hw _ (List.mem_of_getElem? (i := 39) rfl))) (by decide) (backOf (W := 0) (rm5o l Z a0 hw [] ad3 ad0 ad1 h45 n0 Z45 fS_com_example_solmap_solmap_sparql_Expression_Operator_EQUAL_x45 fS_com_example_solmap_solmap_sparql_Expression_Operator_NOT_EQUAL_x45 ne3_0 ne3_1) hZ (hw _ (List.mem_of_getElem? (i := 41) rfl)) (hw _ (List.mem_of_getElem? (i := 6) rfl)) (by decide) (by decide)) q47a q47c (g := (mkF m 62 #[.val (.int p1), .val (.int (3 : Int32)), .val (.ref ad3), .val (.int (0 : Int32)), .val (.ref sd3), .val (.int (0 : Int32))] [(.ref ad3)])) rfl (by rw [hml]; rfl) (Steps.refl _) (argsL := []) (rest := []) (lenOf pd_0_3 rfl) rfl (by show 2 * 0 + _ ≤ _; exact Nat.le_of_eq rfl) (hb hby at_62) (fun _ _ => ⟨rfl, e46, (by decide : 4 + 0 ≤ _), (by decide : 20 + 0 ≤ _)⟩)
    dsimp only [Pt.U, Pt.locs, Pt.cells, Pt.slots] at X47 l47 y47 z47 st47 hQ47
    subst l47 y47 z47
    obtain ⟨rfl, N47q, e47⟩ := hQ47
    have N47 := Fr.app N46 N47q
    refine own_preW (A := T47.setTop (mkF m 80 #[.val (.int p1), .val (.int (3 : Int32)), .val (.ref ad3), .val (.int (0 : Int32)), .val (.ref sd3), .val (.int (0 : Int32))] [(.int (1 : Int32))])) (fun tt kt => ?_) ?_
    · show Steps p.tables e below (s₁.setTop (mkF m 8 #[.val (.int p1), .val (.int (3 : Int32)), .unset, .unset, .unset, .unset] [])) _
      refine XS.iloadN X0.here hx rfl (hb hby at_8) rfl ?_
      show Steps p.tables e below (s₁.setTop (mkF m 9 #[.val (.int p1), .val (.int (3 : Int32)), .unset, .unset, .unset, .unset] [(.int (3 : Int32))])) _
      refine st41 _ ?_
      show Steps p.tables e below (T41.setTop (mkF m 12 #[.val (.int p1), .val (.int (3 : Int32)), .unset, .unset, .unset, .unset] [(.ref ad3)])) _
      refine XS.astoreN X41.here hx rfl (hb hby at_12) rfl rfl (l' := #[.val (.int p1), .val (.int (3 : Int32)), .val (.ref ad3), .unset, .unset, .unset]) rfl ?_
      refine XS.iloadN X41.here hx rfl (hb hby at_13) rfl ?_
      refine XS.ifNo X41.here hx rfl (hb hby at_14) rfl ((if0 _ _).trans (feq ((by decide) : ¬ ((3 : Int32) = (0 : Int32)))).1) ?_
      refine XS.iloadN X41.here hx rfl (hb hby at_17) rfl ?_
      show Steps p.tables e below (T41.setTop (mkF m 18 #[.val (.int p1), .val (.int (3 : Int32)), .val (.ref ad3), .unset, .unset, .unset] [(.int (3 : Int32))])) _
      refine XS.iconst X41.here hx rfl (hb hby at_18) ?_
      refine XS.icmpYes X41.here hx rfl (pc0 := 19) (pc' := 26) rfl (hb hby at_19) rfl (feq ((by decide) : ¬ ((3 : Int32) = (1 : Int32)))).2 (by decide) (by decide) ?_
      refine XS.iconst X41.here hx rfl (hb hby at_26) ?_
      refine XS.istoreN X41.here hx rfl (hb hby at_27) rfl (l' := #[.val (.int p1), .val (.int (3 : Int32)), .val (.ref ad3), .val (.int (0 : Int32)), .unset, .unset]) rfl ?_
      show Steps p.tables e below (T41.setTop (mkF m 28 #[.val (.int p1), .val (.int (3 : Int32)), .val (.ref ad3), .val (.int (0 : Int32)), .unset, .unset] [])) _
      refine XS.aloadN X41.here hx rfl (hb hby at_28) rfl rfl ?_
      show Steps p.tables e below (T41.setTop (mkF m 29 #[.val (.int p1), .val (.int (3 : Int32)), .val (.ref ad3), .val (.int (0 : Int32)), .unset, .unset] [(.ref ad3)])) _
      refine st42.trans ?_
      show Steps p.tables e below (T42.setTop (mkF m 32 #[.val (.int p1), .val (.int (3 : Int32)), .val (.ref ad3), .val (.int (0 : Int32)), .unset, .unset] [(.ref sd3)])) _
      refine XS.astore X42.here hx rfl (hb hby at_32) rfl rfl (l' := #[.val (.int p1), .val (.int (3 : Int32)), .val (.ref ad3), .val (.int (0 : Int32)), .val (.ref sd3), .unset]) rfl ?_
      refine XS.aload X42.here hx rfl (hb hby at_34) rfl rfl ?_
      show Steps p.tables e below (T42.setTop (mkF m 36 #[.val (.int p1), .val (.int (3 : Int32)), .val (.ref ad3), .val (.int (0 : Int32)), .val (.ref sd3), .unset] [(.ref sd3)])) _
      refine st43 _ ?_
      show Steps p.tables e below (T43.setTop (mkF m 38 #[.val (.int p1), .val (.int (3 : Int32)), .val (.ref ad3), .val (.int (0 : Int32)), .val (.ref sd3), .unset] [(.ref a43), (.ref sd3)])) _
      refine st44.trans ?_
      show Steps p.tables e below (T44.setTop (mkF m 41 #[.val (.int p1), .val (.int (3 : Int32)), .val (.ref ad3), .val (.int (0 : Int32)), .val (.ref sd3), .unset] [(.int (0 : Int32))])) _
      refine XS.ifNo X44.here hx rfl (hb hby at_41) rfl ((if0 _ _).trans (teq ((by decide) : (0 : Int32) = (0 : Int32))).2) ?_
      refine XS.aload X44.here hx rfl (hb hby at_44) rfl rfl ?_
      show Steps p.tables e below (T44.setTop (mkF m 46 #[.val (.int p1), .val (.int (3 : Int32)), .val (.ref ad3), .val (.int (0 : Int32)), .val (.ref sd3), .unset] [(.ref sd3)])) _
      refine st45 _ ?_
      show Steps p.tables e below (T45.setTop (mkF m 48 #[.val (.int p1), .val (.int (3 : Int32)), .val (.ref ad3), .val (.int (0 : Int32)), .val (.ref sd3), .unset] [(.ref a45), (.ref sd3)])) _
      refine st46.trans ?_
      show Steps p.tables e below (T46.setTop (mkF m 51 #[.val (.int p1), .val (.int (3 : Int32)), .val (.ref ad3), .val (.int (0 : Int32)), .val (.ref sd3), .unset] [(.int (0 : Int32))])) _
      refine XS.ifYes X46.here hx rfl (pc0 := 51) (pc' := 58) rfl (hb hby at_51) rfl ((if0 _ _).trans (teq ((by decide) : (0 : Int32) = (0 : Int32))).1) (by decide) (by decide) ?_
      refine XS.iconst X46.here hx rfl (hb hby at_58) ?_
      refine XS.istore X46.here hx rfl (hb hby at_59) rfl (l' := #[.val (.int p1), .val (.int (3 : Int32)), .val (.ref ad3), .val (.int (0 : Int32)), .val (.ref sd3), .val (.int (0 : Int32))]) rfl ?_
      refine XS.aloadN X46.here hx rfl (hb hby at_61) rfl rfl ?_
      show Steps p.tables e below (T46.setTop (mkF m 62 #[.val (.int p1), .val (.int (3 : Int32)), .val (.ref ad3), .val (.int (0 : Int32)), .val (.ref sd3), .val (.int (0 : Int32))] [(.ref ad3)])) _
      refine st47.trans ?_
      show Steps p.tables e below (T47.setTop (mkF m 65 #[.val (.int p1), .val (.int (3 : Int32)), .val (.ref ad3), .val (.int (0 : Int32)), .val (.ref sd3), .val (.int (0 : Int32))] [(.int (0 : Int32))])) _
      refine XS.iloadN X47.here hx rfl (hb hby at_65) rfl ?_
      refine XS.icmpNo X47.here hx rfl (hb hby at_66) rfl (teq ((by decide) : (0 : Int32) = (0 : Int32))).2 ?_
      refine XS.iloadN X47.here hx rfl (hb hby at_69) rfl ?_
      refine XS.iload X47.here hx rfl (hb hby at_70) rfl ?_
      show Steps p.tables e below (T47.setTop (mkF m 72 #[.val (.int p1), .val (.int (3 : Int32)), .val (.ref ad3), .val (.int (0 : Int32)), .val (.ref sd3), .val (.int (0 : Int32))] [(.int (0 : Int32)), (.int (0 : Int32))])) _
      refine XS.icmpNo X47.here hx rfl (hb hby at_72) rfl (teq ((by decide) : (0 : Int32) = (0 : Int32))).2 ?_
      refine XS.iconst X47.here hx rfl (hb hby at_75) ?_
      refine XS.goto X47.here hx rfl (pc0 := 76) (pc' := 80) rfl (hb hby at_76) (by decide) (by decide) ?_
      exact kt
    show own_EndW p e below s (T47.setTop (mkF m 80 #[.val (.int p1), .val (.int (3 : Int32)), .val (.ref ad3), .val (.int (0 : Int32)), .val (.ref sd3), .val (.int (0 : Int32))] [(.int (1 : Int32))])) (Q0 Z p1 GA ad0 sd0 vd0 ad1 sd1 vd1 ad2 sd2 vd2 ad3 sd3 vd3 ad4 sd4 vd4 ad5 sd5 vd5 h0 n0) room_1.cells room_1.slots
    obtain ⟨fs, hr, hrun, hended, hEnd⟩ := Stand.leaveW (s := s) (vm₁ := T45.vm) X47 hSs (by rw [e47]; exact Nat.le_refl _) (v := some (.int (1 : Int32))) (fun h => by rw [Bd.returns] at h; cases h)
    refine ⟨_, _, ?_, hrun, hended, _, _, rfl, ?_, hEnd.1, hEnd.2.1, hEnd.2.2.1, hEnd.2.2.2.mono (by decide) (by decide)⟩
    · exact retN X47 hx (t := .boolean) Bd.returns (by simp) (hb hby at_80) hr
    · show Q0 Z p1 GA ad0 sd0 vd0 ad1 sd1 vd1 ad2 sd2 vd2 ad3 sd3 vd3 ad4 sd4 vd4 ad5 sd5 vd5 h0 n0 _ T47.heap _
      rw [e47]
      exact ⟨rfl, N47⟩
  by_cases hs1_4 : iv = (4 : Int32)
  · rw [hs1_4]
    obtain ⟨E_ad4_48, F_symbol_ad4_49⟩ := O_4
    obtain ⟨E_sd4_50, F_value_sd4_51, F_coder_sd4_52⟩ := S_4
    obtain ⟨_, _, ⟨T53, L53, k53, n53⟩, -, X53, ⟨Lc53, hQ53, l53, y53, z53⟩, st53⟩ := Jvm.LawKit.callS X0 hx (y := (⟨"com/example/solmap/solmap/sparql/OperatorIsEqualityPinLaw", "pick", "(I)Lcom/example/solmap/solmap/sparql/Expression$Operator;"⟩ : MethodName)) hown (mvT hZ (hw _ (List.mem_of_getElem? (i := 1) rfl))) (mvT hZ (hw _ (List.mem_of_getElem? (i := 2) rfl))) (mvT hZ (hw _ (List.mem_of_getElem? (i := 3) rfl))) (mvT hZ (hw _ (List.mem_of_getElem? (i := 4) rfl))) (by decide) (backOf (W := 0) (rm1k4 l Z a0 hw []  ad4 h0 n0 Z0 T_4) hZ (hw _ (List.mem_of_getElem? (i := 4) rfl)) (hw _ (List.mem_of_getElem? (i := 3) rfl)) (by decide) (by decide)) (g := (mkF m 9 #[.val (.int p1), .val (.int (4 : Int32)), .unset, .unset, .unset, .unset] [(.int (4 : Int32))])) rfl (by rw [hml]; rfl) (argsL := [(.int (4 : Int32))]) (rest := []) (lenOf pd_0_0 rfl) rfl (by show 2 * 0 + _ ≤ _; exact Nat.le_of_eq rfl) (hb hby at_9) (fun _ _ => ⟨rfl, e0, (by decide : 0 + 0 ≤ _), (by decide : 0 + 0 ≤ _)⟩)
    dsimp only [Pt.U, Pt.locs, Pt.cells, Pt.slots] at X53 l53 y53 z53 st53 hQ53
    subst l53 y53 z53
    obtain ⟨rfl, N53q, e53⟩ := hQ53
    have N53 := Fr.app N0 N53q
    obtain ⟨cq54, kq54, q54a, q54b, q54c⟩ := isOf hZ e53 E_ad4_48
    obtain ⟨_, _, ⟨T54, L54, k54, n54⟩, -, X54, ⟨Lc54, hQ54, l54, y54, z54⟩, st54⟩ := X53.virtualBack hx (y := (⟨"com/example/solmap/solmap/sparql/Expression$Operator", "symbol", "()Ljava/lang/String;"⟩ : MethodName)) (z := (⟨"com/example/solmap/solmap/sparql/Expression$Operator", "symbol", "()Ljava/lang/String;"⟩ : MethodName)) hown (mvT hZ (hw _ (List.mem_of_getElem? (i := 8) rfl))) (mvT hZ (hw _ (List.mem_of_getElem? (i := 9) rfl))) (notFace_of_selects (args := #[]) (mvT hZ (hw _ (List.mem_of_getElem? (i := 11) rfl)))) (mvT hZ (hw _ (List.mem_of_getElem? (i := 11) rfl))) (mvT hZ (hw _ (List.mem_of_getElem? (i := 10) rfl))) (by decide) (backOf (W := 0) (rm2 l Z a0 hw [] ad4 sd4 h0 n0 Z0 ⟨E_ad4_48, F_symbol_ad4_49⟩) hZ (hw _ (List.mem_of_getElem? (i := 12) rfl)) (hw _ (List.mem_of_getElem? (i := 6) rfl)) (by decide) (by decide)) q54a q54c (g := (mkF m 29 #[.val (.int p1), .val (.int (4 : Int32)), .val (.ref ad4), .val (.int (0 : Int32)), .unset, .unset] [(.ref ad4)])) rfl (by rw [hml]; rfl) (Steps.refl _) (argsL := []) (rest := []) (lenOf pd_0_1 rfl) rfl (by show 2 * 0 + _ ≤ _; exact Nat.le_of_eq rfl) (hb hby at_29) (fun _ _ => ⟨rfl, e53, (by decide : 0 + 0 ≤ _), (by decide : 0 + 0 ≤ _)⟩)
    dsimp only [Pt.U, Pt.locs, Pt.cells, Pt.slots] at X54 l54 y54 z54 st54 hQ54
    subst l54 y54 z54
    obtain ⟨rfl, N54q, e54⟩ := hQ54
    have N54 := Fr.app N53 N54q
    obtain ⟨a55, T55, h55, b55, X55, e55, E55, hSs, hZ, hown, A55, C55, V55, R55, I55, Lt55, Wv55, st55⟩ := own_ldc (s := s) (vm0 := s.vm) X54 hx hZ hown (hw _ (List.mem_of_getElem? (i := 15) rfl)) wS e54 hSs (own_fr hh hn0 N54) hkeep I0 (by decide) hheld39 hcw (L := own_L39) (z := 1) ht_39 (by decide) (by decide) (g := (mkF m 36 #[.val (.int p1), .val (.int (4 : Int32)), .val (.ref ad4), .val (.int (0 : Int32)), .val (.ref sd4), .unset] [(.ref sd4)])) rfl (hb hby at_36) (n := 4) (by decide) (by decide) (by decide) (by decide)
    have fS_java_lang_String_COMPACT_STRINGS_x55 := (O2.ext E55)
    have fS_com_example_solmap_solmap_sparql_Expression_Operator_LESS_OR_EQUAL_x55 := (T_4.ext E55)
    have fS_com_example_solmap_solmap_sparql_Expression_Operator_EQUAL_x55 := (T_0.ext E55)
    have fS_com_example_solmap_solmap_sparql_Expression_Operator_NOT_EQUAL_x55 := (T_1.ext E55)
    have fE_ad4_x55 := (E_ad4_48.ext E55)
    have fF_ad4_symbol_x55 := (F_symbol_ad4_49.ext E55)
    have fE_sd4_x55 := (E_sd4_50.ext E55)
    have fF_sd4_value_x55 := (F_value_sd4_51.ext E55)
    have fF_sd4_coder_x55 := (F_coder_sd4_52.ext E55)
    have fA_vd4_x55 := (V_4.ext E55)
    have K55 : Keep h0 h55 [] := Keep.ext (Keep.refl h0 _) E55
    have Z55 : n0 ≤ h55.size := Nat.le_trans Z0 E55.1
    obtain ⟨cq56, kq56, q56a, q56b, q56c⟩ := isOf hZ e55 fE_sd4_x55
    obtain ⟨_, _, ⟨T56, L56, k56, n56⟩, -, X56, ⟨Lc56, hQ56, l56, y56, z56⟩, st56⟩ := X55.virtualBack hx (y := (⟨"java/lang/String", "equals", "(Ljava/lang/Object;)Z"⟩ : MethodName)) (z := (⟨"java/lang/String", "equals", "(Ljava/lang/Object;)Z"⟩ : MethodName)) hown (mvT hZ (hw _ (List.mem_of_getElem? (i := 23) rfl))) (mvT hZ (hw _ (List.mem_of_getElem? (i := 24) rfl))) (notFace_of_selects (args := #[]) (mvT hZ (hw _ (List.mem_of_getElem? (i := 26) rfl)))) (mvT hZ (hw _ (List.mem_of_getElem? (i := 26) rfl))) (mvT hZ (hw _ (List.mem_of_getElem? (i := 25) rfl))) (by decide) (backOf (W := 0) (rm3x21 l Z a0 hw [] sd4 a55 vd4 b55 own_g4 own_c39 GA (0 : Int32) h55 n0 Z55 ⟨fE_sd4_x55, fF_sd4_value_x55, fF_sd4_coder_x55⟩ ⟨A55, V55, C55⟩ fA_vd4_x55 R55 fS_java_lang_String_COMPACT_STRINGS_x55 P5 (by decide) (fun q => absurd q (own_strNe ⟨fE_sd4_x55, fF_sd4_value_x55, fF_sd4_coder_x55⟩ fA_vd4_x55 ⟨A55, V55, C55⟩ R55 (Or.inl (by decide)))) (by decide)) hZ (hw _ (List.mem_of_getElem? (i := 27) rfl)) (hw _ (List.mem_of_getElem? (i := 16) rfl)) (by decide) (by decide)) q56a q56c (g := (mkF m 38 #[.val (.int p1), .val (.int (4 : Int32)), .val (.ref ad4), .val (.int (0 : Int32)), .val (.ref sd4), .unset] [(.ref a55), (.ref sd4)])) rfl (by rw [hml]; rfl) (Steps.refl _) (argsL := [(.ref a55)]) (rest := []) (lenOf pd_0_2 rfl) rfl (by show 2 * 0 + _ ≤ _; exact Nat.le_of_eq rfl) (hb hby at_38) (fun _ _ => ⟨rfl, e55, (by decide : 2 + 0 ≤ _), (by decide : 8 + 0 ≤ _)⟩)
    dsimp only [Pt.U, Pt.locs, Pt.cells, Pt.slots] at X56 l56 y56 z56 st56 hQ56
    subst l56 y56 z56
    obtain ⟨rfl, N56q, e56⟩ := hQ56
    have N56 := Fr.app N54 N56q
    obtain ⟨a57, T57, h57, b57, X57, e57, E57, hSs, hZ, hown, A57, C57, V57, R57, I57, Lt57, Wv57, st57⟩ := own_ldc (s := s) (vm0 := T55.vm) X56 hx hZ hown (hw _ (List.mem_of_getElem? (i := 45) rfl)) wS e56 hSs (own_fr hh hn0 N56) hkeep I55 (by decide) hheld47 hcw (L := own_L47) (z := 2) ht_47 (by decide) (by decide) (g := (mkF m 46 #[.val (.int p1), .val (.int (4 : Int32)), .val (.ref ad4), .val (.int (0 : Int32)), .val (.ref sd4), .unset] [(.ref sd4)])) rfl (hb hby at_46) (n := 8) (by decide) (by decide) (by decide) (by decide)
    have fS_java_lang_String_COMPACT_STRINGS_x57 := (fS_java_lang_String_COMPACT_STRINGS_x55.ext E57)
    have fS_com_example_solmap_solmap_sparql_Expression_Operator_LESS_OR_EQUAL_x57 := (fS_com_example_solmap_solmap_sparql_Expression_Operator_LESS_OR_EQUAL_x55.ext E57)
    have fS_com_example_solmap_solmap_sparql_Expression_Operator_EQUAL_x57 := (fS_com_example_solmap_solmap_sparql_Expression_Operator_EQUAL_x55.ext E57)
    have fS_com_example_solmap_solmap_sparql_Expression_Operator_NOT_EQUAL_x57 := (fS_com_example_solmap_solmap_sparql_Expression_Operator_NOT_EQUAL_x55.ext E57)
    have fE_ad4_x57 := (fE_ad4_x55.ext E57)
    have fF_ad4_symbol_x57 := (fF_ad4_symbol_x55.ext E57)
    have fE_sd4_x57 := (fE_sd4_x55.ext E57)
    have fF_sd4_value_x57 := (fF_sd4_value_x55.ext E57)
    have fF_sd4_coder_x57 := (fF_sd4_coder_x55.ext E57)
    have fA_vd4_x57 := (fA_vd4_x55.ext E57)
    have fE_a55_x57 := (A55.ext E57)
    have fF_a55_coder_x57 := (C55.ext E57)
    have fF_a55_value_x57 := (V55.ext E57)
    have fA_b55_x57 := (R55.ext E57)
    have Lt57_39 := Lit.stays Lt55 Wv57
    have K57 : Keep h0 h57 [] := Keep.ext K55 E57
    have Z57 : n0 ≤ h57.size := Nat.le_trans Z55 E57.1
    obtain ⟨cq58, kq58, q58a, q58b, q58c⟩ := isOf hZ e57 fE_sd4_x57
    obtain ⟨_, _, ⟨T58, L58, k58, n58⟩, -, X58, ⟨Lc58, hQ58, l58, y58, z58⟩, st58⟩ := X57.virtualBack hx (y := (⟨"java/lang/String", "equals", "(Ljava/lang/Object;)Z"⟩ : MethodName)) (z := (⟨"java/lang/String", "equals", "(Ljava/lang/Object;)Z"⟩ : MethodName)) hown (mvT hZ (hw _ (List.mem_of_getElem? (i := 23) rfl))) (mvT hZ (hw _ (List.mem_of_getElem? (i := 24) rfl))) (notFace_of_selects (args := #[]) (mvT hZ (hw _ (List.mem_of_getElem? (i := 26) rfl)))) (mvT hZ (hw _ (List.mem_of_getElem? (i := 26) rfl))) (mvT hZ (hw _ (List.mem_of_getElem? (i := 25) rfl))) (by decide) (backOf (W := 0) (rm3x22 l Z a0 hw [] sd4 a57 vd4 b57 own_g4 own_c47 GA (0 : Int32) h57 n0 Z57 ⟨fE_sd4_x57, fF_sd4_value_x57, fF_sd4_coder_x57⟩ ⟨A57, V57, C57⟩ fA_vd4_x57 R57 fS_java_lang_String_COMPACT_STRINGS_x57 P5 (by decide) (fun q => absurd q (own_strNe ⟨fE_sd4_x57, fF_sd4_value_x57, fF_sd4_coder_x57⟩ fA_vd4_x57 ⟨A57, V57, C57⟩ R57 (Or.inr ⟨by decide, by decide⟩))) (by decide)) hZ (hw _ (List.mem_of_getElem? (i := 27) rfl)) (hw _ (List.mem_of_getElem? (i := 16) rfl)) (by decide) (by decide)) q58a q58c (g := (mkF m 48 #[.val (.int p1), .val (.int (4 : Int32)), .val (.ref ad4), .val (.int (0 : Int32)), .val (.ref sd4), .unset] [(.ref a57), (.ref sd4)])) rfl (by rw [hml]; rfl) (Steps.refl _) (argsL := [(.ref a57)]) (rest := []) (lenOf pd_0_2 rfl) rfl (by show 2 * 0 + _ ≤ _; exact Nat.le_of_eq rfl) (hb hby at_48) (fun _ _ => ⟨rfl, e57, (by decide : 4 + 0 ≤ _), (by decide : 20 + 0 ≤ _)⟩)
    dsimp only [Pt.U, Pt.locs, Pt.cells, Pt.slots] at X58 l58 y58 z58 st58 hQ58
    subst l58 y58 z58
    obtain ⟨rfl, N58q, e58⟩ := hQ58
    have N58 := Fr.app N56 N58q
    obtain ⟨cq59, kq59, q59a, q59b, q59c⟩ := isOf hZ e58 fE_ad4_x57
    obtain ⟨_, _, ⟨T59, L59, k59, n59⟩, -, X59, ⟨Lc59, hQ59, l59, y59, z59⟩, st59⟩ := X58.virtualBack hx (y := (⟨"com/example/solmap/solmap/sparql/Expression$Operator", "isEquality", "()Z"⟩ : MethodName)) (z := (⟨"com/example/solmap/solmap/sparql/Expression$Operator", "isEquality", "()Z"⟩ : MethodName)) hown (mvT hZ (hw _ (List.mem_of_getElem? (i := 37) rfl))) (mvT hZ (hw _ (List.mem_of_getElem? (i := 38) rfl))) (notFace_of_selects (args := #[]) (mvT hZ (hw _ (List.mem_of_getElem? (i := 40) rfl)))) (mvT hZ (hw _ (List.mem_of_getElem? (i := 40) rfl))) (mvT hZ (hw _ (List.mem_of_getElem? (i := 39) rfl))) (by decide) (backOf (W := 0) (rm5o l Z a0 hw [] ad4 ad0 ad1 h57 n0 Z57 fS_com_example_solmap_solmap_sparql_Expression_Operator_EQUAL_x57 fS_com_example_solmap_solmap_sparql_Expression_Operator_NOT_EQUAL_x57 ne4_0 ne4_1) hZ (hw _ (List.mem_of_getElem? (i := 41) rfl)) (hw _ (List.mem_of_getElem? (i := 6) rfl)) (by decide) (by decide)) q59a q59c (g := (mkF m 62 #[.val (.int p1), .val (.int (4 : Int32)), .val (.ref ad4), .val (.int (0 : Int32)), .val (.ref sd4), .val (.int (0 : Int32))] [(.ref ad4)])) rfl (by rw [hml]; rfl) (Steps.refl _) (argsL := []) (rest := []) (lenOf pd_0_3 rfl) rfl (by show 2 * 0 + _ ≤ _; exact Nat.le_of_eq rfl) (hb hby at_62) (fun _ _ => ⟨rfl, e58, (by decide : 4 + 0 ≤ _), (by decide : 20 + 0 ≤ _)⟩)
    dsimp only [Pt.U, Pt.locs, Pt.cells, Pt.slots] at X59 l59 y59 z59 st59 hQ59
    subst l59 y59 z59
    obtain ⟨rfl, N59q, e59⟩ := hQ59
    have N59 := Fr.app N58 N59q
    refine own_preW (A := T59.setTop (mkF m 80 #[.val (.int p1), .val (.int (4 : Int32)), .val (.ref ad4), .val (.int (0 : Int32)), .val (.ref sd4), .val (.int (0 : Int32))] [(.int (1 : Int32))])) (fun tt kt => ?_) ?_
    · show Steps p.tables e below (s₁.setTop (mkF m 8 #[.val (.int p1), .val (.int (4 : Int32)), .unset, .unset, .unset, .unset] [])) _
      refine XS.iloadN X0.here hx rfl (hb hby at_8) rfl ?_
      show Steps p.tables e below (s₁.setTop (mkF m 9 #[.val (.int p1), .val (.int (4 : Int32)), .unset, .unset, .unset, .unset] [(.int (4 : Int32))])) _
      refine st53 _ ?_
      show Steps p.tables e below (T53.setTop (mkF m 12 #[.val (.int p1), .val (.int (4 : Int32)), .unset, .unset, .unset, .unset] [(.ref ad4)])) _
      refine XS.astoreN X53.here hx rfl (hb hby at_12) rfl rfl (l' := #[.val (.int p1), .val (.int (4 : Int32)), .val (.ref ad4), .unset, .unset, .unset]) rfl ?_
      refine XS.iloadN X53.here hx rfl (hb hby at_13) rfl ?_
      refine XS.ifNo X53.here hx rfl (hb hby at_14) rfl ((if0 _ _).trans (feq ((by decide) : ¬ ((4 : Int32) = (0 : Int32)))).1) ?_
      refine XS.iloadN X53.here hx rfl (hb hby at_17) rfl ?_
      show Steps p.tables e below (T53.setTop (mkF m 18 #[.val (.int p1), .val (.int (4 : Int32)), .val (.ref ad4), .unset, .unset, .unset] [(.int (4 : Int32))])) _
      refine XS.iconst X53.here hx rfl (hb hby at_18) ?_
      refine XS.icmpYes X53.here hx rfl (pc0 := 19) (pc' := 26) rfl (hb hby at_19) rfl (feq ((by decide) : ¬ ((4 : Int32) = (1 : Int32)))).2 (by decide) (by decide) ?_
      refine XS.iconst X53.here hx rfl (hb hby at_26) ?_
      refine XS.istoreN X53.here hx rfl (hb hby at_27) rfl (l' := #[.val (.int p1), .val (.int (4 : Int32)), .val (.ref ad4), .val (.int (0 : Int32)), .unset, .unset]) rfl ?_
      show Steps p.tables e below (T53.setTop (mkF m 28 #[.val (.int p1), .val (.int (4 : Int32)), .val (.ref ad4), .val (.int (0 : Int32)), .unset, .unset] [])) _
      refine XS.aloadN X53.here hx rfl (hb hby at_28) rfl rfl ?_
      show Steps p.tables e below (T53.setTop (mkF m 29 #[.val (.int p1), .val (.int (4 : Int32)), .val (.ref ad4), .val (.int (0 : Int32)), .unset, .unset] [(.ref ad4)])) _
      refine st54.trans ?_
      show Steps p.tables e below (T54.setTop (mkF m 32 #[.val (.int p1), .val (.int (4 : Int32)), .val (.ref ad4), .val (.int (0 : Int32)), .unset, .unset] [(.ref sd4)])) _
      refine XS.astore X54.here hx rfl (hb hby at_32) rfl rfl (l' := #[.val (.int p1), .val (.int (4 : Int32)), .val (.ref ad4), .val (.int (0 : Int32)), .val (.ref sd4), .unset]) rfl ?_
      refine XS.aload X54.here hx rfl (hb hby at_34) rfl rfl ?_
      show Steps p.tables e below (T54.setTop (mkF m 36 #[.val (.int p1), .val (.int (4 : Int32)), .val (.ref ad4), .val (.int (0 : Int32)), .val (.ref sd4), .unset] [(.ref sd4)])) _
      refine st55 _ ?_
      show Steps p.tables e below (T55.setTop (mkF m 38 #[.val (.int p1), .val (.int (4 : Int32)), .val (.ref ad4), .val (.int (0 : Int32)), .val (.ref sd4), .unset] [(.ref a55), (.ref sd4)])) _
      refine st56.trans ?_
      show Steps p.tables e below (T56.setTop (mkF m 41 #[.val (.int p1), .val (.int (4 : Int32)), .val (.ref ad4), .val (.int (0 : Int32)), .val (.ref sd4), .unset] [(.int (0 : Int32))])) _
      refine XS.ifNo X56.here hx rfl (hb hby at_41) rfl ((if0 _ _).trans (teq ((by decide) : (0 : Int32) = (0 : Int32))).2) ?_
      refine XS.aload X56.here hx rfl (hb hby at_44) rfl rfl ?_
      show Steps p.tables e below (T56.setTop (mkF m 46 #[.val (.int p1), .val (.int (4 : Int32)), .val (.ref ad4), .val (.int (0 : Int32)), .val (.ref sd4), .unset] [(.ref sd4)])) _
      refine st57 _ ?_
      show Steps p.tables e below (T57.setTop (mkF m 48 #[.val (.int p1), .val (.int (4 : Int32)), .val (.ref ad4), .val (.int (0 : Int32)), .val (.ref sd4), .unset] [(.ref a57), (.ref sd4)])) _
      refine st58.trans ?_
      show Steps p.tables e below (T58.setTop (mkF m 51 #[.val (.int p1), .val (.int (4 : Int32)), .val (.ref ad4), .val (.int (0 : Int32)), .val (.ref sd4), .unset] [(.int (0 : Int32))])) _
      refine XS.ifYes X58.here hx rfl (pc0 := 51) (pc' := 58) rfl (hb hby at_51) rfl ((if0 _ _).trans (teq ((by decide) : (0 : Int32) = (0 : Int32))).1) (by decide) (by decide) ?_
      refine XS.iconst X58.here hx rfl (hb hby at_58) ?_
      refine XS.istore X58.here hx rfl (hb hby at_59) rfl (l' := #[.val (.int p1), .val (.int (4 : Int32)), .val (.ref ad4), .val (.int (0 : Int32)), .val (.ref sd4), .val (.int (0 : Int32))]) rfl ?_
      refine XS.aloadN X58.here hx rfl (hb hby at_61) rfl rfl ?_
      show Steps p.tables e below (T58.setTop (mkF m 62 #[.val (.int p1), .val (.int (4 : Int32)), .val (.ref ad4), .val (.int (0 : Int32)), .val (.ref sd4), .val (.int (0 : Int32))] [(.ref ad4)])) _
      refine st59.trans ?_
      show Steps p.tables e below (T59.setTop (mkF m 65 #[.val (.int p1), .val (.int (4 : Int32)), .val (.ref ad4), .val (.int (0 : Int32)), .val (.ref sd4), .val (.int (0 : Int32))] [(.int (0 : Int32))])) _
      refine XS.iloadN X59.here hx rfl (hb hby at_65) rfl ?_
      refine XS.icmpNo X59.here hx rfl (hb hby at_66) rfl (teq ((by decide) : (0 : Int32) = (0 : Int32))).2 ?_
      refine XS.iloadN X59.here hx rfl (hb hby at_69) rfl ?_
      refine XS.iload X59.here hx rfl (hb hby at_70) rfl ?_
      show Steps p.tables e below (T59.setTop (mkF m 72 #[.val (.int p1), .val (.int (4 : Int32)), .val (.ref ad4), .val (.int (0 : Int32)), .val (.ref sd4), .val (.int (0 : Int32))] [(.int (0 : Int32)), (.int (0 : Int32))])) _
      refine XS.icmpNo X59.here hx rfl (hb hby at_72) rfl (teq ((by decide) : (0 : Int32) = (0 : Int32))).2 ?_
      refine XS.iconst X59.here hx rfl (hb hby at_75) ?_
      refine XS.goto X59.here hx rfl (pc0 := 76) (pc' := 80) rfl (hb hby at_76) (by decide) (by decide) ?_
      exact kt
    show own_EndW p e below s (T59.setTop (mkF m 80 #[.val (.int p1), .val (.int (4 : Int32)), .val (.ref ad4), .val (.int (0 : Int32)), .val (.ref sd4), .val (.int (0 : Int32))] [(.int (1 : Int32))])) (Q0 Z p1 GA ad0 sd0 vd0 ad1 sd1 vd1 ad2 sd2 vd2 ad3 sd3 vd3 ad4 sd4 vd4 ad5 sd5 vd5 h0 n0) room_1.cells room_1.slots
    obtain ⟨fs, hr, hrun, hended, hEnd⟩ := Stand.leaveW (s := s) (vm₁ := T57.vm) X59 hSs (by rw [e59]; exact Nat.le_refl _) (v := some (.int (1 : Int32))) (fun h => by rw [Bd.returns] at h; cases h)
    refine ⟨_, _, ?_, hrun, hended, _, _, rfl, ?_, hEnd.1, hEnd.2.1, hEnd.2.2.1, hEnd.2.2.2.mono (by decide) (by decide)⟩
    · exact retN X59 hx (t := .boolean) Bd.returns (by simp) (hb hby at_80) hr
    · show Q0 Z p1 GA ad0 sd0 vd0 ad1 sd1 vd1 ad2 sd2 vd2 ad3 sd3 vd3 ad4 sd4 vd4 ad5 sd5 vd5 h0 n0 _ T59.heap _
      rw [e59]
      exact ⟨rfl, N59⟩
  have hs1_5 : iv = (5 : Int32) := own_last _ e_iv hs1_0 hs1_1 hs1_2 hs1_3 hs1_4
  rw [hs1_5]
  obtain ⟨E_ad5_60, F_symbol_ad5_61⟩ := O_5
  obtain ⟨E_sd5_62, F_value_sd5_63, F_coder_sd5_64⟩ := S_5
  obtain ⟨_, _, ⟨T65, L65, k65, n65⟩, -, X65, ⟨Lc65, hQ65, l65, y65, z65⟩, st65⟩ := Jvm.LawKit.callS X0 hx (y := (⟨"com/example/solmap/solmap/sparql/OperatorIsEqualityPinLaw", "pick", "(I)Lcom/example/solmap/solmap/sparql/Expression$Operator;"⟩ : MethodName)) hown (mvT hZ (hw _ (List.mem_of_getElem? (i := 1) rfl))) (mvT hZ (hw _ (List.mem_of_getElem? (i := 2) rfl))) (mvT hZ (hw _ (List.mem_of_getElem? (i := 3) rfl))) (mvT hZ (hw _ (List.mem_of_getElem? (i := 4) rfl))) (by decide) (backOf (W := 0) (rm1k5 l Z a0 hw []  ad5 h0 n0 Z0 T_5) hZ (hw _ (List.mem_of_getElem? (i := 4) rfl)) (hw _ (List.mem_of_getElem? (i := 3) rfl)) (by decide) (by decide)) (g := (mkF m 9 #[.val (.int p1), .val (.int (5 : Int32)), .unset, .unset, .unset, .unset] [(.int (5 : Int32))])) rfl (by rw [hml]; rfl) (argsL := [(.int (5 : Int32))]) (rest := []) (lenOf pd_0_0 rfl) rfl (by show 2 * 0 + _ ≤ _; exact Nat.le_of_eq rfl) (hb hby at_9) (fun _ _ => ⟨rfl, e0, (by decide : 0 + 0 ≤ _), (by decide : 0 + 0 ≤ _)⟩)
  dsimp only [Pt.U, Pt.locs, Pt.cells, Pt.slots] at X65 l65 y65 z65 st65 hQ65
  subst l65 y65 z65
  obtain ⟨rfl, N65q, e65⟩ := hQ65
  have N65 := Fr.app N0 N65q
  obtain ⟨cq66, kq66, q66a, q66b, q66c⟩ := isOf hZ e65 E_ad5_60
  obtain ⟨_, _, ⟨T66, L66, k66, n66⟩, -, X66, ⟨Lc66, hQ66, l66, y66, z66⟩, st66⟩ := X65.virtualBack hx (y := (⟨"com/example/solmap/solmap/sparql/Expression$Operator", "symbol", "()Ljava/lang/String;"⟩ : MethodName)) (z := (⟨"com/example/solmap/solmap/sparql/Expression$Operator", "symbol", "()Ljava/lang/String;"⟩ : MethodName)) hown (mvT hZ (hw _ (List.mem_of_getElem? (i := 8) rfl))) (mvT hZ (hw _ (List.mem_of_getElem? (i := 9) rfl))) (notFace_of_selects (args := #[]) (mvT hZ (hw _ (List.mem_of_getElem? (i := 11) rfl)))) (mvT hZ (hw _ (List.mem_of_getElem? (i := 11) rfl))) (mvT hZ (hw _ (List.mem_of_getElem? (i := 10) rfl))) (by decide) (backOf (W := 0) (rm2 l Z a0 hw [] ad5 sd5 h0 n0 Z0 ⟨E_ad5_60, F_symbol_ad5_61⟩) hZ (hw _ (List.mem_of_getElem? (i := 12) rfl)) (hw _ (List.mem_of_getElem? (i := 6) rfl)) (by decide) (by decide)) q66a q66c (g := (mkF m 29 #[.val (.int p1), .val (.int (5 : Int32)), .val (.ref ad5), .val (.int (0 : Int32)), .unset, .unset] [(.ref ad5)])) rfl (by rw [hml]; rfl) (Steps.refl _) (argsL := []) (rest := []) (lenOf pd_0_1 rfl) rfl (by show 2 * 0 + _ ≤ _; exact Nat.le_of_eq rfl) (hb hby at_29) (fun _ _ => ⟨rfl, e65, (by decide : 0 + 0 ≤ _), (by decide : 0 + 0 ≤ _)⟩)
  dsimp only [Pt.U, Pt.locs, Pt.cells, Pt.slots] at X66 l66 y66 z66 st66 hQ66
  subst l66 y66 z66
  obtain ⟨rfl, N66q, e66⟩ := hQ66
  have N66 := Fr.app N65 N66q
  obtain ⟨a67, T67, h67, b67, X67, e67, E67, hSs, hZ, hown, A67, C67, V67, R67, I67, Lt67, Wv67, st67⟩ := own_ldc (s := s) (vm0 := s.vm) X66 hx hZ hown (hw _ (List.mem_of_getElem? (i := 15) rfl)) wS e66 hSs (own_fr hh hn0 N66) hkeep I0 (by decide) hheld39 hcw (L := own_L39) (z := 1) ht_39 (by decide) (by decide) (g := (mkF m 36 #[.val (.int p1), .val (.int (5 : Int32)), .val (.ref ad5), .val (.int (0 : Int32)), .val (.ref sd5), .unset] [(.ref sd5)])) rfl (hb hby at_36) (n := 4) (by decide) (by decide) (by decide) (by decide)
  have fS_java_lang_String_COMPACT_STRINGS_x67 := (O2.ext E67)
  have fS_com_example_solmap_solmap_sparql_Expression_Operator_GREATER_OR_EQUAL_x67 := (T_5.ext E67)
  have fS_com_example_solmap_solmap_sparql_Expression_Operator_EQUAL_x67 := (T_0.ext E67)
  have fS_com_example_solmap_solmap_sparql_Expression_Operator_NOT_EQUAL_x67 := (T_1.ext E67)
  have fE_ad5_x67 := (E_ad5_60.ext E67)
  have fF_ad5_symbol_x67 := (F_symbol_ad5_61.ext E67)
  have fE_sd5_x67 := (E_sd5_62.ext E67)
  have fF_sd5_value_x67 := (F_value_sd5_63.ext E67)
  have fF_sd5_coder_x67 := (F_coder_sd5_64.ext E67)
  have fA_vd5_x67 := (V_5.ext E67)
  have K67 : Keep h0 h67 [] := Keep.ext (Keep.refl h0 _) E67
  have Z67 : n0 ≤ h67.size := Nat.le_trans Z0 E67.1
  obtain ⟨cq68, kq68, q68a, q68b, q68c⟩ := isOf hZ e67 fE_sd5_x67
  obtain ⟨_, _, ⟨T68, L68, k68, n68⟩, -, X68, ⟨Lc68, hQ68, l68, y68, z68⟩, st68⟩ := X67.virtualBack hx (y := (⟨"java/lang/String", "equals", "(Ljava/lang/Object;)Z"⟩ : MethodName)) (z := (⟨"java/lang/String", "equals", "(Ljava/lang/Object;)Z"⟩ : MethodName)) hown (mvT hZ (hw _ (List.mem_of_getElem? (i := 23) rfl))) (mvT hZ (hw _ (List.mem_of_getElem? (i := 24) rfl))) (notFace_of_selects (args := #[]) (mvT hZ (hw _ (List.mem_of_getElem? (i := 26) rfl)))) (mvT hZ (hw _ (List.mem_of_getElem? (i := 26) rfl))) (mvT hZ (hw _ (List.mem_of_getElem? (i := 25) rfl))) (by decide) (backOf (W := 0) (rm3x21 l Z a0 hw [] sd5 a67 vd5 b67 own_g5 own_c39 GA (0 : Int32) h67 n0 Z67 ⟨fE_sd5_x67, fF_sd5_value_x67, fF_sd5_coder_x67⟩ ⟨A67, V67, C67⟩ fA_vd5_x67 R67 fS_java_lang_String_COMPACT_STRINGS_x67 P5 (by decide) (fun q => absurd q (own_strNe ⟨fE_sd5_x67, fF_sd5_value_x67, fF_sd5_coder_x67⟩ fA_vd5_x67 ⟨A67, V67, C67⟩ R67 (Or.inl (by decide)))) (by decide)) hZ (hw _ (List.mem_of_getElem? (i := 27) rfl)) (hw _ (List.mem_of_getElem? (i := 16) rfl)) (by decide) (by decide)) q68a q68c (g := (mkF m 38 #[.val (.int p1), .val (.int (5 : Int32)), .val (.ref ad5), .val (.int (0 : Int32)), .val (.ref sd5), .unset] [(.ref a67), (.ref sd5)])) rfl (by rw [hml]; rfl) (Steps.refl _) (argsL := [(.ref a67)]) (rest := []) (lenOf pd_0_2 rfl) rfl (by show 2 * 0 + _ ≤ _; exact Nat.le_of_eq rfl) (hb hby at_38) (fun _ _ => ⟨rfl, e67, (by decide : 2 + 0 ≤ _), (by decide : 8 + 0 ≤ _)⟩)
  dsimp only [Pt.U, Pt.locs, Pt.cells, Pt.slots] at X68 l68 y68 z68 st68 hQ68
  subst l68 y68 z68
  obtain ⟨rfl, N68q, e68⟩ := hQ68
  have N68 := Fr.app N66 N68q
  obtain ⟨a69, T69, h69, b69, X69, e69, E69, hSs, hZ, hown, A69, C69, V69, R69, I69, Lt69, Wv69, st69⟩ := own_ldc (s := s) (vm0 := T67.vm) X68 hx hZ hown (hw _ (List.mem_of_getElem? (i := 45) rfl)) wS e68 hSs (own_fr hh hn0 N68) hkeep I67 (by decide) hheld47 hcw (L := own_L47) (z := 2) ht_47 (by decide) (by decide) (g := (mkF m 46 #[.val (.int p1), .val (.int (5 : Int32)), .val (.ref ad5), .val (.int (0 : Int32)), .val (.ref sd5), .unset] [(.ref sd5)])) rfl (hb hby at_46) (n := 8) (by decide) (by decide) (by decide) (by decide)
  have fS_java_lang_String_COMPACT_STRINGS_x69 := (fS_java_lang_String_COMPACT_STRINGS_x67.ext E69)
  have fS_com_example_solmap_solmap_sparql_Expression_Operator_GREATER_OR_EQUAL_x69 := (fS_com_example_solmap_solmap_sparql_Expression_Operator_GREATER_OR_EQUAL_x67.ext E69)
  have fS_com_example_solmap_solmap_sparql_Expression_Operator_EQUAL_x69 := (fS_com_example_solmap_solmap_sparql_Expression_Operator_EQUAL_x67.ext E69)
  have fS_com_example_solmap_solmap_sparql_Expression_Operator_NOT_EQUAL_x69 := (fS_com_example_solmap_solmap_sparql_Expression_Operator_NOT_EQUAL_x67.ext E69)
  have fE_ad5_x69 := (fE_ad5_x67.ext E69)
  have fF_ad5_symbol_x69 := (fF_ad5_symbol_x67.ext E69)
  have fE_sd5_x69 := (fE_sd5_x67.ext E69)
  have fF_sd5_value_x69 := (fF_sd5_value_x67.ext E69)
  have fF_sd5_coder_x69 := (fF_sd5_coder_x67.ext E69)
  have fA_vd5_x69 := (fA_vd5_x67.ext E69)
  have fE_a67_x69 := (A67.ext E69)
  have fF_a67_coder_x69 := (C67.ext E69)
  have fF_a67_value_x69 := (V67.ext E69)
  have fA_b67_x69 := (R67.ext E69)
  have Lt69_39 := Lit.stays Lt67 Wv69
  have K69 : Keep h0 h69 [] := Keep.ext K67 E69
  have Z69 : n0 ≤ h69.size := Nat.le_trans Z67 E69.1
  obtain ⟨cq70, kq70, q70a, q70b, q70c⟩ := isOf hZ e69 fE_sd5_x69
  obtain ⟨_, _, ⟨T70, L70, k70, n70⟩, -, X70, ⟨Lc70, hQ70, l70, y70, z70⟩, st70⟩ := X69.virtualBack hx (y := (⟨"java/lang/String", "equals", "(Ljava/lang/Object;)Z"⟩ : MethodName)) (z := (⟨"java/lang/String", "equals", "(Ljava/lang/Object;)Z"⟩ : MethodName)) hown (mvT hZ (hw _ (List.mem_of_getElem? (i := 23) rfl))) (mvT hZ (hw _ (List.mem_of_getElem? (i := 24) rfl))) (notFace_of_selects (args := #[]) (mvT hZ (hw _ (List.mem_of_getElem? (i := 26) rfl)))) (mvT hZ (hw _ (List.mem_of_getElem? (i := 26) rfl))) (mvT hZ (hw _ (List.mem_of_getElem? (i := 25) rfl))) (by decide) (backOf (W := 0) (rm3x22 l Z a0 hw [] sd5 a69 vd5 b69 own_g5 own_c47 GA (0 : Int32) h69 n0 Z69 ⟨fE_sd5_x69, fF_sd5_value_x69, fF_sd5_coder_x69⟩ ⟨A69, V69, C69⟩ fA_vd5_x69 R69 fS_java_lang_String_COMPACT_STRINGS_x69 P5 (by decide) (fun q => absurd q (own_strNe ⟨fE_sd5_x69, fF_sd5_value_x69, fF_sd5_coder_x69⟩ fA_vd5_x69 ⟨A69, V69, C69⟩ R69 (Or.inr ⟨by decide, by decide⟩))) (by decide)) hZ (hw _ (List.mem_of_getElem? (i := 27) rfl)) (hw _ (List.mem_of_getElem? (i := 16) rfl)) (by decide) (by decide)) q70a q70c (g := (mkF m 48 #[.val (.int p1), .val (.int (5 : Int32)), .val (.ref ad5), .val (.int (0 : Int32)), .val (.ref sd5), .unset] [(.ref a69), (.ref sd5)])) rfl (by rw [hml]; rfl) (Steps.refl _) (argsL := [(.ref a69)]) (rest := []) (lenOf pd_0_2 rfl) rfl (by show 2 * 0 + _ ≤ _; exact Nat.le_of_eq rfl) (hb hby at_48) (fun _ _ => ⟨rfl, e69, (by decide : 4 + 0 ≤ _), (by decide : 20 + 0 ≤ _)⟩)
  dsimp only [Pt.U, Pt.locs, Pt.cells, Pt.slots] at X70 l70 y70 z70 st70 hQ70
  subst l70 y70 z70
  obtain ⟨rfl, N70q, e70⟩ := hQ70
  have N70 := Fr.app N68 N70q
  obtain ⟨cq71, kq71, q71a, q71b, q71c⟩ := isOf hZ e70 fE_ad5_x69
  obtain ⟨_, _, ⟨T71, L71, k71, n71⟩, -, X71, ⟨Lc71, hQ71, l71, y71, z71⟩, st71⟩ := X70.virtualBack hx (y := (⟨"com/example/solmap/solmap/sparql/Expression$Operator", "isEquality", "()Z"⟩ : MethodName)) (z := (⟨"com/example/solmap/solmap/sparql/Expression$Operator", "isEquality", "()Z"⟩ : MethodName)) hown (mvT hZ (hw _ (List.mem_of_getElem? (i := 37) rfl))) (mvT hZ (hw _ (List.mem_of_getElem? (i := 38) rfl))) (notFace_of_selects (args := #[]) (mvT hZ (hw _ (List.mem_of_getElem? (i := 40) rfl)))) (mvT hZ (hw _ (List.mem_of_getElem? (i := 40) rfl))) (mvT hZ (hw _ (List.mem_of_getElem? (i := 39) rfl))) (by decide) (backOf (W := 0) (rm5o l Z a0 hw [] ad5 ad0 ad1 h69 n0 Z69 fS_com_example_solmap_solmap_sparql_Expression_Operator_EQUAL_x69 fS_com_example_solmap_solmap_sparql_Expression_Operator_NOT_EQUAL_x69 ne5_0 ne5_1) hZ (hw _ (List.mem_of_getElem? (i := 41) rfl)) (hw _ (List.mem_of_getElem? (i := 6) rfl)) (by decide) (by decide)) q71a q71c (g := (mkF m 62 #[.val (.int p1), .val (.int (5 : Int32)), .val (.ref ad5), .val (.int (0 : Int32)), .val (.ref sd5), .val (.int (0 : Int32))] [(.ref ad5)])) rfl (by rw [hml]; rfl) (Steps.refl _) (argsL := []) (rest := []) (lenOf pd_0_3 rfl) rfl (by show 2 * 0 + _ ≤ _; exact Nat.le_of_eq rfl) (hb hby at_62) (fun _ _ => ⟨rfl, e70, (by decide : 4 + 0 ≤ _), (by decide : 20 + 0 ≤ _)⟩)
  dsimp only [Pt.U, Pt.locs, Pt.cells, Pt.slots] at X71 l71 y71 z71 st71 hQ71
  subst l71 y71 z71
  obtain ⟨rfl, N71q, e71⟩ := hQ71
  have N71 := Fr.app N70 N71q
  refine own_preW (A := T71.setTop (mkF m 80 #[.val (.int p1), .val (.int (5 : Int32)), .val (.ref ad5), .val (.int (0 : Int32)), .val (.ref sd5), .val (.int (0 : Int32))] [(.int (1 : Int32))])) (fun tt kt => ?_) ?_
  · show Steps p.tables e below (s₁.setTop (mkF m 8 #[.val (.int p1), .val (.int (5 : Int32)), .unset, .unset, .unset, .unset] [])) _
    refine XS.iloadN X0.here hx rfl (hb hby at_8) rfl ?_
    show Steps p.tables e below (s₁.setTop (mkF m 9 #[.val (.int p1), .val (.int (5 : Int32)), .unset, .unset, .unset, .unset] [(.int (5 : Int32))])) _
    refine st65 _ ?_
    show Steps p.tables e below (T65.setTop (mkF m 12 #[.val (.int p1), .val (.int (5 : Int32)), .unset, .unset, .unset, .unset] [(.ref ad5)])) _
    refine XS.astoreN X65.here hx rfl (hb hby at_12) rfl rfl (l' := #[.val (.int p1), .val (.int (5 : Int32)), .val (.ref ad5), .unset, .unset, .unset]) rfl ?_
    refine XS.iloadN X65.here hx rfl (hb hby at_13) rfl ?_
    refine XS.ifNo X65.here hx rfl (hb hby at_14) rfl ((if0 _ _).trans (feq ((by decide) : ¬ ((5 : Int32) = (0 : Int32)))).1) ?_
    refine XS.iloadN X65.here hx rfl (hb hby at_17) rfl ?_
    show Steps p.tables e below (T65.setTop (mkF m 18 #[.val (.int p1), .val (.int (5 : Int32)), .val (.ref ad5), .unset, .unset, .unset] [(.int (5 : Int32))])) _
    refine XS.iconst X65.here hx rfl (hb hby at_18) ?_
    refine XS.icmpYes X65.here hx rfl (pc0 := 19) (pc' := 26) rfl (hb hby at_19) rfl (feq ((by decide) : ¬ ((5 : Int32) = (1 : Int32)))).2 (by decide) (by decide) ?_
    refine XS.iconst X65.here hx rfl (hb hby at_26) ?_
    refine XS.istoreN X65.here hx rfl (hb hby at_27) rfl (l' := #[.val (.int p1), .val (.int (5 : Int32)), .val (.ref ad5), .val (.int (0 : Int32)), .unset, .unset]) rfl ?_
    show Steps p.tables e below (T65.setTop (mkF m 28 #[.val (.int p1), .val (.int (5 : Int32)), .val (.ref ad5), .val (.int (0 : Int32)), .unset, .unset] [])) _
    refine XS.aloadN X65.here hx rfl (hb hby at_28) rfl rfl ?_
    show Steps p.tables e below (T65.setTop (mkF m 29 #[.val (.int p1), .val (.int (5 : Int32)), .val (.ref ad5), .val (.int (0 : Int32)), .unset, .unset] [(.ref ad5)])) _
    refine st66.trans ?_
    show Steps p.tables e below (T66.setTop (mkF m 32 #[.val (.int p1), .val (.int (5 : Int32)), .val (.ref ad5), .val (.int (0 : Int32)), .unset, .unset] [(.ref sd5)])) _
    refine XS.astore X66.here hx rfl (hb hby at_32) rfl rfl (l' := #[.val (.int p1), .val (.int (5 : Int32)), .val (.ref ad5), .val (.int (0 : Int32)), .val (.ref sd5), .unset]) rfl ?_
    refine XS.aload X66.here hx rfl (hb hby at_34) rfl rfl ?_
    show Steps p.tables e below (T66.setTop (mkF m 36 #[.val (.int p1), .val (.int (5 : Int32)), .val (.ref ad5), .val (.int (0 : Int32)), .val (.ref sd5), .unset] [(.ref sd5)])) _
    refine st67 _ ?_
    show Steps p.tables e below (T67.setTop (mkF m 38 #[.val (.int p1), .val (.int (5 : Int32)), .val (.ref ad5), .val (.int (0 : Int32)), .val (.ref sd5), .unset] [(.ref a67), (.ref sd5)])) _
    refine st68.trans ?_
    show Steps p.tables e below (T68.setTop (mkF m 41 #[.val (.int p1), .val (.int (5 : Int32)), .val (.ref ad5), .val (.int (0 : Int32)), .val (.ref sd5), .unset] [(.int (0 : Int32))])) _
    refine XS.ifNo X68.here hx rfl (hb hby at_41) rfl ((if0 _ _).trans (teq ((by decide) : (0 : Int32) = (0 : Int32))).2) ?_
    refine XS.aload X68.here hx rfl (hb hby at_44) rfl rfl ?_
    show Steps p.tables e below (T68.setTop (mkF m 46 #[.val (.int p1), .val (.int (5 : Int32)), .val (.ref ad5), .val (.int (0 : Int32)), .val (.ref sd5), .unset] [(.ref sd5)])) _
    refine st69 _ ?_
    show Steps p.tables e below (T69.setTop (mkF m 48 #[.val (.int p1), .val (.int (5 : Int32)), .val (.ref ad5), .val (.int (0 : Int32)), .val (.ref sd5), .unset] [(.ref a69), (.ref sd5)])) _
    refine st70.trans ?_
    show Steps p.tables e below (T70.setTop (mkF m 51 #[.val (.int p1), .val (.int (5 : Int32)), .val (.ref ad5), .val (.int (0 : Int32)), .val (.ref sd5), .unset] [(.int (0 : Int32))])) _
    refine XS.ifYes X70.here hx rfl (pc0 := 51) (pc' := 58) rfl (hb hby at_51) rfl ((if0 _ _).trans (teq ((by decide) : (0 : Int32) = (0 : Int32))).1) (by decide) (by decide) ?_
    refine XS.iconst X70.here hx rfl (hb hby at_58) ?_
    refine XS.istore X70.here hx rfl (hb hby at_59) rfl (l' := #[.val (.int p1), .val (.int (5 : Int32)), .val (.ref ad5), .val (.int (0 : Int32)), .val (.ref sd5), .val (.int (0 : Int32))]) rfl ?_
    refine XS.aloadN X70.here hx rfl (hb hby at_61) rfl rfl ?_
    show Steps p.tables e below (T70.setTop (mkF m 62 #[.val (.int p1), .val (.int (5 : Int32)), .val (.ref ad5), .val (.int (0 : Int32)), .val (.ref sd5), .val (.int (0 : Int32))] [(.ref ad5)])) _
    refine st71.trans ?_
    show Steps p.tables e below (T71.setTop (mkF m 65 #[.val (.int p1), .val (.int (5 : Int32)), .val (.ref ad5), .val (.int (0 : Int32)), .val (.ref sd5), .val (.int (0 : Int32))] [(.int (0 : Int32))])) _
    refine XS.iloadN X71.here hx rfl (hb hby at_65) rfl ?_
    refine XS.icmpNo X71.here hx rfl (hb hby at_66) rfl (teq ((by decide) : (0 : Int32) = (0 : Int32))).2 ?_
    refine XS.iloadN X71.here hx rfl (hb hby at_69) rfl ?_
    refine XS.iload X71.here hx rfl (hb hby at_70) rfl ?_
    show Steps p.tables e below (T71.setTop (mkF m 72 #[.val (.int p1), .val (.int (5 : Int32)), .val (.ref ad5), .val (.int (0 : Int32)), .val (.ref sd5), .val (.int (0 : Int32))] [(.int (0 : Int32)), (.int (0 : Int32))])) _
    refine XS.icmpNo X71.here hx rfl (hb hby at_72) rfl (teq ((by decide) : (0 : Int32) = (0 : Int32))).2 ?_
    refine XS.iconst X71.here hx rfl (hb hby at_75) ?_
    refine XS.goto X71.here hx rfl (pc0 := 76) (pc' := 80) rfl (hb hby at_76) (by decide) (by decide) ?_
    exact kt
  show own_EndW p e below s (T71.setTop (mkF m 80 #[.val (.int p1), .val (.int (5 : Int32)), .val (.ref ad5), .val (.int (0 : Int32)), .val (.ref sd5), .val (.int (0 : Int32))] [(.int (1 : Int32))])) (Q0 Z p1 GA ad0 sd0 vd0 ad1 sd1 vd1 ad2 sd2 vd2 ad3 sd3 vd3 ad4 sd4 vd4 ad5 sd5 vd5 h0 n0) room_1.cells room_1.slots
  obtain ⟨fs, hr, hrun, hended, hEnd⟩ := Stand.leaveW (s := s) (vm₁ := T69.vm) X71 hSs (by rw [e71]; exact Nat.le_refl _) (v := some (.int (1 : Int32))) (fun h => by rw [Bd.returns] at h; cases h)
  refine ⟨_, _, ?_, hrun, hended, _, _, rfl, ?_, hEnd.1, hEnd.2.1, hEnd.2.2.1, hEnd.2.2.2.mono (by decide) (by decide)⟩
  · exact retN X71 hx (t := .boolean) Bd.returns (by simp) (hb hby at_80) hr
  · show Q0 Z p1 GA ad0 sd0 vd0 ad1 sd1 vd1 ad2 sd2 vd2 ad3 sd3 vd3 ad4 sd4 vd4 ad5 sd5 vd5 h0 n0 _ T71.heap _
    rw [e71]
    exact ⟨rfl, N71⟩
set_option maxRecDepth 65536 in
set_option maxHeartbeats 40000000 in
theorem comes_1 {Post : Tables → Env → Array Value → State → Outcome → State → Prop} (hpost : ∀ tb e args s v u, (limb_1_1.after args s (.returned v) u = true ∧ limb_1_2.after args s (.returned v) u = true ∧ True) → Jvm.D.FramedW s (.returned v) u (Jvm.fieldLocs frame_1_writes args s ++ Jvm.arrayLocs frame_1_arrays args s ++ Jvm.staticLocs frame_1_statics s) 8 2112 → Post tb e args s (.returned v) u) :
    ArmFor flags0 classFile x code maxLocals ret World_1 tables_1 room_1 Calls_1 rest_1 Pre_1 Post := by
  intro l hfl _ _ p e ha hc hk s m args below hf hA hF happ hP
  obtain ⟨hcalls, hrest, hpre⟩ := hP
  obtain ⟨-, -, -, hnamed, -, -, -, hat⟩ := (Spec.applies_iff hf).mp happ
  obtain ⟨hg, hn⟩ := and_e (Cond.before_iff.mp (show (Jvm.Cond.and given_1 narrow_1).before args s = true from hpre))
  obtain ⟨g1, g2⟩ := and_e hg
  obtain ⟨w0, rfl⟩ : ∃ w0 : Value, args = #[w0] := by
    have hs : args.size = 1 := by simpa [Cond.value, given_1] using g1
    obtain ⟨L⟩ := args
    match L, hs with
    | [w0], _ => exact ⟨w0, rfl⟩
  have hw := fun d (hd : d ∈ tables_1) => atoms_spec (ws := Jvm.Cond.code x code maxLocals ret :: tables_1) hat d (List.mem_cons_of_mem _ hd)
  have hfit : Fit s := fun {y c} hc i hi => by
    obtain ⟨ha, rfl⟩ := Array.getElem?_eq_some_iff.mp hc
    have q := List.all_eq_true.mp ((Array.all_eq_true_iff_forall_mem.mp hF) _ (Array.getElem_mem ha)) i (List.mem_range.mpr hi)
    simpa [Array.getElem?_eq_getElem hi] using q
  obtain ⟨hsets, hown0⟩ := atoms_of _ (rest_1_c_eq ▸ (show rest_1_c.before _ s = true from hrest))
  have hr0 := Cond.before_iff.mp hown0
  obtain ⟨i0, ei0⟩ := is_v g2
  obtain rfl : w0 = (.int i0) := Option.some.inj ei0
  have n5 := not_v (Cond.before_iff.mp (hsets _ (List.mem_of_getElem? (i := 2) rfl)))
  obtain ⟨GA, eGA⟩ := is_v (Cond.before_iff.mp (hsets _ (List.mem_of_getElem? (i := 1) rfl)))
  have O2 : Sta s s.heap "java/lang/String" "COMPACT_STRINGS" "Z" (.int GA) := Sta.start eGA (Or.inl (hsets _ (List.mem_of_getElem? (i := 0) rfl)))
  have P5 : ¬ (GA = (0 : Int32)) := gotF (Cond.eq_ints eGA (Term.int_eval (0))) n5
  have hcw := hsets _ (List.mem_of_getElem? (i := 2) rfl)
  obtain ⟨m1, m2⟩ := and_e hn
  obtain ⟨m3, m4⟩ := and_e m2
  obtain ⟨m5, m6⟩ := and_e m4
  obtain ⟨m7, m8⟩ := and_e m6
  obtain ⟨m9, m10⟩ := and_e m8
  obtain ⟨m11, m12⟩ := and_e m10
  obtain ⟨m13, m14⟩ := and_e m12
  obtain ⟨m15, m16⟩ := and_e m14
  obtain ⟨m17, m18⟩ := and_e m16
  obtain ⟨m19, m20⟩ := and_e m18
  obtain ⟨m21, m22⟩ := and_e m20
  obtain ⟨m23, m24⟩ := and_e m22
  obtain ⟨m25, m26⟩ := and_e m24
  obtain ⟨m27, m28⟩ := and_e m26
  obtain ⟨m29, m30⟩ := and_e m28
  obtain ⟨m31, m32⟩ := and_e m30
  obtain ⟨m33, m34⟩ := and_e m32
  obtain ⟨m35, m36⟩ := and_e m34
  obtain ⟨m37, m38⟩ := and_e m36
  obtain ⟨m39, m40⟩ := and_e m38
  obtain ⟨m41, m42⟩ := and_e m40
  obtain ⟨m43, m44⟩ := and_e m42
  obtain ⟨m45, m46⟩ := and_e m44
  obtain ⟨m47, m48⟩ := and_e m46
  obtain ⟨m49, m50⟩ := and_e m48
  obtain ⟨m51, m52⟩ := and_e m50
  obtain ⟨m53, m54⟩ := and_e m52
  obtain ⟨m55, m56⟩ := and_e m54
  obtain ⟨m57, m58⟩ := and_e m56
  obtain ⟨m59, m60⟩ := and_e m58
  obtain ⟨m61, m62⟩ := and_e m60
  obtain ⟨m63, m64⟩ := and_e m62
  obtain ⟨m65, m66⟩ := and_e m64
  obtain ⟨m67, m68⟩ := and_e m66
  obtain ⟨m69, m70⟩ := and_e m68
  obtain ⟨m71, m72⟩ := and_e m70
  obtain ⟨m73, m74⟩ := and_e m72
  obtain ⟨m75, m76⟩ := and_e m74
  obtain ⟨m77, m78⟩ := and_e m76
  obtain ⟨m79, m80⟩ := and_e m78
  obtain ⟨m81, m82⟩ := and_e m80
  obtain ⟨m83, m84⟩ := and_e m82
  obtain ⟨m85, m86⟩ := and_e m84
  obtain ⟨m87, m88⟩ := and_e m86
  obtain ⟨ad0, sd0, vd0, T_0, O_0, S_0, V_0, ea0⟩ := own_opStart (n := "EQUAL") (z := 1) (L := [61]) hfit (hw _ (List.mem_of_getElem? (i := 6) rfl)) (hw _ (List.mem_of_getElem? (i := 7) rfl)) m1 m3 m5 m7 m9 (fun a cl ev hc => ⟨own_el m11 ev hc (by decide), trivial⟩) (by decide) (by decide)
  have or0 := own_ord ea0 m27
  obtain ⟨ad1, sd1, vd1, T_1, O_1, S_1, V_1, ea1⟩ := own_opStart (n := "NOT_EQUAL") (z := 2) (L := [33, 61]) hfit (hw _ (List.mem_of_getElem? (i := 6) rfl)) (hw _ (List.mem_of_getElem? (i := 47) rfl)) m29 m47 m49 m51 m53 (fun a cl ev hc => ⟨own_el m55 ev hc (by decide), own_el m57 ev hc (by decide), trivial⟩) (by decide) (by decide)
  have or1 := own_ord ea1 m31
  obtain ⟨ad2, sd2, vd2, T_2, O_2, S_2, V_2, ea2⟩ := own_opStart (n := "LESS") (z := 1) (L := [60]) hfit (hw _ (List.mem_of_getElem? (i := 6) rfl)) (hw _ (List.mem_of_getElem? (i := 49) rfl)) m33 m35 m37 m39 m41 (fun a cl ev hc => ⟨own_el m43 ev hc (by decide), trivial⟩) (by decide) (by decide)
  have or2 := own_ord ea2 m45
  obtain ⟨ad3, sd3, vd3, T_3, O_3, S_3, V_3, ea3⟩ := own_opStart (n := "GREATER") (z := 1) (L := [62]) hfit (hw _ (List.mem_of_getElem? (i := 6) rfl)) (hw _ (List.mem_of_getElem? (i := 44) rfl)) m13 m15 m17 m19 m21 (fun a cl ev hc => ⟨own_el m23 ev hc (by decide), trivial⟩) (by decide) (by decide)
  have or3 := own_ord ea3 m25
  obtain ⟨ad4, sd4, vd4, T_4, O_4, S_4, V_4, ea4⟩ := own_opStart (n := "LESS_OR_EQUAL") (z := 2) (L := [60, 61]) hfit (hw _ (List.mem_of_getElem? (i := 6) rfl)) (hw _ (List.mem_of_getElem? (i := 54) rfl)) m73 m75 m77 m79 m81 (fun a cl ev hc => ⟨own_el m83 ev hc (by decide), own_el m88 ev hc (by decide), trivial⟩) (by decide) (by decide)
  have or4 := own_ord ea4 m85
  obtain ⟨ad5, sd5, vd5, T_5, O_5, S_5, V_5, ea5⟩ := own_opStart (n := "GREATER_OR_EQUAL") (z := 2) (L := [62, 61]) hfit (hw _ (List.mem_of_getElem? (i := 6) rfl)) (hw _ (List.mem_of_getElem? (i := 52) rfl)) m59 m61 m63 m65 m67 (fun a cl ev hc => ⟨own_el m69 ev hc (by decide), own_el m87 ev hc (by decide), trivial⟩) (by decide) (by decide)
  have or5 := own_ord ea5 m71
  have ne1_0 : ad1 ≠ ad0 := Fld.ne or1 or0 (by decide)
  have ne2_0 : ad2 ≠ ad0 := Fld.ne or2 or0 (by decide)
  have ne3_0 : ad3 ≠ ad0 := Fld.ne or3 or0 (by decide)
  have ne4_0 : ad4 ≠ ad0 := Fld.ne or4 or0 (by decide)
  have ne5_0 : ad5 ≠ ad0 := Fld.ne or5 or0 (by decide)
  have ne2_1 : ad2 ≠ ad1 := Fld.ne or2 or1 (by decide)
  have ne3_1 : ad3 ≠ ad1 := Fld.ne or3 or1 (by decide)
  have ne4_1 : ad4 ≠ ad1 := Fld.ne or4 or1 (by decide)
  have ne5_1 : ad5 ≠ ad1 := Fld.ne or5 or1 (by decide)
  have hheld39 : own_held s "com/example/solmap/solmap/sparql/OperatorIsEqualityPinLaw" 39 := hcalls.1 ("com/example/solmap/solmap/sparql/OperatorIsEqualityPinLaw", 39) (by simp [consts_1])
  have hheld47 : own_held s "com/example/solmap/solmap/sparql/OperatorIsEqualityPinLaw" 47 := hcalls.1 ("com/example/solmap/solmap/sparql/OperatorIsEqualityPinLaw", 47) (by simp [consts_1])
  obtain ⟨n, o, h1, h2, h3, _, L, rfl, ⟨rfl, N⟩, hq⟩ := rm0 l s _ hw tables_1 i0 GA ad0 sd0 vd0 ad1 sd1 vd1 ad2 sd2 vd2 ad3 sd3 vd3 ad4 sd4 vd4 ad5 sd5 vd5 s.heap s.heap.size (Nat.le_refl _) O2 P5 rfl rfl hheld39 hheld47 hcw T_0 O_0 S_0 V_0 T_1 O_1 S_1 V_1 T_2 O_2 S_2 V_2 T_3 O_3 S_3 V_3 T_4 O_4 S_4 V_4 T_5 O_5 S_5 V_5 ne1_0 ne2_0 ne3_0 ne4_0 ne5_0 ne2_1 ne3_1 ne4_1 ne5_1 p e ha hc hk s m _ below hf ((Spec.applies_iff_loose hf).mp happ).1 ⟨rfl, State.Warmed39.refl s, rfl, rfl⟩ trivial
  refine ⟨n, _, h1, h2, h3, hpost _ _ _ _ _ _ ⟨Cond.after_iff.mpr rfl, Cond.after_iff.mpr (eq_i res_at (Term.int_eval (1)) rfl), trivial⟩ ⟨hq.1, hq.2.1, hq.2.2.1, (hq.2.2.2.sift fun y hy => Or.inr (N y hy)).mono (by decide) (by decide)⟩⟩
theorem main_1_1 : Claimed_1_1 := comes_1 fun _ _ _ _ _ _ h hF => ⟨h.1, hF⟩
theorem main_1_2 : Claimed_1_2 := comes_1 fun _ _ _ _ _ _ h hF => ⟨h.2.1, hF⟩
end Jvm.Pilot.@@N@@
namespace Jvm.Pilot.@@N@@
open Jvm Jvm.ClassFile Sem Op Lib Jvm.Free Jvm.Stand Jvm.Pilot.@@N@@.Jvm.D
/-! MADE BY PROGRAM (witnessworld.py) out of the Statement's table words and the real class files: 18 classes; the members and pool entries that the words name. The judged class is class 1, her method 2. -/
namespace start1
open Jvm.ClassFile
def u (s : String) : CpInfo := .utf8 (stringToUtf16 s)
/-- a pool by its gaps: so many unusable entries, then the entry; so many at the end -/
def gap : Nat → List CpInfo → List CpInfo
  | 0, r => r
  | n + 1, r => .unusable :: gap n r
def poolList (es : List (Nat × CpInfo)) (last : Nat) : List CpInfo := es.foldr (fun e r => gap e.1 (e.2 :: r)) (gap last [])
def pool (es : List (Nat × CpInfo)) (last : Nat) : Array CpInfo := ⟨poolList es last⟩
def fileOf (pool : Array CpInfo) (this : Nat) (attrs : Array Attribute := #[]) (ms : Array MethodInfo := #[]) (fl : Nat := 33) (sup : Nat := 0) (ifs : Array Nat := #[]) (fds : Array FieldInfo := #[]) : ClassFile where
  minorVersion := 0
  majorVersion := 65
  constantPool := pool
  accessFlags := fl
  thisClass := this
  superClass := sup
  interfaces := ifs
  fields := fds
  methods := ms
  attributes := attrs
def plain (name : String) (sup : Option ClassId) : Class where
  name := name
  kind := .ordinary
  loader := none
  accessFlags := 33
  super := sup
  interfaces := #[]
  cf := none
  fields := #[]
  methods := #[]
  instanceTypes := #[]
  staticTypes := #[]
  resolved := #[]
  callSites := []
  init := .initialized
  statics := none
  mirror := none

def pool0 : Array CpInfo := pool [(5, u "<init>"), (0, u "()V"), (1, .class_ 10), (1, u "java/lang/Object")] 113

def k0m0 : Method := { name := "<init>", desc := "()V", sig := { parameters := [], returnType := none }, accessFlags := 1, code := none }
/-- java/lang/Object -/
def k0 : Class := { plain "java/lang/Object" none with
  accessFlags := 33
  interfaces := #[]
  cf := some (fileOf pool0 8 #[] #[{ accessFlags := 1, nameIndex := 5, descriptorIndex := 6, attributes := #[] }] 33 0 #[] #[])
  fields := #[]
  methods := #[k0m0]
  instanceTypes := #[]
  staticTypes := #[]
  resolved := Array.replicate 124 none
  statics := none }

def pool1 : Array CpInfo := pool [(2, .class_ 4), (1, u "java/lang/Object"), (0, u "<init>"), (0, u "()V"), (0, .fieldref 8 9), (0, .class_ 10), (0, .nameAndType 11 12), (0, u "com/example/solmap/solmap/sparql/Expression$Operator"), (0, u "EQUAL"), (0, u "Lcom/example/solmap/solmap/sparql/Expression$Operator;"), (0, .fieldref 8 14), (0, .nameAndType 15 12), (0, u "NOT_EQUAL"), (0, .fieldref 8 17), (0, .nameAndType 18 12), (0, u "LESS"), (0, .fieldref 8 20), (0, .nameAndType 21 12), (0, u "GREATER"), (0, .fieldref 8 23), (0, .nameAndType 24 12), (0, u "LESS_OR_EQUAL"), (0, .fieldref 8 26), (0, .nameAndType 27 12), (0, u "GREATER_OR_EQUAL"), (0, .integer 2147483647), (0, .methodref 30 31), (0, .class_ 32), (0, .nameAndType 33 34), (0, u "com/example/solmap/solmap/sparql/OperatorIsEqualityPinLaw"), (0, u "pick"), (0, u "(I)Lcom/example/solmap/solmap/sparql/Expression$Operator;"), (0, .methodref 8 36), (0, .nameAndType 37 38), (0, u "symbol"), (0, u "()Ljava/lang/String;"), (0, .string 40), (0, u "="), (0, .methodref 42 43), (0, .class_ 44), (0, .nameAndType 45 46), (0, u "java/lang/String"), (0, u "equals"), (0, u "(Ljava/lang/Object;)Z"), (0, .string 48), (0, u "!="), (0, .methodref 8 50), (0, .nameAndType 51 52), (0, u "isEquality"), (0, u "()Z"), (3, u "law"), (0, u "(I)Z")] 6

def k1m0 : Method := { name := "<init>", desc := "()V", sig := { parameters := [], returnType := none }, accessFlags := 2, code := none }
def k1c1 : Code := { maxStack := 2, maxLocals := 1, code := method_2_code, exceptionTable := #[], attributes := #[] }
def k1m1 : Method := { name := "pick", desc := "(I)Lcom/example/solmap/solmap/sparql/Expression$Operator;", sig := { parameters := [.int], returnType := some (.object "com/example/solmap/solmap/sparql/Expression$Operator") }, accessFlags := 10, code := some k1c1 }
def k1c2 : Code := { maxStack := 2, maxLocals := 6, code := code, exceptionTable := #[], attributes := #[] }
def k1m2 : Method := { name := "law", desc := "(I)Z", sig := { parameters := [.int], returnType := some .boolean }, accessFlags := 9, code := some k1c2 }
/-- com/example/solmap/solmap/sparql/OperatorIsEqualityPinLaw -/
def k1 : Class := { plain "com/example/solmap/solmap/sparql/OperatorIsEqualityPinLaw" (some 0) with
  accessFlags := 49
  interfaces := #[]
  cf := some (fileOf pool1 30 #[] #[{ accessFlags := 2, nameIndex := 5, descriptorIndex := 6, attributes := #[] }, { accessFlags := 10, nameIndex := 33, descriptorIndex := 34, attributes := #[] }, { accessFlags := 9, nameIndex := 56, descriptorIndex := 57, attributes := #[] }] 49 2 #[] #[])
  fields := #[]
  methods := #[k1m0, k1m1, k1m2]
  instanceTypes := #[]
  staticTypes := #[]
  resolved := Array.replicate 64 none
  statics := none }

def pool2 : Array CpInfo := pool [(1, .class_ 2), (0, u "java/lang/constant/Constable"), (0, .class_ 4), (0, u "java/lang/Object")] 6

/-- java/lang/constant/Constable -/
def k2 : Class := { plain "java/lang/constant/Constable" (some 0) with
  accessFlags := 1537
  interfaces := #[]
  cf := some (fileOf pool2 1 #[] #[] 1537 3 #[] #[])
  fields := #[]
  methods := #[]
  instanceTypes := #[]
  staticTypes := #[]
  resolved := Array.replicate 11 none
  statics := none }

def pool3 : Array CpInfo := pool [(1, .class_ 2), (0, u "java/lang/Comparable"), (0, .class_ 4), (0, u "java/lang/Object")] 7

/-- java/lang/Comparable -/
def k3 : Class := { plain "java/lang/Comparable" (some 0) with
  accessFlags := 1537
  interfaces := #[]
  cf := some (fileOf pool3 1 #[] #[] 1537 3 #[] #[])
  fields := #[]
  methods := #[]
  instanceTypes := #[]
  staticTypes := #[]
  resolved := Array.replicate 12 none
  statics := none }

def pool4 : Array CpInfo := pool [(1, .class_ 2), (0, u "java/io/Serializable"), (0, .class_ 4), (0, u "java/lang/Object")] 2

/-- java/io/Serializable -/
def k4 : Class := { plain "java/io/Serializable" (some 0) with
  accessFlags := 1537
  interfaces := #[]
  cf := some (fileOf pool4 1 #[] #[] 1537 3 #[] #[])
  fields := #[]
  methods := #[]
  instanceTypes := #[]
  staticTypes := #[]
  resolved := Array.replicate 7 none
  statics := none }

def pool5 : Array CpInfo := pool [(2, .class_ 4), (1, u "java/lang/Enum"), (0, u "name"), (0, u "Ljava/lang/String;"), (2, u "ordinal"), (0, u "I"), (1, .class_ 14), (1, u "java/lang/Object"), (4, u "hash"), (86, .class_ 108), (1, u "java/lang/Enum$EnumDesc"), (2, .class_ 112), (0, u "java/lang/constant/Constable"), (0, .class_ 114), (0, u "java/lang/Comparable"), (0, .class_ 116), (0, u "java/io/Serializable")] 87

/-- java/lang/Enum -/
def k5 : Class := { plain "java/lang/Enum" (some 0) with
  accessFlags := 1057
  interfaces := #[2, 3, 4]
  cf := some (fileOf pool5 2 #[.nestMembers #[106]] #[] 1057 12 #[111, 113, 115] #[{ accessFlags := 18, nameIndex := 5, descriptorIndex := 6, attributes := #[] }, { accessFlags := 18, nameIndex := 9, descriptorIndex := 10, attributes := #[] }, { accessFlags := 2, nameIndex := 19, descriptorIndex := 10, attributes := #[] }])
  fields := #[{ name := "name", type := (.object "java/lang/String"), accessFlags := 18, slot := 0, constantValue := 0 }, { name := "ordinal", type := .int, accessFlags := 18, slot := 1, constantValue := 0 }, { name := "hash", type := .int, accessFlags := 2, slot := 2, constantValue := 0 }]
  methods := #[]
  instanceTypes := #[(.object "java/lang/String"), .int, .int]
  staticTypes := #[]
  resolved := Array.replicate 204 none
  statics := none }

def pool6 : Array CpInfo := pool [(1, .class_ 2), (0, u "com/example/solmap/solmap/sparql/Expression$Operator"), (0, .fieldref 1 4), (0, .nameAndType 5 6), (0, u "EQUAL"), (0, u "Lcom/example/solmap/solmap/sparql/Expression$Operator;"), (0, .fieldref 1 8), (0, .nameAndType 9 6), (0, u "NOT_EQUAL"), (2, u "LESS"), (2, u "GREATER"), (2, u "LESS_OR_EQUAL"), (2, u "GREATER_OR_EQUAL"), (2, u "$VALUES"), (0, u "[Lcom/example/solmap/solmap/sparql/Expression$Operator;"), (6, .class_ 34), (1, u "java/lang/Enum"), (6, .fieldref 1 42), (0, .nameAndType 43 44), (0, u "symbol"), (0, u "Ljava/lang/String;"), (50, u "()Ljava/lang/String;"), (0, u "isEquality"), (0, u "()Z"), (9, .class_ 108), (0, u "com/example/solmap/solmap/sparql/Expression")] 2

def k6c0 : Code := { maxStack := 1, maxLocals := 1, code := prog_111_method_4_code, exceptionTable := #[], attributes := #[] }
def k6m0 : Method := { name := "symbol", desc := "()Ljava/lang/String;", sig := { parameters := [], returnType := some (.object "java/lang/String") }, accessFlags := 1, code := some k6c0 }
def k6c1 : Code := { maxStack := 2, maxLocals := 1, code := prog_111_method_5_code, exceptionTable := #[], attributes := #[] }
def k6m1 : Method := { name := "isEquality", desc := "()Z", sig := { parameters := [], returnType := some .boolean }, accessFlags := 1, code := some k6c1 }
/-- com/example/solmap/solmap/sparql/Expression$Operator -/
def k6 : Class := { plain "com/example/solmap/solmap/sparql/Expression$Operator" (some 5) with
  accessFlags := 16433
  interfaces := #[]
  cf := some (fileOf pool6 1 #[.nestHost 107] #[{ accessFlags := 1, nameIndex := 43, descriptorIndex := 95, attributes := #[] }, { accessFlags := 1, nameIndex := 96, descriptorIndex := 97, attributes := #[] }] 16433 32 #[] #[{ accessFlags := 16409, nameIndex := 5, descriptorIndex := 6, attributes := #[] }, { accessFlags := 16409, nameIndex := 9, descriptorIndex := 6, attributes := #[] }, { accessFlags := 16409, nameIndex := 12, descriptorIndex := 6, attributes := #[] }, { accessFlags := 16409, nameIndex := 15, descriptorIndex := 6, attributes := #[] }, { accessFlags := 16409, nameIndex := 18, descriptorIndex := 6, attributes := #[] }, { accessFlags := 16409, nameIndex := 21, descriptorIndex := 6, attributes := #[] }, { accessFlags := 18, nameIndex := 43, descriptorIndex := 44, attributes := #[] }, { accessFlags := 4122, nameIndex := 24, descriptorIndex := 25, attributes := #[] }])
  fields := #[{ name := "EQUAL", type := (.object "com/example/solmap/solmap/sparql/Expression$Operator"), accessFlags := 16409, slot := 0, constantValue := 0 }, { name := "NOT_EQUAL", type := (.object "com/example/solmap/solmap/sparql/Expression$Operator"), accessFlags := 16409, slot := 1, constantValue := 0 }, { name := "LESS", type := (.object "com/example/solmap/solmap/sparql/Expression$Operator"), accessFlags := 16409, slot := 2, constantValue := 0 }, { name := "GREATER", type := (.object "com/example/solmap/solmap/sparql/Expression$Operator"), accessFlags := 16409, slot := 3, constantValue := 0 }, { name := "LESS_OR_EQUAL", type := (.object "com/example/solmap/solmap/sparql/Expression$Operator"), accessFlags := 16409, slot := 4, constantValue := 0 }, { name := "GREATER_OR_EQUAL", type := (.object "com/example/solmap/solmap/sparql/Expression$Operator"), accessFlags := 16409, slot := 5, constantValue := 0 }, { name := "symbol", type := (.object "java/lang/String"), accessFlags := 18, slot := 3, constantValue := 0 }, { name := "$VALUES", type := (.array (.object "com/example/solmap/solmap/sparql/Expression$Operator")), accessFlags := 4122, slot := 6, constantValue := 0 }]
  methods := #[k6m0, k6m1]
  instanceTypes := #[(.object "java/lang/String"), .int, .int, (.object "java/lang/String")]
  staticTypes := #[(.object "com/example/solmap/solmap/sparql/Expression$Operator"), (.object "com/example/solmap/solmap/sparql/Expression$Operator"), (.object "com/example/solmap/solmap/sparql/Expression$Operator"), (.object "com/example/solmap/solmap/sparql/Expression$Operator"), (.object "com/example/solmap/solmap/sparql/Expression$Operator"), (.object "com/example/solmap/solmap/sparql/Expression$Operator"), (.array (.object "com/example/solmap/solmap/sparql/Expression$Operator"))]
  resolved := Array.replicate 111 none
  statics := some 2 }

def pool7 : Array CpInfo := pool [(2, .class_ 4), (1, u "java/lang/CharSequence"), (42, .class_ 48), (0, u "java/lang/CharSequence$1CodePointIterator"), (10, .class_ 60), (0, u "java/lang/CharSequence$1CharIterator"), (5, .class_ 67), (0, u "java/lang/Object")] 63

/-- java/lang/CharSequence -/
def k7 : Class := { plain "java/lang/CharSequence" (some 0) with
  accessFlags := 1537
  interfaces := #[]
  cf := some (fileOf pool7 2 #[.nestMembers #[47, 59]] #[] 1537 66 #[] #[])
  fields := #[]
  methods := #[]
  instanceTypes := #[]
  staticTypes := #[]
  resolved := Array.replicate 131 none
  statics := none }

def pool8 : Array CpInfo := pool [(1, .class_ 2), (0, u "java/lang/constant/ConstantDesc"), (0, .class_ 4), (0, u "java/lang/Object")] 32

/-- java/lang/constant/ConstantDesc -/
def k8 : Class := { plain "java/lang/constant/ConstantDesc" (some 0) with
  accessFlags := 1537
  interfaces := #[]
  cf := some (fileOf pool8 1 #[] #[] 1537 3 #[] #[])
  fields := #[]
  methods := #[]
  instanceTypes := #[]
  staticTypes := #[]
  resolved := Array.replicate 37 none
  statics := none }

def pool9 : Array CpInfo := pool [(2, .class_ 4), (1, u "java/lang/Object"), (0, u "<init>"), (0, u "()V"), (2, .fieldref 10 11), (0, .class_ 12), (0, .nameAndType 13 14), (0, u "java/lang/String"), (0, u "value"), (0, u "[B"), (0, .fieldref 10 16), (0, .nameAndType 17 18), (0, u "coder"), (0, u "B"), (2, u "hash"), (0, u "I"), (2, u "hashIsZero"), (0, u "Z"), (11, .fieldref 10 39), (0, .nameAndType 40 26), (0, u "COMPACT_STRINGS"), (66, .class_ 109), (1, u "java/lang/StringLatin1"), (431, .methodref 107 542), (0, .nameAndType 543 544), (0, u "equals"), (0, u "([B[B)Z"), (28, u "(Ljava/lang/Object;)Z"), (1, .class_ 576), (0, u "java/lang/CharSequence"), (22, u "CASE_INSENSITIVE_ORDER"), (0, u "Ljava/util/Comparator;"), (500, u "serialPersistentFields"), (0, u "[Ljava/io/ObjectStreamField;"), (0, .class_ 1104), (0, u "java/lang/String$CaseInsensitiveComparator"), (1, .class_ 1107), (0, u "java/io/Serializable"), (0, .class_ 1109), (0, u "java/lang/Comparable"), (0, .class_ 1111), (0, u "java/lang/constant/Constable"), (0, .class_ 1113), (0, u "java/lang/constant/ConstantDesc"), (2, u "serialVersionUID"), (0, u "J"), (3, u "REPL"), (0, u "C"), (2, u "LATIN1"), (1, u "UTF16")] 323

def k9m0 : Method := { name := "<init>", desc := "()V", sig := { parameters := [], returnType := none }, accessFlags := 1, code := none }
def k9c1 : Code := { maxStack := 2, maxLocals := 3, code := jdk_42_method_66_code, exceptionTable := #[], attributes := #[] }
def k9m1 : Method := { name := "equals", desc := "(Ljava/lang/Object;)Z", sig := { parameters := [(.object "java/lang/Object")], returnType := some .boolean }, accessFlags := 1, code := some k9c1 }
/-- java/lang/String -/
def k9 : Class := { plain "java/lang/String" (some 0) with
  accessFlags := 49
  interfaces := #[4, 3, 7, 2, 8]
  cf := some (fileOf pool9 10 #[.nestMembers #[1103]] #[{ accessFlags := 1, nameIndex := 5, descriptorIndex := 6, attributes := #[] }, { accessFlags := 1, nameIndex := 543, descriptorIndex := 573, attributes := #[] }] 49 2 #[1106, 1108, 575, 1110, 1112] #[{ accessFlags := 18, nameIndex := 13, descriptorIndex := 14, attributes := #[] }, { accessFlags := 18, nameIndex := 17, descriptorIndex := 18, attributes := #[] }, { accessFlags := 2, nameIndex := 21, descriptorIndex := 22, attributes := #[] }, { accessFlags := 2, nameIndex := 25, descriptorIndex := 26, attributes := #[] }, { accessFlags := 26, nameIndex := 1116, descriptorIndex := 1117, attributes := #[] }, { accessFlags := 24, nameIndex := 40, descriptorIndex := 26, attributes := #[] }, { accessFlags := 26, nameIndex := 1101, descriptorIndex := 1102, attributes := #[] }, { accessFlags := 26, nameIndex := 1121, descriptorIndex := 1122, attributes := #[] }, { accessFlags := 25, nameIndex := 599, descriptorIndex := 600, attributes := #[] }, { accessFlags := 24, nameIndex := 1125, descriptorIndex := 18, attributes := #[] }, { accessFlags := 24, nameIndex := 1127, descriptorIndex := 18, attributes := #[] }])
  fields := #[{ name := "value", type := (.array .byte), accessFlags := 18, slot := 0, constantValue := 0 }, { name := "coder", type := .byte, accessFlags := 18, slot := 1, constantValue := 0 }, { name := "hash", type := .int, accessFlags := 2, slot := 2, constantValue := 0 }, { name := "hashIsZero", type := .boolean, accessFlags := 2, slot := 3, constantValue := 0 }, { name := "serialVersionUID", type := .long, accessFlags := 26, slot := 0, constantValue := 0 }, { name := "COMPACT_STRINGS", type := .boolean, accessFlags := 24, slot := 1, constantValue := 0 }, { name := "serialPersistentFields", type := (.array (.object "java/io/ObjectStreamField")), accessFlags := 26, slot := 2, constantValue := 0 }, { name := "REPL", type := .char, accessFlags := 26, slot := 3, constantValue := 0 }, { name := "CASE_INSENSITIVE_ORDER", type := (.object "java/util/Comparator"), accessFlags := 25, slot := 4, constantValue := 0 }, { name := "LATIN1", type := .byte, accessFlags := 24, slot := 5, constantValue := 0 }, { name := "UTF16", type := .byte, accessFlags := 24, slot := 6, constantValue := 0 }]
  methods := #[k9m0, k9m1]
  instanceTypes := #[(.array .byte), .byte, .int, .boolean]
  staticTypes := #[.long, .boolean, (.array (.object "java/io/ObjectStreamField")), .char, (.object "java/util/Comparator"), .byte, .byte]
  resolved := Array.replicate 1451 none
  statics := some 0 }

def pool10 : Array CpInfo := pool [(4, .class_ 6), (1, u "java/lang/Object"), (0, u "<init>"), (0, u "()V"), (5, .class_ 16), (1, u "java/lang/StringLatin1"), (104, u "$assertionsDisabled"), (0, u "Z"), (98, .class_ 223), (1, u "java/lang/StringLatin1$LinesSpliterator"), (57, u "equals"), (0, u "([B[B)Z"), (107, .class_ 391), (0, u "java/lang/StringLatin1$CharsSpliterator")] 3

def k10m0 : Method := { name := "<init>", desc := "()V", sig := { parameters := [], returnType := none }, accessFlags := 0, code := none }
def k10c1 : Code := { maxStack := 3, maxLocals := 3, code := jdk_43_method_13_code, exceptionTable := #[], attributes := #[] }
def k10m1 : Method := { name := "equals", desc := "([B[B)Z", sig := { parameters := [(.array .byte), (.array .byte)], returnType := some .boolean }, accessFlags := 9, code := some k10c1 }
/-- java/lang/StringLatin1 -/
def k10 : Class := { plain "java/lang/StringLatin1" (some 0) with
  accessFlags := 48
  interfaces := #[]
  cf := some (fileOf pool10 14 #[.nestMembers #[390, 221]] #[{ accessFlags := 0, nameIndex := 7, descriptorIndex := 8, attributes := #[] }, { accessFlags := 9, nameIndex := 281, descriptorIndex := 282, attributes := #[] }] 48 4 #[] #[{ accessFlags := 4120, nameIndex := 121, descriptorIndex := 122, attributes := #[] }])
  fields := #[{ name := "$assertionsDisabled", type := .boolean, accessFlags := 4120, slot := 0, constantValue := 0 }]
  methods := #[k10m0, k10m1]
  instanceTypes := #[]
  staticTypes := #[.boolean]
  resolved := Array.replicate 395 none
  statics := none }

def pool11 : Array CpInfo := pool [(2, .class_ 4), (1, u "java/lang/Object"), (0, u "<init>"), (0, u "()V"), (17, .class_ 26), (1, u "jdk/internal/util/Preconditions"), (28, .class_ 56), (0, u "jdk/internal/util/Preconditions$4"), (57, .class_ 115), (0, u "jdk/internal/util/Preconditions$1"), (7, u "SIOOBE_FORMATTER"), (0, u "Ljava/util/function/BiFunction;"), (0, .class_ 126), (0, u "jdk/internal/util/Preconditions$2"), (3, u "AIOOBE_FORMATTER"), (0, .class_ 132), (0, u "jdk/internal/util/Preconditions$3"), (3, u "IOOBE_FORMATTER")] 57

def k11m0 : Method := { name := "<init>", desc := "()V", sig := { parameters := [], returnType := none }, accessFlags := 1, code := none }
/-- jdk/internal/util/Preconditions -/
def k11 : Class := { plain "jdk/internal/util/Preconditions" (some 0) with
  accessFlags := 33
  interfaces := #[]
  cf := some (fileOf pool11 24 #[.nestMembers #[55, 131, 125, 114]] #[{ accessFlags := 1, nameIndex := 5, descriptorIndex := 6, attributes := #[] }] 33 2 #[] #[{ accessFlags := 25, nameIndex := 123, descriptorIndex := 124, attributes := #[] }, { accessFlags := 25, nameIndex := 130, descriptorIndex := 124, attributes := #[] }, { accessFlags := 25, nameIndex := 136, descriptorIndex := 124, attributes := #[] }])
  fields := #[{ name := "SIOOBE_FORMATTER", type := (.object "java/util/function/BiFunction"), accessFlags := 25, slot := 0, constantValue := 0 }, { name := "AIOOBE_FORMATTER", type := (.object "java/util/function/BiFunction"), accessFlags := 25, slot := 1, constantValue := 0 }, { name := "IOOBE_FORMATTER", type := (.object "java/util/function/BiFunction"), accessFlags := 25, slot := 2, constantValue := 0 }]
  methods := #[k11m0]
  instanceTypes := #[]
  staticTypes := #[(.object "java/util/function/BiFunction"), (.object "java/util/function/BiFunction"), (.object "java/util/function/BiFunction")]
  resolved := Array.replicate 194 none
  statics := some 1 }

def pool12 : Array CpInfo := pool [(9, u "<init>"), (6, .class_ 18), (1, u "java/lang/Object"), (0, u "()V"), (1, .class_ 23), (1, u "jdk/internal/util/ArraysSupport"), (0, u "LOG2_ARRAY_LONG_INDEX_SCALE"), (0, u "I"), (2, u "U"), (0, u "Ljdk/internal/misc/Unsafe;"), (8, u "BIG_ENDIAN"), (0, u "Z"), (8, u "LOG2_BYTE_BIT_SIZE"), (4, u "LOG2_ARRAY_INT_INDEX_SCALE"), (54, u "JLA"), (0, u "Ljdk/internal/access/JavaLangAccess;"), (11, u "LOG2_ARRAY_BOOLEAN_INDEX_SCALE"), (9, u "LOG2_ARRAY_BYTE_INDEX_SCALE"), (5, u "LOG2_ARRAY_CHAR_INDEX_SCALE"), (5, u "LOG2_ARRAY_SHORT_INDEX_SCALE"), (18, u "LOG2_ARRAY_FLOAT_INDEX_SCALE"), (24, u "LOG2_ARRAY_DOUBLE_INDEX_SCALE"), (89, u "T_BOOLEAN"), (2, u "T_CHAR"), (1, u "T_FLOAT"), (1, u "T_DOUBLE"), (1, u "T_BYTE"), (1, u "T_SHORT"), (1, u "T_INT"), (1, u "T_LONG"), (1, u "SOFT_MAX_ARRAY_LENGTH")] 83

def k12m0 : Method := { name := "<init>", desc := "()V", sig := { parameters := [], returnType := none }, accessFlags := 2, code := none }
/-- jdk/internal/util/ArraysSupport -/
def k12 : Class := { plain "jdk/internal/util/ArraysSupport" (some 0) with
  accessFlags := 33
  interfaces := #[]
  cf := some (fileOf pool12 21 #[] #[{ accessFlags := 2, nameIndex := 9, descriptorIndex := 19, attributes := #[] }] 33 16 #[] #[{ accessFlags := 24, nameIndex := 28, descriptorIndex := 29, attributes := #[] }, { accessFlags := 26, nameIndex := 38, descriptorIndex := 39, attributes := #[] }, { accessFlags := 25, nameIndex := 121, descriptorIndex := 25, attributes := #[] }, { accessFlags := 25, nameIndex := 131, descriptorIndex := 25, attributes := #[] }, { accessFlags := 25, nameIndex := 137, descriptorIndex := 25, attributes := #[] }, { accessFlags := 25, nameIndex := 143, descriptorIndex := 25, attributes := #[] }, { accessFlags := 25, nameIndex := 53, descriptorIndex := 25, attributes := #[] }, { accessFlags := 25, nameIndex := 24, descriptorIndex := 25, attributes := #[] }, { accessFlags := 25, nameIndex := 162, descriptorIndex := 25, attributes := #[] }, { accessFlags := 25, nameIndex := 187, descriptorIndex := 25, attributes := #[] }, { accessFlags := 26, nameIndex := 48, descriptorIndex := 25, attributes := #[] }, { accessFlags := 25, nameIndex := 277, descriptorIndex := 25, attributes := #[] }, { accessFlags := 25, nameIndex := 280, descriptorIndex := 25, attributes := #[] }, { accessFlags := 25, nameIndex := 282, descriptorIndex := 25, attributes := #[] }, { accessFlags := 25, nameIndex := 284, descriptorIndex := 25, attributes := #[] }, { accessFlags := 25, nameIndex := 286, descriptorIndex := 25, attributes := #[] }, { accessFlags := 25, nameIndex := 288, descriptorIndex := 25, attributes := #[] }, { accessFlags := 25, nameIndex := 290, descriptorIndex := 25, attributes := #[] }, { accessFlags := 25, nameIndex := 292, descriptorIndex := 25, attributes := #[] }, { accessFlags := 26, nameIndex := 108, descriptorIndex := 109, attributes := #[] }, { accessFlags := 25, nameIndex := 294, descriptorIndex := 25, attributes := #[] }])
  fields := #[{ name := "U", type := (.object "jdk/internal/misc/Unsafe"), accessFlags := 24, slot := 0, constantValue := 0 }, { name := "BIG_ENDIAN", type := .boolean, accessFlags := 26, slot := 1, constantValue := 0 }, { name := "LOG2_ARRAY_BOOLEAN_INDEX_SCALE", type := .int, accessFlags := 25, slot := 2, constantValue := 0 }, { name := "LOG2_ARRAY_BYTE_INDEX_SCALE", type := .int, accessFlags := 25, slot := 3, constantValue := 0 }, { name := "LOG2_ARRAY_CHAR_INDEX_SCALE", type := .int, accessFlags := 25, slot := 4, constantValue := 0 }, { name := "LOG2_ARRAY_SHORT_INDEX_SCALE", type := .int, accessFlags := 25, slot := 5, constantValue := 0 }, { name := "LOG2_ARRAY_INT_INDEX_SCALE", type := .int, accessFlags := 25, slot := 6, constantValue := 0 }, { name := "LOG2_ARRAY_LONG_INDEX_SCALE", type := .int, accessFlags := 25, slot := 7, constantValue := 0 }, { name := "LOG2_ARRAY_FLOAT_INDEX_SCALE", type := .int, accessFlags := 25, slot := 8, constantValue := 0 }, { name := "LOG2_ARRAY_DOUBLE_INDEX_SCALE", type := .int, accessFlags := 25, slot := 9, constantValue := 0 }, { name := "LOG2_BYTE_BIT_SIZE", type := .int, accessFlags := 26, slot := 10, constantValue := 0 }, { name := "T_BOOLEAN", type := .int, accessFlags := 25, slot := 11, constantValue := 0 }, { name := "T_CHAR", type := .int, accessFlags := 25, slot := 12, constantValue := 0 }, { name := "T_FLOAT", type := .int, accessFlags := 25, slot := 13, constantValue := 0 }, { name := "T_DOUBLE", type := .int, accessFlags := 25, slot := 14, constantValue := 0 }, { name := "T_BYTE", type := .int, accessFlags := 25, slot := 15, constantValue := 0 }, { name := "T_SHORT", type := .int, accessFlags := 25, slot := 16, constantValue := 0 }, { name := "T_INT", type := .int, accessFlags := 25, slot := 17, constantValue := 0 }, { name := "T_LONG", type := .int, accessFlags := 25, slot := 18, constantValue := 0 }, { name := "JLA", type := (.object "jdk/internal/access/JavaLangAccess"), accessFlags := 26, slot := 19, constantValue := 0 }, { name := "SOFT_MAX_ARRAY_LENGTH", type := .int, accessFlags := 25, slot := 20, constantValue := 0 }]
  methods := #[k12m0]
  instanceTypes := #[]
  staticTypes := #[(.object "jdk/internal/misc/Unsafe"), .boolean, .int, .int, .int, .int, .int, .int, .int, .int, .int, .int, .int, .int, .int, .int, .int, .int, .int, (.object "jdk/internal/access/JavaLangAccess"), .int]
  resolved := Array.replicate 378 none
  statics := none }

def pool13 : Array CpInfo := pool [(1, u "java/lang/Cloneable"), (0, .class_ 1), (0, u "java/lang/Object"), (0, .class_ 3)] 3

/-- java/lang/Cloneable -/
def k13 : Class := { plain "java/lang/Cloneable" (some 0) with
  accessFlags := 1537
  interfaces := #[]
  cf := some (fileOf pool13 2 #[] #[] 1537 4 #[] #[])
  fields := #[]
  methods := #[]
  instanceTypes := #[]
  staticTypes := #[]
  resolved := Array.replicate 8 none
  statics := none }

/-- the primitive byte -/
def k14 : Class := { plain "byte" none with kind := .primitive 'B', accessFlags := 0x411 }
/-- [B -/
def k15 : Class := { plain "[B" (some 0) with kind := .array 14 .byte, interfaces := #[13, 4], accessFlags := 1041 }

/-- the primitive int -/
def k16 : Class := { plain "int" none with kind := .primitive 'I', accessFlags := 0x411 }
/-- [I -/
def k17 : Class := { plain "[I" (some 0) with kind := .array 16 .int, interfaces := #[13, 4], accessFlags := 1041 }

def heap : Heap := #[{ cls := 9, slots := #[.long 0, .int 1, .null, .int 0, .null, .int 0, .int 0], vm := .statics 9 },
  { cls := 11, slots := #[.null, .null, .null], vm := .statics 11 },
  { cls := 6, slots := #[.ref 3, .ref 4, .ref 5, .ref 6, .ref 7, .ref 8, .null], vm := .statics 6 },
  { cls := 6, slots := #[.null, .int 0, .int 0, .ref 9], vm := .none },
  { cls := 6, slots := #[.null, .int 1, .int 0, .ref 10], vm := .none },
  { cls := 6, slots := #[.null, .int 2, .int 0, .ref 11], vm := .none },
  { cls := 6, slots := #[.null, .int 3, .int 0, .ref 12], vm := .none },
  { cls := 6, slots := #[.null, .int 4, .int 0, .ref 13], vm := .none },
  { cls := 6, slots := #[.null, .int 5, .int 0, .ref 14], vm := .none },
  { cls := 9, slots := #[.ref 15, .int 0, .int 0, .int 0], vm := .none },
  { cls := 9, slots := #[.ref 16, .int 0, .int 0, .int 0], vm := .none },
  { cls := 9, slots := #[.ref 17, .int 0, .int 0, .int 0], vm := .none },
  { cls := 9, slots := #[.ref 18, .int 0, .int 0, .int 0], vm := .none },
  { cls := 9, slots := #[.ref 19, .int 0, .int 0, .int 0], vm := .none },
  { cls := 9, slots := #[.ref 20, .int 0, .int 0, .int 0], vm := .none },
  { cls := 15, slots := #[.int 61], vm := .none },
  { cls := 15, slots := #[.int 33, .int 61], vm := .none },
  { cls := 15, slots := #[.int 60], vm := .none },
  { cls := 15, slots := #[.int 62], vm := .none },
  { cls := 15, slots := #[.int 60, .int 61], vm := .none },
  { cls := 15, slots := #[.int 62, .int 61], vm := .none }]
def classes : Array Class := #[k0, k1, k2, k3, k4, k5, k6, k7, k8, k9, k10, k11, k12, k13, k14, k15, k16, k17]
def interned : List (Array UInt16 × Addr) := []
def slotsUsed : Nat := 74
def theMethod : MethodId := ⟨1, 2⟩
def args0 : Array Value := #[.int 1]
def aboutOver (below : List Frame) : State where
  vm := { classes := classes, interned := interned.toArray }
  heap := heap
  slotsUsed := slotsUsed
  threads := #[{ frames := .invoking theMethod args0 :: below }]
def below0 : List Frame := [.native { method := ⟨0, 0⟩, args := #[] }]
def about1 : State := aboutOver below0
def p0 : Program := .bare "" "" ""
def e0 : Env := launch0.env 0 0 0
theorem w_frames : about1.frames = Frame.invoking theMethod args0 :: below0 := rfl
set_option maxRecDepth 65536 in
theorem w_args : argsFit about1.vm theMethod args0 = true := by decide +kernel
set_option maxRecDepth 65536 in
theorem w_heap : heapFits about1 = true := by decide +kernel
set_option maxRecDepth 65536 in
theorem w_runnable : about1.curStatus? = some .runnable := by decide +kernel
set_option maxRecDepth 65536 in
theorem w_alone : about1.alone = true := by decide +kernel
set_option maxRecDepth 65536 in
theorem w_named : about1.methodNamed? x = some theMethod := by decide +kernel
set_option maxRecDepth 65536 in
theorem w_hears : about1.hears theMethod below0 = true := by decide +kernel
set_option maxRecDepth 65536 in
theorem w_ripe : about1.ripe theMethod args0 below0 = true := by decide +kernel
theorem w_running : about1.status = .running := rfl
set_option maxRecDepth 65536 in
theorem w_room : about1.hasRoom e0.platform room_1 = true :=
  launch0.hasRoom_least _ room_1 (by decide +kernel) (by decide +kernel) (by decide +kernel) (by decide +kernel) (by decide +kernel) (by decide +kernel)
theorem allAtoms_all (ts : List Jvm.Cond) (a : Array Jvm.Value) (st : Jvm.State) : (allAtoms ts).before a st = ts.all (fun c => c.before a st) := by
  induction ts with
  | nil => rfl
  | cons c t ih =>
    show (Jvm.Cond.and c (allAtoms t)).before a st = _
    rw [Jvm.Cond.before_and, ih, List.all_cons]
def words1 : List Jvm.Cond := Jvm.Cond.code x code maxLocals ret :: tables_1
/-- a 'code' word, met by the world's own term for the bytes: nothing is compared byte by byte -/
theorem code_word {y : MethodName} {bytes : ByteArray} {mx : Nat} {rt : Option FieldType} {a : Array Value} {s : State} {m : MethodId} {meth : Method} {c : Code} (h1 : s.methodNamed? y = some m) (h2 : s.vm.method? m = some meth) (h3 : meth.code = some c) (h4 : c.code = bytes)
    (h5 : (c.maxLocals == mx && c.exceptionTable.isEmpty && decide (c.maxStack ≤ mostOperands) && decide (meth.sig.returnType = rt) && !meth.locks && decide (parseMethodDescriptor y.desc = some meth.sig)) = true) : (Jvm.Cond.code y bytes mx rt).before a s = true := by
  simp only [Bool.and_eq_true, beq_iff_eq, Bool.not_eq_true', decide_eq_true_eq] at h5
  obtain ⟨⟨⟨⟨⟨g1, g2⟩, g3⟩, g4⟩, g5⟩, g6⟩ := h5
  simp [Cond.before, Cond.holds, Cond.value, h1, h2, h3, h4, g1, g2, g3, g4, g5, g6]
def isCode : Jvm.Cond → Bool
  | .code _ _ _ _ => true
  | _ => false
theorem all_split {L : List Jvm.Cond} {P : Jvm.Cond → Bool} (h1 : L.all (fun c => isCode c || P c) = true) (h2 : ∀ c ∈ L.filter isCode, P c = true) : L.all P = true := by
  refine List.all_eq_true.mpr fun c hc => ?_
  have h := List.all_eq_true.mp h1 c hc
  rcases Bool.eq_false_or_eq_true (isCode c) with hi | hi
  · exact h2 c (List.mem_filter.mpr ⟨hc, hi⟩)
  · simpa [hi] using h
set_option maxRecDepth 65536 in
theorem w_c0 : (Jvm.Cond.code x code maxLocals ret).before args0 about1 = true := code_word (m := ⟨1, 2⟩) (meth := k1m2) (c := k1c2) (by decide +kernel) rfl rfl rfl (by decide +kernel)
set_option maxRecDepth 65536 in
theorem w_c1 : (Jvm.Cond.code ({ cls := "com/example/solmap/solmap/sparql/OperatorIsEqualityPinLaw", name := "pick", desc := "(I)Lcom/example/solmap/solmap/sparql/Expression$Operator;" } : Jvm.MethodName) method_2_code (1 : Nat) (Option.some (Jvm.ClassFile.FieldType.object "com/example/solmap/solmap/sparql/Expression$Operator"))).before args0 about1 = true := code_word (m := ⟨1, 1⟩) (meth := k1m1) (c := k1c1) (by decide +kernel) rfl rfl rfl (by decide +kernel)
set_option maxRecDepth 65536 in
theorem w_c2 : (Jvm.Cond.code ({ cls := "com/example/solmap/solmap/sparql/Expression$Operator", name := "symbol", desc := "()Ljava/lang/String;" } : Jvm.MethodName) prog_111_method_4_code (1 : Nat) (Option.some (Jvm.ClassFile.FieldType.object "java/lang/String"))).before args0 about1 = true := code_word (m := ⟨6, 0⟩) (meth := k6m0) (c := k6c0) (by decide +kernel) rfl rfl rfl (by decide +kernel)
set_option maxRecDepth 65536 in
theorem w_c3 : (Jvm.Cond.code ({ cls := "java/lang/String", name := "equals", desc := "(Ljava/lang/Object;)Z" } : Jvm.MethodName) jdk_42_method_66_code (3 : Nat) (Option.some Jvm.ClassFile.FieldType.boolean)).before args0 about1 = true := code_word (m := ⟨9, 1⟩) (meth := k9m1) (c := k9c1) (by decide +kernel) rfl rfl rfl (by decide +kernel)
set_option maxRecDepth 65536 in
theorem w_c4 : (Jvm.Cond.code ({ cls := "java/lang/StringLatin1", name := "equals", desc := "([B[B)Z" } : Jvm.MethodName) jdk_43_method_13_code (3 : Nat) (Option.some Jvm.ClassFile.FieldType.boolean)).before args0 about1 = true := code_word (m := ⟨10, 1⟩) (meth := k10m1) (c := k10c1) (by decide +kernel) rfl rfl rfl (by decide +kernel)
set_option maxRecDepth 65536 in
theorem w_c5 : (Jvm.Cond.code ({ cls := "com/example/solmap/solmap/sparql/Expression$Operator", name := "isEquality", desc := "()Z" } : Jvm.MethodName) prog_111_method_5_code (1 : Nat) (Option.some Jvm.ClassFile.FieldType.boolean)).before args0 about1 = true := code_word (m := ⟨6, 1⟩) (meth := k6m1) (c := k6c1) (by decide +kernel) rfl rfl rfl (by decide +kernel)
def codes1 : List Jvm.Cond := [Jvm.Cond.code x code maxLocals ret, Jvm.Cond.code ({ cls := "com/example/solmap/solmap/sparql/OperatorIsEqualityPinLaw", name := "pick", desc := "(I)Lcom/example/solmap/solmap/sparql/Expression$Operator;" } : Jvm.MethodName) method_2_code (1 : Nat) (Option.some (Jvm.ClassFile.FieldType.object "com/example/solmap/solmap/sparql/Expression$Operator")), Jvm.Cond.code ({ cls := "com/example/solmap/solmap/sparql/Expression$Operator", name := "symbol", desc := "()Ljava/lang/String;" } : Jvm.MethodName) prog_111_method_4_code (1 : Nat) (Option.some (Jvm.ClassFile.FieldType.object "java/lang/String")), Jvm.Cond.code ({ cls := "java/lang/String", name := "equals", desc := "(Ljava/lang/Object;)Z" } : Jvm.MethodName) jdk_42_method_66_code (3 : Nat) (Option.some Jvm.ClassFile.FieldType.boolean), Jvm.Cond.code ({ cls := "java/lang/StringLatin1", name := "equals", desc := "([B[B)Z" } : Jvm.MethodName) jdk_43_method_13_code (3 : Nat) (Option.some Jvm.ClassFile.FieldType.boolean), Jvm.Cond.code ({ cls := "com/example/solmap/solmap/sparql/Expression$Operator", name := "isEquality", desc := "()Z" } : Jvm.MethodName) prog_111_method_5_code (1 : Nat) (Option.some Jvm.ClassFile.FieldType.boolean)]
set_option maxRecDepth 65536 in
theorem codes_eq : words1.filter isCode = codes1 := rfl
theorem w_codes : ∀ c ∈ words1.filter isCode, c.before args0 about1 = true := by
  rw [codes_eq]
  intro c hc
  simp only [codes1, List.mem_cons, List.not_mem_nil, or_false] at hc
  rcases hc with rfl | rfl | rfl | rfl | rfl | rfl
  · exact w_c0
  · exact w_c1
  · exact w_c2
  · exact w_c3
  · exact w_c4
  · exact w_c5
set_option maxRecDepth 65536 in
theorem w_t1 : (words1.take 24).all (fun c => isCode c || c.before args0 about1) = true := by decide +kernel
set_option maxRecDepth 65536 in
theorem w_t2 : ((words1.drop 24).take 24).all (fun c => isCode c || c.before args0 about1) = true := by decide +kernel
set_option maxRecDepth 65536 in
theorem w_t3 : ((words1.drop 24).drop 24).all (fun c => isCode c || c.before args0 about1) = true := by decide +kernel
theorem w_tables : (allAtoms (Jvm.Cond.code x code maxLocals ret :: tables_1)).before args0 about1 = true := by
  rw [allAtoms_all]
  show words1.all (fun c => c.before args0 about1) = true
  refine all_split ?_ w_codes
  rw [← List.take_append_drop 24 words1, List.all_append, w_t1, ← List.take_append_drop 24 (words1.drop 24), List.all_append, w_t2, w_t3]
  rfl
set_option maxRecDepth 65536 in
theorem w_rest : rest_1_c.before args0 about1 = true := by decide +kernel
set_option maxRecDepth 65536 in
theorem w_case : (Jvm.Cond.and given_1 narrow_1).before args0 about1 = true := by decide +kernel
set_option maxRecDepth 65536 in
theorem w_consts : constsHeld consts_1 about1 := Jvm.Lit.constsHeldB_iff.mp (by decide +kernel)
theorem w_applies : (headSpec (Jvm.Cond.code x code maxLocals ret :: tables_1) room_1).applies x e0.platform about1 = true :=
  (Spec.applies_iff w_frames).mpr ⟨w_running, w_runnable, w_alone, w_named, w_hears, w_ripe, w_room, w_tables⟩
theorem atStart : AtStart classFile x code maxLocals ret World_1 tables_1 room_1 Calls_1 rest_1 Pre_1 launch0 p0 e0 about1 theMethod args0 below0 :=
  ⟨lists_1, trivial, launch0.admits_env _ _ _, launch0.least_env, fairChoices_fair.cas, fairChoices_fair.clock, w_frames, w_args, w_heap, w_applies, ⟨w_consts, trivial⟩, w_rest, w_case⟩
end start1
theorem witness_1 : WitnessClaimed_1 := ⟨start1.p0, start1.e0, start1.about1, start1.theMethod, start1.args0, start1.below0, start1.atStart⟩
end Jvm.Pilot.@@N@@
