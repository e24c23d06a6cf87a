import JvmDerived
import JvmDerived.Pilot.@@N@@Statement
import JvmDerived.Pilot.@@N@@Code
set_option linter.unusedVariables false
set_option linter.unusedSimpArgs false
namespace Jvm.RoadKit
open Sem ClassFile Op Lib Jvm.Stand Jvm.Free Jvm.LawKit
section New
variable {p : Program} {l : Launch} {e : Env} {R : Room} {s : State} {m : MethodId} {args : Array Value} {below : List Frame} {meth : Method} {c : Code} {T : State} {locs : List Loc} {cells slots : Nat}
theorem retI (X : Stand p l e R s m args below meth c T locs cells slots) (hx : p.tables.exec = Jvm.exec) {pc : Nat} {Ls : Array Slot} {z : Int32} {rest : List Value} (hret : meth.sig.returnType = some .int) (hd : decode c.code pc = .ok (.ireturn, 1)) {fs : List Frame}
    (hl : ∀ (f : JFrame) (acts : List Action), f.method = m → f.locked = none → f.entered = [] → (doReturn e (T.setTop f) acts (some (.int z))).1 = T.setFrames fs) : Steps p.tables e below (T.setTop (mkF m pc Ls (.int z :: rest))) (T.setFrames fs) := by
  have hm' : T.vm.method? m = some meth := X.method'
  have hn : narrow .int (.int z) = .int z := rfl
  show Steps p.tables e below (T.setTop { method := m, pc := pc, locals := Ls, stack := _ :: rest, locked := none }) _
  jvm_step X.here [X.here.top, hx, hd, hm', hret, hn]
  first | (intro acts; rw [hl _ acts rfl rfl rfl]) | rw [hl _ _ rfl rfl rfl]
  exact Steps.refl _
end New
/-- the run from the state A ends as asked: what is left of the goal while one walks -/
def own_End (p : Program) (e : Env) (below : List Frame) (s A : State) (W : Option Value → Heap → List Loc → Prop) (k n : Nat) : Prop :=
  ∃ s₂ o, Steps p.tables e below A s₂ ∧ s₂.status = .running ∧ Ended s₂ below o ∧ ∃ v L, o = .returned v ∧ W v s₂.heap L ∧ FrameEnd s o s₂ L k n
theorem own_pre {p : Program} {e : Env} {below : List Frame} {s A B : State} {W : Option Value → Heap → List Loc → Prop} {k n : Nat} (f : ∀ t, Steps p.tables e below A t → Steps p.tables e below B t) (h : own_End p e below s A W k n) : own_End p e below s B W k n := by
  obtain ⟨s₂, o, h1, h2⟩ := h; exact ⟨s₂, o, f _ h1, h2⟩
end Jvm.RoadKit
namespace Jvm.RoadKit
open Sem ClassFile Op Lib Jvm.Stand Jvm.Free Jvm.LawKit
/-- an array of n places, the i-th of which holds f i -/
def own_Arr (Z : State) (h : Heap) (a : Addr) (ty : FieldType) (n : Int32) (f : Nat → Value) : Prop := ∃ c : Cell, Arr Z h a c ty ∧ c.slots.size = n.toNatClampNeg ∧ ¬ n < 0 ∧ ∀ i, i < n.toNatClampNeg → c.slots[i]? = some (f i)
section Arrays
variable {Z : State} {h h' : Heap} {a b : Addr} {ty : FieldType} {n j : Int32} {f f' : Nat → Value} {sl : Nat} {v : Value} {ws : List Addr}
theorem own_Arr.lt (F : own_Arr Z h a ty n f) : a < h.size := by obtain ⟨c, A, -⟩ := F; exact A.lt
theorem own_Arr.ext (F : own_Arr Z h a ty n f) (E : Ext h h') : own_Arr Z h' a ty n f := by obtain ⟨c, A, r⟩ := F; exact ⟨c, A.ext E, r⟩
theorem own_Arr.other (F : own_Arr Z h b ty n f) (W : Wr h h' a sl v) (q : b ≠ a) : own_Arr Z h' b ty n f := by obtain ⟨c, A, r⟩ := F; exact ⟨c, A.other W q, r⟩
theorem own_Arr.keep (F : own_Arr Z h a ty n f) (K : Keep h h' ws) (q : a ∉ ws) : own_Arr Z h' a ty n f := by obtain ⟨c, A, r⟩ := F; exact ⟨c, ⟨K.2.1 a c A.1 q, A.2⟩, r⟩
theorem own_Arr.new {k : ClassId} (A : Arr Z h a (newA k ty n) ty) (q : ¬ n < 0) (hf : ∀ i, f i = defaultValue ty) : own_Arr Z h a ty n f :=
  ⟨_, A, sz_new _ _ _, q, fun i hi => by rw [hf]; simp [newA, hi]⟩
theorem own_Arr.set {α : Type} (w : α → Value) {g g' : Nat → α} {x : α} {q : Nat} (F : own_Arr Z h a ty n (fun i => w (g i))) (W : Wr h h' a j.toNatClampNeg (w x)) (hj : j.toNatClampNeg = q) (hg : ∀ i, g' i = if i = q then x else g i) : own_Arr Z h' a ty n (fun i => w (g' i)) := by
  obtain ⟨c, A, r1, r2, r3⟩ := F
  subst hj
  refine ⟨_, A.same W, by rw [sz_set]; exact r1, r2, fun i hi => ?_⟩
  show _ = some (w (g' i))
  rw [hg]
  by_cases e : i = j.toNatClampNeg
  · subst e
    rw [if_pos rfl]; simp [Cell.setSlot, r1, hi]
  · rw [if_neg e]
    rw [← r3 i hi]; exact Array.getElem?_setIfInBounds_ne (Ne.symm e)
theorem own_Arr.congr {α : Type} (w : α → Value) {g g' : Nat → α} (F : own_Arr Z h a ty n (fun i => w (g i))) (hg : ∀ i, i < n.toNatClampNeg → g' i = g i) : own_Arr Z h a ty n (fun i => w (g' i)) := by
  obtain ⟨c, A, r1, r2, r3⟩ := F
  exact ⟨c, A, r1, r2, fun i hi => by show _ = some (w (g' i)); rw [hg i hi]; exact r3 i hi⟩
theorem own_at {c : Cell} (S : c.slots.size = n.toNatClampNeg) (G : ∀ i, i < n.toNatClampNeg → c.slots[i]? = some (f i)) (hj : ¬ (j < 0 ∨ c.slots.size ≤ j.toNatClampNeg)) : c.slots[j.toNatClampNeg]? = some (f j.toNatClampNeg) := G _ (by rw [← S]; exact Nat.lt_of_not_le fun y => hj (Or.inr y))
theorem own_nn {n : Int32} (h : ¬ n < 0) : 0 ≤ n.toInt ∧ n.toInt = n.toNatClampNeg := by
  have e := nat_of h
  exact ⟨by omega, e⟩
theorem own_Arr.nn (F : own_Arr Z h a ty n f) : 0 ≤ n.toInt ∧ n.toInt = n.toNatClampNeg := by obtain ⟨c, A, r1, r2, r3⟩ := F; exact own_nn r2
theorem own_ge0 {i : Int32} (h : 0 ≤ i.toInt) : ¬ i < 0 := fun q => by
  have := Int32.lt_iff_toInt_lt.mp q
  have z : (0 : Int32).toInt = 0 := by decide
  omega
theorem own_inb {i n : Int32} (h0 : 0 ≤ i.toInt) (h : i < n) : ¬ i < 0 ∧ i < n := ⟨own_ge0 h0, h⟩
theorem own_inb2 {i n : Int32} (h0 : 0 ≤ i.toInt) (h : i.toInt < n.toInt) : ¬ i < 0 ∧ i < n := ⟨own_ge0 h0, Int32.lt_iff_toInt_lt.mpr h⟩
theorem own_next {i n : Int32} (h0 : 0 ≤ i.toInt) (h : i < n) : (i + 1).toInt = i.toInt + 1 ∧ i.toInt < n.toInt := by
  have q := Int32.lt_iff_toInt_lt.mp h
  have a := c_iadd i 1
  have z : (1 : Int32).toInt = 1 := by decide
  have r1 := rng32 (i + 1)
  have r2 := rng32 n
  omega
end Arrays
end Jvm.RoadKit
namespace Jvm.RoadKit
open Sem ClassFile Op Lib Jvm.Stand Jvm.Free Jvm.LawKit
section Copy
variable {p : Program} {l : Launch} {e : Env} {R : Room} {s : State} {m : MethodId} {args : Array Value} {below : List Frame} {meth : Method} {c : Code} {T : State} {locs : List Loc} {cells slots : Nat} {Z : State} {h : Heap}
theorem own_Arr.arv {a : Addr} {ty : FieldType} {n : Int32} {f : Nat → Value} (F : own_Arr Z h a ty n f) (hf : ∀ i, fits ty (f i) = true) (dv : Value) (hd : fits ty dv = true) : ∃ k, Arv Z h a k ty n ((List.range n.toNatClampNeg).map f) dv := by
  obtain ⟨c, A, r1, r2, r3⟩ := F
  refine ⟨c.cls, c, A, rfl, r1, r2, fun i hi => ?_, fun i hi => ?_⟩
  · rw [r1] at hi
    rw [r3 i hi]
    simp [List.getD_eq_getElem?_getD, hi]
  · rw [r1] at hi
    simp [List.getD_eq_getElem?_getD, hi, hf]
theorem own_arv {a : Addr} {k : ClassId} {ty : FieldType} {n : Int32} {f : Nat → Value} {vs : List Value} {dv : Value} (F : Arv Z h a k ty n vs dv) (hf : ∀ i, i < n.toNatClampNeg → vs.getD i dv = f i) : own_Arr Z h a ty n f := by
  obtain ⟨c, A, -, r1, r2, H, -⟩ := F
  exact ⟨c, A, r1, r2, fun i hi => by rw [H i (by rw [r1]; exact hi), hf i hi]⟩
/-- System.arraycopy of nothing, within one array -/
theorem own_copy0 (X : Stand p l e R s m args below meth c T locs cells slots) (hx : p.tables.exec = Jvm.exec) (hZ : Z.Warmed39 s.vm) {a0 : Array Value} {own : String} {index : Nat} (hown : s.vm.findClass own = some m.cls)
    (w1 : (Cond.methodLink own index Jvm.Stand.acN).before a0 Z = true) (w2 : (Cond.native Jvm.Stand.acN).before a0 Z = true) (w3 : (Cond.static Jvm.Stand.acN).before a0 Z = true) (w4 : (Cond.initialized "java/lang/System").before a0 Z = true) (eT : T.heap = h)
    {a : Addr} {ty : FieldType} {n sp dp : Int32} {f : Nat → Value} (F : own_Arr Z h a ty n f) (hf : ∀ i, fits ty (f i) = true) (hr : refKind ty = false) (dv : Value) (hdv : fits ty dv = true)
    (h1 : ¬ sp < 0) (h2 : ¬ dp < 0) (h4 : sp.toNatClampNeg ≤ n.toNatClampNeg) (h5 : dp.toNatClampNeg ≤ n.toNatClampNeg) {n0 : Nat} (N : Fr n0 locs) (ge : n0 ≤ a)
    {g : JFrame} (hg : g.method = m) (hsize : g.locals.size = c.maxLocals) {rest : List Value} (hs : g.stack = .int (0 : Int32) :: .int dp :: .ref a :: .int sp :: .ref a :: rest) (hd : decode c.code g.pc = .ok (.invokestatic index, 3))
    (hfr : 1 ≤ R.frames) {W : Nat} (hW : 2 * g.monitorRoom + (rest.map fun v => v.category).sum ≤ W) (hlo : W + (nativeFrameWords "java/lang/System" "arraycopy" 5 + 11) ≤ R.locals) :
    ∃ T' h' L, Stand p l e R s m args below meth c T' L cells slots ∧ T'.heap = h' ∧ Fr n0 L ∧ Keep h h' [a] ∧ own_Arr Z h' a ty n f ∧
      ∀ target, Steps p.tables e below (T'.setTop { g with pc := g.pc + 3, stack := rest }) target → Steps p.tables e below (T.setTop g) target := by
  obtain ⟨k, A⟩ := F.arv hf dv hdv
  obtain ⟨T', h', L, X', e', N', K', A', st⟩ := cpA X hx hZ hown w1 w2 w3 w4 eT A A (us := []) (Or.inl ⟨rfl, hr⟩) h1 h2 (by decide : ¬ (0 : Int32) < 0) (by show _ + 0 ≤ _; exact h4) (by show _ + 0 ≤ _; exact h5) rfl (by show dp.toNatClampNeg + 0 ≤ _; simp; exact h5) N ge hg hsize hs hd hfr hW hlo
  refine ⟨T', h', L, X', e', N', K', own_arv A' fun i hi => ?_, st⟩
  have e1 : (0 : Int32).toNatClampNeg = 0 := by decide
  rw [e1, Nat.add_zero, List.append_nil, List.take_append_drop]
  simp [List.getD_eq_getElem?_getD, hi]
end Copy
end Jvm.RoadKit
namespace Jvm.RoadKit
open Sem ClassFile Op Lib Jvm.Stand Jvm.Free Jvm.LawKit
/-- a private method of a concrete class selects itself -/
theorem own_selPriv {Z s : State} {a0 args : Array Value} {y : MethodName} {n : Nat} (hZ : Z.Warmed39 s.vm) (wi : (Cond.instantiable y.cls n).before a0 Z = true) (w1 : (Cond.instanceMethod y).before a0 Z = true) (w2 : (Cond.privateMethod y).before a0 Z = true) (hy : y.cls ≠ "java/lang/invoke/MethodHandle" ∧ y.cls ≠ "java/lang/invoke/VarHandle") : (Cond.selects y.cls y y).before args s = true := by
  have wi' : (Cond.instantiable y.cls n).before args s = true := mvT hZ wi
  have w1' : (Cond.instanceMethod y).before args s = true := mvT hZ w1
  obtain ⟨c, k, h1, h2, h3, h4, -⟩ := Cond.instantiable_spec wi'
  exact selects_self_of_private h1 h2 (by cases hk : k.isInterface <;> simp_all) (Cond.privateMethod_at (mvP hZ w2 (args := #[]))) w1' hy
end Jvm.RoadKit
namespace Jvm.RoadKit
open Sem ClassFile Op Lib Jvm.Stand Jvm.Free Jvm.LawKit
abbrev own_held (Z : State) (own : String) (index : Nat) : Prop := Jvm.Lit.constHeld Z own index
abbrev own_cw : Cond := Jvm.Lit.compactW
abbrev own_byteI (u : UInt16) : Int32 := Jvm.Lit.byteI u
/-- as own_End, with the wide frame (a String constant may have been made and booked) -/
def own_EndW (p : Program) (e : Env) (below : List Frame) (s A : State) (W : Option Value → Heap → List Loc → Prop) (k n : Nat) : Prop :=
  ∃ s₂ o, Steps p.tables e below A s₂ ∧ s₂.status = .running ∧ Ended s₂ below o ∧ ∃ v L, o = .returned v ∧ W v s₂.heap L ∧ ReturnedEndW s o s₂ L k n
theorem own_preW {p : Program} {e : Env} {below : List Frame} {s A B : State} {W : Option Value → Heap → List Loc → Prop} {k n : Nat} (f : ∀ t, Steps p.tables e below A t → Steps p.tables e below B t) (h : own_EndW p e below s A W k n) : own_EndW p e below s B W k n := by
  obtain ⟨s₂, o, h1, h2⟩ := h; exact ⟨s₂, o, f _ h1, h2⟩
theorem own_sinceMono {s : State} {vm : Vm} {n n' : Nat} (h : s.Since vm n) (q : n ≤ n') : s.Since vm n' := ⟨h.1, fun j p a b => ⟨(h.2 j p a b).1, Nat.lt_of_lt_of_le (h.2 j p a b).2 q⟩⟩
theorem own_fr {s : State} {h0 : Heap} {n0 : Nat} {L : List Loc} (hh : s.heap = h0) (hn0 : n0 = h0.size) (N : Fr n0 L) : Fr s.heap.size L := by rw [hh, ← hn0]; exact N
theorem own_kp {s Z : State} {h0 : Heap} (hh : s.heap = h0) (hZh : Z.heap = h0) : ∀ (b : Addr) (cl : Cell), Z.heap[b]? = some cl → s.heap[b]? = some cl := fun b cl q => by rw [hh, ← hZh]; exact q
section Ldc
variable {p : Program} {l : Launch} {e : Env} {R : Room} {s : State} {m : MethodId} {args : Array Value} {below : List Frame} {meth : Method} {c : Code} {T : State} {locs : List Loc} {cells slots : Nat} {Z : State} {a0 : Array Value} {h : Heap} {vm0 : Vm} {Ts : List String} {own text : String} {index : Nat}
theorem own_ldc (X : Stand p l e R (s.setVm vm0) m args below meth c T locs cells slots) (hx : p.tables.exec = Jvm.exec) (hZ : Z.Warmed39 (s.setVm vm0).vm) (hown : (s.setVm vm0).vm.findClass own = some m.cls) (w : (Cond.stringLink own index text).before a0 Z = true) (wS : ∀ a ∈ Bundle.stringAtoms, a.before a0 Z = true)
    (eT : T.heap = h) (hS : s.Since vm0 h.size) (N : Fr s.heap.size locs) (hkeep : ∀ (b : Addr) (cl : Cell), Z.heap[b]? = some cl → s.heap[b]? = some cl) (I : IB Z vm0 Ts) (hnot : text ∉ Ts) (hh : own_held Z own index) (hcw : own_cw.before a0 Z = true)
    {L : List Int32} {z : Int32} (ht : (∀ c ∈ text.toList, c.toNat < 256) ∧ text.toList.map (fun c => Value.int (own_byteI c.toNat.toUInt16)) = L.map Value.int) (hz : ¬ z < 0) (hl : z.toNatClampNeg = L.length)
    {g : JFrame} (hg : g.method = m) (hd : decode c.code g.pc = .ok (.ldc index, 2)) {n : Nat} (hn : 4 * text.toList.length ≤ n) (hbig : n ≤ 536870912) (hc : cells + 2 ≤ R.cells) (hl' : slots + (n + 4) ≤ R.slots) :
    ∃ (a : Addr) (T' : State) (h' : Heap) (b : Addr), Stand p l e R (s.setVm T'.vm) m args below meth c T' locs (cells + 2) (slots + (n + 4)) ∧ T'.heap = h' ∧ Ext h h' ∧ s.Since T'.vm h'.size ∧ Z.Warmed39 (s.setVm T'.vm).vm ∧ (s.setVm T'.vm).vm.findClass own = some m.cls ∧
      Exa Z h' a "java/lang/String" ∧ Fld Z h' a "java/lang/String" "coder" "B" (.int 0) ∧ Fld Z h' a "java/lang/String" "value" "[B" (.ref b) ∧ own_Arr Z h' b .byte z (fun i => Value.int (L.getD i 0)) ∧ IB Z T'.vm (text :: Ts) ∧ Lit (s.setVm T'.vm) own index a ∧ (s.setVm vm0).Warmed39 T'.vm ∧
      ∀ target, Steps p.tables e below (T'.setTop { g with pc := g.pc + 2, stack := .ref a :: g.stack }) target → Steps p.tables e below (T.setTop g) target := by
  obtain ⟨a, T', h', k1, b, k, r1, r2, r3, r4, r5, r6, r7, r8, r9, r10, r11, -, -, r14, r15, r16⟩ := ldcSVL (s := s.setVm vm0) (vm0 := vm0) X hx hZ hown w wS eT ((State.WarmedH.refl (s.setVm vm0)).since h.size) (Nat.le_refl _) N hkeep I hnot hh hcw ht hz (by rw [hl, List.length_map]) hg hd hn hbig hc hl'
  refine ⟨a, T', h', b, r1, r2, r3, hS.trans (own_sinceMono r4 r5) r3.1, r6, r7, r8, r9, r10, own_arv r11 fun i hi => ?_, r14, r15, r4.1, r16⟩
  simp only [List.getD_eq_getElem?_getD, List.getElem?_map]
  cases L[i]? <;> rfl
end Ldc
end Jvm.RoadKit
namespace Jvm.Pilot.@@N@@
open Jvm Jvm.ClassFile Sem Op Lib Jvm.Free Jvm.Stand Jvm.LawKit Jvm.RoadKit Bundle Jvm.Pilot.@@N@@.Jvm.D
def own_Str (Z : State) (h : Heap) (a : Addr) (v0 : Addr) (v1 : Int32) : Prop := Exa Z h a "java/lang/String" ∧ Fld Z h a "java/lang/String" "value" "[B" (.ref v0) ∧ Fld Z h a "java/lang/String" "coder" "B" (.int v1)
def own_L13 : List Int32 := [48, 49, 50, 51, 52, 53, 54, 55, 56, 57, 65, 66, 67, 68, 69, 70]
theorem ht_13 : (∀ c ∈ ("0123456789ABCDEF" : String).toList, c.toNat < 256) ∧ ("0123456789ABCDEF" : String).toList.map (fun c => Value.int (own_byteI c.toNat.toUInt16)) = own_L13.map Value.int := by decide +kernel
def own_L21 : List Int32 := [48, 49, 50, 51, 52, 53, 54, 55, 56, 57, 97, 98, 99, 100, 101, 102]
theorem ht_21 : (∀ c ∈ ("0123456789abcdef" : String).toList, c.toNat < 256) ∧ ("0123456789abcdef" : String).toList.map (fun c => Value.int (own_byteI c.toNat.toUInt16)) = own_L21.map Value.int := by decide +kernel
def own_up : Nat → Int32 := fun ii => own_L13.getD ii 0
def own_lo : Nat → Int32 := fun ii => own_L21.getD ii 0
theorem own_wS {Z : State} {a0 : Array Value} (hw : ∀ d ∈ tables_1, d.before a0 Z = true) : ∀ d ∈ Bundle.stringAtoms, d.before a0 Z = true := by
  intro d hd
  simp only [Bundle.stringAtoms, List.mem_cons, List.not_mem_nil, or_false] at hd
  rcases hd with rfl | rfl | rfl | rfl | rfl | rfl | rfl
  · exact hw _ (List.mem_of_getElem? (i := 5) rfl)
  · exact hw _ (List.mem_of_getElem? (i := 6) rfl)
  · exact hw _ (List.mem_of_getElem? (i := 7) rfl)
  · exact hw _ (List.mem_of_getElem? (i := 8) rfl)
  · exact hw _ (List.mem_of_getElem? (i := 9) rfl)
  · exact hw _ (List.mem_of_getElem? (i := 10) rfl)
  · exact hw _ (List.mem_of_getElem? (i := 11) rfl)
theorem d6_0 : decode jdk_41_method_11_code 0 = .ok (.iload_n 0, 1) := by decide +kernel
theorem d6_1 : decode jdk_41_method_11_code 1 = .ok (.ifCond .lt 8, 3) := by decide +kernel
theorem d6_4 : decode jdk_41_method_11_code 4 = .ok (.iload_n 0, 1) := by decide +kernel
theorem d6_5 : decode jdk_41_method_11_code 5 = .ok (.iload_n 1, 1) := by decide +kernel
theorem d6_6 : decode jdk_41_method_11_code 6 = .ok (.if_icmp .lt 10, 3) := by decide +kernel
theorem d6_16 : decode jdk_41_method_11_code 16 = .ok (.iload_n 0, 1) := by decide +kernel
theorem d6_17 : decode jdk_41_method_11_code 17 = .ok (.ireturn, 1) := by decide +kernel
theorem pn_6 : plainName "jdk/internal/util/Preconditions" = true := by first | (simp [plainName, overriddenIn]; done) | decide +kernel
theorem ef_6 (m : MethodId) (x0 : Int32) (x1 : Int32) (x2 : Addr) : entryFrame m #[(.int x0), (.int x1), (.ref x2)] 3 = mkF m 0 #[.val (.int x0), .val (.int x1), .val (.ref x2)] [] := by first | (simp [entryFrame, mkF, argsToLocals, Value.category]; done) | rfl
def Q6 (Z : State) (p1 : Int32) (p2 : Int32) (a3 : Addr) (h0 : Heap) (n0 : Nat) (v : Option Value) (h : Heap) (L : List Loc) : Prop := v = some (.int p1) ∧ Fr n0 L ∧ h = h0
set_option maxRecDepth 65536 in
set_option maxHeartbeats 40000000 in
theorem rm6 (l : Launch) (Z : State) (a0 : Array Value) (hw : ∀ d ∈ tables_1, d.before a0 Z = true) (ws : List Jvm.Cond) (p1 : Int32) (p2 : Int32) (a3 : Addr) (h0 : Heap) (n0 : Nat) (Z0 : n0 ≤ h0.size) (hi : ¬ p1 < (0 : Int32) ∧ p1 < p2) :
    MetFree l (⟨"jdk/internal/util/Preconditions", "checkIndex", "(IILjava/util/function/BiFunction;)I"⟩ : MethodName) (head1 (Jvm.Cond.code (⟨"jdk/internal/util/Preconditions", "checkIndex", "(IILjava/util/function/BiFunction;)I"⟩ : MethodName) jdk_41_method_11_code 3 (some .int) :: ws) ({ frames := 0, cells := 0, slots := 0, locals := 0 } : Room)) (fun a U => a = #[(.int p1), (.int p2), (.ref a3)] ∧ Z.Warmed39 U.vm ∧ U.heap = h0) (fun _ _ _ _ _ => True) (fun _ U o U' => ∃ v L, o = .returned v ∧ Q6 Z p1 p2 a3 h0 n0 v U'.heap L ∧ FrameEnd U o U' L ({ frames := 0, cells := 0, slots := 0, locals := 0 } : Room).cells ({ frames := 0, cells := 0, slots := 0, locals := 0 } : Room).slots) := by
  refine MetFree.of_bodySF (plainFor_of_name pn_6) hisR ?_
  intro p e s m args below meth c s₁ Bd hml0 hP hK
  obtain ⟨rfl, hZ, hh⟩ := hP
  have hx := Bd.exec
  have hby := Bd.bytes
  have hml : c.maxLocals = 3 := hml0
  have hown : s.vm.findClass "jdk/internal/util/Preconditions" = some m.cls := findClass_of_methodNamed Bd.named
  have hnm := (name_of_methodNamed Bd.named Bd.method).1
  have X0 : Stand p l e ({ frames := 0, cells := 0, slots := 0, locals := 0 } : Room) s m #[(.int p1), (.int p2), (.ref a3)] below meth c s₁ [] 0 0 := Stand.of_body Bd
  have e0 : s₁.heap = h0 := by rw [← hh, Bd.state]; rfl
  have N0 := Fr.nil n0
  show own_End p e below s (s₁.setTop (entryFrame m #[(.int p1), (.int p2), (.ref a3)] 3)) (Q6 Z p1 p2 a3 h0 n0) ({ frames := 0, cells := 0, slots := 0, locals := 0 } : Room).cells ({ frames := 0, cells := 0, slots := 0, locals := 0 } : Room).slots
  refine own_pre (A := s₁.setTop (mkF m 0 #[.val (.int p1), .val (.int p2), .val (.ref a3)] [])) (fun tt kt => castTop (ef_6 m p1 p2 a3) kt) ?_
  show own_End p e below s (s₁.setTop (mkF m 0 #[.val (.int p1), .val (.int p2), .val (.ref a3)] [])) (Q6 Z p1 p2 a3 h0 n0) ({ frames := 0, cells := 0, slots := 0, locals := 0 } : Room).cells ({ frames := 0, cells := 0, slots := 0, locals := 0 } : Room).slots
  refine own_pre (A := s₁.setTop (mkF m 17 #[.val (.int p1), .val (.int p2), .val (.ref a3)] [(.int p1)])) (fun tt kt => ?_) ?_
  · show Steps p.tables e below (s₁.setTop (mkF m 0 #[.val (.int p1), .val (.int p2), .val (.ref a3)] [])) _
    refine XS.iloadN X0.here hx rfl (hb hby d6_0) rfl ?_
    refine XS.ifNo X0.here hx rfl (hb hby d6_1) rfl ((if0 _ _).trans (flt (hi.1 : ¬ (p1 < (0 : Int32)))).1) ?_
    refine XS.iloadN X0.here hx rfl (hb hby d6_4) rfl ?_
    refine XS.iloadN X0.here hx rfl (hb hby d6_5) rfl ?_
    show Steps p.tables e below (s₁.setTop (mkF m 6 #[.val (.int p1), .val (.int p2), .val (.ref a3)] [(.int p2), (.int p1)])) _
    refine XS.icmpYes X0.here hx rfl (pc0 := 6) (pc' := 16) rfl (hb hby d6_6) rfl (tlt (hi.2 : p1 < p2)).1 (by decide) (by decide) ?_
    refine XS.iloadN X0.here hx rfl (hb hby d6_16) rfl ?_
    exact kt
  show own_End p e below s (s₁.setTop (mkF m 17 #[.val (.int p1), .val (.int p2), .val (.ref a3)] [(.int p1)])) (Q6 Z p1 p2 a3 h0 n0) ({ frames := 0, cells := 0, slots := 0, locals := 0 } : Room).cells ({ frames := 0, cells := 0, slots := 0, locals := 0 } : Room).slots
  obtain ⟨fs, hr, hrun, hended, hW, hsame⟩ := X0.leave (v := some (.int p1)) (fun h => by rw [Bd.returns] at h; cases h)
  refine ⟨_, _, ?_, hrun, hended, _, _, rfl, ?_, ⟨_, rfl⟩, hW, hsame.mono (by decide) (by decide)⟩
  · exact retI X0 hx Bd.returns (hb hby d6_17) hr
  · show Q6 Z p1 p2 a3 h0 n0 _ s₁.heap _
    rw [e0]
    exact ⟨rfl, N0, rfl⟩
theorem d6n_0 : decode jdk_41_method_11_code 0 = .ok (.iload_n 0, 1) := by decide +kernel
theorem d6n_1 : decode jdk_41_method_11_code 1 = .ok (.ifCond .lt 8, 3) := by decide +kernel
theorem d6n_4 : decode jdk_41_method_11_code 4 = .ok (.iload_n 0, 1) := by decide +kernel
theorem d6n_5 : decode jdk_41_method_11_code 5 = .ok (.iload_n 1, 1) := by decide +kernel
theorem d6n_6 : decode jdk_41_method_11_code 6 = .ok (.if_icmp .lt 10, 3) := by decide +kernel
theorem d6n_16 : decode jdk_41_method_11_code 16 = .ok (.iload_n 0, 1) := by decide +kernel
theorem d6n_17 : decode jdk_41_method_11_code 17 = .ok (.ireturn, 1) := by decide +kernel
theorem pn_6n : plainName "jdk/internal/util/Preconditions" = true := by first | (simp [plainName, overriddenIn]; done) | decide +kernel
theorem ef_6n (m : MethodId) (x0 : Int32) (x1 : Int32) : entryFrame m #[(.int x0), (.int x1), .null] 3 = mkF m 0 #[.val (.int x0), .val (.int x1), .val .null] [] := by first | (simp [entryFrame, mkF, argsToLocals, Value.category]; done) | rfl
def Q6n (Z : State) (p1 : Int32) (p2 : Int32) (h0 : Heap) (n0 : Nat) (v : Option Value) (h : Heap) (L : List Loc) : Prop := v = some (.int p1) ∧ Fr n0 L ∧ h = h0
set_option maxRecDepth 65536 in
set_option maxHeartbeats 40000000 in
theorem rm6n (l : Launch) (Z : State) (a0 : Array Value) (hw : ∀ d ∈ tables_1, d.before a0 Z = true) (ws : List Jvm.Cond) (p1 : Int32) (p2 : Int32) (h0 : Heap) (n0 : Nat) (Z0 : n0 ≤ h0.size) (hi : ¬ p1 < (0 : Int32) ∧ p1 < p2) :
    MetFree l (⟨"jdk/internal/util/Preconditions", "checkIndex", "(IILjava/util/function/BiFunction;)I"⟩ : MethodName) (head1 (Jvm.Cond.code (⟨"jdk/internal/util/Preconditions", "checkIndex", "(IILjava/util/function/BiFunction;)I"⟩ : MethodName) jdk_41_method_11_code 3 (some .int) :: ws) ({ frames := 0, cells := 0, slots := 0, locals := 0 } : Room)) (fun a U => a = #[(.int p1), (.int p2), .null] ∧ Z.Warmed39 U.vm ∧ U.heap = h0) (fun _ _ _ _ _ => True) (fun _ U o U' => ∃ v L, o = .returned v ∧ Q6n Z p1 p2 h0 n0 v U'.heap L ∧ FrameEnd U o U' L ({ frames := 0, cells := 0, slots := 0, locals := 0 } : Room).cells ({ frames := 0, cells := 0, slots := 0, locals := 0 } : Room).slots) := by
  refine MetFree.of_bodySF (plainFor_of_name pn_6n) hisR ?_
  intro p e s m args below meth c s₁ Bd hml0 hP hK
  obtain ⟨rfl, hZ, hh⟩ := hP
  have hx := Bd.exec
  have hby := Bd.bytes
  have hml : c.maxLocals = 3 := hml0
  have hown : s.vm.findClass "jdk/internal/util/Preconditions" = some m.cls := findClass_of_methodNamed Bd.named
  have hnm := (name_of_methodNamed Bd.named Bd.method).1
  have X0 : Stand p l e ({ frames := 0, cells := 0, slots := 0, locals := 0 } : Room) s m #[(.int p1), (.int p2), .null] below meth c s₁ [] 0 0 := Stand.of_body Bd
  have e0 : s₁.heap = h0 := by rw [← hh, Bd.state]; rfl
  have N0 := Fr.nil n0
  show own_End p e below s (s₁.setTop (entryFrame m #[(.int p1), (.int p2), .null] 3)) (Q6n Z p1 p2 h0 n0) ({ frames := 0, cells := 0, slots := 0, locals := 0 } : Room).cells ({ frames := 0, cells := 0, slots := 0, locals := 0 } : Room).slots
  refine own_pre (A := s₁.setTop (mkF m 0 #[.val (.int p1), .val (.int p2), .val .null] [])) (fun tt kt => castTop (ef_6n m p1 p2) kt) ?_
  show own_End p e below s (s₁.setTop (mkF m 0 #[.val (.int p1), .val (.int p2), .val .null] [])) (Q6n Z p1 p2 h0 n0) ({ frames := 0, cells := 0, slots := 0, locals := 0 } : Room).cells ({ frames := 0, cells := 0, slots := 0, locals := 0 } : Room).slots
  refine own_pre (A := s₁.setTop (mkF m 17 #[.val (.int p1), .val (.int p2), .val .null] [(.int p1)])) (fun tt kt => ?_) ?_
  · show Steps p.tables e below (s₁.setTop (mkF m 0 #[.val (.int p1), .val (.int p2), .val .null] [])) _
    refine XS.iloadN X0.here hx rfl (hb hby d6n_0) rfl ?_
    refine XS.ifNo X0.here hx rfl (hb hby d6n_1) rfl ((if0 _ _).trans (flt (hi.1 : ¬ (p1 < (0 : Int32)))).1) ?_
    refine XS.iloadN X0.here hx rfl (hb hby d6n_4) rfl ?_
    refine XS.iloadN X0.here hx rfl (hb hby d6n_5) rfl ?_
    show Steps p.tables e below (s₁.setTop (mkF m 6 #[.val (.int p1), .val (.int p2), .val .null] [(.int p2), (.int p1)])) _
    refine XS.icmpYes X0.here hx rfl (pc0 := 6) (pc' := 16) rfl (hb hby d6n_6) rfl (tlt (hi.2 : p1 < p2)).1 (by decide) (by decide) ?_
    refine XS.iloadN X0.here hx rfl (hb hby d6n_16) rfl ?_
    exact kt
  show own_End p e below s (s₁.setTop (mkF m 17 #[.val (.int p1), .val (.int p2), .val .null] [(.int p1)])) (Q6n Z p1 p2 h0 n0) ({ frames := 0, cells := 0, slots := 0, locals := 0 } : Room).cells ({ frames := 0, cells := 0, slots := 0, locals := 0 } : Room).slots
  obtain ⟨fs, hr, hrun, hended, hW, hsame⟩ := X0.leave (v := some (.int p1)) (fun h => by rw [Bd.returns] at h; cases h)
  refine ⟨_, _, ?_, hrun, hended, _, _, rfl, ?_, ⟨_, rfl⟩, hW, hsame.mono (by decide) (by decide)⟩
  · exact retI X0 hx Bd.returns (hb hby d6n_17) hr
  · show Q6n Z p1 p2 h0 n0 _ s₁.heap _
    rw [e0]
    exact ⟨rfl, N0, rfl⟩
theorem d5_0 : decode jdk_42_method_155_code 0 = .ok (.iload_n 0, 1) := by decide +kernel
theorem d5_1 : decode jdk_42_method_155_code 1 = .ok (.iload_n 1, 1) := by decide +kernel
theorem d5_2 : decode jdk_42_method_155_code 2 = .ok (.getstatic 1053, 3) := by decide +kernel
theorem d5_5 : decode jdk_42_method_155_code 5 = .ok (.invokestatic 1059, 3) := by decide +kernel
theorem d5_8 : decode jdk_42_method_155_code 8 = .ok (.pop, 1) := by decide +kernel
theorem d5_9 : decode jdk_42_method_155_code 9 = .ok (.return_, 1) := by decide +kernel
theorem pn_5 : plainName "java/lang/String" = true := by first | (simp [plainName, overriddenIn]; done) | decide +kernel
theorem pd_5_0 : parseMethodDescriptor "(IILjava/util/function/BiFunction;)I" = some ⟨[.int, .int, (.object "java/util/function/BiFunction")], some .int⟩ := by decide +kernel
theorem ef_5 (m : MethodId) (x0 : Int32) (x1 : Int32) : entryFrame m #[(.int x0), (.int x1)] 2 = mkF m 0 #[.val (.int x0), .val (.int x1)] [] := by first | (simp [entryFrame, mkF, argsToLocals, Value.category]; done) | rfl
def Q5 (Z : State) (p1 : Int32) (p2 : Int32) (GB : Value) (h0 : Heap) (n0 : Nat) (v : Option Value) (h : Heap) (L : List Loc) : Prop := v = none ∧ Fr n0 L ∧ h = h0
set_option maxRecDepth 65536 in
set_option maxHeartbeats 40000000 in
theorem rm5 (l : Launch) (Z : State) (a0 : Array Value) (hw : ∀ d ∈ tables_1, d.before a0 Z = true) (ws : List Jvm.Cond) (p1 : Int32) (p2 : Int32) (GB : Value) (h0 : Heap) (n0 : Nat) (Z0 : n0 ≤ h0.size) (O4 : Sta Z h0 "jdk/internal/util/Preconditions" "SIOOBE_FORMATTER" "Ljava/util/function/BiFunction;" GB) (rGB : GB.isRef = true) (hi : ¬ p1 < (0 : Int32) ∧ p1 < p2) :
    MetFree l (⟨"java/lang/String", "checkIndex", "(II)V"⟩ : MethodName) (head1 (Jvm.Cond.code (⟨"java/lang/String", "checkIndex", "(II)V"⟩ : MethodName) jdk_42_method_155_code 2 none :: ws) ({ frames := 1, cells := 0, slots := 0, locals := 14 } : Room)) (fun a U => a = #[(.int p1), (.int p2)] ∧ Z.Warmed39 U.vm ∧ U.heap = h0) (fun _ _ _ _ _ => True) (fun _ U o U' => ∃ v L, o = .returned v ∧ Q5 Z p1 p2 GB h0 n0 v U'.heap L ∧ FrameEnd U o U' L ({ frames := 1, cells := 0, slots := 0, locals := 14 } : Room).cells ({ frames := 1, cells := 0, slots := 0, locals := 14 } : Room).slots) := by
  refine MetFree.of_bodySF (plainFor_of_name pn_5) hisR ?_
  intro p e s m args below meth c s₁ Bd hml0 hP hK
  obtain ⟨rfl, hZ, hh⟩ := hP
  have hx := Bd.exec
  have hby := Bd.bytes
  have hml : c.maxLocals = 2 := hml0
  have hown : s.vm.findClass "java/lang/String" = some m.cls := findClass_of_methodNamed Bd.named
  have hnm := (name_of_methodNamed Bd.named Bd.method).1
  have X0 : Stand p l e ({ frames := 1, cells := 0, slots := 0, locals := 14 } : Room) s m #[(.int p1), (.int p2)] below meth c s₁ [] 0 0 := Stand.of_body Bd
  have e0 : s₁.heap = h0 := by rw [← hh, Bd.state]; rfl
  have N0 := Fr.nil n0
  show own_End p e below s (s₁.setTop (entryFrame m #[(.int p1), (.int p2)] 2)) (Q5 Z p1 p2 GB h0 n0) ({ frames := 1, cells := 0, slots := 0, locals := 14 } : Room).cells ({ frames := 1, cells := 0, slots := 0, locals := 14 } : Room).slots
  refine own_pre (A := s₁.setTop (mkF m 0 #[.val (.int p1), .val (.int p2)] [])) (fun tt kt => castTop (ef_5 m p1 p2) kt) ?_
  show own_End p e below s (s₁.setTop (mkF m 0 #[.val (.int p1), .val (.int p2)] [])) (Q5 Z p1 p2 GB h0 n0) ({ frames := 1, cells := 0, slots := 0, locals := 14 } : Room).cells ({ frames := 1, cells := 0, slots := 0, locals := 14 } : Room).slots
  rcases ref_cases rGB with eG | ⟨qG, eG⟩
  · have O4x : Sta Z h0 "jdk/internal/util/Preconditions" "SIOOBE_FORMATTER" "Ljava/util/function/BiFunction;" .null := eG ▸ O4
    obtain ⟨T1, X1, e1, st1⟩ := getS2 X0 hx hZ hown (host := "") (Or.inl (hw _ (List.mem_of_getElem? (i := 32) rfl))) Via.refl e0 O4x (g := (mkF m 2 #[.val (.int p1), .val (.int p2)] [(.int p2), (.int p1)])) rfl (hb hby d5_2)
    obtain ⟨_, _, ⟨T2, L2, k2, n2⟩, -, X2, ⟨Lc2, hQ2, l2, y2, z2⟩, st2⟩ := Jvm.LawKit.callS X1 hx (y := (⟨"jdk/internal/util/Preconditions", "checkIndex", "(IILjava/util/function/BiFunction;)I"⟩ : MethodName)) hown (mvT hZ (hw _ (List.mem_of_getElem? (i := 34) rfl))) (mvT hZ (hw _ (List.mem_of_getElem? (i := 35) rfl))) (mvT hZ (hw _ (List.mem_of_getElem? (i := 33) rfl))) (mvT hZ (hw _ (List.mem_of_getElem? (i := 36) rfl))) (by decide) (backOf (W := 0) (rm6n l Z a0 hw [] p1 p2  h0 n0 Z0 hi) hZ (hw _ (List.mem_of_getElem? (i := 36) rfl)) (hw _ (List.mem_of_getElem? (i := 33) rfl)) (by decide) (by decide)) (g := (mkF m 5 #[.val (.int p1), .val (.int p2)] [.null, (.int p2), (.int p1)])) rfl (by rw [hml]; rfl) (argsL := [(.int p1), (.int p2), .null]) (rest := []) (lenOf pd_5_0 rfl) rfl (by show 2 * 0 + _ ≤ _; exact Nat.le_of_eq rfl) (hb hby d5_5) (fun _ _ => ⟨rfl, e1, (by decide : 0 + 0 ≤ _), (by decide : 0 + 0 ≤ _)⟩)
    dsimp only [Pt.U, Pt.locs, Pt.cells, Pt.slots] at X2 l2 y2 z2 st2 hQ2
    subst l2 y2 z2
    obtain ⟨rfl, N2q, e2⟩ := hQ2
    have N2 := Fr.app N0 N2q
    refine own_pre (A := T2.setTop (mkF m 9 #[.val (.int p1), .val (.int p2)] [])) (fun tt kt => ?_) ?_
    · show Steps p.tables e below (s₁.setTop (mkF m 0 #[.val (.int p1), .val (.int p2)] [])) _
      refine XS.iloadN X0.here hx rfl (hb hby d5_0) rfl ?_
      refine XS.iloadN X0.here hx rfl (hb hby d5_1) rfl ?_
      show Steps p.tables e below (s₁.setTop (mkF m 2 #[.val (.int p1), .val (.int p2)] [(.int p2), (.int p1)])) _
      refine st1 _ ?_
      show Steps p.tables e below (T1.setTop (mkF m 5 #[.val (.int p1), .val (.int p2)] [.null, (.int p2), (.int p1)])) _
      refine st2 _ ?_
      show Steps p.tables e below (T2.setTop (mkF m 8 #[.val (.int p1), .val (.int p2)] [(.int p1)])) _
      refine XS.pop X2.here hx rfl (hb hby d5_8) rfl rfl ?_
      exact kt
    show own_End p e below s (T2.setTop (mkF m 9 #[.val (.int p1), .val (.int p2)] [])) (Q5 Z p1 p2 GB h0 n0) ({ frames := 1, cells := 0, slots := 0, locals := 14 } : Room).cells ({ frames := 1, cells := 0, slots := 0, locals := 14 } : Room).slots
    obtain ⟨fs, hr, hrun, hended, hW, hsame⟩ := X2.leave (v := none) (fun _ => rfl)
    refine ⟨_, _, ?_, hrun, hended, _, _, rfl, ?_, ⟨_, rfl⟩, hW, hsame.mono (by decide) (by decide)⟩
    · exact X2.returnOut hx Bd.returns (hb hby d5_9) hr
    · show Q5 Z p1 p2 GB h0 n0 _ T2.heap _
      rw [e2]
      exact ⟨rfl, N2, rfl⟩
  · have O4x : Sta Z h0 "jdk/internal/util/Preconditions" "SIOOBE_FORMATTER" "Ljava/util/function/BiFunction;" (.ref qG) := eG ▸ O4
    obtain ⟨T3, X3, e3, st3⟩ := getS2 X0 hx hZ hown (host := "") (Or.inl (hw _ (List.mem_of_getElem? (i := 32) rfl))) Via.refl e0 O4x (g := (mkF m 2 #[.val (.int p1), .val (.int p2)] [(.int p2), (.int p1)])) rfl (hb hby d5_2)
    obtain ⟨_, _, ⟨T4, L4, k4, n4⟩, -, X4, ⟨Lc4, hQ4, l4, y4, z4⟩, st4⟩ := Jvm.LawKit.callS X3 hx (y := (⟨"jdk/internal/util/Preconditions", "checkIndex", "(IILjava/util/function/BiFunction;)I"⟩ : MethodName)) hown (mvT hZ (hw _ (List.mem_of_getElem? (i := 34) rfl))) (mvT hZ (hw _ (List.mem_of_getElem? (i := 35) rfl))) (mvT hZ (hw _ (List.mem_of_getElem? (i := 33) rfl))) (mvT hZ (hw _ (List.mem_of_getElem? (i := 36) rfl))) (by decide) (backOf (W := 0) (rm6 l Z a0 hw [] p1 p2 qG  h0 n0 Z0 hi) hZ (hw _ (List.mem_of_getElem? (i := 36) rfl)) (hw _ (List.mem_of_getElem? (i := 33) rfl)) (by decide) (by decide)) (g := (mkF m 5 #[.val (.int p1), .val (.int p2)] [(.ref qG), (.int p2), (.int p1)])) rfl (by rw [hml]; rfl) (argsL := [(.int p1), (.int p2), (.ref qG)]) (rest := []) (lenOf pd_5_0 rfl) rfl (by show 2 * 0 + _ ≤ _; exact Nat.le_of_eq rfl) (hb hby d5_5) (fun _ _ => ⟨rfl, e3, (by decide : 0 + 0 ≤ _), (by decide : 0 + 0 ≤ _)⟩)
    dsimp only [Pt.U, Pt.locs, Pt.cells, Pt.slots] at X4 l4 y4 z4 st4 hQ4
    subst l4 y4 z4
    obtain ⟨rfl, N4q, e4⟩ := hQ4
    have N4 := Fr.app N0 N4q
    refine own_pre (A := T4.setTop (mkF m 9 #[.val (.int p1), .val (.int p2)] [])) (fun tt kt => ?_) ?_
    · show Steps p.tables e below (s₁.setTop (mkF m 0 #[.val (.int p1), .val (.int p2)] [])) _
      refine XS.iloadN X0.here hx rfl (hb hby d5_0) rfl ?_
      refine XS.iloadN X0.here hx rfl (hb hby d5_1) rfl ?_
      show Steps p.tables e below (s₁.setTop (mkF m 2 #[.val (.int p1), .val (.int p2)] [(.int p2), (.int p1)])) _
      refine st3 _ ?_
      show Steps p.tables e below (T3.setTop (mkF m 5 #[.val (.int p1), .val (.int p2)] [(.ref qG), (.int p2), (.int p1)])) _
      refine st4 _ ?_
      show Steps p.tables e below (T4.setTop (mkF m 8 #[.val (.int p1), .val (.int p2)] [(.int p1)])) _
      refine XS.pop X4.here hx rfl (hb hby d5_8) rfl rfl ?_
      exact kt
    show own_End p e below s (T4.setTop (mkF m 9 #[.val (.int p1), .val (.int p2)] [])) (Q5 Z p1 p2 GB h0 n0) ({ frames := 1, cells := 0, slots := 0, locals := 14 } : Room).cells ({ frames := 1, cells := 0, slots := 0, locals := 14 } : Room).slots
    obtain ⟨fs, hr, hrun, hended, hW, hsame⟩ := X4.leave (v := none) (fun _ => rfl)
    refine ⟨_, _, ?_, hrun, hended, _, _, rfl, ?_, ⟨_, rfl⟩, hW, hsame.mono (by decide) (by decide)⟩
    · exact X4.returnOut hx Bd.returns (hb hby d5_9) hr
    · show Q5 Z p1 p2 GB h0 n0 _ T4.heap _
      rw [e4]
      exact ⟨rfl, N4, rfl⟩
def own_c4 (p2 : Int32) (g1 : Nat → Int32) (n1 : Int32) : Int32 := ((((g1 p2.toNatClampNeg) &&& (255 : Int32)).toUInt32.toUInt16.toUInt32.toInt32).toUInt32.toUInt16.toUInt32.toInt32)
theorem d4_0 : decode jdk_43_method_2_code 0 = .ok (.iload_n 1, 1) := by decide +kernel
theorem d4_1 : decode jdk_43_method_2_code 1 = .ok (.aload_n 0, 1) := by decide +kernel
theorem d4_2 : decode jdk_43_method_2_code 2 = .ok (.arraylength, 1) := by decide +kernel
theorem d4_3 : decode jdk_43_method_2_code 3 = .ok (.invokestatic 9, 3) := by decide +kernel
theorem d4_6 : decode jdk_43_method_2_code 6 = .ok (.aload_n 0, 1) := by decide +kernel
theorem d4_7 : decode jdk_43_method_2_code 7 = .ok (.iload_n 1, 1) := by decide +kernel
theorem d4_8 : decode jdk_43_method_2_code 8 = .ok (.baload, 1) := by decide +kernel
theorem d4_9 : decode jdk_43_method_2_code 9 = .ok (.sipush 255, 3) := by decide +kernel
theorem d4_12 : decode jdk_43_method_2_code 12 = .ok (.iand, 1) := by decide +kernel
theorem d4_13 : decode jdk_43_method_2_code 13 = .ok (.i2c, 1) := by decide +kernel
theorem d4_14 : decode jdk_43_method_2_code 14 = .ok (.ireturn, 1) := by decide +kernel
theorem pn_4 : plainName "java/lang/StringLatin1" = true := by first | (simp [plainName, overriddenIn]; done) | decide +kernel
theorem pd_4_0 : parseMethodDescriptor "(II)V" = some ⟨[.int, .int], none⟩ := by decide +kernel
theorem ef_4 (m : MethodId) (x0 : Addr) (x1 : Int32) : entryFrame m #[(.ref x0), (.int x1)] 2 = mkF m 0 #[.val (.ref x0), .val (.int x1)] [] := by first | (simp [entryFrame, mkF, argsToLocals, Value.category]; done) | rfl
def Q4 (Z : State) (a1 : Addr) (p2 : Int32) (g1 : Nat → Int32) (n1 : Int32) (GB : Value) (h0 : Heap) (n0 : Nat) (v : Option Value) (h : Heap) (L : List Loc) : Prop := v = some (.int (own_c4 p2 g1 n1)) ∧ Fr n0 L ∧ h = h0
set_option maxRecDepth 65536 in
set_option maxHeartbeats 40000000 in
theorem rm4 (l : Launch) (Z : State) (a0 : Array Value) (hw : ∀ d ∈ tables_1, d.before a0 Z = true) (ws : List Jvm.Cond) (a1 : Addr) (p2 : Int32) (g1 : Nat → Int32) (n1 : Int32) (GB : Value) (h0 : Heap) (n0 : Nat) (Z0 : n0 ≤ h0.size) (V_a1 : own_Arr Z h0 a1 .byte n1 (fun i => Value.int (g1 i))) (O4 : Sta Z h0 "jdk/internal/util/Preconditions" "SIOOBE_FORMATTER" "Ljava/util/function/BiFunction;" GB) (rGB : GB.isRef = true) (hi : ¬ p2 < (0 : Int32) ∧ p2 < n1) :
    MetFree l (⟨"java/lang/StringLatin1", "charAt", "([BI)C"⟩ : MethodName) (head1 (Jvm.Cond.code (⟨"java/lang/StringLatin1", "charAt", "([BI)C"⟩ : MethodName) jdk_43_method_2_code 2 (some .char) :: ws) ({ frames := 2, cells := 0, slots := 0, locals := 27 } : Room)) (fun a U => a = #[(.ref a1), (.int p2)] ∧ Z.Warmed39 U.vm ∧ U.heap = h0) (fun _ _ _ _ _ => True) (fun _ U o U' => ∃ v L, o = .returned v ∧ Q4 Z a1 p2 g1 n1 GB h0 n0 v U'.heap L ∧ FrameEnd U o U' L ({ frames := 2, cells := 0, slots := 0, locals := 27 } : Room).cells ({ frames := 2, cells := 0, slots := 0, locals := 27 } : Room).slots) := by
  refine MetFree.of_bodySF (plainFor_of_name pn_4) hisR ?_
  intro p e s m args below meth c s₁ Bd hml0 hP hK
  obtain ⟨rfl, hZ, hh⟩ := hP
  have hx := Bd.exec
  have hby := Bd.bytes
  have hml : c.maxLocals = 2 := hml0
  have hown : s.vm.findClass "java/lang/StringLatin1" = some m.cls := findClass_of_methodNamed Bd.named
  have hnm := (name_of_methodNamed Bd.named Bd.method).1
  have X0 : Stand p l e ({ frames := 2, cells := 0, slots := 0, locals := 27 } : Room) s m #[(.ref a1), (.int p2)] below meth c s₁ [] 0 0 := Stand.of_body Bd
  have e0 : s₁.heap = h0 := by rw [← hh, Bd.state]; rfl
  have N0 := Fr.nil n0
  show own_End p e below s (s₁.setTop (entryFrame m #[(.ref a1), (.int p2)] 2)) (Q4 Z a1 p2 g1 n1 GB h0 n0) ({ frames := 2, cells := 0, slots := 0, locals := 27 } : Room).cells ({ frames := 2, cells := 0, slots := 0, locals := 27 } : Room).slots
  refine own_pre (A := s₁.setTop (mkF m 0 #[.val (.ref a1), .val (.int p2)] [])) (fun tt kt => castTop (ef_4 m a1 p2) kt) ?_
  show own_End p e below s (s₁.setTop (mkF m 0 #[.val (.ref a1), .val (.int p2)] [])) (Q4 Z a1 p2 g1 n1 GB h0 n0) ({ frames := 2, cells := 0, slots := 0, locals := 27 } : Room).cells ({ frames := 2, cells := 0, slots := 0, locals := 27 } : Room).slots
  have hj : own_c4 p2 g1 n1 = own_c4 p2 g1 n1 := rfl
  obtain ⟨cl1, Ar1, S1, Nn1, G1⟩ := id V_a1
  obtain ⟨_, _, ⟨T2, L2, k2, n2⟩, -, X2, ⟨Lc2, hQ2, l2, y2, z2⟩, st2⟩ := Jvm.LawKit.callS X0 hx (y := (⟨"java/lang/String", "checkIndex", "(II)V"⟩ : MethodName)) hown (mvT hZ (hw _ (List.mem_of_getElem? (i := 29) rfl))) (mvT hZ (hw _ (List.mem_of_getElem? (i := 30) rfl))) (mvT hZ (hw _ (List.mem_of_getElem? (i := 5) rfl))) (mvT hZ (hw _ (List.mem_of_getElem? (i := 31) rfl))) (by decide) (backOf (W := 0) (rm5 l Z a0 hw [] p2 n1 GB h0 n0 Z0 O4 rGB hi) hZ (hw _ (List.mem_of_getElem? (i := 31) rfl)) (hw _ (List.mem_of_getElem? (i := 5) rfl)) (by decide) (by decide)) (g := (mkF m 3 #[.val (.ref a1), .val (.int p2)] [(.int n1), (.int p2)])) rfl (by rw [hml]; rfl) (argsL := [(.int p2), (.int n1)]) (rest := []) (lenOf pd_4_0 rfl) rfl (by show 2 * 0 + _ ≤ _; exact Nat.le_of_eq rfl) (hb hby d4_3) (fun _ _ => ⟨rfl, e0, (by decide : 0 + 0 ≤ _), (by decide : 0 + 0 ≤ _)⟩)
  dsimp only [Pt.U, Pt.locs, Pt.cells, Pt.slots] at X2 l2 y2 z2 st2 hQ2
  subst l2 y2 z2
  obtain ⟨rfl, N2q, e2⟩ := hQ2
  have N2 := Fr.app N0 N2q
  obtain ⟨cl3, Ar3, S3, Nn3, G3⟩ := id V_a1
  have hin3 : ¬ (p2 < 0 ∨ cl3.slots.size ≤ p2.toNatClampNeg) := inb_of S3 (hi : ¬ p2 < 0 ∧ p2 < n1)
  have hat3 : cl3.slots[p2.toNatClampNeg]? = some (.int (g1 p2.toNatClampNeg)) := own_at S3 G3 hin3
  refine own_pre (A := T2.setTop (mkF m 14 #[.val (.ref a1), .val (.int p2)] [(.int (((g1 p2.toNatClampNeg) &&& (255 : Int32)).toUInt32.toUInt16.toUInt32.toInt32))])) (fun tt kt => ?_) ?_
  · show Steps p.tables e below (s₁.setTop (mkF m 0 #[.val (.ref a1), .val (.int p2)] [])) _
    refine XS.iloadN X0.here hx rfl (hb hby d4_0) rfl ?_
    refine XS.aloadN X0.here hx rfl (hb hby d4_1) rfl rfl ?_
    show Steps p.tables e below (s₁.setTop (mkF m 2 #[.val (.ref a1), .val (.int p2)] [(.ref a1), (.int p2)])) _
    refine X0.arraylength hx (by rw [e0]; exact Ar1.1) (State.isArrayOf_alike hZ.alike Ar1.2.1) (g := (mkF m 2 #[.val (.ref a1), .val (.int p2)] [(.ref a1), (.int p2)])) rfl rfl (hb hby d4_2) _ ?_
    rw [len_of S1 Nn1]
    show Steps p.tables e below (s₁.setTop (mkF m 3 #[.val (.ref a1), .val (.int p2)] [(.int n1), (.int p2)])) _
    refine st2 _ ?_
    show Steps p.tables e below (T2.setTop (mkF m 6 #[.val (.ref a1), .val (.int p2)] [])) _
    refine XS.aloadN X2.here hx rfl (hb hby d4_6) rfl rfl ?_
    refine XS.iloadN X2.here hx rfl (hb hby d4_7) rfl ?_
    show Steps p.tables e below (T2.setTop (mkF m 8 #[.val (.ref a1), .val (.int p2)] [(.int p2), (.ref a1)])) _
    refine X2.baloadBytes hx (j := p2) (v := (.int (g1 p2.toNatClampNeg))) (by rw [e2]; exact Ar3.1) (State.isArrayOf_alike hZ.alike Ar3.2.1) Ar3.2.2 hin3 hat3 (g := (mkF m 8 #[.val (.ref a1), .val (.int p2)] [(.int p2), (.ref a1)])) rfl rfl (hb hby d4_8) _ ?_
    show Steps p.tables e below (T2.setTop (mkF m 9 #[.val (.ref a1), .val (.int p2)] [(.int (g1 p2.toNatClampNeg))])) _
    refine XS.sipush X2.here hx rfl (hb hby d4_9) ?_
    refine XS.iand X2.here hx rfl (hb hby d4_12) rfl ?_
    refine XS.i2c X2.here hx rfl (hb hby d4_13) rfl ?_
    exact kt
  show own_End p e below s (T2.setTop (mkF m 14 #[.val (.ref a1), .val (.int p2)] [(.int (((g1 p2.toNatClampNeg) &&& (255 : Int32)).toUInt32.toUInt16.toUInt32.toInt32))])) (Q4 Z a1 p2 g1 n1 GB h0 n0) ({ frames := 2, cells := 0, slots := 0, locals := 27 } : Room).cells ({ frames := 2, cells := 0, slots := 0, locals := 27 } : Room).slots
  have hv : (own_c4 p2 g1 n1) = ((((g1 p2.toNatClampNeg) &&& (255 : Int32)).toUInt32.toUInt16.toUInt32.toInt32).toUInt32.toUInt16.toUInt32.toInt32) := hj.trans (by simp only [own_c4])
  obtain ⟨fs, hr, hrun, hended, hW, hsame⟩ := X2.leave (v := some (.int ((((g1 p2.toNatClampNeg) &&& (255 : Int32)).toUInt32.toUInt16.toUInt32.toInt32).toUInt32.toUInt16.toUInt32.toInt32))) (fun h => by rw [Bd.returns] at h; cases h)
  refine ⟨_, _, ?_, hrun, hended, _, _, rfl, ?_, ⟨_, rfl⟩, hW, hsame.mono (by decide) (by decide)⟩
  · exact retN X2 hx (t := .char) Bd.returns (by simp) (hb hby d4_14) hr
  · show Q4 Z a1 p2 g1 n1 GB h0 n0 _ T2.heap _
    rw [e2]
    exact ⟨(congrArg (fun z => some (Value.int z)) hv.symm), N2, rfl⟩
theorem d3_0 : decode jdk_42_method_154_code 0 = .ok (.getstatic 38, 3) := by decide +kernel
theorem d3_3 : decode jdk_42_method_154_code 3 = .ok (.ifCond .eq 14, 3) := by decide +kernel
theorem d3_6 : decode jdk_42_method_154_code 6 = .ok (.aload_n 0, 1) := by decide +kernel
theorem d3_7 : decode jdk_42_method_154_code 7 = .ok (.getfield 15, 3) := by decide +kernel
theorem d3_10 : decode jdk_42_method_154_code 10 = .ok (.ifCond .ne 7, 3) := by decide +kernel
theorem d3_13 : decode jdk_42_method_154_code 13 = .ok (.iconst 1, 1) := by decide +kernel
theorem d3_14 : decode jdk_42_method_154_code 14 = .ok (.goto 4, 3) := by decide +kernel
theorem d3_18 : decode jdk_42_method_154_code 18 = .ok (.ireturn, 1) := by decide +kernel
theorem pn_3 : plainName "java/lang/String" = true := by first | (simp [plainName, overriddenIn]; done) | decide +kernel
theorem ef_3 (m : MethodId) (x0 : Addr) : entryFrame m #[(.ref x0)] 1 = mkF m 0 #[.val (.ref x0)] [] := by first | (simp [entryFrame, mkF, argsToLocals, Value.category]; done) | rfl
def Q3 (Z : State) (a1 : Addr) (b1 : Addr) (GA : Int32) (h0 : Heap) (n0 : Nat) (v : Option Value) (h : Heap) (L : List Loc) : Prop := v = some (.int (1 : Int32)) ∧ Fr n0 L ∧ h = h0
set_option maxRecDepth 65536 in
set_option maxHeartbeats 40000000 in
theorem rm3 (l : Launch) (Z : State) (a0 : Array Value) (hw : ∀ d ∈ tables_1, d.before a0 Z = true) (ws : List Jvm.Cond) (a1 : Addr) (b1 : Addr) (GA : Int32) (h0 : Heap) (n0 : Nat) (Z0 : n0 ≤ h0.size) (O_a1 : own_Str Z h0 a1 b1 (0 : Int32)) (O2 : Sta Z h0 "java/lang/String" "COMPACT_STRINGS" "Z" (.int GA)) (P5 : ¬ (GA = (0 : Int32))) :
    MetFree l (⟨"java/lang/String", "isLatin1", "()Z"⟩ : MethodName) (head1 (Jvm.Cond.code (⟨"java/lang/String", "isLatin1", "()Z"⟩ : MethodName) jdk_42_method_154_code 1 (some .boolean) :: ws) ({ frames := 0, cells := 0, slots := 0, locals := 0 } : Room)) (fun a U => a = #[(.ref a1)] ∧ Z.Warmed39 U.vm ∧ U.heap = h0) (fun _ _ _ _ _ => True) (fun _ U o U' => ∃ v L, o = .returned v ∧ Q3 Z a1 b1 GA h0 n0 v U'.heap L ∧ FrameEnd U o U' L ({ frames := 0, cells := 0, slots := 0, locals := 0 } : Room).cells ({ frames := 0, cells := 0, slots := 0, locals := 0 } : Room).slots) := by
  refine MetFree.of_bodySF (plainFor_of_name pn_3) hisR ?_
  intro p e s m args below meth c s₁ Bd hml0 hP hK
  obtain ⟨rfl, hZ, hh⟩ := hP
  have hx := Bd.exec
  have hby := Bd.bytes
  have hml : c.maxLocals = 1 := hml0
  have hown : s.vm.findClass "java/lang/String" = some m.cls := findClass_of_methodNamed Bd.named
  have hnm := (name_of_methodNamed Bd.named Bd.method).1
  have X0 : Stand p l e ({ frames := 0, cells := 0, slots := 0, locals := 0 } : Room) s m #[(.ref a1)] below meth c s₁ [] 0 0 := Stand.of_body Bd
  have e0 : s₁.heap = h0 := by rw [← hh, Bd.state]; rfl
  have N0 := Fr.nil n0
  show own_End p e below s (s₁.setTop (entryFrame m #[(.ref a1)] 1)) (Q3 Z a1 b1 GA h0 n0) ({ frames := 0, cells := 0, slots := 0, locals := 0 } : Room).cells ({ frames := 0, cells := 0, slots := 0, locals := 0 } : Room).slots
  obtain ⟨E_a1_1, F_value_a1_2, F_coder_a1_3⟩ := O_a1
  refine own_pre (A := s₁.setTop (mkF m 0 #[.val (.ref a1)] [])) (fun tt kt => castTop (ef_3 m a1) kt) ?_
  show own_End p e below s (s₁.setTop (mkF m 0 #[.val (.ref a1)] [])) (Q3 Z a1 b1 GA h0 n0) ({ frames := 0, cells := 0, slots := 0, locals := 0 } : Room).cells ({ frames := 0, cells := 0, slots := 0, locals := 0 } : Room).slots
  obtain ⟨T4, X4, e4, st4⟩ := getS2 X0 hx hZ hown (host := "") (Or.inl (hw _ (List.mem_of_getElem? (i := 22) rfl))) Via.refl e0 O2 (g := (mkF m 0 #[.val (.ref a1)] [])) rfl (hb hby d3_0)
  obtain ⟨T5, X5, e5, st5⟩ := getF X4 hx hZ hown (host := "") (Or.inl (hw _ (List.mem_of_getElem? (i := 23) rfl))) Via.refl e4 F_coder_a1_3 (g := (mkF m 7 #[.val (.ref a1)] [(.ref a1)])) rfl rfl (hb hby d3_7)
  refine own_pre (A := T5.setTop (mkF m 18 #[.val (.ref a1)] [(.int (1 : Int32))])) (fun tt kt => ?_) ?_
  · show Steps p.tables e below (s₁.setTop (mkF m 0 #[.val (.ref a1)] [])) _
    refine st4 _ ?_
    show Steps p.tables e below (T4.setTop (mkF m 3 #[.val (.ref a1)] [(.int GA)])) _
    refine XS.ifNo X4.here hx rfl (hb hby d3_3) rfl ((if0 _ _).trans (feq (P5 : ¬ (GA = (0 : Int32)))).1) ?_
    refine XS.aloadN X4.here hx rfl (hb hby d3_6) rfl rfl ?_
    show Steps p.tables e below (T4.setTop (mkF m 7 #[.val (.ref a1)] [(.ref a1)])) _
    refine st5 _ ?_
    show Steps p.tables e below (T5.setTop (mkF m 10 #[.val (.ref a1)] [(.int (0 : Int32))])) _
    refine XS.ifNo X5.here hx rfl (hb hby d3_10) rfl ((if0 _ _).trans (teq ((by decide) : (0 : Int32) = (0 : Int32))).2) ?_
    refine XS.iconst X5.here hx rfl (hb hby d3_13) ?_
    refine XS.goto X5.here hx rfl (pc0 := 14) (pc' := 18) rfl (hb hby d3_14) (by decide) (by decide) ?_
    exact kt
  show own_End p e below s (T5.setTop (mkF m 18 #[.val (.ref a1)] [(.int (1 : Int32))])) (Q3 Z a1 b1 GA h0 n0) ({ frames := 0, cells := 0, slots := 0, locals := 0 } : Room).cells ({ frames := 0, cells := 0, slots := 0, locals := 0 } : Room).slots
  obtain ⟨fs, hr, hrun, hended, hW, hsame⟩ := X5.leave (v := some (.int (1 : Int32))) (fun h => by rw [Bd.returns] at h; cases h)
  refine ⟨_, _, ?_, hrun, hended, _, _, rfl, ?_, ⟨_, rfl⟩, hW, hsame.mono (by decide) (by decide)⟩
  · exact retN X5 hx (t := .boolean) Bd.returns (by simp) (hb hby d3_18) hr
  · show Q3 Z a1 b1 GA h0 n0 _ T5.heap _
    rw [e5]
    exact ⟨rfl, N0, rfl⟩
def own_c2 (p2 : Int32) (g1 : Nat → Int32) (n1 : Int32) : Int32 := ((own_c4 p2 g1 n1).toUInt32.toUInt16.toUInt32.toInt32)
theorem d2_0 : decode jdk_42_method_56_code 0 = .ok (.aload_n 0, 1) := by decide +kernel
theorem d2_1 : decode jdk_42_method_56_code 1 = .ok (.invokevirtual 492, 3) := by decide +kernel
theorem d2_4 : decode jdk_42_method_56_code 4 = .ok (.ifCond .eq 12, 3) := by decide +kernel
theorem d2_7 : decode jdk_42_method_56_code 7 = .ok (.aload_n 0, 1) := by decide +kernel
theorem d2_8 : decode jdk_42_method_56_code 8 = .ok (.getfield 9, 3) := by decide +kernel
theorem d2_11 : decode jdk_42_method_56_code 11 = .ok (.iload_n 1, 1) := by decide +kernel
theorem d2_12 : decode jdk_42_method_56_code 12 = .ok (.invokestatic 495, 3) := by decide +kernel
theorem d2_15 : decode jdk_42_method_56_code 15 = .ok (.ireturn, 1) := by decide +kernel
theorem pn_2 : plainName "java/lang/String" = true := by first | (simp [plainName, overriddenIn]; done) | decide +kernel
theorem pd_2_0 : parseMethodDescriptor "()Z" = some ⟨[], some .boolean⟩ := by decide +kernel
theorem pd_2_1 : parseMethodDescriptor "([BI)C" = some ⟨[(.array .byte), .int], some .char⟩ := by decide +kernel
theorem ef_2 (m : MethodId) (x0 : Addr) (x1 : Int32) : entryFrame m #[(.ref x0), (.int x1)] 2 = mkF m 0 #[.val (.ref x0), .val (.int x1)] [] := by first | (simp [entryFrame, mkF, argsToLocals, Value.category]; done) | rfl
def Q2 (Z : State) (a1 : Addr) (p2 : Int32) (b1 : Addr) (g1 : Nat → Int32) (n1 : Int32) (GA : Int32) (GB : Value) (h0 : Heap) (n0 : Nat) (v : Option Value) (h : Heap) (L : List Loc) : Prop := v = some (.int (own_c2 p2 g1 n1)) ∧ Fr n0 L ∧ h = h0
set_option maxRecDepth 65536 in
set_option maxHeartbeats 40000000 in
theorem rm2 (l : Launch) (Z : State) (a0 : Array Value) (hw : ∀ d ∈ tables_1, d.before a0 Z = true) (ws : List Jvm.Cond) (a1 : Addr) (p2 : Int32) (b1 : Addr) (g1 : Nat → Int32) (n1 : Int32) (GA : Int32) (GB : Value) (h0 : Heap) (n0 : Nat) (Z0 : n0 ≤ h0.size) (O_a1 : own_Str Z h0 a1 b1 (0 : Int32)) (V_b1 : own_Arr Z h0 b1 .byte n1 (fun i => Value.int (g1 i))) (O2 : Sta Z h0 "java/lang/String" "COMPACT_STRINGS" "Z" (.int GA)) (P5 : ¬ (GA = (0 : Int32))) (O4 : Sta Z h0 "jdk/internal/util/Preconditions" "SIOOBE_FORMATTER" "Ljava/util/function/BiFunction;" GB) (rGB : GB.isRef = true) (hi : ¬ p2 < (0 : Int32) ∧ p2 < n1) :
    MetFree l (⟨"java/lang/String", "charAt", "(I)C"⟩ : MethodName) (head1 (Jvm.Cond.code (⟨"java/lang/String", "charAt", "(I)C"⟩ : MethodName) jdk_42_method_56_code 2 (some .char) :: ws) ({ frames := 3, cells := 0, slots := 0, locals := 40 } : Room)) (fun a U => a = #[(.ref a1), (.int p2)] ∧ Z.Warmed39 U.vm ∧ U.heap = h0) (fun _ _ _ _ _ => True) (fun _ U o U' => ∃ v L, o = .returned v ∧ Q2 Z a1 p2 b1 g1 n1 GA GB h0 n0 v U'.heap L ∧ FrameEnd U o U' L ({ frames := 3, cells := 0, slots := 0, locals := 40 } : Room).cells ({ frames := 3, cells := 0, slots := 0, locals := 40 } : Room).slots) := by
  refine MetFree.of_bodySF (plainFor_of_name pn_2) hisR ?_
  intro p e s m args below meth c s₁ Bd hml0 hP hK
  obtain ⟨rfl, hZ, hh⟩ := hP
  have hx := Bd.exec
  have hby := Bd.bytes
  have hml : c.maxLocals = 2 := hml0
  have hown : s.vm.findClass "java/lang/String" = some m.cls := findClass_of_methodNamed Bd.named
  have hnm := (name_of_methodNamed Bd.named Bd.method).1
  have X0 : Stand p l e ({ frames := 3, cells := 0, slots := 0, locals := 40 } : Room) s m #[(.ref a1), (.int p2)] below meth c s₁ [] 0 0 := Stand.of_body Bd
  have e0 : s₁.heap = h0 := by rw [← hh, Bd.state]; rfl
  have N0 := Fr.nil n0
  show own_End p e below s (s₁.setTop (entryFrame m #[(.ref a1), (.int p2)] 2)) (Q2 Z a1 p2 b1 g1 n1 GA GB h0 n0) ({ frames := 3, cells := 0, slots := 0, locals := 40 } : Room).cells ({ frames := 3, cells := 0, slots := 0, locals := 40 } : Room).slots
  obtain ⟨E_a1_1, F_value_a1_2, F_coder_a1_3⟩ := O_a1
  refine own_pre (A := s₁.setTop (mkF m 0 #[.val (.ref a1), .val (.int p2)] [])) (fun tt kt => castTop (ef_2 m a1 p2) kt) ?_
  show own_End p e below s (s₁.setTop (mkF m 0 #[.val (.ref a1), .val (.int p2)] [])) (Q2 Z a1 p2 b1 g1 n1 GA GB h0 n0) ({ frames := 3, cells := 0, slots := 0, locals := 40 } : Room).cells ({ frames := 3, cells := 0, slots := 0, locals := 40 } : Room).slots
  have hj : own_c2 p2 g1 n1 = own_c2 p2 g1 n1 := rfl
  obtain ⟨cq4, kq4, q4a, q4b, q4c⟩ := isOf hZ e0 E_a1_1
  obtain ⟨_, _, ⟨T4, L4, k4, n4⟩, -, X4, ⟨Lc4, hQ4, l4, y4, z4⟩, st4⟩ := X0.virtualBack hx (y := (⟨"java/lang/String", "isLatin1", "()Z"⟩ : MethodName)) (z := (⟨"java/lang/String", "isLatin1", "()Z"⟩ : MethodName)) hown (mvT hZ (hw _ (List.mem_of_getElem? (i := 17) rfl))) (mvT hZ (hw _ (List.mem_of_getElem? (i := 18) rfl))) (notFace_of_selects (args := #[]) (mvT hZ (hw _ (List.mem_of_getElem? (i := 20) rfl)))) (mvT hZ (hw _ (List.mem_of_getElem? (i := 20) rfl))) (mvT hZ (hw _ (List.mem_of_getElem? (i := 19) rfl))) (by decide) (backOf (W := 0) (rm3 l Z a0 hw [] a1 b1 GA h0 n0 Z0 ⟨E_a1_1, F_value_a1_2, F_coder_a1_3⟩ O2 P5) hZ (hw _ (List.mem_of_getElem? (i := 21) rfl)) (hw _ (List.mem_of_getElem? (i := 5) rfl)) (by decide) (by decide)) q4a q4c (g := (mkF m 1 #[.val (.ref a1), .val (.int p2)] [(.ref a1)])) rfl (by rw [hml]; rfl) (Steps.refl _) (argsL := []) (rest := []) (lenOf pd_2_0 rfl) rfl (by show 2 * 0 + _ ≤ _; exact Nat.le_of_eq rfl) (hb hby d2_1) (fun _ _ => ⟨rfl, e0, (by decide : 0 + 0 ≤ _), (by decide : 0 + 0 ≤ _)⟩)
  dsimp only [Pt.U, Pt.locs, Pt.cells, Pt.slots] at X4 l4 y4 z4 st4 hQ4
  subst l4 y4 z4
  obtain ⟨rfl, N4q, e4⟩ := hQ4
  have N4 := Fr.app N0 N4q
  obtain ⟨T5, X5, e5, st5⟩ := getF X4 hx hZ hown (host := "") (Or.inl (hw _ (List.mem_of_getElem? (i := 24) rfl))) Via.refl e4 F_value_a1_2 (g := (mkF m 8 #[.val (.ref a1), .val (.int p2)] [(.ref a1)])) rfl rfl (hb hby d2_8)
  obtain ⟨_, _, ⟨T6, L6, k6, n6⟩, -, X6, ⟨Lc6, hQ6, l6, y6, z6⟩, st6⟩ := Jvm.LawKit.callS X5 hx (y := (⟨"java/lang/StringLatin1", "charAt", "([BI)C"⟩ : MethodName)) hown (mvT hZ (hw _ (List.mem_of_getElem? (i := 25) rfl))) (mvT hZ (hw _ (List.mem_of_getElem? (i := 26) rfl))) (mvT hZ (hw _ (List.mem_of_getElem? (i := 27) rfl))) (mvT hZ (hw _ (List.mem_of_getElem? (i := 28) rfl))) (by decide) (backOf (W := 0) (rm4 l Z a0 hw [] b1 p2 g1 n1 GB h0 n0 Z0 V_b1 O4 rGB hi) hZ (hw _ (List.mem_of_getElem? (i := 28) rfl)) (hw _ (List.mem_of_getElem? (i := 27) rfl)) (by decide) (by decide)) (g := (mkF m 12 #[.val (.ref a1), .val (.int p2)] [(.int p2), (.ref b1)])) rfl (by rw [hml]; rfl) (argsL := [(.ref b1), (.int p2)]) (rest := []) (lenOf pd_2_1 rfl) rfl (by show 2 * 0 + _ ≤ _; exact Nat.le_of_eq rfl) (hb hby d2_12) (fun _ _ => ⟨rfl, e5, (by decide : 0 + 0 ≤ _), (by decide : 0 + 0 ≤ _)⟩)
  dsimp only [Pt.U, Pt.locs, Pt.cells, Pt.slots] at X6 l6 y6 z6 st6 hQ6
  subst l6 y6 z6
  obtain ⟨rfl, N6q, e6⟩ := hQ6
  have N6 := Fr.app N4 N6q
  refine own_pre (A := T6.setTop (mkF m 15 #[.val (.ref a1), .val (.int p2)] [(.int (own_c4 p2 g1 n1))])) (fun tt kt => ?_) ?_
  · show Steps p.tables e below (s₁.setTop (mkF m 0 #[.val (.ref a1), .val (.int p2)] [])) _
    refine XS.aloadN X0.here hx rfl (hb hby d2_0) rfl rfl ?_
    show Steps p.tables e below (s₁.setTop (mkF m 1 #[.val (.ref a1), .val (.int p2)] [(.ref a1)])) _
    refine st4.trans ?_
    show Steps p.tables e below (T4.setTop (mkF m 4 #[.val (.ref a1), .val (.int p2)] [(.int (1 : Int32))])) _
    refine XS.ifNo X4.here hx rfl (hb hby d2_4) rfl ((if0 _ _).trans (feq ((by decide) : ¬ ((1 : Int32) = (0 : Int32)))).1) ?_
    refine XS.aloadN X4.here hx rfl (hb hby d2_7) rfl rfl ?_
    show Steps p.tables e below (T4.setTop (mkF m 8 #[.val (.ref a1), .val (.int p2)] [(.ref a1)])) _
    refine st5 _ ?_
    show Steps p.tables e below (T5.setTop (mkF m 11 #[.val (.ref a1), .val (.int p2)] [(.ref b1)])) _
    refine XS.iloadN X5.here hx rfl (hb hby d2_11) rfl ?_
    show Steps p.tables e below (T5.setTop (mkF m 12 #[.val (.ref a1), .val (.int p2)] [(.int p2), (.ref b1)])) _
    refine st6 _ ?_
    exact kt
  show own_End p e below s (T6.setTop (mkF m 15 #[.val (.ref a1), .val (.int p2)] [(.int (own_c4 p2 g1 n1))])) (Q2 Z a1 p2 b1 g1 n1 GA GB h0 n0) ({ frames := 3, cells := 0, slots := 0, locals := 40 } : Room).cells ({ frames := 3, cells := 0, slots := 0, locals := 40 } : Room).slots
  have hv : (own_c2 p2 g1 n1) = ((own_c4 p2 g1 n1).toUInt32.toUInt16.toUInt32.toInt32) := hj.trans (by simp only [own_c2])
  obtain ⟨fs, hr, hrun, hended, hW, hsame⟩ := X6.leave (v := some (.int ((own_c4 p2 g1 n1).toUInt32.toUInt16.toUInt32.toInt32))) (fun h => by rw [Bd.returns] at h; cases h)
  refine ⟨_, _, ?_, hrun, hended, _, _, rfl, ?_, ⟨_, rfl⟩, hW, hsame.mono (by decide) (by decide)⟩
  · exact retN X6 hx (t := .char) Bd.returns (by simp) (hb hby d2_15) hr
  · show Q2 Z a1 p2 b1 g1 n1 GA GB h0 n0 _ T6.heap _
    rw [e6]
    exact ⟨(congrArg (fun z => some (Value.int z)) hv.symm), N6, rfl⟩
def own_hex (p1 : Int32) : Int32 := (if p1 < (48 : Int32) then (if p1 < (97 : Int32) then (if p1 < (65 : Int32) then (-1 : Int32) else (if (70 : Int32) < p1 then (-1 : Int32) else ((p1 - (65 : Int32)) + (10 : Int32)))) else (if (102 : Int32) < p1 then (if p1 < (65 : Int32) then (-1 : Int32) else (if (70 : Int32) < p1 then (-1 : Int32) else ((p1 - (65 : Int32)) + (10 : Int32)))) else ((p1 - (97 : Int32)) + (10 : Int32)))) else (if (57 : Int32) < p1 then (if p1 < (97 : Int32) then (if p1 < (65 : Int32) then (-1 : Int32) else (if (70 : Int32) < p1 then (-1 : Int32) else ((p1 - (65 : Int32)) + (10 : Int32)))) else (if (102 : Int32) < p1 then (if p1 < (65 : Int32) then (-1 : Int32) else (if (70 : Int32) < p1 then (-1 : Int32) else ((p1 - (65 : Int32)) + (10 : Int32)))) else ((p1 - (97 : Int32)) + (10 : Int32)))) else (p1 - (48 : Int32))))
theorem d1_0 : decode prog_40_method_10_code 0 = .ok (.iload_n 0, 1) := by decide +kernel
theorem d1_1 : decode prog_40_method_10_code 1 = .ok (.bipush 48, 2) := by decide +kernel
theorem d1_3 : decode prog_40_method_10_code 3 = .ok (.if_icmp .lt 17, 3) := by decide +kernel
theorem d1_6 : decode prog_40_method_10_code 6 = .ok (.iload_n 0, 1) := by decide +kernel
theorem d1_7 : decode prog_40_method_10_code 7 = .ok (.bipush 57, 2) := by decide +kernel
theorem d1_9 : decode prog_40_method_10_code 9 = .ok (.if_icmp .gt 11, 3) := by decide +kernel
theorem d1_12 : decode prog_40_method_10_code 12 = .ok (.iload_n 0, 1) := by decide +kernel
theorem d1_13 : decode prog_40_method_10_code 13 = .ok (.bipush 48, 2) := by decide +kernel
theorem d1_15 : decode prog_40_method_10_code 15 = .ok (.isub, 1) := by decide +kernel
theorem d1_16 : decode prog_40_method_10_code 16 = .ok (.istore_n 1, 1) := by decide +kernel
theorem d1_17 : decode prog_40_method_10_code 17 = .ok (.goto 51, 3) := by decide +kernel
theorem d1_20 : decode prog_40_method_10_code 20 = .ok (.iload_n 0, 1) := by decide +kernel
theorem d1_21 : decode prog_40_method_10_code 21 = .ok (.bipush 97, 2) := by decide +kernel
theorem d1_23 : decode prog_40_method_10_code 23 = .ok (.if_icmp .lt 20, 3) := by decide +kernel
theorem d1_26 : decode prog_40_method_10_code 26 = .ok (.iload_n 0, 1) := by decide +kernel
theorem d1_27 : decode prog_40_method_10_code 27 = .ok (.bipush 102, 2) := by decide +kernel
theorem d1_29 : decode prog_40_method_10_code 29 = .ok (.if_icmp .gt 14, 3) := by decide +kernel
theorem d1_32 : decode prog_40_method_10_code 32 = .ok (.iload_n 0, 1) := by decide +kernel
theorem d1_33 : decode prog_40_method_10_code 33 = .ok (.bipush 97, 2) := by decide +kernel
theorem d1_35 : decode prog_40_method_10_code 35 = .ok (.isub, 1) := by decide +kernel
theorem d1_36 : decode prog_40_method_10_code 36 = .ok (.bipush 10, 2) := by decide +kernel
theorem d1_38 : decode prog_40_method_10_code 38 = .ok (.iadd, 1) := by decide +kernel
theorem d1_39 : decode prog_40_method_10_code 39 = .ok (.istore_n 1, 1) := by decide +kernel
theorem d1_40 : decode prog_40_method_10_code 40 = .ok (.goto 28, 3) := by decide +kernel
theorem d1_43 : decode prog_40_method_10_code 43 = .ok (.iload_n 0, 1) := by decide +kernel
theorem d1_44 : decode prog_40_method_10_code 44 = .ok (.bipush 65, 2) := by decide +kernel
theorem d1_46 : decode prog_40_method_10_code 46 = .ok (.if_icmp .lt 20, 3) := by decide +kernel
theorem d1_49 : decode prog_40_method_10_code 49 = .ok (.iload_n 0, 1) := by decide +kernel
theorem d1_50 : decode prog_40_method_10_code 50 = .ok (.bipush 70, 2) := by decide +kernel
theorem d1_52 : decode prog_40_method_10_code 52 = .ok (.if_icmp .gt 14, 3) := by decide +kernel
theorem d1_55 : decode prog_40_method_10_code 55 = .ok (.iload_n 0, 1) := by decide +kernel
theorem d1_56 : decode prog_40_method_10_code 56 = .ok (.bipush 65, 2) := by decide +kernel
theorem d1_58 : decode prog_40_method_10_code 58 = .ok (.isub, 1) := by decide +kernel
theorem d1_59 : decode prog_40_method_10_code 59 = .ok (.bipush 10, 2) := by decide +kernel
theorem d1_61 : decode prog_40_method_10_code 61 = .ok (.iadd, 1) := by decide +kernel
theorem d1_62 : decode prog_40_method_10_code 62 = .ok (.istore_n 1, 1) := by decide +kernel
theorem d1_63 : decode prog_40_method_10_code 63 = .ok (.goto 5, 3) := by decide +kernel
theorem d1_66 : decode prog_40_method_10_code 66 = .ok (.iconst (-1), 1) := by decide +kernel
theorem d1_67 : decode prog_40_method_10_code 67 = .ok (.istore_n 1, 1) := by decide +kernel
theorem d1_68 : decode prog_40_method_10_code 68 = .ok (.iload_n 1, 1) := by decide +kernel
theorem d1_69 : decode prog_40_method_10_code 69 = .ok (.ireturn, 1) := by decide +kernel
theorem pn_1 : plainName "com/example/door3/door3/uri/PercentEncoding" = true := by first | (simp [plainName, overriddenIn]; done) | decide +kernel
theorem ef_1 (m : MethodId) (x0 : Int32) : entryFrame m #[(.int x0)] 2 = mkF m 0 #[.val (.int x0), .unset] [] := by first | (simp [entryFrame, mkF, argsToLocals, Value.category]; done) | rfl
def Q1 (Z : State) (p1 : Int32) (h0 : Heap) (n0 : Nat) (v : Option Value) (h : Heap) (L : List Loc) : Prop := v = some (.int (own_hex p1)) ∧ Fr n0 L ∧ h = h0
set_option maxRecDepth 65536 in
set_option maxHeartbeats 40000000 in
theorem rm1 (l : Launch) (Z : State) (a0 : Array Value) (hw : ∀ d ∈ tables_1, d.before a0 Z = true) (ws : List Jvm.Cond) (p1 : Int32) (h0 : Heap) (n0 : Nat) (Z0 : n0 ≤ h0.size) :
    MetFree l (⟨"com/example/door3/door3/uri/PercentEncoding", "hexDigit", "(C)I"⟩ : MethodName) (head1 (Jvm.Cond.code (⟨"com/example/door3/door3/uri/PercentEncoding", "hexDigit", "(C)I"⟩ : MethodName) prog_40_method_10_code 2 (some .int) :: ws) ({ frames := 0, cells := 0, slots := 0, locals := 0 } : Room)) (fun a U => a = #[(.int p1)] ∧ Z.Warmed39 U.vm ∧ U.heap = h0) (fun _ _ _ _ _ => True) (fun _ U o U' => ∃ v L, o = .returned v ∧ Q1 Z p1 h0 n0 v U'.heap L ∧ FrameEnd U o U' L ({ frames := 0, cells := 0, slots := 0, locals := 0 } : Room).cells ({ frames := 0, cells := 0, slots := 0, locals := 0 } : Room).slots) := by
  refine MetFree.of_bodySF (plainFor_of_name pn_1) hisR ?_
  intro p e s m args below meth c s₁ Bd hml0 hP hK
  obtain ⟨rfl, hZ, hh⟩ := hP
  have hx := Bd.exec
  have hby := Bd.bytes
  have hml : c.maxLocals = 2 := hml0
  have hown : s.vm.findClass "com/example/door3/door3/uri/PercentEncoding" = some m.cls := findClass_of_methodNamed Bd.named
  have hnm := (name_of_methodNamed Bd.named Bd.method).1
  have X0 : Stand p l e ({ frames := 0, cells := 0, slots := 0, locals := 0 } : Room) s m #[(.int p1)] below meth c s₁ [] 0 0 := Stand.of_body Bd
  have e0 : s₁.heap = h0 := by rw [← hh, Bd.state]; rfl
  have N0 := Fr.nil n0
  show own_End p e below s (s₁.setTop (entryFrame m #[(.int p1)] 2)) (Q1 Z p1 h0 n0) ({ frames := 0, cells := 0, slots := 0, locals := 0 } : Room).cells ({ frames := 0, cells := 0, slots := 0, locals := 0 } : Room).slots
  refine own_pre (A := s₁.setTop (mkF m 0 #[.val (.int p1), .unset] [])) (fun tt kt => castTop (ef_1 m p1) kt) ?_
  show own_End p e below s (s₁.setTop (mkF m 0 #[.val (.int p1), .unset] [])) (Q1 Z p1 h0 n0) ({ frames := 0, cells := 0, slots := 0, locals := 0 } : Room).cells ({ frames := 0, cells := 0, slots := 0, locals := 0 } : Room).slots
  have hj : own_hex p1 = own_hex p1 := rfl
  refine own_pre (A := s₁.setTop (mkF m 3 #[.val (.int p1), .unset] [(.int (48 : Int32)), (.int p1)])) (fun tt kt => ?_) ?_
  · show Steps p.tables e below (s₁.setTop (mkF m 0 #[.val (.int p1), .unset] [])) _
    refine XS.iloadN X0.here hx rfl (hb hby d1_0) rfl ?_
    refine XS.bipush X0.here hx rfl (hb hby d1_1) ?_
    exact kt
  show own_End p e below s (s₁.setTop (mkF m 3 #[.val (.int p1), .unset] [(.int (48 : Int32)), (.int p1)])) (Q1 Z p1 h0 n0) ({ frames := 0, cells := 0, slots := 0, locals := 0 } : Room).cells ({ frames := 0, cells := 0, slots := 0, locals := 0 } : Room).slots
  by_cases hc3_1 : p1 < (48 : Int32)
  · refine own_pre (A := s₁.setTop (mkF m 23 #[.val (.int p1), .unset] [(.int (97 : Int32)), (.int p1)])) (fun tt kt => ?_) ?_
    · show Steps p.tables e below (s₁.setTop (mkF m 3 #[.val (.int p1), .unset] [(.int (48 : Int32)), (.int p1)])) _
      refine XS.icmpYes X0.here hx rfl (pc0 := 3) (pc' := 20) rfl (hb hby d1_3) rfl (tlt hc3_1).1 (by decide) (by decide) ?_
      refine XS.iloadN X0.here hx rfl (hb hby d1_20) rfl ?_
      refine XS.bipush X0.here hx rfl (hb hby d1_21) ?_
      exact kt
    show own_End p e below s (s₁.setTop (mkF m 23 #[.val (.int p1), .unset] [(.int (97 : Int32)), (.int p1)])) (Q1 Z p1 h0 n0) ({ frames := 0, cells := 0, slots := 0, locals := 0 } : Room).cells ({ frames := 0, cells := 0, slots := 0, locals := 0 } : Room).slots
    by_cases hc23_2 : p1 < (97 : Int32)
    · refine own_pre (A := s₁.setTop (mkF m 46 #[.val (.int p1), .unset] [(.int (65 : Int32)), (.int p1)])) (fun tt kt => ?_) ?_
      · show Steps p.tables e below (s₁.setTop (mkF m 23 #[.val (.int p1), .unset] [(.int (97 : Int32)), (.int p1)])) _
        refine XS.icmpYes X0.here hx rfl (pc0 := 23) (pc' := 43) rfl (hb hby d1_23) rfl (tlt hc23_2).1 (by decide) (by decide) ?_
        refine XS.iloadN X0.here hx rfl (hb hby d1_43) rfl ?_
        refine XS.bipush X0.here hx rfl (hb hby d1_44) ?_
        exact kt
      show own_End p e below s (s₁.setTop (mkF m 46 #[.val (.int p1), .unset] [(.int (65 : Int32)), (.int p1)])) (Q1 Z p1 h0 n0) ({ frames := 0, cells := 0, slots := 0, locals := 0 } : Room).cells ({ frames := 0, cells := 0, slots := 0, locals := 0 } : Room).slots
      by_cases hc46_3 : p1 < (65 : Int32)
      · refine own_pre (A := s₁.setTop (mkF m 69 #[.val (.int p1), .val (.int (-1 : Int32))] [(.int (-1 : Int32))])) (fun tt kt => ?_) ?_
        · show Steps p.tables e below (s₁.setTop (mkF m 46 #[.val (.int p1), .unset] [(.int (65 : Int32)), (.int p1)])) _
          refine XS.icmpYes X0.here hx rfl (pc0 := 46) (pc' := 66) rfl (hb hby d1_46) rfl (tlt hc46_3).1 (by decide) (by decide) ?_
          refine XS.iconst X0.here hx rfl (hb hby d1_66) ?_
          refine XS.istoreN X0.here hx rfl (hb hby d1_67) rfl (l' := #[.val (.int p1), .val (.int (-1 : Int32))]) rfl ?_
          refine XS.iloadN X0.here hx rfl (hb hby d1_68) rfl ?_
          exact kt
        show own_End p e below s (s₁.setTop (mkF m 69 #[.val (.int p1), .val (.int (-1 : Int32))] [(.int (-1 : Int32))])) (Q1 Z p1 h0 n0) ({ frames := 0, cells := 0, slots := 0, locals := 0 } : Room).cells ({ frames := 0, cells := 0, slots := 0, locals := 0 } : Room).slots
        have hv : (own_hex p1) = (-1 : Int32) := hj.trans (by simp only [own_hex, if_pos hc3_1, if_pos hc23_2, if_pos hc46_3])
        obtain ⟨fs, hr, hrun, hended, hW, hsame⟩ := X0.leave (v := some (.int (-1 : Int32))) (fun h => by rw [Bd.returns] at h; cases h)
        refine ⟨_, _, ?_, hrun, hended, _, _, rfl, ?_, ⟨_, rfl⟩, hW, hsame.mono (by decide) (by decide)⟩
        · exact retI X0 hx Bd.returns (hb hby d1_69) hr
        · show Q1 Z p1 h0 n0 _ s₁.heap _
          rw [e0]
          exact ⟨(congrArg (fun z => some (Value.int z)) hv.symm), N0, rfl⟩
      · refine own_pre (A := s₁.setTop (mkF m 52 #[.val (.int p1), .unset] [(.int (70 : Int32)), (.int p1)])) (fun tt kt => ?_) ?_
        · show Steps p.tables e below (s₁.setTop (mkF m 46 #[.val (.int p1), .unset] [(.int (65 : Int32)), (.int p1)])) _
          refine XS.icmpNo X0.here hx rfl (hb hby d1_46) rfl (flt hc46_3).1 ?_
          refine XS.iloadN X0.here hx rfl (hb hby d1_49) rfl ?_
          refine XS.bipush X0.here hx rfl (hb hby d1_50) ?_
          exact kt
        show own_End p e below s (s₁.setTop (mkF m 52 #[.val (.int p1), .unset] [(.int (70 : Int32)), (.int p1)])) (Q1 Z p1 h0 n0) ({ frames := 0, cells := 0, slots := 0, locals := 0 } : Room).cells ({ frames := 0, cells := 0, slots := 0, locals := 0 } : Room).slots
        by_cases hc52_4 : (70 : Int32) < p1
        · refine own_pre (A := s₁.setTop (mkF m 69 #[.val (.int p1), .val (.int (-1 : Int32))] [(.int (-1 : Int32))])) (fun tt kt => ?_) ?_
          · show Steps p.tables e below (s₁.setTop (mkF m 52 #[.val (.int p1), .unset] [(.int (70 : Int32)), (.int p1)])) _
            refine XS.icmpYes X0.here hx rfl (pc0 := 52) (pc' := 66) rfl (hb hby d1_52) rfl (tlt hc52_4).2.2.1 (by decide) (by decide) ?_
            refine XS.iconst X0.here hx rfl (hb hby d1_66) ?_
            refine XS.istoreN X0.here hx rfl (hb hby d1_67) rfl (l' := #[.val (.int p1), .val (.int (-1 : Int32))]) rfl ?_
            refine XS.iloadN X0.here hx rfl (hb hby d1_68) rfl ?_
            exact kt
          show own_End p e below s (s₁.setTop (mkF m 69 #[.val (.int p1), .val (.int (-1 : Int32))] [(.int (-1 : Int32))])) (Q1 Z p1 h0 n0) ({ frames := 0, cells := 0, slots := 0, locals := 0 } : Room).cells ({ frames := 0, cells := 0, slots := 0, locals := 0 } : Room).slots
          have hv : (own_hex p1) = (-1 : Int32) := hj.trans (by simp only [own_hex, if_pos hc3_1, if_pos hc23_2, if_neg hc46_3, if_pos hc52_4])
          obtain ⟨fs, hr, hrun, hended, hW, hsame⟩ := X0.leave (v := some (.int (-1 : Int32))) (fun h => by rw [Bd.returns] at h; cases h)
          refine ⟨_, _, ?_, hrun, hended, _, _, rfl, ?_, ⟨_, rfl⟩, hW, hsame.mono (by decide) (by decide)⟩
          · exact retI X0 hx Bd.returns (hb hby d1_69) hr
          · show Q1 Z p1 h0 n0 _ s₁.heap _
            rw [e0]
            exact ⟨(congrArg (fun z => some (Value.int z)) hv.symm), N0, rfl⟩
        · refine own_pre (A := s₁.setTop (mkF m 69 #[.val (.int p1), .val (.int ((p1 - (65 : Int32)) + (10 : Int32)))] [(.int ((p1 - (65 : Int32)) + (10 : Int32)))])) (fun tt kt => ?_) ?_
          · show Steps p.tables e below (s₁.setTop (mkF m 52 #[.val (.int p1), .unset] [(.int (70 : Int32)), (.int p1)])) _
            refine XS.icmpNo X0.here hx rfl (hb hby d1_52) rfl (flt hc52_4).2.2.1 ?_
            refine XS.iloadN X0.here hx rfl (hb hby d1_55) rfl ?_
            refine XS.bipush X0.here hx rfl (hb hby d1_56) ?_
            refine XS.isub X0.here hx rfl (hb hby d1_58) rfl ?_
            show Steps p.tables e below (s₁.setTop (mkF m 59 #[.val (.int p1), .unset] [(.int (p1 - (65 : Int32)))])) _
            refine XS.bipush X0.here hx rfl (hb hby d1_59) ?_
            refine XS.iadd X0.here hx rfl (hb hby d1_61) rfl ?_
            refine XS.istoreN X0.here hx rfl (hb hby d1_62) rfl (l' := #[.val (.int p1), .val (.int ((p1 - (65 : Int32)) + (10 : Int32)))]) rfl ?_
            refine XS.goto X0.here hx rfl (pc0 := 63) (pc' := 68) rfl (hb hby d1_63) (by decide) (by decide) ?_
            show Steps p.tables e below (s₁.setTop (mkF m 68 #[.val (.int p1), .val (.int ((p1 - (65 : Int32)) + (10 : Int32)))] [])) _
            refine XS.iloadN X0.here hx rfl (hb hby d1_68) rfl ?_
            exact kt
          show own_End p e below s (s₁.setTop (mkF m 69 #[.val (.int p1), .val (.int ((p1 - (65 : Int32)) + (10 : Int32)))] [(.int ((p1 - (65 : Int32)) + (10 : Int32)))])) (Q1 Z p1 h0 n0) ({ frames := 0, cells := 0, slots := 0, locals := 0 } : Room).cells ({ frames := 0, cells := 0, slots := 0, locals := 0 } : Room).slots
          have hv : (own_hex p1) = ((p1 - (65 : Int32)) + (10 : Int32)) := hj.trans (by simp only [own_hex, if_pos hc3_1, if_pos hc23_2, if_neg hc46_3, if_neg hc52_4])
          obtain ⟨fs, hr, hrun, hended, hW, hsame⟩ := X0.leave (v := some (.int ((p1 - (65 : Int32)) + (10 : Int32)))) (fun h => by rw [Bd.returns] at h; cases h)
          refine ⟨_, _, ?_, hrun, hended, _, _, rfl, ?_, ⟨_, rfl⟩, hW, hsame.mono (by decide) (by decide)⟩
          · exact retI X0 hx Bd.returns (hb hby d1_69) hr
          · show Q1 Z p1 h0 n0 _ s₁.heap _
            rw [e0]
            exact ⟨(congrArg (fun z => some (Value.int z)) hv.symm), N0, rfl⟩
    · refine own_pre (A := s₁.setTop (mkF m 29 #[.val (.int p1), .unset] [(.int (102 : Int32)), (.int p1)])) (fun tt kt => ?_) ?_
      · show Steps p.tables e below (s₁.setTop (mkF m 23 #[.val (.int p1), .unset] [(.int (97 : Int32)), (.int p1)])) _
        refine XS.icmpNo X0.here hx rfl (hb hby d1_23) rfl (flt hc23_2).1 ?_
        refine XS.iloadN X0.here hx rfl (hb hby d1_26) rfl ?_
        refine XS.bipush X0.here hx rfl (hb hby d1_27) ?_
        exact kt
      show own_End p e below s (s₁.setTop (mkF m 29 #[.val (.int p1), .unset] [(.int (102 : Int32)), (.int p1)])) (Q1 Z p1 h0 n0) ({ frames := 0, cells := 0, slots := 0, locals := 0 } : Room).cells ({ frames := 0, cells := 0, slots := 0, locals := 0 } : Room).slots
      by_cases hc29_5 : (102 : Int32) < p1
      · refine own_pre (A := s₁.setTop (mkF m 46 #[.val (.int p1), .unset] [(.int (65 : Int32)), (.int p1)])) (fun tt kt => ?_) ?_
        · show Steps p.tables e below (s₁.setTop (mkF m 29 #[.val (.int p1), .unset] [(.int (102 : Int32)), (.int p1)])) _
          refine XS.icmpYes X0.here hx rfl (pc0 := 29) (pc' := 43) rfl (hb hby d1_29) rfl (tlt hc29_5).2.2.1 (by decide) (by decide) ?_
          refine XS.iloadN X0.here hx rfl (hb hby d1_43) rfl ?_
          refine XS.bipush X0.here hx rfl (hb hby d1_44) ?_
          exact kt
        show own_End p e below s (s₁.setTop (mkF m 46 #[.val (.int p1), .unset] [(.int (65 : Int32)), (.int p1)])) (Q1 Z p1 h0 n0) ({ frames := 0, cells := 0, slots := 0, locals := 0 } : Room).cells ({ frames := 0, cells := 0, slots := 0, locals := 0 } : Room).slots
        by_cases hc46_6 : p1 < (65 : Int32)
        · refine own_pre (A := s₁.setTop (mkF m 69 #[.val (.int p1), .val (.int (-1 : Int32))] [(.int (-1 : Int32))])) (fun tt kt => ?_) ?_
          · show Steps p.tables e below (s₁.setTop (mkF m 46 #[.val (.int p1), .unset] [(.int (65 : Int32)), (.int p1)])) _
            refine XS.icmpYes X0.here hx rfl (pc0 := 46) (pc' := 66) rfl (hb hby d1_46) rfl (tlt hc46_6).1 (by decide) (by decide) ?_
            refine XS.iconst X0.here hx rfl (hb hby d1_66) ?_
            refine XS.istoreN X0.here hx rfl (hb hby d1_67) rfl (l' := #[.val (.int p1), .val (.int (-1 : Int32))]) rfl ?_
            refine XS.iloadN X0.here hx rfl (hb hby d1_68) rfl ?_
            exact kt
          show own_End p e below s (s₁.setTop (mkF m 69 #[.val (.int p1), .val (.int (-1 : Int32))] [(.int (-1 : Int32))])) (Q1 Z p1 h0 n0) ({ frames := 0, cells := 0, slots := 0, locals := 0 } : Room).cells ({ frames := 0, cells := 0, slots := 0, locals := 0 } : Room).slots
          have hv : (own_hex p1) = (-1 : Int32) := hj.trans (by simp only [own_hex, if_pos hc3_1, if_neg hc23_2, if_pos hc29_5, if_pos hc46_6])
          obtain ⟨fs, hr, hrun, hended, hW, hsame⟩ := X0.leave (v := some (.int (-1 : Int32))) (fun h => by rw [Bd.returns] at h; cases h)
          refine ⟨_, _, ?_, hrun, hended, _, _, rfl, ?_, ⟨_, rfl⟩, hW, hsame.mono (by decide) (by decide)⟩
          · exact retI X0 hx Bd.returns (hb hby d1_69) hr
          · show Q1 Z p1 h0 n0 _ s₁.heap _
            rw [e0]
            exact ⟨(congrArg (fun z => some (Value.int z)) hv.symm), N0, rfl⟩
        · refine own_pre (A := s₁.setTop (mkF m 52 #[.val (.int p1), .unset] [(.int (70 : Int32)), (.int p1)])) (fun tt kt => ?_) ?_
          · show Steps p.tables e below (s₁.setTop (mkF m 46 #[.val (.int p1), .unset] [(.int (65 : Int32)), (.int p1)])) _
            refine XS.icmpNo X0.here hx rfl (hb hby d1_46) rfl (flt hc46_6).1 ?_
            refine XS.iloadN X0.here hx rfl (hb hby d1_49) rfl ?_
            refine XS.bipush X0.here hx rfl (hb hby d1_50) ?_
            exact kt
          show own_End p e below s (s₁.setTop (mkF m 52 #[.val (.int p1), .unset] [(.int (70 : Int32)), (.int p1)])) (Q1 Z p1 h0 n0) ({ frames := 0, cells := 0, slots := 0, locals := 0 } : Room).cells ({ frames := 0, cells := 0, slots := 0, locals := 0 } : Room).slots
          by_cases hc52_7 : (70 : Int32) < p1
          · refine own_pre (A := s₁.setTop (mkF m 69 #[.val (.int p1), .val (.int (-1 : Int32))] [(.int (-1 : Int32))])) (fun tt kt => ?_) ?_
            · show Steps p.tables e below (s₁.setTop (mkF m 52 #[.val (.int p1), .unset] [(.int (70 : Int32)), (.int p1)])) _
              refine XS.icmpYes X0.here hx rfl (pc0 := 52) (pc' := 66) rfl (hb hby d1_52) rfl (tlt hc52_7).2.2.1 (by decide) (by decide) ?_
              refine XS.iconst X0.here hx rfl (hb hby d1_66) ?_
              refine XS.istoreN X0.here hx rfl (hb hby d1_67) rfl (l' := #[.val (.int p1), .val (.int (-1 : Int32))]) rfl ?_
              refine XS.iloadN X0.here hx rfl (hb hby d1_68) rfl ?_
              exact kt
            show own_End p e below s (s₁.setTop (mkF m 69 #[.val (.int p1), .val (.int (-1 : Int32))] [(.int (-1 : Int32))])) (Q1 Z p1 h0 n0) ({ frames := 0, cells := 0, slots := 0, locals := 0 } : Room).cells ({ frames := 0, cells := 0, slots := 0, locals := 0 } : Room).slots
            have hv : (own_hex p1) = (-1 : Int32) := hj.trans (by simp only [own_hex, if_pos hc3_1, if_neg hc23_2, if_pos hc29_5, if_neg hc46_6, if_pos hc52_7])
            obtain ⟨fs, hr, hrun, hended, hW, hsame⟩ := X0.leave (v := some (.int (-1 : Int32))) (fun h => by rw [Bd.returns] at h; cases h)
            refine ⟨_, _, ?_, hrun, hended, _, _, rfl, ?_, ⟨_, rfl⟩, hW, hsame.mono (by decide) (by decide)⟩
            · exact retI X0 hx Bd.returns (hb hby d1_69) hr
            · show Q1 Z p1 h0 n0 _ s₁.heap _
              rw [e0]
              exact ⟨(congrArg (fun z => some (Value.int z)) hv.symm), N0, rfl⟩
          · refine own_pre (A := s₁.setTop (mkF m 69 #[.val (.int p1), .val (.int ((p1 - (65 : Int32)) + (10 : Int32)))] [(.int ((p1 - (65 : Int32)) + (10 : Int32)))])) (fun tt kt => ?_) ?_
            · show Steps p.tables e below (s₁.setTop (mkF m 52 #[.val (.int p1), .unset] [(.int (70 : Int32)), (.int p1)])) _
              refine XS.icmpNo X0.here hx rfl (hb hby d1_52) rfl (flt hc52_7).2.2.1 ?_
              refine XS.iloadN X0.here hx rfl (hb hby d1_55) rfl ?_
              refine XS.bipush X0.here hx rfl (hb hby d1_56) ?_
              refine XS.isub X0.here hx rfl (hb hby d1_58) rfl ?_
              show Steps p.tables e below (s₁.setTop (mkF m 59 #[.val (.int p1), .unset] [(.int (p1 - (65 : Int32)))])) _
              refine XS.bipush X0.here hx rfl (hb hby d1_59) ?_
              refine XS.iadd X0.here hx rfl (hb hby d1_61) rfl ?_
              refine XS.istoreN X0.here hx rfl (hb hby d1_62) rfl (l' := #[.val (.int p1), .val (.int ((p1 - (65 : Int32)) + (10 : Int32)))]) rfl ?_
              refine XS.goto X0.here hx rfl (pc0 := 63) (pc' := 68) rfl (hb hby d1_63) (by decide) (by decide) ?_
              show Steps p.tables e below (s₁.setTop (mkF m 68 #[.val (.int p1), .val (.int ((p1 - (65 : Int32)) + (10 : Int32)))] [])) _
              refine XS.iloadN X0.here hx rfl (hb hby d1_68) rfl ?_
              exact kt
            show own_End p e below s (s₁.setTop (mkF m 69 #[.val (.int p1), .val (.int ((p1 - (65 : Int32)) + (10 : Int32)))] [(.int ((p1 - (65 : Int32)) + (10 : Int32)))])) (Q1 Z p1 h0 n0) ({ frames := 0, cells := 0, slots := 0, locals := 0 } : Room).cells ({ frames := 0, cells := 0, slots := 0, locals := 0 } : Room).slots
            have hv : (own_hex p1) = ((p1 - (65 : Int32)) + (10 : Int32)) := hj.trans (by simp only [own_hex, if_pos hc3_1, if_neg hc23_2, if_pos hc29_5, if_neg hc46_6, if_neg hc52_7])
            obtain ⟨fs, hr, hrun, hended, hW, hsame⟩ := X0.leave (v := some (.int ((p1 - (65 : Int32)) + (10 : Int32)))) (fun h => by rw [Bd.returns] at h; cases h)
            refine ⟨_, _, ?_, hrun, hended, _, _, rfl, ?_, ⟨_, rfl⟩, hW, hsame.mono (by decide) (by decide)⟩
            · exact retI X0 hx Bd.returns (hb hby d1_69) hr
            · show Q1 Z p1 h0 n0 _ s₁.heap _
              rw [e0]
              exact ⟨(congrArg (fun z => some (Value.int z)) hv.symm), N0, rfl⟩
      · refine own_pre (A := s₁.setTop (mkF m 69 #[.val (.int p1), .val (.int ((p1 - (97 : Int32)) + (10 : Int32)))] [(.int ((p1 - (97 : Int32)) + (10 : Int32)))])) (fun tt kt => ?_) ?_
        · show Steps p.tables e below (s₁.setTop (mkF m 29 #[.val (.int p1), .unset] [(.int (102 : Int32)), (.int p1)])) _
          refine XS.icmpNo X0.here hx rfl (hb hby d1_29) rfl (flt hc29_5).2.2.1 ?_
          refine XS.iloadN X0.here hx rfl (hb hby d1_32) rfl ?_
          refine XS.bipush X0.here hx rfl (hb hby d1_33) ?_
          refine XS.isub X0.here hx rfl (hb hby d1_35) rfl ?_
          show Steps p.tables e below (s₁.setTop (mkF m 36 #[.val (.int p1), .unset] [(.int (p1 - (97 : Int32)))])) _
          refine XS.bipush X0.here hx rfl (hb hby d1_36) ?_
          refine XS.iadd X0.here hx rfl (hb hby d1_38) rfl ?_
          refine XS.istoreN X0.here hx rfl (hb hby d1_39) rfl (l' := #[.val (.int p1), .val (.int ((p1 - (97 : Int32)) + (10 : Int32)))]) rfl ?_
          refine XS.goto X0.here hx rfl (pc0 := 40) (pc' := 68) rfl (hb hby d1_40) (by decide) (by decide) ?_
          show Steps p.tables e below (s₁.setTop (mkF m 68 #[.val (.int p1), .val (.int ((p1 - (97 : Int32)) + (10 : Int32)))] [])) _
          refine XS.iloadN X0.here hx rfl (hb hby d1_68) rfl ?_
          exact kt
        show own_End p e below s (s₁.setTop (mkF m 69 #[.val (.int p1), .val (.int ((p1 - (97 : Int32)) + (10 : Int32)))] [(.int ((p1 - (97 : Int32)) + (10 : Int32)))])) (Q1 Z p1 h0 n0) ({ frames := 0, cells := 0, slots := 0, locals := 0 } : Room).cells ({ frames := 0, cells := 0, slots := 0, locals := 0 } : Room).slots
        have hv : (own_hex p1) = ((p1 - (97 : Int32)) + (10 : Int32)) := hj.trans (by simp only [own_hex, if_pos hc3_1, if_neg hc23_2, if_neg hc29_5])
        obtain ⟨fs, hr, hrun, hended, hW, hsame⟩ := X0.leave (v := some (.int ((p1 - (97 : Int32)) + (10 : Int32)))) (fun h => by rw [Bd.returns] at h; cases h)
        refine ⟨_, _, ?_, hrun, hended, _, _, rfl, ?_, ⟨_, rfl⟩, hW, hsame.mono (by decide) (by decide)⟩
        · exact retI X0 hx Bd.returns (hb hby d1_69) hr
        · show Q1 Z p1 h0 n0 _ s₁.heap _
          rw [e0]
          exact ⟨(congrArg (fun z => some (Value.int z)) hv.symm), N0, rfl⟩
  · refine own_pre (A := s₁.setTop (mkF m 9 #[.val (.int p1), .unset] [(.int (57 : Int32)), (.int p1)])) (fun tt kt => ?_) ?_
    · show Steps p.tables e below (s₁.setTop (mkF m 3 #[.val (.int p1), .unset] [(.int (48 : Int32)), (.int p1)])) _
      refine XS.icmpNo X0.here hx rfl (hb hby d1_3) rfl (flt hc3_1).1 ?_
      refine XS.iloadN X0.here hx rfl (hb hby d1_6) rfl ?_
      refine XS.bipush X0.here hx rfl (hb hby d1_7) ?_
      exact kt
    show own_End p e below s (s₁.setTop (mkF m 9 #[.val (.int p1), .unset] [(.int (57 : Int32)), (.int p1)])) (Q1 Z p1 h0 n0) ({ frames := 0, cells := 0, slots := 0, locals := 0 } : Room).cells ({ frames := 0, cells := 0, slots := 0, locals := 0 } : Room).slots
    by_cases hc9_8 : (57 : Int32) < p1
    · refine own_pre (A := s₁.setTop (mkF m 23 #[.val (.int p1), .unset] [(.int (97 : Int32)), (.int p1)])) (fun tt kt => ?_) ?_
      · show Steps p.tables e below (s₁.setTop (mkF m 9 #[.val (.int p1), .unset] [(.int (57 : Int32)), (.int p1)])) _
        refine XS.icmpYes X0.here hx rfl (pc0 := 9) (pc' := 20) rfl (hb hby d1_9) rfl (tlt hc9_8).2.2.1 (by decide) (by decide) ?_
        refine XS.iloadN X0.here hx rfl (hb hby d1_20) rfl ?_
        refine XS.bipush X0.here hx rfl (hb hby d1_21) ?_
        exact kt
      show own_End p e below s (s₁.setTop (mkF m 23 #[.val (.int p1), .unset] [(.int (97 : Int32)), (.int p1)])) (Q1 Z p1 h0 n0) ({ frames := 0, cells := 0, slots := 0, locals := 0 } : Room).cells ({ frames := 0, cells := 0, slots := 0, locals := 0 } : Room).slots
      by_cases hc23_9 : p1 < (97 : Int32)
      · refine own_pre (A := s₁.setTop (mkF m 46 #[.val (.int p1), .unset] [(.int (65 : Int32)), (.int p1)])) (fun tt kt => ?_) ?_
        · show Steps p.tables e below (s₁.setTop (mkF m 23 #[.val (.int p1), .unset] [(.int (97 : Int32)), (.int p1)])) _
          refine XS.icmpYes X0.here hx rfl (pc0 := 23) (pc' := 43) rfl (hb hby d1_23) rfl (tlt hc23_9).1 (by decide) (by decide) ?_
          refine XS.iloadN X0.here hx rfl (hb hby d1_43) rfl ?_
          refine XS.bipush X0.here hx rfl (hb hby d1_44) ?_
          exact kt
        show own_End p e below s (s₁.setTop (mkF m 46 #[.val (.int p1), .unset] [(.int (65 : Int32)), (.int p1)])) (Q1 Z p1 h0 n0) ({ frames := 0, cells := 0, slots := 0, locals := 0 } : Room).cells ({ frames := 0, cells := 0, slots := 0, locals := 0 } : Room).slots
        by_cases hc46_10 : p1 < (65 : Int32)
        · refine own_pre (A := s₁.setTop (mkF m 69 #[.val (.int p1), .val (.int (-1 : Int32))] [(.int (-1 : Int32))])) (fun tt kt => ?_) ?_
          · show Steps p.tables e below (s₁.setTop (mkF m 46 #[.val (.int p1), .unset] [(.int (65 : Int32)), (.int p1)])) _
            refine XS.icmpYes X0.here hx rfl (pc0 := 46) (pc' := 66) rfl (hb hby d1_46) rfl (tlt hc46_10).1 (by decide) (by decide) ?_
            refine XS.iconst X0.here hx rfl (hb hby d1_66) ?_
            refine XS.istoreN X0.here hx rfl (hb hby d1_67) rfl (l' := #[.val (.int p1), .val (.int (-1 : Int32))]) rfl ?_
            refine XS.iloadN X0.here hx rfl (hb hby d1_68) rfl ?_
            exact kt
          show own_End p e below s (s₁.setTop (mkF m 69 #[.val (.int p1), .val (.int (-1 : Int32))] [(.int (-1 : Int32))])) (Q1 Z p1 h0 n0) ({ frames := 0, cells := 0, slots := 0, locals := 0 } : Room).cells ({ frames := 0, cells := 0, slots := 0, locals := 0 } : Room).slots
          have hv : (own_hex p1) = (-1 : Int32) := hj.trans (by simp only [own_hex, if_neg hc3_1, if_pos hc9_8, if_pos hc23_9, if_pos hc46_10])
          obtain ⟨fs, hr, hrun, hended, hW, hsame⟩ := X0.leave (v := some (.int (-1 : Int32))) (fun h => by rw [Bd.returns] at h; cases h)
          refine ⟨_, _, ?_, hrun, hended, _, _, rfl, ?_, ⟨_, rfl⟩, hW, hsame.mono (by decide) (by decide)⟩
          · exact retI X0 hx Bd.returns (hb hby d1_69) hr
          · show Q1 Z p1 h0 n0 _ s₁.heap _
            rw [e0]
            exact ⟨(congrArg (fun z => some (Value.int z)) hv.symm), N0, rfl⟩
        · refine own_pre (A := s₁.setTop (mkF m 52 #[.val (.int p1), .unset] [(.int (70 : Int32)), (.int p1)])) (fun tt kt => ?_) ?_
          · show Steps p.tables e below (s₁.setTop (mkF m 46 #[.val (.int p1), .unset] [(.int (65 : Int32)), (.int p1)])) _
            refine XS.icmpNo X0.here hx rfl (hb hby d1_46) rfl (flt hc46_10).1 ?_
            refine XS.iloadN X0.here hx rfl (hb hby d1_49) rfl ?_
            refine XS.bipush X0.here hx rfl (hb hby d1_50) ?_
            exact kt
          show own_End p e below s (s₁.setTop (mkF m 52 #[.val (.int p1), .unset] [(.int (70 : Int32)), (.int p1)])) (Q1 Z p1 h0 n0) ({ frames := 0, cells := 0, slots := 0, locals := 0 } : Room).cells ({ frames := 0, cells := 0, slots := 0, locals := 0 } : Room).slots
          by_cases hc52_11 : (70 : Int32) < p1
          · refine own_pre (A := s₁.setTop (mkF m 69 #[.val (.int p1), .val (.int (-1 : Int32))] [(.int (-1 : Int32))])) (fun tt kt => ?_) ?_
            · show Steps p.tables e below (s₁.setTop (mkF m 52 #[.val (.int p1), .unset] [(.int (70 : Int32)), (.int p1)])) _
              refine XS.icmpYes X0.here hx rfl (pc0 := 52) (pc' := 66) rfl (hb hby d1_52) rfl (tlt hc52_11).2.2.1 (by decide) (by decide) ?_
              refine XS.iconst X0.here hx rfl (hb hby d1_66) ?_
              refine XS.istoreN X0.here hx rfl (hb hby d1_67) rfl (l' := #[.val (.int p1), .val (.int (-1 : Int32))]) rfl ?_
              refine XS.iloadN X0.here hx rfl (hb hby d1_68) rfl ?_
              exact kt
            show own_End p e below s (s₁.setTop (mkF m 69 #[.val (.int p1), .val (.int (-1 : Int32))] [(.int (-1 : Int32))])) (Q1 Z p1 h0 n0) ({ frames := 0, cells := 0, slots := 0, locals := 0 } : Room).cells ({ frames := 0, cells := 0, slots := 0, locals := 0 } : Room).slots
            have hv : (own_hex p1) = (-1 : Int32) := hj.trans (by simp only [own_hex, if_neg hc3_1, if_pos hc9_8, if_pos hc23_9, if_neg hc46_10, if_pos hc52_11])
            obtain ⟨fs, hr, hrun, hended, hW, hsame⟩ := X0.leave (v := some (.int (-1 : Int32))) (fun h => by rw [Bd.returns] at h; cases h)
            refine ⟨_, _, ?_, hrun, hended, _, _, rfl, ?_, ⟨_, rfl⟩, hW, hsame.mono (by decide) (by decide)⟩
            · exact retI X0 hx Bd.returns (hb hby d1_69) hr
            · show Q1 Z p1 h0 n0 _ s₁.heap _
              rw [e0]
              exact ⟨(congrArg (fun z => some (Value.int z)) hv.symm), N0, rfl⟩
          · refine own_pre (A := s₁.setTop (mkF m 69 #[.val (.int p1), .val (.int ((p1 - (65 : Int32)) + (10 : Int32)))] [(.int ((p1 - (65 : Int32)) + (10 : Int32)))])) (fun tt kt => ?_) ?_
            · show Steps p.tables e below (s₁.setTop (mkF m 52 #[.val (.int p1), .unset] [(.int (70 : Int32)), (.int p1)])) _
              refine XS.icmpNo X0.here hx rfl (hb hby d1_52) rfl (flt hc52_11).2.2.1 ?_
              refine XS.iloadN X0.here hx rfl (hb hby d1_55) rfl ?_
              refine XS.bipush X0.here hx rfl (hb hby d1_56) ?_
              refine XS.isub X0.here hx rfl (hb hby d1_58) rfl ?_
              show Steps p.tables e below (s₁.setTop (mkF m 59 #[.val (.int p1), .unset] [(.int (p1 - (65 : Int32)))])) _
              refine XS.bipush X0.here hx rfl (hb hby d1_59) ?_
              refine XS.iadd X0.here hx rfl (hb hby d1_61) rfl ?_
              refine XS.istoreN X0.here hx rfl (hb hby d1_62) rfl (l' := #[.val (.int p1), .val (.int ((p1 - (65 : Int32)) + (10 : Int32)))]) rfl ?_
              refine XS.goto X0.here hx rfl (pc0 := 63) (pc' := 68) rfl (hb hby d1_63) (by decide) (by decide) ?_
              show Steps p.tables e below (s₁.setTop (mkF m 68 #[.val (.int p1), .val (.int ((p1 - (65 : Int32)) + (10 : Int32)))] [])) _
              refine XS.iloadN X0.here hx rfl (hb hby d1_68) rfl ?_
              exact kt
            show own_End p e below s (s₁.setTop (mkF m 69 #[.val (.int p1), .val (.int ((p1 - (65 : Int32)) + (10 : Int32)))] [(.int ((p1 - (65 : Int32)) + (10 : Int32)))])) (Q1 Z p1 h0 n0) ({ frames := 0, cells := 0, slots := 0, locals := 0 } : Room).cells ({ frames := 0, cells := 0, slots := 0, locals := 0 } : Room).slots
            have hv : (own_hex p1) = ((p1 - (65 : Int32)) + (10 : Int32)) := hj.trans (by simp only [own_hex, if_neg hc3_1, if_pos hc9_8, if_pos hc23_9, if_neg hc46_10, if_neg hc52_11])
            obtain ⟨fs, hr, hrun, hended, hW, hsame⟩ := X0.leave (v := some (.int ((p1 - (65 : Int32)) + (10 : Int32)))) (fun h => by rw [Bd.returns] at h; cases h)
            refine ⟨_, _, ?_, hrun, hended, _, _, rfl, ?_, ⟨_, rfl⟩, hW, hsame.mono (by decide) (by decide)⟩
            · exact retI X0 hx Bd.returns (hb hby d1_69) hr
            · show Q1 Z p1 h0 n0 _ s₁.heap _
              rw [e0]
              exact ⟨(congrArg (fun z => some (Value.int z)) hv.symm), N0, rfl⟩
      · refine own_pre (A := s₁.setTop (mkF m 29 #[.val (.int p1), .unset] [(.int (102 : Int32)), (.int p1)])) (fun tt kt => ?_) ?_
        · show Steps p.tables e below (s₁.setTop (mkF m 23 #[.val (.int p1), .unset] [(.int (97 : Int32)), (.int p1)])) _
          refine XS.icmpNo X0.here hx rfl (hb hby d1_23) rfl (flt hc23_9).1 ?_
          refine XS.iloadN X0.here hx rfl (hb hby d1_26) rfl ?_
          refine XS.bipush X0.here hx rfl (hb hby d1_27) ?_
          exact kt
        show own_End p e below s (s₁.setTop (mkF m 29 #[.val (.int p1), .unset] [(.int (102 : Int32)), (.int p1)])) (Q1 Z p1 h0 n0) ({ frames := 0, cells := 0, slots := 0, locals := 0 } : Room).cells ({ frames := 0, cells := 0, slots := 0, locals := 0 } : Room).slots
        by_cases hc29_12 : (102 : Int32) < p1
        · refine own_pre (A := s₁.setTop (mkF m 46 #[.val (.int p1), .unset] [(.int (65 : Int32)), (.int p1)])) (fun tt kt => ?_) ?_
          · show Steps p.tables e below (s₁.setTop (mkF m 29 #[.val (.int p1), .unset] [(.int (102 : Int32)), (.int p1)])) _
            refine XS.icmpYes X0.here hx rfl (pc0 := 29) (pc' := 43) rfl (hb hby d1_29) rfl (tlt hc29_12).2.2.1 (by decide) (by decide) ?_
            refine XS.iloadN X0.here hx rfl (hb hby d1_43) rfl ?_
            refine XS.bipush X0.here hx rfl (hb hby d1_44) ?_
            exact kt
          show own_End p e below s (s₁.setTop (mkF m 46 #[.val (.int p1), .unset] [(.int (65 : Int32)), (.int p1)])) (Q1 Z p1 h0 n0) ({ frames := 0, cells := 0, slots := 0, locals := 0 } : Room).cells ({ frames := 0, cells := 0, slots := 0, locals := 0 } : Room).slots
          by_cases hc46_13 : p1 < (65 : Int32)
          · refine own_pre (A := s₁.setTop (mkF m 69 #[.val (.int p1), .val (.int (-1 : Int32))] [(.int (-1 : Int32))])) (fun tt kt => ?_) ?_
            · show Steps p.tables e below (s₁.setTop (mkF m 46 #[.val (.int p1), .unset] [(.int (65 : Int32)), (.int p1)])) _
              refine XS.icmpYes X0.here hx rfl (pc0 := 46) (pc' := 66) rfl (hb hby d1_46) rfl (tlt hc46_13).1 (by decide) (by decide) ?_
              refine XS.iconst X0.here hx rfl (hb hby d1_66) ?_
              refine XS.istoreN X0.here hx rfl (hb hby d1_67) rfl (l' := #[.val (.int p1), .val (.int (-1 : Int32))]) rfl ?_
              refine XS.iloadN X0.here hx rfl (hb hby d1_68) rfl ?_
              exact kt
            show own_End p e below s (s₁.setTop (mkF m 69 #[.val (.int p1), .val (.int (-1 : Int32))] [(.int (-1 : Int32))])) (Q1 Z p1 h0 n0) ({ frames := 0, cells := 0, slots := 0, locals := 0 } : Room).cells ({ frames := 0, cells := 0, slots := 0, locals := 0 } : Room).slots
            have hv : (own_hex p1) = (-1 : Int32) := hj.trans (by simp only [own_hex, if_neg hc3_1, if_pos hc9_8, if_neg hc23_9, if_pos hc29_12, if_pos hc46_13])
            obtain ⟨fs, hr, hrun, hended, hW, hsame⟩ := X0.leave (v := some (.int (-1 : Int32))) (fun h => by rw [Bd.returns] at h; cases h)
            refine ⟨_, _, ?_, hrun, hended, _, _, rfl, ?_, ⟨_, rfl⟩, hW, hsame.mono (by decide) (by decide)⟩
            · exact retI X0 hx Bd.returns (hb hby d1_69) hr
            · show Q1 Z p1 h0 n0 _ s₁.heap _
              rw [e0]
              exact ⟨(congrArg (fun z => some (Value.int z)) hv.symm), N0, rfl⟩
          · refine own_pre (A := s₁.setTop (mkF m 52 #[.val (.int p1), .unset] [(.int (70 : Int32)), (.int p1)])) (fun tt kt => ?_) ?_
            · show Steps p.tables e below (s₁.setTop (mkF m 46 #[.val (.int p1), .unset] [(.int (65 : Int32)), (.int p1)])) _
              refine XS.icmpNo X0.here hx rfl (hb hby d1_46) rfl (flt hc46_13).1 ?_
              refine XS.iloadN X0.here hx rfl (hb hby d1_49) rfl ?_
              refine XS.bipush X0.here hx rfl (hb hby d1_50) ?_
              exact kt
            show own_End p e below s (s₁.setTop (mkF m 52 #[.val (.int p1), .unset] [(.int (70 : Int32)), (.int p1)])) (Q1 Z p1 h0 n0) ({ frames := 0, cells := 0, slots := 0, locals := 0 } : Room).cells ({ frames := 0, cells := 0, slots := 0, locals := 0 } : Room).slots
            by_cases hc52_14 : (70 : Int32) < p1
            · refine own_pre (A := s₁.setTop (mkF m 69 #[.val (.int p1), .val (.int (-1 : Int32))] [(.int (-1 : Int32))])) (fun tt kt => ?_) ?_
              · show Steps p.tables e below (s₁.setTop (mkF m 52 #[.val (.int p1), .unset] [(.int (70 : Int32)), (.int p1)])) _
                refine XS.icmpYes X0.here hx rfl (pc0 := 52) (pc' := 66) rfl (hb hby d1_52) rfl (tlt hc52_14).2.2.1 (by decide) (by decide) ?_
                refine XS.iconst X0.here hx rfl (hb hby d1_66) ?_
                refine XS.istoreN X0.here hx rfl (hb hby d1_67) rfl (l' := #[.val (.int p1), .val (.int (-1 : Int32))]) rfl ?_
                refine XS.iloadN X0.here hx rfl (hb hby d1_68) rfl ?_
                exact kt
              show own_End p e below s (s₁.setTop (mkF m 69 #[.val (.int p1), .val (.int (-1 : Int32))] [(.int (-1 : Int32))])) (Q1 Z p1 h0 n0) ({ frames := 0, cells := 0, slots := 0, locals := 0 } : Room).cells ({ frames := 0, cells := 0, slots := 0, locals := 0 } : Room).slots
              have hv : (own_hex p1) = (-1 : Int32) := hj.trans (by simp only [own_hex, if_neg hc3_1, if_pos hc9_8, if_neg hc23_9, if_pos hc29_12, if_neg hc46_13, if_pos hc52_14])
              obtain ⟨fs, hr, hrun, hended, hW, hsame⟩ := X0.leave (v := some (.int (-1 : Int32))) (fun h => by rw [Bd.returns] at h; cases h)
              refine ⟨_, _, ?_, hrun, hended, _, _, rfl, ?_, ⟨_, rfl⟩, hW, hsame.mono (by decide) (by decide)⟩
              · exact retI X0 hx Bd.returns (hb hby d1_69) hr
              · show Q1 Z p1 h0 n0 _ s₁.heap _
                rw [e0]
                exact ⟨(congrArg (fun z => some (Value.int z)) hv.symm), N0, rfl⟩
            · refine own_pre (A := s₁.setTop (mkF m 69 #[.val (.int p1), .val (.int ((p1 - (65 : Int32)) + (10 : Int32)))] [(.int ((p1 - (65 : Int32)) + (10 : Int32)))])) (fun tt kt => ?_) ?_
              · show Steps p.tables e below (s₁.setTop (mkF m 52 #[.val (.int p1), .unset] [(.int (70 : Int32)), (.int p1)])) _
                refine XS.icmpNo X0.here hx rfl (hb hby d1_52) rfl (flt hc52_14).2.2.1 ?_
                refine XS.iloadN X0.here hx rfl (hb hby d1_55) rfl ?_
                refine XS.bipush X0.here hx rfl (hb hby d1_56) ?_
                refine XS.isub X0.here hx rfl (hb hby d1_58) rfl ?_
                show Steps p.tables e below (s₁.setTop (mkF m 59 #[.val (.int p1), .unset] [(.int (p1 - (65 : Int32)))])) _
                refine XS.bipush X0.here hx rfl (hb hby d1_59) ?_
                refine XS.iadd X0.here hx rfl (hb hby d1_61) rfl ?_
                refine XS.istoreN X0.here hx rfl (hb hby d1_62) rfl (l' := #[.val (.int p1), .val (.int ((p1 - (65 : Int32)) + (10 : Int32)))]) rfl ?_
                refine XS.goto X0.here hx rfl (pc0 := 63) (pc' := 68) rfl (hb hby d1_63) (by decide) (by decide) ?_
                show Steps p.tables e below (s₁.setTop (mkF m 68 #[.val (.int p1), .val (.int ((p1 - (65 : Int32)) + (10 : Int32)))] [])) _
                refine XS.iloadN X0.here hx rfl (hb hby d1_68) rfl ?_
                exact kt
              show own_End p e below s (s₁.setTop (mkF m 69 #[.val (.int p1), .val (.int ((p1 - (65 : Int32)) + (10 : Int32)))] [(.int ((p1 - (65 : Int32)) + (10 : Int32)))])) (Q1 Z p1 h0 n0) ({ frames := 0, cells := 0, slots := 0, locals := 0 } : Room).cells ({ frames := 0, cells := 0, slots := 0, locals := 0 } : Room).slots
              have hv : (own_hex p1) = ((p1 - (65 : Int32)) + (10 : Int32)) := hj.trans (by simp only [own_hex, if_neg hc3_1, if_pos hc9_8, if_neg hc23_9, if_pos hc29_12, if_neg hc46_13, if_neg hc52_14])
              obtain ⟨fs, hr, hrun, hended, hW, hsame⟩ := X0.leave (v := some (.int ((p1 - (65 : Int32)) + (10 : Int32)))) (fun h => by rw [Bd.returns] at h; cases h)
              refine ⟨_, _, ?_, hrun, hended, _, _, rfl, ?_, ⟨_, rfl⟩, hW, hsame.mono (by decide) (by decide)⟩
              · exact retI X0 hx Bd.returns (hb hby d1_69) hr
              · show Q1 Z p1 h0 n0 _ s₁.heap _
                rw [e0]
                exact ⟨(congrArg (fun z => some (Value.int z)) hv.symm), N0, rfl⟩
        · refine own_pre (A := s₁.setTop (mkF m 69 #[.val (.int p1), .val (.int ((p1 - (97 : Int32)) + (10 : Int32)))] [(.int ((p1 - (97 : Int32)) + (10 : Int32)))])) (fun tt kt => ?_) ?_
          · show Steps p.tables e below (s₁.setTop (mkF m 29 #[.val (.int p1), .unset] [(.int (102 : Int32)), (.int p1)])) _
            refine XS.icmpNo X0.here hx rfl (hb hby d1_29) rfl (flt hc29_12).2.2.1 ?_
            refine XS.iloadN X0.here hx rfl (hb hby d1_32) rfl ?_
            refine XS.bipush X0.here hx rfl (hb hby d1_33) ?_
            refine XS.isub X0.here hx rfl (hb hby d1_35) rfl ?_
            show Steps p.tables e below (s₁.setTop (mkF m 36 #[.val (.int p1), .unset] [(.int (p1 - (97 : Int32)))])) _
            refine XS.bipush X0.here hx rfl (hb hby d1_36) ?_
            refine XS.iadd X0.here hx rfl (hb hby d1_38) rfl ?_
            refine XS.istoreN X0.here hx rfl (hb hby d1_39) rfl (l' := #[.val (.int p1), .val (.int ((p1 - (97 : Int32)) + (10 : Int32)))]) rfl ?_
            refine XS.goto X0.here hx rfl (pc0 := 40) (pc' := 68) rfl (hb hby d1_40) (by decide) (by decide) ?_
            show Steps p.tables e below (s₁.setTop (mkF m 68 #[.val (.int p1), .val (.int ((p1 - (97 : Int32)) + (10 : Int32)))] [])) _
            refine XS.iloadN X0.here hx rfl (hb hby d1_68) rfl ?_
            exact kt
          show own_End p e below s (s₁.setTop (mkF m 69 #[.val (.int p1), .val (.int ((p1 - (97 : Int32)) + (10 : Int32)))] [(.int ((p1 - (97 : Int32)) + (10 : Int32)))])) (Q1 Z p1 h0 n0) ({ frames := 0, cells := 0, slots := 0, locals := 0 } : Room).cells ({ frames := 0, cells := 0, slots := 0, locals := 0 } : Room).slots
          have hv : (own_hex p1) = ((p1 - (97 : Int32)) + (10 : Int32)) := hj.trans (by simp only [own_hex, if_neg hc3_1, if_pos hc9_8, if_neg hc23_9, if_neg hc29_12])
          obtain ⟨fs, hr, hrun, hended, hW, hsame⟩ := X0.leave (v := some (.int ((p1 - (97 : Int32)) + (10 : Int32)))) (fun h => by rw [Bd.returns] at h; cases h)
          refine ⟨_, _, ?_, hrun, hended, _, _, rfl, ?_, ⟨_, rfl⟩, hW, hsame.mono (by decide) (by decide)⟩
          · exact retI X0 hx Bd.returns (hb hby d1_69) hr
          · show Q1 Z p1 h0 n0 _ s₁.heap _
            rw [e0]
            exact ⟨(congrArg (fun z => some (Value.int z)) hv.symm), N0, rfl⟩
    · refine own_pre (A := s₁.setTop (mkF m 69 #[.val (.int p1), .val (.int (p1 - (48 : Int32)))] [(.int (p1 - (48 : Int32)))])) (fun tt kt => ?_) ?_
      · show Steps p.tables e below (s₁.setTop (mkF m 9 #[.val (.int p1), .unset] [(.int (57 : Int32)), (.int p1)])) _
        refine XS.icmpNo X0.here hx rfl (hb hby d1_9) rfl (flt hc9_8).2.2.1 ?_
        refine XS.iloadN X0.here hx rfl (hb hby d1_12) rfl ?_
        refine XS.bipush X0.here hx rfl (hb hby d1_13) ?_
        refine XS.isub X0.here hx rfl (hb hby d1_15) rfl ?_
        show Steps p.tables e below (s₁.setTop (mkF m 16 #[.val (.int p1), .unset] [(.int (p1 - (48 : Int32)))])) _
        refine XS.istoreN X0.here hx rfl (hb hby d1_16) rfl (l' := #[.val (.int p1), .val (.int (p1 - (48 : Int32)))]) rfl ?_
        refine XS.goto X0.here hx rfl (pc0 := 17) (pc' := 68) rfl (hb hby d1_17) (by decide) (by decide) ?_
        refine XS.iloadN X0.here hx rfl (hb hby d1_68) rfl ?_
        exact kt
      show own_End p e below s (s₁.setTop (mkF m 69 #[.val (.int p1), .val (.int (p1 - (48 : Int32)))] [(.int (p1 - (48 : Int32)))])) (Q1 Z p1 h0 n0) ({ frames := 0, cells := 0, slots := 0, locals := 0 } : Room).cells ({ frames := 0, cells := 0, slots := 0, locals := 0 } : Room).slots
      have hv : (own_hex p1) = (p1 - (48 : Int32)) := hj.trans (by simp only [own_hex, if_neg hc3_1, if_neg hc9_8])
      obtain ⟨fs, hr, hrun, hended, hW, hsame⟩ := X0.leave (v := some (.int (p1 - (48 : Int32)))) (fun h => by rw [Bd.returns] at h; cases h)
      refine ⟨_, _, ?_, hrun, hended, _, _, rfl, ?_, ⟨_, rfl⟩, hW, hsame.mono (by decide) (by decide)⟩
      · exact retI X0 hx Bd.returns (hb hby d1_69) hr
      · show Q1 Z p1 h0 n0 _ s₁.heap _
        rw [e0]
        exact ⟨(congrArg (fun z => some (Value.int z)) hv.symm), N0, rfl⟩
theorem own_fin {n : Nat} {a b : Int32} (h0 : a.toInt ≤ b.toInt) (h1 : b.toInt < a.toInt + n) : ∃ k : Fin n, b = Int32.ofInt (a.toInt + (k.1 : Int)) := by
  have hk : (b.toInt - a.toInt).toNat < n := by omega
  refine ⟨⟨(b.toInt - a.toInt).toNat, hk⟩, ?_⟩
  apply Int32.toInt_inj.mp
  have e : a.toInt + (((b.toInt - a.toInt).toNat : Nat) : Int) = b.toInt := by omega
  show b.toInt = (Int32.ofInt (a.toInt + (((b.toInt - a.toInt).toNat : Nat) : Int))).toInt
  rw [e, Int32.ofInt_toInt]
theorem own_nlt {a b : Int32} (h : ¬ a < b) : b.toInt ≤ a.toInt := by
  have := mt Int32.lt_iff_toInt_lt.mpr h
  omega
def own_P (c : Int32) : Prop := own_hex c = -1 ∨ ((¬ own_hex c < (0 : Int32) ∧ own_hex c < (16 : Int32)) ∧ ¬ ((15 : Int32) < own_hex c) ∧ (c = own_c2 (own_hex c) own_up (16 : Int32) ∨ c = own_c2 (own_hex c) own_lo (16 : Int32)))
instance (c : Int32) : Decidable (own_P c) := by unfold own_P; infer_instance
theorem own_r1 : ∀ k : Fin 10, own_P (Int32.ofInt (48 + (k.1 : Int))) := by decide +kernel
theorem own_r2 : ∀ k : Fin 6, own_P (Int32.ofInt (97 + (k.1 : Int))) := by decide +kernel
theorem own_r3 : ∀ k : Fin 6, own_P (Int32.ofInt (65 + (k.1 : Int))) := by decide +kernel
theorem own_inr {lo hi c : Int32} {n : Nat} (h1 : ¬ c < lo) (h2 : ¬ hi < c) (hn : hi.toInt = lo.toInt + n - 1) (P : Int32 → Prop) (h : ∀ k : Fin n, P (Int32.ofInt (lo.toInt + (k.1 : Int)))) : P c := by
  have a := own_nlt h1
  have b := own_nlt h2
  obtain ⟨k, rfl⟩ := own_fin (n := n) a (by omega)
  exact h k
theorem own_hexP (c : Int32) : own_P c := by
  by_cases a1 : c < 48
  · left
    have b1 : c < 97 := by rw [Int32.lt_iff_toInt_lt] at *; exact Int.lt_trans a1 (by decide)
    have b2 : c < 65 := by rw [Int32.lt_iff_toInt_lt] at *; exact Int.lt_trans a1 (by decide)
    simp [own_hex, a1, b1, b2]
  · by_cases a2 : (57 : Int32) < c
    · by_cases a3 : c < 97
      · by_cases a5 : c < 65
        · left; simp [own_hex, a1, a2, a3, a5]
        · by_cases a6 : (70 : Int32) < c
          · left; simp [own_hex, a1, a2, a3, a5, a6]
          · exact own_inr (n := 6) a5 a6 (by decide) own_P own_r3
      · by_cases a4 : (102 : Int32) < c
        · have a5 : ¬ c < 65 := by rw [Int32.lt_iff_toInt_lt] at *; intro q; exact absurd (Int.lt_trans a4 q) (by decide)
          have a6 : (70 : Int32) < c := by rw [Int32.lt_iff_toInt_lt] at *; exact Int.lt_trans (by decide) a4
          left; simp [own_hex, a1, a2, a3, a4, a5, a6]
        · exact own_inr (n := 6) a3 a4 (by decide) own_P own_r2
    · exact own_inr (n := 10) a1 a2 (by decide) own_P own_r1
theorem own_hexR (c : Int32) (h : ¬ own_hex c = (-1 : Int32)) : ¬ own_hex c < (0 : Int32) ∧ own_hex c < (16 : Int32) := ((own_hexP c).resolve_left h).1
theorem own_hexT (c : Int32) (h : ¬ own_hex c = (-1 : Int32)) : ¬ ((15 : Int32) < own_hex c) := ((own_hexP c).resolve_left h).2.1
theorem own_hexS (c : Int32) (h : ¬ own_hex c = (-1 : Int32)) (h' : ¬ c = own_c2 (own_hex c) own_up (16 : Int32)) : c = own_c2 (own_hex c) own_lo (16 : Int32) := ((own_hexP c).resolve_left h).2.2.resolve_left h'
def own_B (v : Int32) : Prop := (¬ v < (0 : Int32) ∧ v < (16 : Int32)) ∧ own_hex (own_c2 v own_up (16 : Int32)) = v ∧ own_hex (own_c2 v own_lo (16 : Int32)) = v
instance (v : Int32) : Decidable (own_B v) := by unfold own_B; infer_instance
theorem own_b16 : ∀ k : Fin 16, own_B (Int32.ofInt (0 + (k.1 : Int))) := by decide +kernel
theorem own_bv (y : Int32) : own_B (y &&& (15 : Int32)) := by
  have a := c_and y 15 (by decide)
  have z : (0 : Int32).toInt = 0 := by decide
  have h1 : ¬ (y &&& (15 : Int32)) < 0 := fun q => by
    have := Int32.lt_iff_toInt_lt.mp q
    omega
  have h2 : ¬ (15 : Int32) < (y &&& (15 : Int32)) := fun q => by
    have := Int32.lt_iff_toInt_lt.mp q
    omega
  exact own_inr (lo := 0) (hi := 15) (n := 16) h1 h2 (by decide) own_B own_b16
theorem own_v (y : Int32) : ¬ (y &&& (15 : Int32)) < (0 : Int32) ∧ (y &&& (15 : Int32)) < (16 : Int32) := (own_bv y).1
theorem own_bup (y : Int32) : own_hex (own_c2 (y &&& (15 : Int32)) own_up (16 : Int32)) = (y &&& (15 : Int32)) := (own_bv y).2.1
theorem own_blo (y : Int32) : own_hex (own_c2 (y &&& (15 : Int32)) own_lo (16 : Int32)) = (y &&& (15 : Int32)) := (own_bv y).2.2
theorem pn_0 : plainName "com/example/door3/door3/uri/PercentEncodingHexDigitPinLaw" = true := by first | (simp [plainName, overriddenIn]; done) | decide +kernel
theorem pd_0_0 : parseMethodDescriptor "(C)I" = some ⟨[.char], some .int⟩ := by decide +kernel
theorem pd_0_1 : parseMethodDescriptor "(I)C" = some ⟨[.int], some .char⟩ := by decide +kernel
theorem ef_0 (m : MethodId) (x0 : Int32) (x1 : Int32) : entryFrame m #[(.int x0), (.int x1)] maxLocals = mkF m 0 #[.val (.int x0), .val (.int x1), .unset, .unset, .unset, .unset, .unset] [] := by first | (simp [entryFrame, mkF, argsToLocals, Value.category, maxLocals]; done) | rfl
def Q0 (Z : State) (p1 : Int32) (p2 : Int32) (GA : Int32) (GB : Value) (h0 : Heap) (n0 : Nat) (v : Option Value) (h : Heap) (L : List Loc) : Prop := v = some (.int (1 : Int32)) ∧ Fr n0 L
set_option maxRecDepth 65536 in
set_option maxHeartbeats 40000000 in
theorem rm0 (l : Launch) (Z : State) (a0 : Array Value) (hw : ∀ d ∈ tables_1, d.before a0 Z = true) (ws : List Jvm.Cond) (p1 : Int32) (p2 : Int32) (GA : Int32) (GB : Value) (h0 : Heap) (n0 : Nat) (Z0 : n0 ≤ h0.size) (O2 : Sta Z h0 "java/lang/String" "COMPACT_STRINGS" "Z" (.int GA)) (P5 : ¬ (GA = (0 : Int32))) (O4 : Sta Z h0 "jdk/internal/util/Preconditions" "SIOOBE_FORMATTER" "Ljava/util/function/BiFunction;" GB) (rGB : GB.isRef = true) (hn0 : n0 = h0.size) (hZh : Z.heap = h0) (hheld13 : own_held Z "com/example/door3/door3/uri/PercentEncodingHexDigitPinLaw" 13) (hheld21 : own_held Z "com/example/door3/door3/uri/PercentEncodingHexDigitPinLaw" 21) (hcw : own_cw.before a0 Z = true) :
    MetFree l x (head1 (Jvm.Cond.code x code maxLocals ret :: ws) room_1) (fun a U => a = #[(.int p1), (.int p2)] ∧ Z.Warmed39 U.vm ∧ U.heap = h0 ∧ U.vm = Z.vm) (fun _ _ _ _ _ => True) (fun _ U o U' => ∃ v L, o = .returned v ∧ Q0 Z p1 p2 GA GB h0 n0 v U'.heap L ∧ ReturnedEndW U o U' L room_1.cells room_1.slots) := by
  refine MetFree.of_bodySF (plainFor_of_name pn_0) hisR ?_
  intro p e s m args below meth c s₁ Bd hml0 hP hK
  obtain ⟨rfl, hZ, hh, hvm⟩ := hP
  have hx := Bd.exec
  have hby := Bd.bytes
  have hml : c.maxLocals = 7 := hml0
  have hown : s.vm.findClass "com/example/door3/door3/uri/PercentEncodingHexDigitPinLaw" = some m.cls := findClass_of_methodNamed Bd.named
  have hnm := (name_of_methodNamed Bd.named Bd.method).1
  have X0 : Stand p l e room_1 s m #[(.int p1), (.int p2)] below meth c s₁ [] 0 0 := Stand.of_body Bd
  have e0 : s₁.heap = h0 := by rw [← hh, Bd.state]; rfl
  have N0 := Fr.nil n0
  replace X0 : Stand p l e room_1 (s.setVm s.vm) m #[(.int p1), (.int p2)] below meth c s₁ [] 0 0 := X0
  replace hZ : Z.Warmed39 (s.setVm s.vm).vm := hZ
  replace hown : (s.setVm s.vm).vm.findClass "com/example/door3/door3/uri/PercentEncodingHexDigitPinLaw" = some m.cls := hown
  have hSs : s.Since s.vm h0.size := (State.WarmedH.refl s).since _
  have hkeep := own_kp hh hZh
  have I0 : IB Z s.vm [] := hvm ▸ IB.start
  have wS := own_wS hw
  show own_EndW p e below s (s₁.setTop (entryFrame m #[(.int p1), (.int p2)] maxLocals)) (Q0 Z p1 p2 GA GB h0 n0) room_1.cells room_1.slots
  refine own_preW (A := s₁.setTop (mkF m 0 #[.val (.int p1), .val (.int p2), .unset, .unset, .unset, .unset, .unset] [])) (fun tt kt => castTop (ef_0 m p1 p2) kt) ?_
  show own_EndW p e below s (s₁.setTop (mkF m 0 #[.val (.int p1), .val (.int p2), .unset, .unset, .unset, .unset, .unset] [])) (Q0 Z p1 p2 GA GB h0 n0) room_1.cells room_1.slots
  obtain ⟨_, _, ⟨T1, L1, k1, n1⟩, -, X1, ⟨Lc1, hQ1, l1, y1, z1⟩, st1⟩ := Jvm.LawKit.callS X0 hx (y := (⟨"com/example/door3/door3/uri/PercentEncoding", "hexDigit", "(C)I"⟩ : MethodName)) hown (mvT hZ (hw _ (List.mem_of_getElem? (i := 0) rfl))) (mvT hZ (hw _ (List.mem_of_getElem? (i := 1) rfl))) (mvT hZ (hw _ (List.mem_of_getElem? (i := 2) rfl))) (mvT hZ (hw _ (List.mem_of_getElem? (i := 3) rfl))) (by decide) (backOf (W := 0) (rm1 l Z a0 hw [] (p1.toUInt32.toUInt16.toUInt32.toInt32)  h0 n0 Z0 ) hZ (hw _ (List.mem_of_getElem? (i := 3) rfl)) (hw _ (List.mem_of_getElem? (i := 2) rfl)) (by decide) (by decide)) (g := (mkF m 4 #[.val (.int p1), .val (.int p2), .val (.int (p1.toUInt32.toUInt16.toUInt32.toInt32)), .unset, .unset, .unset, .unset] [(.int (p1.toUInt32.toUInt16.toUInt32.toInt32))])) rfl (by rw [hml]; rfl) (argsL := [(.int (p1.toUInt32.toUInt16.toUInt32.toInt32))]) (rest := []) (lenOf pd_0_0 rfl) rfl (by show 2 * 0 + _ ≤ _; exact Nat.le_of_eq rfl) (hb hby at_4) (fun _ _ => ⟨rfl, e0, (by decide : 0 + 0 ≤ _), (by decide : 0 + 0 ≤ _)⟩)
  dsimp only [Pt.U, Pt.locs, Pt.cells, Pt.slots] at X1 l1 y1 z1 st1 hQ1
  subst l1 y1 z1
  obtain ⟨rfl, N1q, e1⟩ := hQ1
  have N1 := Fr.app N0 N1q
  refine own_preW (A := T1.setTop (mkF m 10 #[.val (.int p1), .val (.int p2), .val (.int (p1.toUInt32.toUInt16.toUInt32.toInt32)), .val (.int (own_hex (p1.toUInt32.toUInt16.toUInt32.toInt32))), .unset, .unset, .unset] [(.int (-1 : Int32)), (.int (own_hex (p1.toUInt32.toUInt16.toUInt32.toInt32)))])) (fun tt kt => ?_) ?_
  · show Steps p.tables e below (s₁.setTop (mkF m 0 #[.val (.int p1), .val (.int p2), .unset, .unset, .unset, .unset, .unset] [])) _
    refine XS.iloadN X0.here hx rfl (hb hby at_0) rfl ?_
    refine XS.i2c X0.here hx rfl (hb hby at_1) rfl ?_
    refine XS.istoreN X0.here hx rfl (hb hby at_2) rfl (l' := #[.val (.int p1), .val (.int p2), .val (.int (p1.toUInt32.toUInt16.toUInt32.toInt32)), .unset, .unset, .unset, .unset]) rfl ?_
    refine XS.iloadN X0.here hx rfl (hb hby at_3) rfl ?_
    show Steps p.tables e below (s₁.setTop (mkF m 4 #[.val (.int p1), .val (.int p2), .val (.int (p1.toUInt32.toUInt16.toUInt32.toInt32)), .unset, .unset, .unset, .unset] [(.int (p1.toUInt32.toUInt16.toUInt32.toInt32))])) _
    refine st1 _ ?_
    show Steps p.tables e below (T1.setTop (mkF m 7 #[.val (.int p1), .val (.int p2), .val (.int (p1.toUInt32.toUInt16.toUInt32.toInt32)), .unset, .unset, .unset, .unset] [(.int (own_hex (p1.toUInt32.toUInt16.toUInt32.toInt32)))])) _
    refine XS.istoreN X1.here hx rfl (hb hby at_7) rfl (l' := #[.val (.int p1), .val (.int p2), .val (.int (p1.toUInt32.toUInt16.toUInt32.toInt32)), .val (.int (own_hex (p1.toUInt32.toUInt16.toUInt32.toInt32))), .unset, .unset, .unset]) rfl ?_
    refine XS.iloadN X1.here hx rfl (hb hby at_8) rfl ?_
    refine XS.iconst X1.here hx rfl (hb hby at_9) ?_
    exact kt
  show own_EndW p e below s (T1.setTop (mkF m 10 #[.val (.int p1), .val (.int p2), .val (.int (p1.toUInt32.toUInt16.toUInt32.toInt32)), .val (.int (own_hex (p1.toUInt32.toUInt16.toUInt32.toInt32))), .unset, .unset, .unset] [(.int (-1 : Int32)), (.int (own_hex (p1.toUInt32.toUInt16.toUInt32.toInt32)))])) (Q0 Z p1 p2 GA GB h0 n0) room_1.cells room_1.slots
  by_cases hc10_2 : (own_hex (p1.toUInt32.toUInt16.toUInt32.toInt32)) = (-1 : Int32)
  · obtain ⟨a3, T3, h3, b3, X3, e3, E3, hSs, hZ, hown, A3, C3, V3, R3, I3, Lt3, Wv3, st3⟩ := own_ldc (s := s) (vm0 := s.vm) X1 hx hZ hown (hw _ (List.mem_of_getElem? (i := 4) rfl)) wS e1 hSs (own_fr hh hn0 N1) hkeep I0 (by decide) hheld13 hcw (L := own_L13) (z := 16) ht_13 (by decide) (by decide) (g := (mkF m 68 #[.val (.int p1), .val (.int p2), .val (.int (p1.toUInt32.toUInt16.toUInt32.toInt32)), .val (.int (own_hex (p1.toUInt32.toUInt16.toUInt32.toInt32))), .val (.int (1 : Int32)), .val (.int (p2 &&& (15 : Int32))), .unset] [])) rfl (hb hby at_68) (n := 64) (by decide) (by decide) (by decide) (by decide)
    have fS_java_lang_String_COMPACT_STRINGS_x3 := (O2.ext E3)
    have fS_jdk_internal_util_Preconditions_SIOOBE_FORMATTER_x3 := (O4.ext E3)
    have K3 : Keep h0 h3 [] := Keep.ext (Keep.refl h0 _) E3
    have Z3 : n0 ≤ h3.size := Nat.le_trans Z0 E3.1
    obtain ⟨cq4, kq4, q4a, q4b, q4c⟩ := isOf hZ e3 A3
    obtain ⟨_, _, ⟨T4, L4, k4, n4⟩, -, X4, ⟨Lc4, hQ4, l4, y4, z4⟩, st4⟩ := X3.virtualBack hx (y := (⟨"java/lang/String", "charAt", "(I)C"⟩ : MethodName)) (z := (⟨"java/lang/String", "charAt", "(I)C"⟩ : MethodName)) hown (mvT hZ (hw _ (List.mem_of_getElem? (i := 12) rfl))) (mvT hZ (hw _ (List.mem_of_getElem? (i := 13) rfl))) (notFace_of_selects (args := #[]) (mvT hZ (hw _ (List.mem_of_getElem? (i := 15) rfl)))) (mvT hZ (hw _ (List.mem_of_getElem? (i := 15) rfl))) (mvT hZ (hw _ (List.mem_of_getElem? (i := 14) rfl))) (by decide) (backOf (W := 0) (rm2 l Z a0 hw [] a3 (p2 &&& (15 : Int32)) b3 own_up (16 : Int32) GA GB h3 n0 Z3 ⟨A3, V3, C3⟩ R3 fS_java_lang_String_COMPACT_STRINGS_x3 P5 fS_jdk_internal_util_Preconditions_SIOOBE_FORMATTER_x3 rGB (own_v _)) hZ (hw _ (List.mem_of_getElem? (i := 16) rfl)) (hw _ (List.mem_of_getElem? (i := 5) rfl)) (by decide) (by decide)) q4a q4c (g := (mkF m 72 #[.val (.int p1), .val (.int p2), .val (.int (p1.toUInt32.toUInt16.toUInt32.toInt32)), .val (.int (own_hex (p1.toUInt32.toUInt16.toUInt32.toInt32))), .val (.int (1 : Int32)), .val (.int (p2 &&& (15 : Int32))), .unset] [(.int (p2 &&& (15 : Int32))), (.ref a3)])) rfl (by rw [hml]; rfl) (Steps.refl _) (argsL := [(.int (p2 &&& (15 : Int32)))]) (rest := []) (lenOf pd_0_1 rfl) rfl (by show 2 * 0 + _ ≤ _; exact Nat.le_of_eq rfl) (hb hby at_72) (fun _ _ => ⟨rfl, e3, (by decide : 2 + 0 ≤ _), (by decide : 68 + 0 ≤ _)⟩)
    dsimp only [Pt.U, Pt.locs, Pt.cells, Pt.slots] at X4 l4 y4 z4 st4 hQ4
    subst l4 y4 z4
    obtain ⟨rfl, N4q, e4⟩ := hQ4
    have N4 := Fr.app N1 N4q
    obtain ⟨_, _, ⟨T5, L5, k5, n5⟩, -, X5, ⟨Lc5, hQ5, l5, y5, z5⟩, st5⟩ := Jvm.LawKit.callS X4 hx (y := (⟨"com/example/door3/door3/uri/PercentEncoding", "hexDigit", "(C)I"⟩ : MethodName)) hown (mvT hZ (hw _ (List.mem_of_getElem? (i := 0) rfl))) (mvT hZ (hw _ (List.mem_of_getElem? (i := 1) rfl))) (mvT hZ (hw _ (List.mem_of_getElem? (i := 2) rfl))) (mvT hZ (hw _ (List.mem_of_getElem? (i := 3) rfl))) (by decide) (backOf (W := 0) (rm1 l Z a0 hw [] (own_c2 (p2 &&& (15 : Int32)) own_up (16 : Int32))  h3 n0 Z3 ) hZ (hw _ (List.mem_of_getElem? (i := 3) rfl)) (hw _ (List.mem_of_getElem? (i := 2) rfl)) (by decide) (by decide)) (g := (mkF m 75 #[.val (.int p1), .val (.int p2), .val (.int (p1.toUInt32.toUInt16.toUInt32.toInt32)), .val (.int (own_hex (p1.toUInt32.toUInt16.toUInt32.toInt32))), .val (.int (1 : Int32)), .val (.int (p2 &&& (15 : Int32))), .unset] [(.int (own_c2 (p2 &&& (15 : Int32)) own_up (16 : Int32)))])) rfl (by rw [hml]; rfl) (argsL := [(.int (own_c2 (p2 &&& (15 : Int32)) own_up (16 : Int32)))]) (rest := []) (lenOf pd_0_0 rfl) rfl (by show 2 * 0 + _ ≤ _; exact Nat.le_of_eq rfl) (hb hby at_75) (fun _ _ => ⟨rfl, e4, (by decide : 2 + 0 ≤ _), (by decide : 68 + 0 ≤ _)⟩)
    dsimp only [Pt.U, Pt.locs, Pt.cells, Pt.slots] at X5 l5 y5 z5 st5 hQ5
    subst l5 y5 z5
    obtain ⟨rfl, N5q, e5⟩ := hQ5
    have N5 := Fr.app N4 N5q
    obtain ⟨a6, T6, h6, b6, X6, e6, E6, hSs, hZ, hown, A6, C6, V6, R6, I6, Lt6, Wv6, st6⟩ := own_ldc (s := s) (vm0 := T3.vm) X5 hx hZ hown (hw _ (List.mem_of_getElem? (i := 37) rfl)) wS e5 hSs (own_fr hh hn0 N5) hkeep I3 (by decide) hheld21 hcw (L := own_L21) (z := 16) ht_21 (by decide) (by decide) (g := (mkF m 83 #[.val (.int p1), .val (.int p2), .val (.int (p1.toUInt32.toUInt16.toUInt32.toInt32)), .val (.int (own_hex (p1.toUInt32.toUInt16.toUInt32.toInt32))), .val (.int (1 : Int32)), .val (.int (p2 &&& (15 : Int32))), .unset] [])) rfl (hb hby at_83) (n := 64) (by decide) (by decide) (by decide) (by decide)
    have fS_java_lang_String_COMPACT_STRINGS_x6 := (fS_java_lang_String_COMPACT_STRINGS_x3.ext E6)
    have fS_jdk_internal_util_Preconditions_SIOOBE_FORMATTER_x6 := (fS_jdk_internal_util_Preconditions_SIOOBE_FORMATTER_x3.ext E6)
    have fE_a3_x6 := (A3.ext E6)
    have fF_a3_coder_x6 := (C3.ext E6)
    have fF_a3_value_x6 := (V3.ext E6)
    have fA_b3_x6 := (R3.ext E6)
    have Lt6_13 := Lit.stays Lt3 Wv6
    have K6 : Keep h0 h6 [] := Keep.ext K3 E6
    have Z6 : n0 ≤ h6.size := Nat.le_trans Z3 E6.1
    obtain ⟨cq7, kq7, q7a, q7b, q7c⟩ := isOf hZ e6 A6
    obtain ⟨_, _, ⟨T7, L7, k7, n7⟩, -, X7, ⟨Lc7, hQ7, l7, y7, z7⟩, st7⟩ := X6.virtualBack hx (y := (⟨"java/lang/String", "charAt", "(I)C"⟩ : MethodName)) (z := (⟨"java/lang/String", "charAt", "(I)C"⟩ : MethodName)) hown (mvT hZ (hw _ (List.mem_of_getElem? (i := 12) rfl))) (mvT hZ (hw _ (List.mem_of_getElem? (i := 13) rfl))) (notFace_of_selects (args := #[]) (mvT hZ (hw _ (List.mem_of_getElem? (i := 15) rfl)))) (mvT hZ (hw _ (List.mem_of_getElem? (i := 15) rfl))) (mvT hZ (hw _ (List.mem_of_getElem? (i := 14) rfl))) (by decide) (backOf (W := 0) (rm2 l Z a0 hw [] a6 (p2 &&& (15 : Int32)) b6 own_lo (16 : Int32) GA GB h6 n0 Z6 ⟨A6, V6, C6⟩ R6 fS_java_lang_String_COMPACT_STRINGS_x6 P5 fS_jdk_internal_util_Preconditions_SIOOBE_FORMATTER_x6 rGB (own_v _)) hZ (hw _ (List.mem_of_getElem? (i := 16) rfl)) (hw _ (List.mem_of_getElem? (i := 5) rfl)) (by decide) (by decide)) q7a q7c (g := (mkF m 87 #[.val (.int p1), .val (.int p2), .val (.int (p1.toUInt32.toUInt16.toUInt32.toInt32)), .val (.int (own_hex (p1.toUInt32.toUInt16.toUInt32.toInt32))), .val (.int (1 : Int32)), .val (.int (p2 &&& (15 : Int32))), .unset] [(.int (p2 &&& (15 : Int32))), (.ref a6)])) rfl (by rw [hml]; rfl) (Steps.refl _) (argsL := [(.int (p2 &&& (15 : Int32)))]) (rest := []) (lenOf pd_0_1 rfl) rfl (by show 2 * 0 + _ ≤ _; exact Nat.le_of_eq rfl) (hb hby at_87) (fun _ _ => ⟨rfl, e6, (by decide : 4 + 0 ≤ _), (by decide : 136 + 0 ≤ _)⟩)
    dsimp only [Pt.U, Pt.locs, Pt.cells, Pt.slots] at X7 l7 y7 z7 st7 hQ7
    subst l7 y7 z7
    obtain ⟨rfl, N7q, e7⟩ := hQ7
    have N7 := Fr.app N5 N7q
    obtain ⟨_, _, ⟨T8, L8, k8, n8⟩, -, X8, ⟨Lc8, hQ8, l8, y8, z8⟩, st8⟩ := Jvm.LawKit.callS X7 hx (y := (⟨"com/example/door3/door3/uri/PercentEncoding", "hexDigit", "(C)I"⟩ : MethodName)) hown (mvT hZ (hw _ (List.mem_of_getElem? (i := 0) rfl))) (mvT hZ (hw _ (List.mem_of_getElem? (i := 1) rfl))) (mvT hZ (hw _ (List.mem_of_getElem? (i := 2) rfl))) (mvT hZ (hw _ (List.mem_of_getElem? (i := 3) rfl))) (by decide) (backOf (W := 0) (rm1 l Z a0 hw [] (own_c2 (p2 &&& (15 : Int32)) own_lo (16 : Int32))  h6 n0 Z6 ) hZ (hw _ (List.mem_of_getElem? (i := 3) rfl)) (hw _ (List.mem_of_getElem? (i := 2) rfl)) (by decide) (by decide)) (g := (mkF m 90 #[.val (.int p1), .val (.int p2), .val (.int (p1.toUInt32.toUInt16.toUInt32.toInt32)), .val (.int (own_hex (p1.toUInt32.toUInt16.toUInt32.toInt32))), .val (.int (1 : Int32)), .val (.int (p2 &&& (15 : Int32))), .unset] [(.int (own_c2 (p2 &&& (15 : Int32)) own_lo (16 : Int32)))])) rfl (by rw [hml]; rfl) (argsL := [(.int (own_c2 (p2 &&& (15 : Int32)) own_lo (16 : Int32)))]) (rest := []) (lenOf pd_0_0 rfl) rfl (by show 2 * 0 + _ ≤ _; exact Nat.le_of_eq rfl) (hb hby at_90) (fun _ _ => ⟨rfl, e7, (by decide : 4 + 0 ≤ _), (by decide : 136 + 0 ≤ _)⟩)
    dsimp only [Pt.U, Pt.locs, Pt.cells, Pt.slots] at X8 l8 y8 z8 st8 hQ8
    subst l8 y8 z8
    obtain ⟨rfl, N8q, e8⟩ := hQ8
    have N8 := Fr.app N7 N8q
    refine own_preW (A := T8.setTop (mkF m 120 #[.val (.int p1), .val (.int p2), .val (.int (p1.toUInt32.toUInt16.toUInt32.toInt32)), .val (.int (own_hex (p1.toUInt32.toUInt16.toUInt32.toInt32))), .val (.int (1 : Int32)), .val (.int (p2 &&& (15 : Int32))), .val (.int (1 : Int32))] [(.int (1 : Int32))])) (fun tt kt => ?_) ?_
    · show Steps p.tables e below (T1.setTop (mkF m 10 #[.val (.int p1), .val (.int p2), .val (.int (p1.toUInt32.toUInt16.toUInt32.toInt32)), .val (.int (own_hex (p1.toUInt32.toUInt16.toUInt32.toInt32))), .unset, .unset, .unset] [(.int (-1 : Int32)), (.int (own_hex (p1.toUInt32.toUInt16.toUInt32.toInt32)))])) _
      refine XS.icmpNo X1.here hx rfl (hb hby at_10) rfl (teq hc10_2).2 ?_
      refine XS.iconst X1.here hx rfl (hb hby at_13) ?_
      refine XS.istore X1.here hx rfl (hb hby at_14) rfl (l' := #[.val (.int p1), .val (.int p2), .val (.int (p1.toUInt32.toUInt16.toUInt32.toInt32)), .val (.int (own_hex (p1.toUInt32.toUInt16.toUInt32.toInt32))), .val (.int (1 : Int32)), .unset, .unset]) rfl ?_
      refine XS.goto X1.here hx rfl (pc0 := 16) (pc' := 62) rfl (hb hby at_16) (by decide) (by decide) ?_
      show Steps p.tables e below (T1.setTop (mkF m 62 #[.val (.int p1), .val (.int p2), .val (.int (p1.toUInt32.toUInt16.toUInt32.toInt32)), .val (.int (own_hex (p1.toUInt32.toUInt16.toUInt32.toInt32))), .val (.int (1 : Int32)), .unset, .unset] [])) _
      refine XS.iloadN X1.here hx rfl (hb hby at_62) rfl ?_
      refine XS.bipush X1.here hx rfl (hb hby at_63) ?_
      refine XS.iand X1.here hx rfl (hb hby at_65) rfl ?_
      refine XS.istore X1.here hx rfl (hb hby at_66) rfl (l' := #[.val (.int p1), .val (.int p2), .val (.int (p1.toUInt32.toUInt16.toUInt32.toInt32)), .val (.int (own_hex (p1.toUInt32.toUInt16.toUInt32.toInt32))), .val (.int (1 : Int32)), .val (.int (p2 &&& (15 : Int32))), .unset]) rfl ?_
      show Steps p.tables e below (T1.setTop (mkF m 68 #[.val (.int p1), .val (.int p2), .val (.int (p1.toUInt32.toUInt16.toUInt32.toInt32)), .val (.int (own_hex (p1.toUInt32.toUInt16.toUInt32.toInt32))), .val (.int (1 : Int32)), .val (.int (p2 &&& (15 : Int32))), .unset] [])) _
      refine st3 _ ?_
      show Steps p.tables e below (T3.setTop (mkF m 70 #[.val (.int p1), .val (.int p2), .val (.int (p1.toUInt32.toUInt16.toUInt32.toInt32)), .val (.int (own_hex (p1.toUInt32.toUInt16.toUInt32.toInt32))), .val (.int (1 : Int32)), .val (.int (p2 &&& (15 : Int32))), .unset] [(.ref a3)])) _
      refine XS.iload X3.here hx rfl (hb hby at_70) rfl ?_
      show Steps p.tables e below (T3.setTop (mkF m 72 #[.val (.int p1), .val (.int p2), .val (.int (p1.toUInt32.toUInt16.toUInt32.toInt32)), .val (.int (own_hex (p1.toUInt32.toUInt16.toUInt32.toInt32))), .val (.int (1 : Int32)), .val (.int (p2 &&& (15 : Int32))), .unset] [(.int (p2 &&& (15 : Int32))), (.ref a3)])) _
      refine st4.trans ?_
      show Steps p.tables e below (T4.setTop (mkF m 75 #[.val (.int p1), .val (.int p2), .val (.int (p1.toUInt32.toUInt16.toUInt32.toInt32)), .val (.int (own_hex (p1.toUInt32.toUInt16.toUInt32.toInt32))), .val (.int (1 : Int32)), .val (.int (p2 &&& (15 : Int32))), .unset] [(.int (own_c2 (p2 &&& (15 : Int32)) own_up (16 : Int32)))])) _
      refine st5 _ ?_
      show Steps p.tables e below (T5.setTop (mkF m 78 #[.val (.int p1), .val (.int p2), .val (.int (p1.toUInt32.toUInt16.toUInt32.toInt32)), .val (.int (own_hex (p1.toUInt32.toUInt16.toUInt32.toInt32))), .val (.int (1 : Int32)), .val (.int (p2 &&& (15 : Int32))), .unset] [(.int (own_hex (own_c2 (p2 &&& (15 : Int32)) own_up (16 : Int32))))])) _
      refine XS.iload X5.here hx rfl (hb hby at_78) rfl ?_
      refine XS.icmpNo X5.here hx rfl (hb hby at_80) rfl (teq ((own_bup _) : (own_hex (own_c2 (p2 &&& (15 : Int32)) own_up (16 : Int32))) = (p2 &&& (15 : Int32)))).2 ?_
      show Steps p.tables e below (T5.setTop (mkF m 83 #[.val (.int p1), .val (.int p2), .val (.int (p1.toUInt32.toUInt16.toUInt32.toInt32)), .val (.int (own_hex (p1.toUInt32.toUInt16.toUInt32.toInt32))), .val (.int (1 : Int32)), .val (.int (p2 &&& (15 : Int32))), .unset] [])) _
      refine st6 _ ?_
      show Steps p.tables e below (T6.setTop (mkF m 85 #[.val (.int p1), .val (.int p2), .val (.int (p1.toUInt32.toUInt16.toUInt32.toInt32)), .val (.int (own_hex (p1.toUInt32.toUInt16.toUInt32.toInt32))), .val (.int (1 : Int32)), .val (.int (p2 &&& (15 : Int32))), .unset] [(.ref a6)])) _
      refine XS.iload X6.here hx rfl (hb hby at_85) rfl ?_
      show Steps p.tables e below (T6.setTop (mkF m 87 #[.val (.int p1), .val (.int p2), .val (.int (p1.toUInt32.toUInt16.toUInt32.toInt32)), .val (.int (own_hex (p1.toUInt32.toUInt16.toUInt32.toInt32))), .val (.int (1 : Int32)), .val (.int (p2 &&& (15 : Int32))), .unset] [(.int (p2 &&& (15 : Int32))), (.ref a6)])) _
      refine st7.trans ?_
      show Steps p.tables e below (T7.setTop (mkF m 90 #[.val (.int p1), .val (.int p2), .val (.int (p1.toUInt32.toUInt16.toUInt32.toInt32)), .val (.int (own_hex (p1.toUInt32.toUInt16.toUInt32.toInt32))), .val (.int (1 : Int32)), .val (.int (p2 &&& (15 : Int32))), .unset] [(.int (own_c2 (p2 &&& (15 : Int32)) own_lo (16 : Int32)))])) _
      refine st8 _ ?_
      show Steps p.tables e below (T8.setTop (mkF m 93 #[.val (.int p1), .val (.int p2), .val (.int (p1.toUInt32.toUInt16.toUInt32.toInt32)), .val (.int (own_hex (p1.toUInt32.toUInt16.toUInt32.toInt32))), .val (.int (1 : Int32)), .val (.int (p2 &&& (15 : Int32))), .unset] [(.int (own_hex (own_c2 (p2 &&& (15 : Int32)) own_lo (16 : Int32))))])) _
      refine XS.iload X8.here hx rfl (hb hby at_93) rfl ?_
      refine XS.icmpNo X8.here hx rfl (hb hby at_95) rfl (teq ((own_blo _) : (own_hex (own_c2 (p2 &&& (15 : Int32)) own_lo (16 : Int32))) = (p2 &&& (15 : Int32)))).2 ?_
      refine XS.iconst X8.here hx rfl (hb hby at_98) ?_
      refine XS.goto X8.here hx rfl (pc0 := 99) (pc' := 103) rfl (hb hby at_99) (by decide) (by decide) ?_
      show Steps p.tables e below (T8.setTop (mkF m 103 #[.val (.int p1), .val (.int p2), .val (.int (p1.toUInt32.toUInt16.toUInt32.toInt32)), .val (.int (own_hex (p1.toUInt32.toUInt16.toUInt32.toInt32))), .val (.int (1 : Int32)), .val (.int (p2 &&& (15 : Int32))), .unset] [(.int (1 : Int32))])) _
      refine XS.istore X8.here hx rfl (hb hby at_103) rfl (l' := #[.val (.int p1), .val (.int p2), .val (.int (p1.toUInt32.toUInt16.toUInt32.toInt32)), .val (.int (own_hex (p1.toUInt32.toUInt16.toUInt32.toInt32))), .val (.int (1 : Int32)), .val (.int (p2 &&& (15 : Int32))), .val (.int (1 : Int32))]) rfl ?_
      refine XS.iload X8.here hx rfl (hb hby at_105) rfl ?_
      refine XS.ifNo X8.here hx rfl (hb hby at_107) rfl ((if0 _ _).trans (feq ((by decide) : ¬ ((1 : Int32) = (0 : Int32)))).1) ?_
      refine XS.iload X8.here hx rfl (hb hby at_110) rfl ?_
      show Steps p.tables e below (T8.setTop (mkF m 112 #[.val (.int p1), .val (.int p2), .val (.int (p1.toUInt32.toUInt16.toUInt32.toInt32)), .val (.int (own_hex (p1.toUInt32.toUInt16.toUInt32.toInt32))), .val (.int (1 : Int32)), .val (.int (p2 &&& (15 : Int32))), .val (.int (1 : Int32))] [(.int (1 : Int32))])) _
      refine XS.ifNo X8.here hx rfl (hb hby at_112) rfl ((if0 _ _).trans (feq ((by decide) : ¬ ((1 : Int32) = (0 : Int32)))).1) ?_
      refine XS.iconst X8.here hx rfl (hb hby at_115) ?_
      refine XS.goto X8.here hx rfl (pc0 := 116) (pc' := 120) rfl (hb hby at_116) (by decide) (by decide) ?_
      exact kt
    show own_EndW p e below s (T8.setTop (mkF m 120 #[.val (.int p1), .val (.int p2), .val (.int (p1.toUInt32.toUInt16.toUInt32.toInt32)), .val (.int (own_hex (p1.toUInt32.toUInt16.toUInt32.toInt32))), .val (.int (1 : Int32)), .val (.int (p2 &&& (15 : Int32))), .val (.int (1 : Int32))] [(.int (1 : Int32))])) (Q0 Z p1 p2 GA GB h0 n0) room_1.cells room_1.slots
    obtain ⟨fs, hr, hrun, hended, hEnd⟩ := Stand.leaveW (s := s) (vm₁ := T6.vm) X8 hSs (by rw [e8]; exact Nat.le_refl _) (v := some (.int (1 : Int32))) (fun h => by rw [Bd.returns] at h; cases h)
    refine ⟨_, _, ?_, hrun, hended, _, _, rfl, ?_, hEnd.1, hEnd.2.1, hEnd.2.2.1, hEnd.2.2.2.mono (by decide) (by decide)⟩
    · exact retN X8 hx (t := .boolean) Bd.returns (by simp) (hb hby at_120) hr
    · show Q0 Z p1 p2 GA GB h0 n0 _ T8.heap _
      rw [e8]
      exact ⟨rfl, N8⟩
  · obtain ⟨a9, T9, h9, b9, X9, e9, E9, hSs, hZ, hown, A9, C9, V9, R9, I9, Lt9, Wv9, st9⟩ := own_ldc (s := s) (vm0 := s.vm) X1 hx hZ hown (hw _ (List.mem_of_getElem? (i := 4) rfl)) wS e1 hSs (own_fr hh hn0 N1) hkeep I0 (by decide) hheld13 hcw (L := own_L13) (z := 16) ht_13 (by decide) (by decide) (g := (mkF m 30 #[.val (.int p1), .val (.int p2), .val (.int (p1.toUInt32.toUInt16.toUInt32.toInt32)), .val (.int (own_hex (p1.toUInt32.toUInt16.toUInt32.toInt32))), .unset, .unset, .unset] [(.int (p1.toUInt32.toUInt16.toUInt32.toInt32))])) rfl (hb hby at_30) (n := 64) (by decide) (by decide) (by decide) (by decide)
    have fS_java_lang_String_COMPACT_STRINGS_x9 := (O2.ext E9)
    have fS_jdk_internal_util_Preconditions_SIOOBE_FORMATTER_x9 := (O4.ext E9)
    have K9 : Keep h0 h9 [] := Keep.ext (Keep.refl h0 _) E9
    have Z9 : n0 ≤ h9.size := Nat.le_trans Z0 E9.1
    obtain ⟨cq10, kq10, q10a, q10b, q10c⟩ := isOf hZ e9 A9
    obtain ⟨_, _, ⟨T10, L10, k10, n10⟩, -, X10, ⟨Lc10, hQ10, l10, y10, z10⟩, st10⟩ := X9.virtualBack hx (y := (⟨"java/lang/String", "charAt", "(I)C"⟩ : MethodName)) (z := (⟨"java/lang/String", "charAt", "(I)C"⟩ : MethodName)) hown (mvT hZ (hw _ (List.mem_of_getElem? (i := 12) rfl))) (mvT hZ (hw _ (List.mem_of_getElem? (i := 13) rfl))) (notFace_of_selects (args := #[]) (mvT hZ (hw _ (List.mem_of_getElem? (i := 15) rfl)))) (mvT hZ (hw _ (List.mem_of_getElem? (i := 15) rfl))) (mvT hZ (hw _ (List.mem_of_getElem? (i := 14) rfl))) (by decide) (backOf (W := 1) (rm2 l Z a0 hw [] a9 (own_hex (p1.toUInt32.toUInt16.toUInt32.toInt32)) b9 own_up (16 : Int32) GA GB h9 n0 Z9 ⟨A9, V9, C9⟩ R9 fS_java_lang_String_COMPACT_STRINGS_x9 P5 fS_jdk_internal_util_Preconditions_SIOOBE_FORMATTER_x9 rGB (own_hexR _ hc10_2)) hZ (hw _ (List.mem_of_getElem? (i := 16) rfl)) (hw _ (List.mem_of_getElem? (i := 5) rfl)) (by decide) (by decide)) q10a q10c (g := (mkF m 33 #[.val (.int p1), .val (.int p2), .val (.int (p1.toUInt32.toUInt16.toUInt32.toInt32)), .val (.int (own_hex (p1.toUInt32.toUInt16.toUInt32.toInt32))), .unset, .unset, .unset] [(.int (own_hex (p1.toUInt32.toUInt16.toUInt32.toInt32))), (.ref a9), (.int (p1.toUInt32.toUInt16.toUInt32.toInt32))])) rfl (by rw [hml]; rfl) (Steps.refl _) (argsL := [(.int (own_hex (p1.toUInt32.toUInt16.toUInt32.toInt32)))]) (rest := [(.int (p1.toUInt32.toUInt16.toUInt32.toInt32))]) (lenOf pd_0_1 rfl) rfl (by show 2 * 0 + _ ≤ _; exact Nat.le_of_eq rfl) (hb hby at_33) (fun _ _ => ⟨rfl, e9, (by decide : 2 + 0 ≤ _), (by decide : 68 + 0 ≤ _)⟩)
    dsimp only [Pt.U, Pt.locs, Pt.cells, Pt.slots] at X10 l10 y10 z10 st10 hQ10
    subst l10 y10 z10
    obtain ⟨rfl, N10q, e10⟩ := hQ10
    have N10 := Fr.app N1 N10q
    refine own_preW (A := T10.setTop (mkF m 36 #[.val (.int p1), .val (.int p2), .val (.int (p1.toUInt32.toUInt16.toUInt32.toInt32)), .val (.int (own_hex (p1.toUInt32.toUInt16.toUInt32.toInt32))), .unset, .unset, .unset] [(.int (own_c2 (own_hex (p1.toUInt32.toUInt16.toUInt32.toInt32)) own_up (16 : Int32))), (.int (p1.toUInt32.toUInt16.toUInt32.toInt32))])) (fun tt kt => ?_) ?_
    · show Steps p.tables e below (T1.setTop (mkF m 10 #[.val (.int p1), .val (.int p2), .val (.int (p1.toUInt32.toUInt16.toUInt32.toInt32)), .val (.int (own_hex (p1.toUInt32.toUInt16.toUInt32.toInt32))), .unset, .unset, .unset] [(.int (-1 : Int32)), (.int (own_hex (p1.toUInt32.toUInt16.toUInt32.toInt32)))])) _
      refine XS.icmpYes X1.here hx rfl (pc0 := 10) (pc' := 19) rfl (hb hby at_10) rfl (feq hc10_2).2 (by decide) (by decide) ?_
      refine XS.iloadN X1.here hx rfl (hb hby at_19) rfl ?_
      refine XS.ifNo X1.here hx rfl (hb hby at_20) rfl ((if0 _ _).trans (flt ((own_hexR _ hc10_2).1 : ¬ ((own_hex (p1.toUInt32.toUInt16.toUInt32.toInt32)) < (0 : Int32)))).1) ?_
      refine XS.iloadN X1.here hx rfl (hb hby at_23) rfl ?_
      show Steps p.tables e below (T1.setTop (mkF m 24 #[.val (.int p1), .val (.int p2), .val (.int (p1.toUInt32.toUInt16.toUInt32.toInt32)), .val (.int (own_hex (p1.toUInt32.toUInt16.toUInt32.toInt32))), .unset, .unset, .unset] [(.int (own_hex (p1.toUInt32.toUInt16.toUInt32.toInt32)))])) _
      refine XS.bipush X1.here hx rfl (hb hby at_24) ?_
      refine XS.icmpNo X1.here hx rfl (hb hby at_26) rfl (flt ((own_hexT _ hc10_2) : ¬ ((15 : Int32) < (own_hex (p1.toUInt32.toUInt16.toUInt32.toInt32))))).2.2.1 ?_
      refine XS.iloadN X1.here hx rfl (hb hby at_29) rfl ?_
      show Steps p.tables e below (T1.setTop (mkF m 30 #[.val (.int p1), .val (.int p2), .val (.int (p1.toUInt32.toUInt16.toUInt32.toInt32)), .val (.int (own_hex (p1.toUInt32.toUInt16.toUInt32.toInt32))), .unset, .unset, .unset] [(.int (p1.toUInt32.toUInt16.toUInt32.toInt32))])) _
      refine st9 _ ?_
      show Steps p.tables e below (T9.setTop (mkF m 32 #[.val (.int p1), .val (.int p2), .val (.int (p1.toUInt32.toUInt16.toUInt32.toInt32)), .val (.int (own_hex (p1.toUInt32.toUInt16.toUInt32.toInt32))), .unset, .unset, .unset] [(.ref a9), (.int (p1.toUInt32.toUInt16.toUInt32.toInt32))])) _
      refine XS.iloadN X9.here hx rfl (hb hby at_32) rfl ?_
      show Steps p.tables e below (T9.setTop (mkF m 33 #[.val (.int p1), .val (.int p2), .val (.int (p1.toUInt32.toUInt16.toUInt32.toInt32)), .val (.int (own_hex (p1.toUInt32.toUInt16.toUInt32.toInt32))), .unset, .unset, .unset] [(.int (own_hex (p1.toUInt32.toUInt16.toUInt32.toInt32))), (.ref a9), (.int (p1.toUInt32.toUInt16.toUInt32.toInt32))])) _
      refine st10.trans ?_
      exact kt
    show own_EndW p e below s (T10.setTop (mkF m 36 #[.val (.int p1), .val (.int p2), .val (.int (p1.toUInt32.toUInt16.toUInt32.toInt32)), .val (.int (own_hex (p1.toUInt32.toUInt16.toUInt32.toInt32))), .unset, .unset, .unset] [(.int (own_c2 (own_hex (p1.toUInt32.toUInt16.toUInt32.toInt32)) own_up (16 : Int32))), (.int (p1.toUInt32.toUInt16.toUInt32.toInt32))])) (Q0 Z p1 p2 GA GB h0 n0) room_1.cells room_1.slots
    by_cases hc36_11 : (p1.toUInt32.toUInt16.toUInt32.toInt32) = (own_c2 (own_hex (p1.toUInt32.toUInt16.toUInt32.toInt32)) own_up (16 : Int32))
    · refine own_preW (A := T10.setTop (mkF m 68 #[.val (.int p1), .val (.int p2), .val (.int (p1.toUInt32.toUInt16.toUInt32.toInt32)), .val (.int (own_hex (p1.toUInt32.toUInt16.toUInt32.toInt32))), .val (.int (1 : Int32)), .val (.int (p2 &&& (15 : Int32))), .unset] [])) (fun tt kt => ?_) ?_
      · show Steps p.tables e below (T10.setTop (mkF m 36 #[.val (.int p1), .val (.int p2), .val (.int (p1.toUInt32.toUInt16.toUInt32.toInt32)), .val (.int (own_hex (p1.toUInt32.toUInt16.toUInt32.toInt32))), .unset, .unset, .unset] [(.int (own_c2 (own_hex (p1.toUInt32.toUInt16.toUInt32.toInt32)) own_up (16 : Int32))), (.int (p1.toUInt32.toUInt16.toUInt32.toInt32))])) _
        refine XS.icmpYes X10.here hx rfl (pc0 := 36) (pc' := 49) rfl (hb hby at_36) rfl (teq hc36_11).1 (by decide) (by decide) ?_
        refine XS.iconst X10.here hx rfl (hb hby at_49) ?_
        refine XS.goto X10.here hx rfl (pc0 := 50) (pc' := 54) rfl (hb hby at_50) (by decide) (by decide) ?_
        refine XS.istore X10.here hx rfl (hb hby at_54) rfl (l' := #[.val (.int p1), .val (.int p2), .val (.int (p1.toUInt32.toUInt16.toUInt32.toInt32)), .val (.int (own_hex (p1.toUInt32.toUInt16.toUInt32.toInt32))), .val (.int (1 : Int32)), .unset, .unset]) rfl ?_
        show Steps p.tables e below (T10.setTop (mkF m 56 #[.val (.int p1), .val (.int p2), .val (.int (p1.toUInt32.toUInt16.toUInt32.toInt32)), .val (.int (own_hex (p1.toUInt32.toUInt16.toUInt32.toInt32))), .val (.int (1 : Int32)), .unset, .unset] [])) _
        refine XS.goto X10.here hx rfl (pc0 := 56) (pc' := 62) rfl (hb hby at_56) (by decide) (by decide) ?_
        refine XS.iloadN X10.here hx rfl (hb hby at_62) rfl ?_
        refine XS.bipush X10.here hx rfl (hb hby at_63) ?_
        refine XS.iand X10.here hx rfl (hb hby at_65) rfl ?_
        show Steps p.tables e below (T10.setTop (mkF m 66 #[.val (.int p1), .val (.int p2), .val (.int (p1.toUInt32.toUInt16.toUInt32.toInt32)), .val (.int (own_hex (p1.toUInt32.toUInt16.toUInt32.toInt32))), .val (.int (1 : Int32)), .unset, .unset] [(.int (p2 &&& (15 : Int32)))])) _
        refine XS.istore X10.here hx rfl (hb hby at_66) rfl (l' := #[.val (.int p1), .val (.int p2), .val (.int (p1.toUInt32.toUInt16.toUInt32.toInt32)), .val (.int (own_hex (p1.toUInt32.toUInt16.toUInt32.toInt32))), .val (.int (1 : Int32)), .val (.int (p2 &&& (15 : Int32))), .unset]) rfl ?_
        exact kt
      show own_EndW p e below s (T10.setTop (mkF m 68 #[.val (.int p1), .val (.int p2), .val (.int (p1.toUInt32.toUInt16.toUInt32.toInt32)), .val (.int (own_hex (p1.toUInt32.toUInt16.toUInt32.toInt32))), .val (.int (1 : Int32)), .val (.int (p2 &&& (15 : Int32))), .unset] [])) (Q0 Z p1 p2 GA GB h0 n0) room_1.cells room_1.slots
      have st12 := ldcAgain (s := s) (vm0 := T9.vm) X10 hx hZ hown (hw _ (List.mem_of_getElem? (i := 4) rfl)) Lt9 (g := (mkF m 68 #[.val (.int p1), .val (.int p2), .val (.int (p1.toUInt32.toUInt16.toUInt32.toInt32)), .val (.int (own_hex (p1.toUInt32.toUInt16.toUInt32.toInt32))), .val (.int (1 : Int32)), .val (.int (p2 &&& (15 : Int32))), .unset] [])) rfl (hb hby at_68)
      obtain ⟨cq13, kq13, q13a, q13b, q13c⟩ := isOf hZ e10 A9
      obtain ⟨_, _, ⟨T13, L13, k13, n13⟩, -, X13, ⟨Lc13, hQ13, l13, y13, z13⟩, st13⟩ := X10.virtualBack hx (y := (⟨"java/lang/String", "charAt", "(I)C"⟩ : MethodName)) (z := (⟨"java/lang/String", "charAt", "(I)C"⟩ : MethodName)) hown (mvT hZ (hw _ (List.mem_of_getElem? (i := 12) rfl))) (mvT hZ (hw _ (List.mem_of_getElem? (i := 13) rfl))) (notFace_of_selects (args := #[]) (mvT hZ (hw _ (List.mem_of_getElem? (i := 15) rfl)))) (mvT hZ (hw _ (List.mem_of_getElem? (i := 15) rfl))) (mvT hZ (hw _ (List.mem_of_getElem? (i := 14) rfl))) (by decide) (backOf (W := 0) (rm2 l Z a0 hw [] a9 (p2 &&& (15 : Int32)) b9 own_up (16 : Int32) GA GB h9 n0 Z9 ⟨A9, V9, C9⟩ R9 fS_java_lang_String_COMPACT_STRINGS_x9 P5 fS_jdk_internal_util_Preconditions_SIOOBE_FORMATTER_x9 rGB (own_v _)) hZ (hw _ (List.mem_of_getElem? (i := 16) rfl)) (hw _ (List.mem_of_getElem? (i := 5) rfl)) (by decide) (by decide)) q13a q13c (g := (mkF m 72 #[.val (.int p1), .val (.int p2), .val (.int (p1.toUInt32.toUInt16.toUInt32.toInt32)), .val (.int (own_hex (p1.toUInt32.toUInt16.toUInt32.toInt32))), .val (.int (1 : Int32)), .val (.int (p2 &&& (15 : Int32))), .unset] [(.int (p2 &&& (15 : Int32))), (.ref a9)])) rfl (by rw [hml]; rfl) (Steps.refl _) (argsL := [(.int (p2 &&& (15 : Int32)))]) (rest := []) (lenOf pd_0_1 rfl) rfl (by show 2 * 0 + _ ≤ _; exact Nat.le_of_eq rfl) (hb hby at_72) (fun _ _ => ⟨rfl, e10, (by decide : 2 + 0 ≤ _), (by decide : 68 + 0 ≤ _)⟩)
      dsimp only [Pt.U, Pt.locs, Pt.cells, Pt.slots] at X13 l13 y13 z13 st13 hQ13
      subst l13 y13 z13
      obtain ⟨rfl, N13q, e13⟩ := hQ13
      have N13 := Fr.app N10 N13q
      obtain ⟨_, _, ⟨T14, L14, k14, n14⟩, -, X14, ⟨Lc14, hQ14, l14, y14, z14⟩, st14⟩ := Jvm.LawKit.callS X13 hx (y := (⟨"com/example/door3/door3/uri/PercentEncoding", "hexDigit", "(C)I"⟩ : MethodName)) hown (mvT hZ (hw _ (List.mem_of_getElem? (i := 0) rfl))) (mvT hZ (hw _ (List.mem_of_getElem? (i := 1) rfl))) (mvT hZ (hw _ (List.mem_of_getElem? (i := 2) rfl))) (mvT hZ (hw _ (List.mem_of_getElem? (i := 3) rfl))) (by decide) (backOf (W := 0) (rm1 l Z a0 hw [] (own_c2 (p2 &&& (15 : Int32)) own_up (16 : Int32))  h9 n0 Z9 ) hZ (hw _ (List.mem_of_getElem? (i := 3) rfl)) (hw _ (List.mem_of_getElem? (i := 2) rfl)) (by decide) (by decide)) (g := (mkF m 75 #[.val (.int p1), .val (.int p2), .val (.int (p1.toUInt32.toUInt16.toUInt32.toInt32)), .val (.int (own_hex (p1.toUInt32.toUInt16.toUInt32.toInt32))), .val (.int (1 : Int32)), .val (.int (p2 &&& (15 : Int32))), .unset] [(.int (own_c2 (p2 &&& (15 : Int32)) own_up (16 : Int32)))])) rfl (by rw [hml]; rfl) (argsL := [(.int (own_c2 (p2 &&& (15 : Int32)) own_up (16 : Int32)))]) (rest := []) (lenOf pd_0_0 rfl) rfl (by show 2 * 0 + _ ≤ _; exact Nat.le_of_eq rfl) (hb hby at_75) (fun _ _ => ⟨rfl, e13, (by decide : 2 + 0 ≤ _), (by decide : 68 + 0 ≤ _)⟩)
      dsimp only [Pt.U, Pt.locs, Pt.cells, Pt.slots] at X14 l14 y14 z14 st14 hQ14
      subst l14 y14 z14
      obtain ⟨rfl, N14q, e14⟩ := hQ14
      have N14 := Fr.app N13 N14q
      obtain ⟨a15, T15, h15, b15, X15, e15, E15, hSs, hZ, hown, A15, C15, V15, R15, I15, Lt15, Wv15, st15⟩ := own_ldc (s := s) (vm0 := T9.vm) X14 hx hZ hown (hw _ (List.mem_of_getElem? (i := 37) rfl)) wS e14 hSs (own_fr hh hn0 N14) hkeep I9 (by decide) hheld21 hcw (L := own_L21) (z := 16) ht_21 (by decide) (by decide) (g := (mkF m 83 #[.val (.int p1), .val (.int p2), .val (.int (p1.toUInt32.toUInt16.toUInt32.toInt32)), .val (.int (own_hex (p1.toUInt32.toUInt16.toUInt32.toInt32))), .val (.int (1 : Int32)), .val (.int (p2 &&& (15 : Int32))), .unset] [])) rfl (hb hby at_83) (n := 64) (by decide) (by decide) (by decide) (by decide)
      have fS_java_lang_String_COMPACT_STRINGS_x15 := (fS_java_lang_String_COMPACT_STRINGS_x9.ext E15)
      have fS_jdk_internal_util_Preconditions_SIOOBE_FORMATTER_x15 := (fS_jdk_internal_util_Preconditions_SIOOBE_FORMATTER_x9.ext E15)
      have fE_a9_x15 := (A9.ext E15)
      have fF_a9_coder_x15 := (C9.ext E15)
      have fF_a9_value_x15 := (V9.ext E15)
      have fA_b9_x15 := (R9.ext E15)
      have Lt15_13 := Lit.stays Lt9 Wv15
      have K15 : Keep h0 h15 [] := Keep.ext K9 E15
      have Z15 : n0 ≤ h15.size := Nat.le_trans Z9 E15.1
      obtain ⟨cq16, kq16, q16a, q16b, q16c⟩ := isOf hZ e15 A15
      obtain ⟨_, _, ⟨T16, L16, k16, n16⟩, -, X16, ⟨Lc16, hQ16, l16, y16, z16⟩, st16⟩ := X15.virtualBack hx (y := (⟨"java/lang/String", "charAt", "(I)C"⟩ : MethodName)) (z := (⟨"java/lang/String", "charAt", "(I)C"⟩ : MethodName)) hown (mvT hZ (hw _ (List.mem_of_getElem? (i := 12) rfl))) (mvT hZ (hw _ (List.mem_of_getElem? (i := 13) rfl))) (notFace_of_selects (args := #[]) (mvT hZ (hw _ (List.mem_of_getElem? (i := 15) rfl)))) (mvT hZ (hw _ (List.mem_of_getElem? (i := 15) rfl))) (mvT hZ (hw _ (List.mem_of_getElem? (i := 14) rfl))) (by decide) (backOf (W := 0) (rm2 l Z a0 hw [] a15 (p2 &&& (15 : Int32)) b15 own_lo (16 : Int32) GA GB h15 n0 Z15 ⟨A15, V15, C15⟩ R15 fS_java_lang_String_COMPACT_STRINGS_x15 P5 fS_jdk_internal_util_Preconditions_SIOOBE_FORMATTER_x15 rGB (own_v _)) hZ (hw _ (List.mem_of_getElem? (i := 16) rfl)) (hw _ (List.mem_of_getElem? (i := 5) rfl)) (by decide) (by decide)) q16a q16c (g := (mkF m 87 #[.val (.int p1), .val (.int p2), .val (.int (p1.toUInt32.toUInt16.toUInt32.toInt32)), .val (.int (own_hex (p1.toUInt32.toUInt16.toUInt32.toInt32))), .val (.int (1 : Int32)), .val (.int (p2 &&& (15 : Int32))), .unset] [(.int (p2 &&& (15 : Int32))), (.ref a15)])) rfl (by rw [hml]; rfl) (Steps.refl _) (argsL := [(.int (p2 &&& (15 : Int32)))]) (rest := []) (lenOf pd_0_1 rfl) rfl (by show 2 * 0 + _ ≤ _; exact Nat.le_of_eq rfl) (hb hby at_87) (fun _ _ => ⟨rfl, e15, (by decide : 4 + 0 ≤ _), (by decide : 136 + 0 ≤ _)⟩)
      dsimp only [Pt.U, Pt.locs, Pt.cells, Pt.slots] at X16 l16 y16 z16 st16 hQ16
      subst l16 y16 z16
      obtain ⟨rfl, N16q, e16⟩ := hQ16
      have N16 := Fr.app N14 N16q
      obtain ⟨_, _, ⟨T17, L17, k17, n17⟩, -, X17, ⟨Lc17, hQ17, l17, y17, z17⟩, st17⟩ := Jvm.LawKit.callS X16 hx (y := (⟨"com/example/door3/door3/uri/PercentEncoding", "hexDigit", "(C)I"⟩ : MethodName)) hown (mvT hZ (hw _ (List.mem_of_getElem? (i := 0) rfl))) (mvT hZ (hw _ (List.mem_of_getElem? (i := 1) rfl))) (mvT hZ (hw _ (List.mem_of_getElem? (i := 2) rfl))) (mvT hZ (hw _ (List.mem_of_getElem? (i := 3) rfl))) (by decide) (backOf (W := 0) (rm1 l Z a0 hw [] (own_c2 (p2 &&& (15 : Int32)) own_lo (16 : Int32))  h15 n0 Z15 ) hZ (hw _ (List.mem_of_getElem? (i := 3) rfl)) (hw _ (List.mem_of_getElem? (i := 2) rfl)) (by decide) (by decide)) (g := (mkF m 90 #[.val (.int p1), .val (.int p2), .val (.int (p1.toUInt32.toUInt16.toUInt32.toInt32)), .val (.int (own_hex (p1.toUInt32.toUInt16.toUInt32.toInt32))), .val (.int (1 : Int32)), .val (.int (p2 &&& (15 : Int32))), .unset] [(.int (own_c2 (p2 &&& (15 : Int32)) own_lo (16 : Int32)))])) rfl (by rw [hml]; rfl) (argsL := [(.int (own_c2 (p2 &&& (15 : Int32)) own_lo (16 : Int32)))]) (rest := []) (lenOf pd_0_0 rfl) rfl (by show 2 * 0 + _ ≤ _; exact Nat.le_of_eq rfl) (hb hby at_90) (fun _ _ => ⟨rfl, e16, (by decide : 4 + 0 ≤ _), (by decide : 136 + 0 ≤ _)⟩)
      dsimp only [Pt.U, Pt.locs, Pt.cells, Pt.slots] at X17 l17 y17 z17 st17 hQ17
      subst l17 y17 z17
      obtain ⟨rfl, N17q, e17⟩ := hQ17
      have N17 := Fr.app N16 N17q
      refine own_preW (A := T17.setTop (mkF m 120 #[.val (.int p1), .val (.int p2), .val (.int (p1.toUInt32.toUInt16.toUInt32.toInt32)), .val (.int (own_hex (p1.toUInt32.toUInt16.toUInt32.toInt32))), .val (.int (1 : Int32)), .val (.int (p2 &&& (15 : Int32))), .val (.int (1 : Int32))] [(.int (1 : Int32))])) (fun tt kt => ?_) ?_
      · show Steps p.tables e below (T10.setTop (mkF m 68 #[.val (.int p1), .val (.int p2), .val (.int (p1.toUInt32.toUInt16.toUInt32.toInt32)), .val (.int (own_hex (p1.toUInt32.toUInt16.toUInt32.toInt32))), .val (.int (1 : Int32)), .val (.int (p2 &&& (15 : Int32))), .unset] [])) _
        refine st12 _ ?_
        show Steps p.tables e below (T10.setTop (mkF m 70 #[.val (.int p1), .val (.int p2), .val (.int (p1.toUInt32.toUInt16.toUInt32.toInt32)), .val (.int (own_hex (p1.toUInt32.toUInt16.toUInt32.toInt32))), .val (.int (1 : Int32)), .val (.int (p2 &&& (15 : Int32))), .unset] [(.ref a9)])) _
        refine XS.iload X10.here hx rfl (hb hby at_70) rfl ?_
        show Steps p.tables e below (T10.setTop (mkF m 72 #[.val (.int p1), .val (.int p2), .val (.int (p1.toUInt32.toUInt16.toUInt32.toInt32)), .val (.int (own_hex (p1.toUInt32.toUInt16.toUInt32.toInt32))), .val (.int (1 : Int32)), .val (.int (p2 &&& (15 : Int32))), .unset] [(.int (p2 &&& (15 : Int32))), (.ref a9)])) _
        refine st13.trans ?_
        show Steps p.tables e below (T13.setTop (mkF m 75 #[.val (.int p1), .val (.int p2), .val (.int (p1.toUInt32.toUInt16.toUInt32.toInt32)), .val (.int (own_hex (p1.toUInt32.toUInt16.toUInt32.toInt32))), .val (.int (1 : Int32)), .val (.int (p2 &&& (15 : Int32))), .unset] [(.int (own_c2 (p2 &&& (15 : Int32)) own_up (16 : Int32)))])) _
        refine st14 _ ?_
        show Steps p.tables e below (T14.setTop (mkF m 78 #[.val (.int p1), .val (.int p2), .val (.int (p1.toUInt32.toUInt16.toUInt32.toInt32)), .val (.int (own_hex (p1.toUInt32.toUInt16.toUInt32.toInt32))), .val (.int (1 : Int32)), .val (.int (p2 &&& (15 : Int32))), .unset] [(.int (own_hex (own_c2 (p2 &&& (15 : Int32)) own_up (16 : Int32))))])) _
        refine XS.iload X14.here hx rfl (hb hby at_78) rfl ?_
        refine XS.icmpNo X14.here hx rfl (hb hby at_80) rfl (teq ((own_bup _) : (own_hex (own_c2 (p2 &&& (15 : Int32)) own_up (16 : Int32))) = (p2 &&& (15 : Int32)))).2 ?_
        show Steps p.tables e below (T14.setTop (mkF m 83 #[.val (.int p1), .val (.int p2), .val (.int (p1.toUInt32.toUInt16.toUInt32.toInt32)), .val (.int (own_hex (p1.toUInt32.toUInt16.toUInt32.toInt32))), .val (.int (1 : Int32)), .val (.int (p2 &&& (15 : Int32))), .unset] [])) _
        refine st15 _ ?_
        show Steps p.tables e below (T15.setTop (mkF m 85 #[.val (.int p1), .val (.int p2), .val (.int (p1.toUInt32.toUInt16.toUInt32.toInt32)), .val (.int (own_hex (p1.toUInt32.toUInt16.toUInt32.toInt32))), .val (.int (1 : Int32)), .val (.int (p2 &&& (15 : Int32))), .unset] [(.ref a15)])) _
        refine XS.iload X15.here hx rfl (hb hby at_85) rfl ?_
        show Steps p.tables e below (T15.setTop (mkF m 87 #[.val (.int p1), .val (.int p2), .val (.int (p1.toUInt32.toUInt16.toUInt32.toInt32)), .val (.int (own_hex (p1.toUInt32.toUInt16.toUInt32.toInt32))), .val (.int (1 : Int32)), .val (.int (p2 &&& (15 : Int32))), .unset] [(.int (p2 &&& (15 : Int32))), (.ref a15)])) _
        refine st16.trans ?_
        show Steps p.tables e below (T16.setTop (mkF m 90 #[.val (.int p1), .val (.int p2), .val (.int (p1.toUInt32.toUInt16.toUInt32.toInt32)), .val (.int (own_hex (p1.toUInt32.toUInt16.toUInt32.toInt32))), .val (.int (1 : Int32)), .val (.int (p2 &&& (15 : Int32))), .unset] [(.int (own_c2 (p2 &&& (15 : Int32)) own_lo (16 : Int32)))])) _
        refine st17 _ ?_
        show Steps p.tables e below (T17.setTop (mkF m 93 #[.val (.int p1), .val (.int p2), .val (.int (p1.toUInt32.toUInt16.toUInt32.toInt32)), .val (.int (own_hex (p1.toUInt32.toUInt16.toUInt32.toInt32))), .val (.int (1 : Int32)), .val (.int (p2 &&& (15 : Int32))), .unset] [(.int (own_hex (own_c2 (p2 &&& (15 : Int32)) own_lo (16 : Int32))))])) _
        refine XS.iload X17.here hx rfl (hb hby at_93) rfl ?_
        refine XS.icmpNo X17.here hx rfl (hb hby at_95) rfl (teq ((own_blo _) : (own_hex (own_c2 (p2 &&& (15 : Int32)) own_lo (16 : Int32))) = (p2 &&& (15 : Int32)))).2 ?_
        refine XS.iconst X17.here hx rfl (hb hby at_98) ?_
        refine XS.goto X17.here hx rfl (pc0 := 99) (pc' := 103) rfl (hb hby at_99) (by decide) (by decide) ?_
        show Steps p.tables e below (T17.setTop (mkF m 103 #[.val (.int p1), .val (.int p2), .val (.int (p1.toUInt32.toUInt16.toUInt32.toInt32)), .val (.int (own_hex (p1.toUInt32.toUInt16.toUInt32.toInt32))), .val (.int (1 : Int32)), .val (.int (p2 &&& (15 : Int32))), .unset] [(.int (1 : Int32))])) _
        refine XS.istore X17.here hx rfl (hb hby at_103) rfl (l' := #[.val (.int p1), .val (.int p2), .val (.int (p1.toUInt32.toUInt16.toUInt32.toInt32)), .val (.int (own_hex (p1.toUInt32.toUInt16.toUInt32.toInt32))), .val (.int (1 : Int32)), .val (.int (p2 &&& (15 : Int32))), .val (.int (1 : Int32))]) rfl ?_
        refine XS.iload X17.here hx rfl (hb hby at_105) rfl ?_
        refine XS.ifNo X17.here hx rfl (hb hby at_107) rfl ((if0 _ _).trans (feq ((by decide) : ¬ ((1 : Int32) = (0 : Int32)))).1) ?_
        refine XS.iload X17.here hx rfl (hb hby at_110) rfl ?_
        show Steps p.tables e below (T17.setTop (mkF m 112 #[.val (.int p1), .val (.int p2), .val (.int (p1.toUInt32.toUInt16.toUInt32.toInt32)), .val (.int (own_hex (p1.toUInt32.toUInt16.toUInt32.toInt32))), .val (.int (1 : Int32)), .val (.int (p2 &&& (15 : Int32))), .val (.int (1 : Int32))] [(.int (1 : Int32))])) _
        refine XS.ifNo X17.here hx rfl (hb hby at_112) rfl ((if0 _ _).trans (feq ((by decide) : ¬ ((1 : Int32) = (0 : Int32)))).1) ?_
        refine XS.iconst X17.here hx rfl (hb hby at_115) ?_
        refine XS.goto X17.here hx rfl (pc0 := 116) (pc' := 120) rfl (hb hby at_116) (by decide) (by decide) ?_
        exact kt
      show own_EndW p e below s (T17.setTop (mkF m 120 #[.val (.int p1), .val (.int p2), .val (.int (p1.toUInt32.toUInt16.toUInt32.toInt32)), .val (.int (own_hex (p1.toUInt32.toUInt16.toUInt32.toInt32))), .val (.int (1 : Int32)), .val (.int (p2 &&& (15 : Int32))), .val (.int (1 : Int32))] [(.int (1 : Int32))])) (Q0 Z p1 p2 GA GB h0 n0) room_1.cells room_1.slots
      obtain ⟨fs, hr, hrun, hended, hEnd⟩ := Stand.leaveW (s := s) (vm₁ := T15.vm) X17 hSs (by rw [e17]; exact Nat.le_refl _) (v := some (.int (1 : Int32))) (fun h => by rw [Bd.returns] at h; cases h)
      refine ⟨_, _, ?_, hrun, hended, _, _, rfl, ?_, hEnd.1, hEnd.2.1, hEnd.2.2.1, hEnd.2.2.2.mono (by decide) (by decide)⟩
      · exact retN X17 hx (t := .boolean) Bd.returns (by simp) (hb hby at_120) hr
      · show Q0 Z p1 p2 GA GB h0 n0 _ T17.heap _
        rw [e17]
        exact ⟨rfl, N17⟩
    · obtain ⟨a18, T18, h18, b18, X18, e18, E18, hSs, hZ, hown, A18, C18, V18, R18, I18, Lt18, Wv18, st18⟩ := own_ldc (s := s) (vm0 := T9.vm) X10 hx hZ hown (hw _ (List.mem_of_getElem? (i := 37) rfl)) wS e10 hSs (own_fr hh hn0 N10) hkeep I9 (by decide) hheld21 hcw (L := own_L21) (z := 16) ht_21 (by decide) (by decide) (g := (mkF m 40 #[.val (.int p1), .val (.int p2), .val (.int (p1.toUInt32.toUInt16.toUInt32.toInt32)), .val (.int (own_hex (p1.toUInt32.toUInt16.toUInt32.toInt32))), .unset, .unset, .unset] [(.int (p1.toUInt32.toUInt16.toUInt32.toInt32))])) rfl (hb hby at_40) (n := 64) (by decide) (by decide) (by decide) (by decide)
      have fS_java_lang_String_COMPACT_STRINGS_x18 := (fS_java_lang_String_COMPACT_STRINGS_x9.ext E18)
      have fS_jdk_internal_util_Preconditions_SIOOBE_FORMATTER_x18 := (fS_jdk_internal_util_Preconditions_SIOOBE_FORMATTER_x9.ext E18)
      have fE_a9_x18 := (A9.ext E18)
      have fF_a9_coder_x18 := (C9.ext E18)
      have fF_a9_value_x18 := (V9.ext E18)
      have fA_b9_x18 := (R9.ext E18)
      have Lt18_13 := Lit.stays Lt9 Wv18
      have K18 : Keep h0 h18 [] := Keep.ext K9 E18
      have Z18 : n0 ≤ h18.size := Nat.le_trans Z9 E18.1
      obtain ⟨cq19, kq19, q19a, q19b, q19c⟩ := isOf hZ e18 A18
      obtain ⟨_, _, ⟨T19, L19, k19, n19⟩, -, X19, ⟨Lc19, hQ19, l19, y19, z19⟩, st19⟩ := X18.virtualBack hx (y := (⟨"java/lang/String", "charAt", "(I)C"⟩ : MethodName)) (z := (⟨"java/lang/String", "charAt", "(I)C"⟩ : MethodName)) hown (mvT hZ (hw _ (List.mem_of_getElem? (i := 12) rfl))) (mvT hZ (hw _ (List.mem_of_getElem? (i := 13) rfl))) (notFace_of_selects (args := #[]) (mvT hZ (hw _ (List.mem_of_getElem? (i := 15) rfl)))) (mvT hZ (hw _ (List.mem_of_getElem? (i := 15) rfl))) (mvT hZ (hw _ (List.mem_of_getElem? (i := 14) rfl))) (by decide) (backOf (W := 1) (rm2 l Z a0 hw [] a18 (own_hex (p1.toUInt32.toUInt16.toUInt32.toInt32)) b18 own_lo (16 : Int32) GA GB h18 n0 Z18 ⟨A18, V18, C18⟩ R18 fS_java_lang_String_COMPACT_STRINGS_x18 P5 fS_jdk_internal_util_Preconditions_SIOOBE_FORMATTER_x18 rGB (own_hexR _ hc10_2)) hZ (hw _ (List.mem_of_getElem? (i := 16) rfl)) (hw _ (List.mem_of_getElem? (i := 5) rfl)) (by decide) (by decide)) q19a q19c (g := (mkF m 43 #[.val (.int p1), .val (.int p2), .val (.int (p1.toUInt32.toUInt16.toUInt32.toInt32)), .val (.int (own_hex (p1.toUInt32.toUInt16.toUInt32.toInt32))), .unset, .unset, .unset] [(.int (own_hex (p1.toUInt32.toUInt16.toUInt32.toInt32))), (.ref a18), (.int (p1.toUInt32.toUInt16.toUInt32.toInt32))])) rfl (by rw [hml]; rfl) (Steps.refl _) (argsL := [(.int (own_hex (p1.toUInt32.toUInt16.toUInt32.toInt32)))]) (rest := [(.int (p1.toUInt32.toUInt16.toUInt32.toInt32))]) (lenOf pd_0_1 rfl) rfl (by show 2 * 0 + _ ≤ _; exact Nat.le_of_eq rfl) (hb hby at_43) (fun _ _ => ⟨rfl, e18, (by decide : 4 + 0 ≤ _), (by decide : 136 + 0 ≤ _)⟩)
      dsimp only [Pt.U, Pt.locs, Pt.cells, Pt.slots] at X19 l19 y19 z19 st19 hQ19
      subst l19 y19 z19
      obtain ⟨rfl, N19q, e19⟩ := hQ19
      have N19 := Fr.app N10 N19q
      refine own_preW (A := T19.setTop (mkF m 68 #[.val (.int p1), .val (.int p2), .val (.int (p1.toUInt32.toUInt16.toUInt32.toInt32)), .val (.int (own_hex (p1.toUInt32.toUInt16.toUInt32.toInt32))), .val (.int (1 : Int32)), .val (.int (p2 &&& (15 : Int32))), .unset] [])) (fun tt kt => ?_) ?_
      · show Steps p.tables e below (T10.setTop (mkF m 36 #[.val (.int p1), .val (.int p2), .val (.int (p1.toUInt32.toUInt16.toUInt32.toInt32)), .val (.int (own_hex (p1.toUInt32.toUInt16.toUInt32.toInt32))), .unset, .unset, .unset] [(.int (own_c2 (own_hex (p1.toUInt32.toUInt16.toUInt32.toInt32)) own_up (16 : Int32))), (.int (p1.toUInt32.toUInt16.toUInt32.toInt32))])) _
        refine XS.icmpNo X10.here hx rfl (hb hby at_36) rfl (feq hc36_11).1 ?_
        refine XS.iloadN X10.here hx rfl (hb hby at_39) rfl ?_
        show Steps p.tables e below (T10.setTop (mkF m 40 #[.val (.int p1), .val (.int p2), .val (.int (p1.toUInt32.toUInt16.toUInt32.toInt32)), .val (.int (own_hex (p1.toUInt32.toUInt16.toUInt32.toInt32))), .unset, .unset, .unset] [(.int (p1.toUInt32.toUInt16.toUInt32.toInt32))])) _
        refine st18 _ ?_
        show Steps p.tables e below (T18.setTop (mkF m 42 #[.val (.int p1), .val (.int p2), .val (.int (p1.toUInt32.toUInt16.toUInt32.toInt32)), .val (.int (own_hex (p1.toUInt32.toUInt16.toUInt32.toInt32))), .unset, .unset, .unset] [(.ref a18), (.int (p1.toUInt32.toUInt16.toUInt32.toInt32))])) _
        refine XS.iloadN X18.here hx rfl (hb hby at_42) rfl ?_
        show Steps p.tables e below (T18.setTop (mkF m 43 #[.val (.int p1), .val (.int p2), .val (.int (p1.toUInt32.toUInt16.toUInt32.toInt32)), .val (.int (own_hex (p1.toUInt32.toUInt16.toUInt32.toInt32))), .unset, .unset, .unset] [(.int (own_hex (p1.toUInt32.toUInt16.toUInt32.toInt32))), (.ref a18), (.int (p1.toUInt32.toUInt16.toUInt32.toInt32))])) _
        refine st19.trans ?_
        show Steps p.tables e below (T19.setTop (mkF m 46 #[.val (.int p1), .val (.int p2), .val (.int (p1.toUInt32.toUInt16.toUInt32.toInt32)), .val (.int (own_hex (p1.toUInt32.toUInt16.toUInt32.toInt32))), .unset, .unset, .unset] [(.int (own_c2 (own_hex (p1.toUInt32.toUInt16.toUInt32.toInt32)) own_lo (16 : Int32))), (.int (p1.toUInt32.toUInt16.toUInt32.toInt32))])) _
        refine XS.icmpNo X19.here hx rfl (hb hby at_46) rfl (teq ((own_hexS _ hc10_2 hc36_11) : (p1.toUInt32.toUInt16.toUInt32.toInt32) = (own_c2 (own_hex (p1.toUInt32.toUInt16.toUInt32.toInt32)) own_lo (16 : Int32)))).2 ?_
        refine XS.iconst X19.here hx rfl (hb hby at_49) ?_
        refine XS.goto X19.here hx rfl (pc0 := 50) (pc' := 54) rfl (hb hby at_50) (by decide) (by decide) ?_
        refine XS.istore X19.here hx rfl (hb hby at_54) rfl (l' := #[.val (.int p1), .val (.int p2), .val (.int (p1.toUInt32.toUInt16.toUInt32.toInt32)), .val (.int (own_hex (p1.toUInt32.toUInt16.toUInt32.toInt32))), .val (.int (1 : Int32)), .unset, .unset]) rfl ?_
        show Steps p.tables e below (T19.setTop (mkF m 56 #[.val (.int p1), .val (.int p2), .val (.int (p1.toUInt32.toUInt16.toUInt32.toInt32)), .val (.int (own_hex (p1.toUInt32.toUInt16.toUInt32.toInt32))), .val (.int (1 : Int32)), .unset, .unset] [])) _
        refine XS.goto X19.here hx rfl (pc0 := 56) (pc' := 62) rfl (hb hby at_56) (by decide) (by decide) ?_
        refine XS.iloadN X19.here hx rfl (hb hby at_62) rfl ?_
        refine XS.bipush X19.here hx rfl (hb hby at_63) ?_
        refine XS.iand X19.here hx rfl (hb hby at_65) rfl ?_
        show Steps p.tables e below (T19.setTop (mkF m 66 #[.val (.int p1), .val (.int p2), .val (.int (p1.toUInt32.toUInt16.toUInt32.toInt32)), .val (.int (own_hex (p1.toUInt32.toUInt16.toUInt32.toInt32))), .val (.int (1 : Int32)), .unset, .unset] [(.int (p2 &&& (15 : Int32)))])) _
        refine XS.istore X19.here hx rfl (hb hby at_66) rfl (l' := #[.val (.int p1), .val (.int p2), .val (.int (p1.toUInt32.toUInt16.toUInt32.toInt32)), .val (.int (own_hex (p1.toUInt32.toUInt16.toUInt32.toInt32))), .val (.int (1 : Int32)), .val (.int (p2 &&& (15 : Int32))), .unset]) rfl ?_
        exact kt
      show own_EndW p e below s (T19.setTop (mkF m 68 #[.val (.int p1), .val (.int p2), .val (.int (p1.toUInt32.toUInt16.toUInt32.toInt32)), .val (.int (own_hex (p1.toUInt32.toUInt16.toUInt32.toInt32))), .val (.int (1 : Int32)), .val (.int (p2 &&& (15 : Int32))), .unset] [])) (Q0 Z p1 p2 GA GB h0 n0) room_1.cells room_1.slots
      have st20 := ldcAgain (s := s) (vm0 := T18.vm) X19 hx hZ hown (hw _ (List.mem_of_getElem? (i := 4) rfl)) Lt18_13 (g := (mkF m 68 #[.val (.int p1), .val (.int p2), .val (.int (p1.toUInt32.toUInt16.toUInt32.toInt32)), .val (.int (own_hex (p1.toUInt32.toUInt16.toUInt32.toInt32))), .val (.int (1 : Int32)), .val (.int (p2 &&& (15 : Int32))), .unset] [])) rfl (hb hby at_68)
      obtain ⟨cq21, kq21, q21a, q21b, q21c⟩ := isOf hZ e19 fE_a9_x18
      obtain ⟨_, _, ⟨T21, L21, k21, n21⟩, -, X21, ⟨Lc21, hQ21, l21, y21, z21⟩, st21⟩ := X19.virtualBack hx (y := (⟨"java/lang/String", "charAt", "(I)C"⟩ : MethodName)) (z := (⟨"java/lang/String", "charAt", "(I)C"⟩ : MethodName)) hown (mvT hZ (hw _ (List.mem_of_getElem? (i := 12) rfl))) (mvT hZ (hw _ (List.mem_of_getElem? (i := 13) rfl))) (notFace_of_selects (args := #[]) (mvT hZ (hw _ (List.mem_of_getElem? (i := 15) rfl)))) (mvT hZ (hw _ (List.mem_of_getElem? (i := 15) rfl))) (mvT hZ (hw _ (List.mem_of_getElem? (i := 14) rfl))) (by decide) (backOf (W := 0) (rm2 l Z a0 hw [] a9 (p2 &&& (15 : Int32)) b9 own_up (16 : Int32) GA GB h18 n0 Z18 ⟨fE_a9_x18, fF_a9_value_x18, fF_a9_coder_x18⟩ fA_b9_x18 fS_java_lang_String_COMPACT_STRINGS_x18 P5 fS_jdk_internal_util_Preconditions_SIOOBE_FORMATTER_x18 rGB (own_v _)) hZ (hw _ (List.mem_of_getElem? (i := 16) rfl)) (hw _ (List.mem_of_getElem? (i := 5) rfl)) (by decide) (by decide)) q21a q21c (g := (mkF m 72 #[.val (.int p1), .val (.int p2), .val (.int (p1.toUInt32.toUInt16.toUInt32.toInt32)), .val (.int (own_hex (p1.toUInt32.toUInt16.toUInt32.toInt32))), .val (.int (1 : Int32)), .val (.int (p2 &&& (15 : Int32))), .unset] [(.int (p2 &&& (15 : Int32))), (.ref a9)])) rfl (by rw [hml]; rfl) (Steps.refl _) (argsL := [(.int (p2 &&& (15 : Int32)))]) (rest := []) (lenOf pd_0_1 rfl) rfl (by show 2 * 0 + _ ≤ _; exact Nat.le_of_eq rfl) (hb hby at_72) (fun _ _ => ⟨rfl, e19, (by decide : 4 + 0 ≤ _), (by decide : 136 + 0 ≤ _)⟩)
      dsimp only [Pt.U, Pt.locs, Pt.cells, Pt.slots] at X21 l21 y21 z21 st21 hQ21
      subst l21 y21 z21
      obtain ⟨rfl, N21q, e21⟩ := hQ21
      have N21 := Fr.app N19 N21q
      obtain ⟨_, _, ⟨T22, L22, k22, n22⟩, -, X22, ⟨Lc22, hQ22, l22, y22, z22⟩, st22⟩ := Jvm.LawKit.callS X21 hx (y := (⟨"com/example/door3/door3/uri/PercentEncoding", "hexDigit", "(C)I"⟩ : MethodName)) hown (mvT hZ (hw _ (List.mem_of_getElem? (i := 0) rfl))) (mvT hZ (hw _ (List.mem_of_getElem? (i := 1) rfl))) (mvT hZ (hw _ (List.mem_of_getElem? (i := 2) rfl))) (mvT hZ (hw _ (List.mem_of_getElem? (i := 3) rfl))) (by decide) (backOf (W := 0) (rm1 l Z a0 hw [] (own_c2 (p2 &&& (15 : Int32)) own_up (16 : Int32))  h18 n0 Z18 ) hZ (hw _ (List.mem_of_getElem? (i := 3) rfl)) (hw _ (List.mem_of_getElem? (i := 2) rfl)) (by decide) (by decide)) (g := (mkF m 75 #[.val (.int p1), .val (.int p2), .val (.int (p1.toUInt32.toUInt16.toUInt32.toInt32)), .val (.int (own_hex (p1.toUInt32.toUInt16.toUInt32.toInt32))), .val (.int (1 : Int32)), .val (.int (p2 &&& (15 : Int32))), .unset] [(.int (own_c2 (p2 &&& (15 : Int32)) own_up (16 : Int32)))])) rfl (by rw [hml]; rfl) (argsL := [(.int (own_c2 (p2 &&& (15 : Int32)) own_up (16 : Int32)))]) (rest := []) (lenOf pd_0_0 rfl) rfl (by show 2 * 0 + _ ≤ _; exact Nat.le_of_eq rfl) (hb hby at_75) (fun _ _ => ⟨rfl, e21, (by decide : 4 + 0 ≤ _), (by decide : 136 + 0 ≤ _)⟩)
      dsimp only [Pt.U, Pt.locs, Pt.cells, Pt.slots] at X22 l22 y22 z22 st22 hQ22
      subst l22 y22 z22
      obtain ⟨rfl, N22q, e22⟩ := hQ22
      have N22 := Fr.app N21 N22q
      refine own_preW (A := T22.setTop (mkF m 83 #[.val (.int p1), .val (.int p2), .val (.int (p1.toUInt32.toUInt16.toUInt32.toInt32)), .val (.int (own_hex (p1.toUInt32.toUInt16.toUInt32.toInt32))), .val (.int (1 : Int32)), .val (.int (p2 &&& (15 : Int32))), .unset] [])) (fun tt kt => ?_) ?_
      · show Steps p.tables e below (T19.setTop (mkF m 68 #[.val (.int p1), .val (.int p2), .val (.int (p1.toUInt32.toUInt16.toUInt32.toInt32)), .val (.int (own_hex (p1.toUInt32.toUInt16.toUInt32.toInt32))), .val (.int (1 : Int32)), .val (.int (p2 &&& (15 : Int32))), .unset] [])) _
        refine st20 _ ?_
        show Steps p.tables e below (T19.setTop (mkF m 70 #[.val (.int p1), .val (.int p2), .val (.int (p1.toUInt32.toUInt16.toUInt32.toInt32)), .val (.int (own_hex (p1.toUInt32.toUInt16.toUInt32.toInt32))), .val (.int (1 : Int32)), .val (.int (p2 &&& (15 : Int32))), .unset] [(.ref a9)])) _
        refine XS.iload X19.here hx rfl (hb hby at_70) rfl ?_
        show Steps p.tables e below (T19.setTop (mkF m 72 #[.val (.int p1), .val (.int p2), .val (.int (p1.toUInt32.toUInt16.toUInt32.toInt32)), .val (.int (own_hex (p1.toUInt32.toUInt16.toUInt32.toInt32))), .val (.int (1 : Int32)), .val (.int (p2 &&& (15 : Int32))), .unset] [(.int (p2 &&& (15 : Int32))), (.ref a9)])) _
        refine st21.trans ?_
        show Steps p.tables e below (T21.setTop (mkF m 75 #[.val (.int p1), .val (.int p2), .val (.int (p1.toUInt32.toUInt16.toUInt32.toInt32)), .val (.int (own_hex (p1.toUInt32.toUInt16.toUInt32.toInt32))), .val (.int (1 : Int32)), .val (.int (p2 &&& (15 : Int32))), .unset] [(.int (own_c2 (p2 &&& (15 : Int32)) own_up (16 : Int32)))])) _
        refine st22 _ ?_
        show Steps p.tables e below (T22.setTop (mkF m 78 #[.val (.int p1), .val (.int p2), .val (.int (p1.toUInt32.toUInt16.toUInt32.toInt32)), .val (.int (own_hex (p1.toUInt32.toUInt16.toUInt32.toInt32))), .val (.int (1 : Int32)), .val (.int (p2 &&& (15 : Int32))), .unset] [(.int (own_hex (own_c2 (p2 &&& (15 : Int32)) own_up (16 : Int32))))])) _
        refine XS.iload X22.here hx rfl (hb hby at_78) rfl ?_
        refine XS.icmpNo X22.here hx rfl (hb hby at_80) rfl (teq ((own_bup _) : (own_hex (own_c2 (p2 &&& (15 : Int32)) own_up (16 : Int32))) = (p2 &&& (15 : Int32)))).2 ?_
        exact kt
      show own_EndW p e below s (T22.setTop (mkF m 83 #[.val (.int p1), .val (.int p2), .val (.int (p1.toUInt32.toUInt16.toUInt32.toInt32)), .val (.int (own_hex (p1.toUInt32.toUInt16.toUInt32.toInt32))), .val (.int (1 : Int32)), .val (.int (p2 &&& (15 : Int32))), .unset] [])) (Q0 Z p1 p2 GA GB h0 n0) room_1.cells room_1.slots
      have st23 := ldcAgain (s := s) (vm0 := T18.vm) X22 hx hZ hown (hw _ (List.mem_of_getElem? (i := 37) rfl)) Lt18 (g := (mkF m 83 #[.val (.int p1), .val (.int p2), .val (.int (p1.toUInt32.toUInt16.toUInt32.toInt32)), .val (.int (own_hex (p1.toUInt32.toUInt16.toUInt32.toInt32))), .val (.int (1 : Int32)), .val (.int (p2 &&& (15 : Int32))), .unset] [])) rfl (hb hby at_83)
      obtain ⟨cq24, kq24, q24a, q24b, q24c⟩ := isOf hZ e22 A18
      obtain ⟨_, _, ⟨T24, L24, k24, n24⟩, -, X24, ⟨Lc24, hQ24, l24, y24, z24⟩, st24⟩ := X22.virtualBack hx (y := (⟨"java/lang/String", "charAt", "(I)C"⟩ : MethodName)) (z := (⟨"java/lang/String", "charAt", "(I)C"⟩ : MethodName)) hown (mvT hZ (hw _ (List.mem_of_getElem? (i := 12) rfl))) (mvT hZ (hw _ (List.mem_of_getElem? (i := 13) rfl))) (notFace_of_selects (args := #[]) (mvT hZ (hw _ (List.mem_of_getElem? (i := 15) rfl)))) (mvT hZ (hw _ (List.mem_of_getElem? (i := 15) rfl))) (mvT hZ (hw _ (List.mem_of_getElem? (i := 14) rfl))) (by decide) (backOf (W := 0) (rm2 l Z a0 hw [] a18 (p2 &&& (15 : Int32)) b18 own_lo (16 : Int32) GA GB h18 n0 Z18 ⟨A18, V18, C18⟩ R18 fS_java_lang_String_COMPACT_STRINGS_x18 P5 fS_jdk_internal_util_Preconditions_SIOOBE_FORMATTER_x18 rGB (own_v _)) hZ (hw _ (List.mem_of_getElem? (i := 16) rfl)) (hw _ (List.mem_of_getElem? (i := 5) rfl)) (by decide) (by decide)) q24a q24c (g := (mkF m 87 #[.val (.int p1), .val (.int p2), .val (.int (p1.toUInt32.toUInt16.toUInt32.toInt32)), .val (.int (own_hex (p1.toUInt32.toUInt16.toUInt32.toInt32))), .val (.int (1 : Int32)), .val (.int (p2 &&& (15 : Int32))), .unset] [(.int (p2 &&& (15 : Int32))), (.ref a18)])) rfl (by rw [hml]; rfl) (Steps.refl _) (argsL := [(.int (p2 &&& (15 : Int32)))]) (rest := []) (lenOf pd_0_1 rfl) rfl (by show 2 * 0 + _ ≤ _; exact Nat.le_of_eq rfl) (hb hby at_87) (fun _ _ => ⟨rfl, e22, (by decide : 4 + 0 ≤ _), (by decide : 136 + 0 ≤ _)⟩)
      dsimp only [Pt.U, Pt.locs, Pt.cells, Pt.slots] at X24 l24 y24 z24 st24 hQ24
      subst l24 y24 z24
      obtain ⟨rfl, N24q, e24⟩ := hQ24
      have N24 := Fr.app N22 N24q
      obtain ⟨_, _, ⟨T25, L25, k25, n25⟩, -, X25, ⟨Lc25, hQ25, l25, y25, z25⟩, st25⟩ := Jvm.LawKit.callS X24 hx (y := (⟨"com/example/door3/door3/uri/PercentEncoding", "hexDigit", "(C)I"⟩ : MethodName)) hown (mvT hZ (hw _ (List.mem_of_getElem? (i := 0) rfl))) (mvT hZ (hw _ (List.mem_of_getElem? (i := 1) rfl))) (mvT hZ (hw _ (List.mem_of_getElem? (i := 2) rfl))) (mvT hZ (hw _ (List.mem_of_getElem? (i := 3) rfl))) (by decide) (backOf (W := 0) (rm1 l Z a0 hw [] (own_c2 (p2 &&& (15 : Int32)) own_lo (16 : Int32))  h18 n0 Z18 ) hZ (hw _ (List.mem_of_getElem? (i := 3) rfl)) (hw _ (List.mem_of_getElem? (i := 2) rfl)) (by decide) (by decide)) (g := (mkF m 90 #[.val (.int p1), .val (.int p2), .val (.int (p1.toUInt32.toUInt16.toUInt32.toInt32)), .val (.int (own_hex (p1.toUInt32.toUInt16.toUInt32.toInt32))), .val (.int (1 : Int32)), .val (.int (p2 &&& (15 : Int32))), .unset] [(.int (own_c2 (p2 &&& (15 : Int32)) own_lo (16 : Int32)))])) rfl (by rw [hml]; rfl) (argsL := [(.int (own_c2 (p2 &&& (15 : Int32)) own_lo (16 : Int32)))]) (rest := []) (lenOf pd_0_0 rfl) rfl (by show 2 * 0 + _ ≤ _; exact Nat.le_of_eq rfl) (hb hby at_90) (fun _ _ => ⟨rfl, e24, (by decide : 4 + 0 ≤ _), (by decide : 136 + 0 ≤ _)⟩)
      dsimp only [Pt.U, Pt.locs, Pt.cells, Pt.slots] at X25 l25 y25 z25 st25 hQ25
      subst l25 y25 z25
      obtain ⟨rfl, N25q, e25⟩ := hQ25
      have N25 := Fr.app N24 N25q
      refine own_preW (A := T25.setTop (mkF m 120 #[.val (.int p1), .val (.int p2), .val (.int (p1.toUInt32.toUInt16.toUInt32.toInt32)), .val (.int (own_hex (p1.toUInt32.toUInt16.toUInt32.toInt32))), .val (.int (1 : Int32)), .val (.int (p2 &&& (15 : Int32))), .val (.int (1 : Int32))] [(.int (1 : Int32))])) (fun tt kt => ?_) ?_
      · show Steps p.tables e below (T22.setTop (mkF m 83 #[.val (.int p1), .val (.int p2), .val (.int (p1.toUInt32.toUInt16.toUInt32.toInt32)), .val (.int (own_hex (p1.toUInt32.toUInt16.toUInt32.toInt32))), .val (.int (1 : Int32)), .val (.int (p2 &&& (15 : Int32))), .unset] [])) _
        refine st23 _ ?_
        show Steps p.tables e below (T22.setTop (mkF m 85 #[.val (.int p1), .val (.int p2), .val (.int (p1.toUInt32.toUInt16.toUInt32.toInt32)), .val (.int (own_hex (p1.toUInt32.toUInt16.toUInt32.toInt32))), .val (.int (1 : Int32)), .val (.int (p2 &&& (15 : Int32))), .unset] [(.ref a18)])) _
        refine XS.iload X22.here hx rfl (hb hby at_85) rfl ?_
        show Steps p.tables e below (T22.setTop (mkF m 87 #[.val (.int p1), .val (.int p2), .val (.int (p1.toUInt32.toUInt16.toUInt32.toInt32)), .val (.int (own_hex (p1.toUInt32.toUInt16.toUInt32.toInt32))), .val (.int (1 : Int32)), .val (.int (p2 &&& (15 : Int32))), .unset] [(.int (p2 &&& (15 : Int32))), (.ref a18)])) _
        refine st24.trans ?_
        show Steps p.tables e below (T24.setTop (mkF m 90 #[.val (.int p1), .val (.int p2), .val (.int (p1.toUInt32.toUInt16.toUInt32.toInt32)), .val (.int (own_hex (p1.toUInt32.toUInt16.toUInt32.toInt32))), .val (.int (1 : Int32)), .val (.int (p2 &&& (15 : Int32))), .unset] [(.int (own_c2 (p2 &&& (15 : Int32)) own_lo (16 : Int32)))])) _
        refine st25 _ ?_
        show Steps p.tables e below (T25.setTop (mkF m 93 #[.val (.int p1), .val (.int p2), .val (.int (p1.toUInt32.toUInt16.toUInt32.toInt32)), .val (.int (own_hex (p1.toUInt32.toUInt16.toUInt32.toInt32))), .val (.int (1 : Int32)), .val (.int (p2 &&& (15 : Int32))), .unset] [(.int (own_hex (own_c2 (p2 &&& (15 : Int32)) own_lo (16 : Int32))))])) _
        refine XS.iload X25.here hx rfl (hb hby at_93) rfl ?_
        refine XS.icmpNo X25.here hx rfl (hb hby at_95) rfl (teq ((own_blo _) : (own_hex (own_c2 (p2 &&& (15 : Int32)) own_lo (16 : Int32))) = (p2 &&& (15 : Int32)))).2 ?_
        refine XS.iconst X25.here hx rfl (hb hby at_98) ?_
        refine XS.goto X25.here hx rfl (pc0 := 99) (pc' := 103) rfl (hb hby at_99) (by decide) (by decide) ?_
        show Steps p.tables e below (T25.setTop (mkF m 103 #[.val (.int p1), .val (.int p2), .val (.int (p1.toUInt32.toUInt16.toUInt32.toInt32)), .val (.int (own_hex (p1.toUInt32.toUInt16.toUInt32.toInt32))), .val (.int (1 : Int32)), .val (.int (p2 &&& (15 : Int32))), .unset] [(.int (1 : Int32))])) _
        refine XS.istore X25.here hx rfl (hb hby at_103) rfl (l' := #[.val (.int p1), .val (.int p2), .val (.int (p1.toUInt32.toUInt16.toUInt32.toInt32)), .val (.int (own_hex (p1.toUInt32.toUInt16.toUInt32.toInt32))), .val (.int (1 : Int32)), .val (.int (p2 &&& (15 : Int32))), .val (.int (1 : Int32))]) rfl ?_
        refine XS.iload X25.here hx rfl (hb hby at_105) rfl ?_
        refine XS.ifNo X25.here hx rfl (hb hby at_107) rfl ((if0 _ _).trans (feq ((by decide) : ¬ ((1 : Int32) = (0 : Int32)))).1) ?_
        refine XS.iload X25.here hx rfl (hb hby at_110) rfl ?_
        show Steps p.tables e below (T25.setTop (mkF m 112 #[.val (.int p1), .val (.int p2), .val (.int (p1.toUInt32.toUInt16.toUInt32.toInt32)), .val (.int (own_hex (p1.toUInt32.toUInt16.toUInt32.toInt32))), .val (.int (1 : Int32)), .val (.int (p2 &&& (15 : Int32))), .val (.int (1 : Int32))] [(.int (1 : Int32))])) _
        refine XS.ifNo X25.here hx rfl (hb hby at_112) rfl ((if0 _ _).trans (feq ((by decide) : ¬ ((1 : Int32) = (0 : Int32)))).1) ?_
        refine XS.iconst X25.here hx rfl (hb hby at_115) ?_
        refine XS.goto X25.here hx rfl (pc0 := 116) (pc' := 120) rfl (hb hby at_116) (by decide) (by decide) ?_
        exact kt
      show own_EndW p e below s (T25.setTop (mkF m 120 #[.val (.int p1), .val (.int p2), .val (.int (p1.toUInt32.toUInt16.toUInt32.toInt32)), .val (.int (own_hex (p1.toUInt32.toUInt16.toUInt32.toInt32))), .val (.int (1 : Int32)), .val (.int (p2 &&& (15 : Int32))), .val (.int (1 : Int32))] [(.int (1 : Int32))])) (Q0 Z p1 p2 GA GB h0 n0) room_1.cells room_1.slots
      obtain ⟨fs, hr, hrun, hended, hEnd⟩ := Stand.leaveW (s := s) (vm₁ := T18.vm) X25 hSs (by rw [e25]; exact Nat.le_refl _) (v := some (.int (1 : Int32))) (fun h => by rw [Bd.returns] at h; cases h)
      refine ⟨_, _, ?_, hrun, hended, _, _, rfl, ?_, hEnd.1, hEnd.2.1, hEnd.2.2.1, hEnd.2.2.2.mono (by decide) (by decide)⟩
      · exact retN X25 hx (t := .boolean) Bd.returns (by simp) (hb hby at_120) hr
      · show Q0 Z p1 p2 GA GB h0 n0 _ T25.heap _
        rw [e25]
        exact ⟨rfl, N25⟩
set_option maxRecDepth 65536 in
set_option maxHeartbeats 40000000 in
theorem comes_1 {Post : Tables → Env → Array Value → State → Outcome → State → Prop} (hpost : ∀ tb e args s v u, (limb_1_1.after args s (.returned v) u = true ∧ limb_1_2.after args s (.returned v) u = true ∧ True) → Jvm.D.FramedW s (.returned v) u (Jvm.fieldLocs frame_1_writes args s ++ Jvm.arrayLocs frame_1_arrays args s ++ Jvm.staticLocs frame_1_statics s) 8 2112 → Post tb e args s (.returned v) u) :
    ArmFor flags0 classFile x code maxLocals ret World_1 tables_1 room_1 Calls_1 rest_1 Pre_1 Post := by
  intro l hfl _ _ p e ha hc hk s m args below hf hA hF happ hP
  obtain ⟨hcalls, hrest, hpre⟩ := hP
  obtain ⟨-, -, -, hnamed, -, -, -, hat⟩ := (Spec.applies_iff hf).mp happ
  obtain ⟨hg, hn⟩ := and_e (Cond.before_iff.mp (show (Jvm.Cond.and given_1 narrow_1).before args s = true from hpre))
  obtain ⟨g1, g2⟩ := and_e hg
  obtain ⟨g3, g4⟩ := and_e g2
  obtain ⟨w0, w1, rfl⟩ : ∃ w0 w1 : Value, args = #[w0, w1] := by
    have hs : args.size = 2 := by simpa [Cond.value, given_1] using g1
    obtain ⟨L⟩ := args
    match L, hs with
    | [w0, w1], _ => exact ⟨w0, w1, rfl⟩
  have hw := fun d (hd : d ∈ tables_1) => atoms_spec (ws := Jvm.Cond.code x code maxLocals ret :: tables_1) hat d (List.mem_cons_of_mem _ hd)
  have hfit : Fit s := fun {y c} hc i hi => by
    obtain ⟨ha, rfl⟩ := Array.getElem?_eq_some_iff.mp hc
    have q := List.all_eq_true.mp ((Array.all_eq_true_iff_forall_mem.mp hF) _ (Array.getElem_mem ha)) i (List.mem_range.mpr hi)
    simpa [Array.getElem?_eq_getElem hi] using q
  obtain ⟨hsets, hown0⟩ := atoms_of _ (rest_1_c_eq ▸ (show rest_1_c.before _ s = true from hrest))
  have hr0 := Cond.before_iff.mp hown0
  obtain ⟨i0, ei0⟩ := is_v g3
  obtain rfl : w0 = (.int i0) := Option.some.inj ei0
  obtain ⟨i1, ei1⟩ := is_v g4
  obtain rfl : w1 = (.int i1) := Option.some.inj ei1
  have n5 := not_v (Cond.before_iff.mp (hsets _ (List.mem_of_getElem? (i := 2) rfl)))
  obtain ⟨GA, eGA⟩ := is_v (Cond.before_iff.mp (hsets _ (List.mem_of_getElem? (i := 1) rfl)))
  have O2 : Sta s s.heap "java/lang/String" "COMPACT_STRINGS" "Z" (.int GA) := Sta.start eGA (Or.inl (hsets _ (List.mem_of_getElem? (i := 0) rfl)))
  obtain ⟨GB, eGB, rGB⟩ := isR_v (Cond.before_iff.mp (hsets _ (List.mem_of_getElem? (i := 8) rfl)))
  have O4 : Sta s s.heap "jdk/internal/util/Preconditions" "SIOOBE_FORMATTER" "Ljava/util/function/BiFunction;" GB := Sta.start eGB (Or.inl (hsets _ (List.mem_of_getElem? (i := 7) rfl)))
  have P5 : ¬ (GA = (0 : Int32)) := gotF (Cond.eq_ints eGA (Term.int_eval (0))) n5
  have hcw := hsets _ (List.mem_of_getElem? (i := 2) rfl)
  have hheld13 : own_held s "com/example/door3/door3/uri/PercentEncodingHexDigitPinLaw" 13 := hcalls.1 ("com/example/door3/door3/uri/PercentEncodingHexDigitPinLaw", 13) (by simp [consts_1])
  have hheld21 : own_held s "com/example/door3/door3/uri/PercentEncodingHexDigitPinLaw" 21 := hcalls.1 ("com/example/door3/door3/uri/PercentEncodingHexDigitPinLaw", 21) (by simp [consts_1])
  obtain ⟨n, o, h1, h2, h3, _, L, rfl, ⟨rfl, N⟩, hq⟩ := rm0 l s _ hw tables_1 i0 i1 GA GB s.heap s.heap.size (Nat.le_refl _) O2 P5 O4 rGB rfl rfl hheld13 hheld21 hcw p e ha hc hk s m _ below hf ((Spec.applies_iff_loose hf).mp happ).1 ⟨rfl, State.Warmed39.refl s, rfl, rfl⟩ trivial
  refine ⟨n, _, h1, h2, h3, hpost _ _ _ _ _ _ ⟨Cond.after_iff.mpr rfl, Cond.after_iff.mpr (eq_i res_at (Term.int_eval (1)) rfl), trivial⟩ ⟨hq.1, hq.2.1, hq.2.2.1, (hq.2.2.2.sift fun y hy => Or.inr (N y hy)).mono (by decide) (by decide)⟩⟩
theorem main_1_1 : Claimed_1_1 := comes_1 fun _ _ _ _ _ _ h hF => ⟨h.1, hF⟩
theorem main_1_2 : Claimed_1_2 := comes_1 fun _ _ _ _ _ _ h hF => ⟨h.2.1, hF⟩
end Jvm.Pilot.@@N@@
namespace Jvm.Pilot.@@N@@
open Jvm Jvm.ClassFile Sem Op Lib Jvm.Free Jvm.Stand Jvm.Pilot.@@N@@.Jvm.D
/-! MADE BY PROGRAM (witnessworld.py) out of the Statement's table words and the real class files: 17 classes; the members and pool entries that the words name. The judged class is class 1, her method 1. -/
namespace start1
open Jvm.ClassFile
def u (s : String) : CpInfo := .utf8 (stringToUtf16 s)
/-- a pool by its gaps: so many unusable entries, then the entry; so many at the end -/
def gap : Nat → List CpInfo → List CpInfo
  | 0, r => r
  | n + 1, r => .unusable :: gap n r
def poolList (es : List (Nat × CpInfo)) (last : Nat) : List CpInfo := es.foldr (fun e r => gap e.1 (e.2 :: r)) (gap last [])
def pool (es : List (Nat × CpInfo)) (last : Nat) : Array CpInfo := ⟨poolList es last⟩
def fileOf (pool : Array CpInfo) (this : Nat) (attrs : Array Attribute := #[]) (ms : Array MethodInfo := #[]) (fl : Nat := 33) (sup : Nat := 0) (ifs : Array Nat := #[]) (fds : Array FieldInfo := #[]) : ClassFile where
  minorVersion := 0
  majorVersion := 65
  constantPool := pool
  accessFlags := fl
  thisClass := this
  superClass := sup
  interfaces := ifs
  fields := fds
  methods := ms
  attributes := attrs
def plain (name : String) (sup : Option ClassId) : Class where
  name := name
  kind := .ordinary
  loader := none
  accessFlags := 33
  super := sup
  interfaces := #[]
  cf := none
  fields := #[]
  methods := #[]
  instanceTypes := #[]
  staticTypes := #[]
  resolved := #[]
  callSites := []
  init := .initialized
  statics := none
  mirror := none

def pool0 : Array CpInfo := pool [(5, u "<init>"), (0, u "()V"), (1, .class_ 10), (1, u "java/lang/Object")] 113

def k0m0 : Method := { name := "<init>", desc := "()V", sig := { parameters := [], returnType := none }, accessFlags := 1, code := none }
/-- java/lang/Object -/
def k0 : Class := { plain "java/lang/Object" none with
  accessFlags := 33
  interfaces := #[]
  cf := some (fileOf pool0 8 #[] #[{ accessFlags := 1, nameIndex := 5, descriptorIndex := 6, attributes := #[] }] 33 0 #[] #[])
  fields := #[]
  methods := #[k0m0]
  instanceTypes := #[]
  staticTypes := #[]
  resolved := Array.replicate 124 none
  statics := none }

def pool1 : Array CpInfo := pool [(2, .class_ 4), (1, u "java/lang/Object"), (0, u "<init>"), (0, u "()V"), (0, .methodref 8 9), (0, .class_ 10), (0, .nameAndType 11 12), (0, u "com/example/door3/door3/uri/PercentEncoding"), (0, u "hexDigit"), (0, u "(C)I"), (0, .string 14), (0, u "0123456789ABCDEF"), (0, .methodref 16 17), (0, .class_ 18), (0, .nameAndType 19 20), (0, u "java/lang/String"), (0, u "charAt"), (0, u "(I)C"), (0, .string 22), (0, u "0123456789abcdef"), (0, .class_ 24), (0, u "com/example/door3/door3/uri/PercentEncodingHexDigitPinLaw"), (2, u "law"), (0, u "(II)Z")] 3

def k1m0 : Method := { name := "<init>", desc := "()V", sig := { parameters := [], returnType := none }, accessFlags := 1, code := none }
def k1c1 : Code := { maxStack := 3, maxLocals := 7, code := code, exceptionTable := #[], attributes := #[] }
def k1m1 : Method := { name := "law", desc := "(II)Z", sig := { parameters := [.int, .int], returnType := some .boolean }, accessFlags := 9, code := some k1c1 }
/-- com/example/door3/door3/uri/PercentEncodingHexDigitPinLaw -/
def k1 : Class := { plain "com/example/door3/door3/uri/PercentEncodingHexDigitPinLaw" (some 0) with
  accessFlags := 49
  interfaces := #[]
  cf := some (fileOf pool1 23 #[] #[{ accessFlags := 1, nameIndex := 5, descriptorIndex := 6, attributes := #[] }, { accessFlags := 9, nameIndex := 27, descriptorIndex := 28, attributes := #[] }] 49 2 #[] #[])
  fields := #[]
  methods := #[k1m0, k1m1]
  instanceTypes := #[]
  staticTypes := #[]
  resolved := Array.replicate 32 none
  statics := none }

def pool2 : Array CpInfo := pool [(2, .class_ 4), (1, u "java/lang/Object"), (0, u "<init>"), (0, u "()V"), (30, .class_ 39), (1, u "com/example/door3/door3/uri/PercentEncoding"), (112, u "hexDigit"), (0, u "(C)I"), (25, u "HEX_DIGITS"), (0, u "Ljava/lang/String;"), (1, u "PATH_CHARACTERS"), (0, u "RUN_CHECK_CHARS"), (0, u "I")] 15

def k2m0 : Method := { name := "<init>", desc := "()V", sig := { parameters := [], returnType := none }, accessFlags := 2, code := none }
def k2c1 : Code := { maxStack := 2, maxLocals := 2, code := prog_40_method_10_code, exceptionTable := #[], attributes := #[] }
def k2m1 : Method := { name := "hexDigit", desc := "(C)I", sig := { parameters := [.char], returnType := some .int }, accessFlags := 8, code := some k2c1 }
/-- com/example/door3/door3/uri/PercentEncoding -/
def k2 : Class := { plain "com/example/door3/door3/uri/PercentEncoding" (some 0) with
  accessFlags := 33
  interfaces := #[]
  cf := some (fileOf pool2 37 #[] #[{ accessFlags := 2, nameIndex := 5, descriptorIndex := 6, attributes := #[] }, { accessFlags := 8, nameIndex := 152, descriptorIndex := 153, attributes := #[] }] 33 2 #[] #[{ accessFlags := 26, nameIndex := 179, descriptorIndex := 180, attributes := #[] }, { accessFlags := 26, nameIndex := 182, descriptorIndex := 180, attributes := #[] }, { accessFlags := 26, nameIndex := 183, descriptorIndex := 184, attributes := #[] }])
  fields := #[{ name := "HEX_DIGITS", type := (.object "java/lang/String"), accessFlags := 26, slot := 0, constantValue := 0 }, { name := "PATH_CHARACTERS", type := (.object "java/lang/String"), accessFlags := 26, slot := 1, constantValue := 0 }, { name := "RUN_CHECK_CHARS", type := .int, accessFlags := 26, slot := 2, constantValue := 0 }]
  methods := #[k2m0, k2m1]
  instanceTypes := #[]
  staticTypes := #[(.object "java/lang/String"), (.object "java/lang/String"), .int]
  resolved := Array.replicate 200 none
  statics := none }

def pool3 : Array CpInfo := pool [(1, .class_ 2), (0, u "java/io/Serializable"), (0, .class_ 4), (0, u "java/lang/Object")] 2

/-- java/io/Serializable -/
def k3 : Class := { plain "java/io/Serializable" (some 0) with
  accessFlags := 1537
  interfaces := #[]
  cf := some (fileOf pool3 1 #[] #[] 1537 3 #[] #[])
  fields := #[]
  methods := #[]
  instanceTypes := #[]
  staticTypes := #[]
  resolved := Array.replicate 7 none
  statics := none }

def pool4 : Array CpInfo := pool [(1, .class_ 2), (0, u "java/lang/Comparable"), (0, .class_ 4), (0, u "java/lang/Object")] 7

/-- java/lang/Comparable -/
def k4 : Class := { plain "java/lang/Comparable" (some 0) with
  accessFlags := 1537
  interfaces := #[]
  cf := some (fileOf pool4 1 #[] #[] 1537 3 #[] #[])
  fields := #[]
  methods := #[]
  instanceTypes := #[]
  staticTypes := #[]
  resolved := Array.replicate 12 none
  statics := none }

def pool5 : Array CpInfo := pool [(2, .class_ 4), (1, u "java/lang/CharSequence"), (42, .class_ 48), (0, u "java/lang/CharSequence$1CodePointIterator"), (10, .class_ 60), (0, u "java/lang/CharSequence$1CharIterator"), (5, .class_ 67), (0, u "java/lang/Object")] 63

/-- java/lang/CharSequence -/
def k5 : Class := { plain "java/lang/CharSequence" (some 0) with
  accessFlags := 1537
  interfaces := #[]
  cf := some (fileOf pool5 2 #[.nestMembers #[47, 59]] #[] 1537 66 #[] #[])
  fields := #[]
  methods := #[]
  instanceTypes := #[]
  staticTypes := #[]
  resolved := Array.replicate 131 none
  statics := none }

def pool6 : Array CpInfo := pool [(1, .class_ 2), (0, u "java/lang/constant/Constable"), (0, .class_ 4), (0, u "java/lang/Object")] 6

/-- java/lang/constant/Constable -/
def k6 : Class := { plain "java/lang/constant/Constable" (some 0) with
  accessFlags := 1537
  interfaces := #[]
  cf := some (fileOf pool6 1 #[] #[] 1537 3 #[] #[])
  fields := #[]
  methods := #[]
  instanceTypes := #[]
  staticTypes := #[]
  resolved := Array.replicate 11 none
  statics := none }

def pool7 : Array CpInfo := pool [(1, .class_ 2), (0, u "java/lang/constant/ConstantDesc"), (0, .class_ 4), (0, u "java/lang/Object")] 32

/-- java/lang/constant/ConstantDesc -/
def k7 : Class := { plain "java/lang/constant/ConstantDesc" (some 0) with
  accessFlags := 1537
  interfaces := #[]
  cf := some (fileOf pool7 1 #[] #[] 1537 3 #[] #[])
  fields := #[]
  methods := #[]
  instanceTypes := #[]
  staticTypes := #[]
  resolved := Array.replicate 37 none
  statics := none }

def pool8 : Array CpInfo := pool [(2, .class_ 4), (1, u "java/lang/Object"), (0, u "<init>"), (0, u "()V"), (2, .fieldref 10 11), (0, .class_ 12), (0, .nameAndType 13 14), (0, u "java/lang/String"), (0, u "value"), (0, u "[B"), (0, .fieldref 10 16), (0, .nameAndType 17 18), (0, u "coder"), (0, u "B"), (2, u "hash"), (0, u "I"), (2, u "hashIsZero"), (0, u "Z"), (11, .fieldref 10 39), (0, .nameAndType 40 26), (0, u "COMPACT_STRINGS"), (66, .class_ 109), (1, u "java/lang/StringLatin1"), (32, u "()Z"), (220, u "([BI)C"), (27, u "(II)V"), (35, u "(I)C"), (64, .methodref 10 493), (0, .nameAndType 494 142), (0, u "isLatin1"), (0, .methodref 107 496), (0, .nameAndType 497 363), (0, u "charAt"), (3, u "checkIndex"), (73, .class_ 576), (0, u "java/lang/CharSequence"), (22, u "CASE_INSENSITIVE_ORDER"), (0, u "Ljava/util/Comparator;"), (452, .fieldref 1054 1055), (0, .class_ 1056), (0, .nameAndType 1057 1058), (0, u "jdk/internal/util/Preconditions"), (0, u "SIOOBE_FORMATTER"), (0, u "Ljava/util/function/BiFunction;"), (0, .methodref 1054 1060), (0, .nameAndType 501 1061), (0, u "(IILjava/util/function/BiFunction;)I"), (39, u "serialPersistentFields"), (0, u "[Ljava/io/ObjectStreamField;"), (0, .class_ 1104), (0, u "java/lang/String$CaseInsensitiveComparator"), (1, .class_ 1107), (0, u "java/io/Serializable"), (0, .class_ 1109), (0, u "java/lang/Comparable"), (0, .class_ 1111), (0, u "java/lang/constant/Constable"), (0, .class_ 1113), (0, u "java/lang/constant/ConstantDesc"), (2, u "serialVersionUID"), (0, u "J"), (3, u "REPL"), (0, u "C"), (2, u "LATIN1"), (1, u "UTF16")] 323

def k8m0 : Method := { name := "<init>", desc := "()V", sig := { parameters := [], returnType := none }, accessFlags := 1, code := none }
def k8c1 : Code := { maxStack := 2, maxLocals := 2, code := jdk_42_method_56_code, exceptionTable := #[], attributes := #[] }
def k8m1 : Method := { name := "charAt", desc := "(I)C", sig := { parameters := [.int], returnType := some .char }, accessFlags := 1, code := some k8c1 }
def k8c2 : Code := { maxStack := 1, maxLocals := 1, code := jdk_42_method_154_code, exceptionTable := #[], attributes := #[] }
def k8m2 : Method := { name := "isLatin1", desc := "()Z", sig := { parameters := [], returnType := some .boolean }, accessFlags := 0, code := some k8c2 }
def k8c3 : Code := { maxStack := 3, maxLocals := 2, code := jdk_42_method_155_code, exceptionTable := #[], attributes := #[] }
def k8m3 : Method := { name := "checkIndex", desc := "(II)V", sig := { parameters := [.int, .int], returnType := none }, accessFlags := 8, code := some k8c3 }
/-- java/lang/String -/
def k8 : Class := { plain "java/lang/String" (some 0) with
  accessFlags := 49
  interfaces := #[3, 4, 5, 6, 7]
  cf := some (fileOf pool8 10 #[.nestMembers #[1103]] #[{ accessFlags := 1, nameIndex := 5, descriptorIndex := 6, attributes := #[] }, { accessFlags := 1, nameIndex := 497, descriptorIndex := 427, attributes := #[] }, { accessFlags := 0, nameIndex := 494, descriptorIndex := 142, attributes := #[] }, { accessFlags := 8, nameIndex := 501, descriptorIndex := 391, attributes := #[] }] 49 2 #[1106, 1108, 575, 1110, 1112] #[{ accessFlags := 18, nameIndex := 13, descriptorIndex := 14, attributes := #[] }, { accessFlags := 18, nameIndex := 17, descriptorIndex := 18, attributes := #[] }, { accessFlags := 2, nameIndex := 21, descriptorIndex := 22, attributes := #[] }, { accessFlags := 2, nameIndex := 25, descriptorIndex := 26, attributes := #[] }, { accessFlags := 26, nameIndex := 1116, descriptorIndex := 1117, attributes := #[] }, { accessFlags := 24, nameIndex := 40, descriptorIndex := 26, attributes := #[] }, { accessFlags := 26, nameIndex := 1101, descriptorIndex := 1102, attributes := #[] }, { accessFlags := 26, nameIndex := 1121, descriptorIndex := 1122, attributes := #[] }, { accessFlags := 25, nameIndex := 599, descriptorIndex := 600, attributes := #[] }, { accessFlags := 24, nameIndex := 1125, descriptorIndex := 18, attributes := #[] }, { accessFlags := 24, nameIndex := 1127, descriptorIndex := 18, attributes := #[] }])
  fields := #[{ name := "value", type := (.array .byte), accessFlags := 18, slot := 0, constantValue := 0 }, { name := "coder", type := .byte, accessFlags := 18, slot := 1, constantValue := 0 }, { name := "hash", type := .int, accessFlags := 2, slot := 2, constantValue := 0 }, { name := "hashIsZero", type := .boolean, accessFlags := 2, slot := 3, constantValue := 0 }, { name := "serialVersionUID", type := .long, accessFlags := 26, slot := 0, constantValue := 0 }, { name := "COMPACT_STRINGS", type := .boolean, accessFlags := 24, slot := 1, constantValue := 0 }, { name := "serialPersistentFields", type := (.array (.object "java/io/ObjectStreamField")), accessFlags := 26, slot := 2, constantValue := 0 }, { name := "REPL", type := .char, accessFlags := 26, slot := 3, constantValue := 0 }, { name := "CASE_INSENSITIVE_ORDER", type := (.object "java/util/Comparator"), accessFlags := 25, slot := 4, constantValue := 0 }, { name := "LATIN1", type := .byte, accessFlags := 24, slot := 5, constantValue := 0 }, { name := "UTF16", type := .byte, accessFlags := 24, slot := 6, constantValue := 0 }]
  methods := #[k8m0, k8m1, k8m2, k8m3]
  instanceTypes := #[(.array .byte), .byte, .int, .boolean]
  staticTypes := #[.long, .boolean, (.array (.object "java/io/ObjectStreamField")), .char, (.object "java/util/Comparator"), .byte, .byte]
  resolved := Array.replicate 1451 none
  statics := some 0 }

def pool9 : Array CpInfo := pool [(1, .class_ 2), (0, u "java/lang/String"), (1, .class_ 6), (1, u "java/lang/Object"), (0, u "<init>"), (0, u "()V"), (0, .methodref 1 10), (0, .nameAndType 11 12), (0, u "checkIndex"), (0, u "(II)V"), (1, .class_ 16), (1, u "java/lang/StringLatin1"), (36, u "([BI)C"), (67, u "$assertionsDisabled"), (0, u "Z"), (98, .class_ 223), (1, u "java/lang/StringLatin1$LinesSpliterator"), (28, u "charAt"), (137, .class_ 391), (0, u "java/lang/StringLatin1$CharsSpliterator")] 3

def k9m0 : Method := { name := "<init>", desc := "()V", sig := { parameters := [], returnType := none }, accessFlags := 0, code := none }
def k9c1 : Code := { maxStack := 2, maxLocals := 2, code := jdk_43_method_2_code, exceptionTable := #[], attributes := #[] }
def k9m1 : Method := { name := "charAt", desc := "([BI)C", sig := { parameters := [(.array .byte), .int], returnType := some .char }, accessFlags := 9, code := some k9c1 }
/-- java/lang/StringLatin1 -/
def k9 : Class := { plain "java/lang/StringLatin1" (some 0) with
  accessFlags := 48
  interfaces := #[]
  cf := some (fileOf pool9 14 #[.nestMembers #[390, 221]] #[{ accessFlags := 0, nameIndex := 7, descriptorIndex := 8, attributes := #[] }, { accessFlags := 9, nameIndex := 252, descriptorIndex := 53, attributes := #[] }] 48 4 #[] #[{ accessFlags := 4120, nameIndex := 121, descriptorIndex := 122, attributes := #[] }])
  fields := #[{ name := "$assertionsDisabled", type := .boolean, accessFlags := 4120, slot := 0, constantValue := 0 }]
  methods := #[k9m0, k9m1]
  instanceTypes := #[]
  staticTypes := #[.boolean]
  resolved := Array.replicate 395 none
  statics := none }

def pool10 : Array CpInfo := pool [(2, .class_ 4), (1, u "java/lang/Object"), (0, u "<init>"), (0, u "()V"), (17, .class_ 26), (1, u "jdk/internal/util/Preconditions"), (6, u "checkIndex"), (21, .class_ 56), (0, u "jdk/internal/util/Preconditions$4"), (57, .class_ 115), (0, u "jdk/internal/util/Preconditions$1"), (7, u "SIOOBE_FORMATTER"), (0, u "Ljava/util/function/BiFunction;"), (0, .class_ 126), (0, u "jdk/internal/util/Preconditions$2"), (3, u "AIOOBE_FORMATTER"), (0, .class_ 132), (0, u "jdk/internal/util/Preconditions$3"), (3, u "IOOBE_FORMATTER"), (41, u "(IILjava/util/function/BiFunction;)I")] 15

def k10m0 : Method := { name := "<init>", desc := "()V", sig := { parameters := [], returnType := none }, accessFlags := 1, code := none }
def k10c1 : Code := { maxStack := 3, maxLocals := 3, code := jdk_41_method_11_code, exceptionTable := #[], attributes := #[] }
def k10m1 : Method := { name := "checkIndex", desc := "(IILjava/util/function/BiFunction;)I", sig := { parameters := [.int, .int, (.object "java/util/function/BiFunction")], returnType := some .int }, accessFlags := 9, code := some k10c1 }
/-- jdk/internal/util/Preconditions -/
def k10 : Class := { plain "jdk/internal/util/Preconditions" (some 0) with
  accessFlags := 33
  interfaces := #[]
  cf := some (fileOf pool10 24 #[.nestMembers #[55, 131, 125, 114]] #[{ accessFlags := 1, nameIndex := 5, descriptorIndex := 6, attributes := #[] }, { accessFlags := 9, nameIndex := 33, descriptorIndex := 178, attributes := #[] }] 33 2 #[] #[{ accessFlags := 25, nameIndex := 123, descriptorIndex := 124, attributes := #[] }, { accessFlags := 25, nameIndex := 130, descriptorIndex := 124, attributes := #[] }, { accessFlags := 25, nameIndex := 136, descriptorIndex := 124, attributes := #[] }])
  fields := #[{ name := "SIOOBE_FORMATTER", type := (.object "java/util/function/BiFunction"), accessFlags := 25, slot := 0, constantValue := 0 }, { name := "AIOOBE_FORMATTER", type := (.object "java/util/function/BiFunction"), accessFlags := 25, slot := 1, constantValue := 0 }, { name := "IOOBE_FORMATTER", type := (.object "java/util/function/BiFunction"), accessFlags := 25, slot := 2, constantValue := 0 }]
  methods := #[k10m0, k10m1]
  instanceTypes := #[]
  staticTypes := #[(.object "java/util/function/BiFunction"), (.object "java/util/function/BiFunction"), (.object "java/util/function/BiFunction")]
  resolved := Array.replicate 194 none
  statics := some 1 }

def pool11 : Array CpInfo := pool [(9, u "<init>"), (6, .class_ 18), (1, u "java/lang/Object"), (0, u "()V"), (1, .class_ 23), (1, u "jdk/internal/util/ArraysSupport"), (0, u "LOG2_ARRAY_LONG_INDEX_SCALE"), (0, u "I"), (2, u "U"), (0, u "Ljdk/internal/misc/Unsafe;"), (8, u "BIG_ENDIAN"), (0, u "Z"), (8, u "LOG2_BYTE_BIT_SIZE"), (4, u "LOG2_ARRAY_INT_INDEX_SCALE"), (54, u "JLA"), (0, u "Ljdk/internal/access/JavaLangAccess;"), (11, u "LOG2_ARRAY_BOOLEAN_INDEX_SCALE"), (9, u "LOG2_ARRAY_BYTE_INDEX_SCALE"), (5, u "LOG2_ARRAY_CHAR_INDEX_SCALE"), (5, u "LOG2_ARRAY_SHORT_INDEX_SCALE"), (18, u "LOG2_ARRAY_FLOAT_INDEX_SCALE"), (24, u "LOG2_ARRAY_DOUBLE_INDEX_SCALE"), (89, u "T_BOOLEAN"), (2, u "T_CHAR"), (1, u "T_FLOAT"), (1, u "T_DOUBLE"), (1, u "T_BYTE"), (1, u "T_SHORT"), (1, u "T_INT"), (1, u "T_LONG"), (1, u "SOFT_MAX_ARRAY_LENGTH")] 83

def k11m0 : Method := { name := "<init>", desc := "()V", sig := { parameters := [], returnType := none }, accessFlags := 2, code := none }
/-- jdk/internal/util/ArraysSupport -/
def k11 : Class := { plain "jdk/internal/util/ArraysSupport" (some 0) with
  accessFlags := 33
  interfaces := #[]
  cf := some (fileOf pool11 21 #[] #[{ accessFlags := 2, nameIndex := 9, descriptorIndex := 19, attributes := #[] }] 33 16 #[] #[{ accessFlags := 24, nameIndex := 28, descriptorIndex := 29, attributes := #[] }, { accessFlags := 26, nameIndex := 38, descriptorIndex := 39, attributes := #[] }, { accessFlags := 25, nameIndex := 121, descriptorIndex := 25, attributes := #[] }, { accessFlags := 25, nameIndex := 131, descriptorIndex := 25, attributes := #[] }, { accessFlags := 25, nameIndex := 137, descriptorIndex := 25, attributes := #[] }, { accessFlags := 25, nameIndex := 143, descriptorIndex := 25, attributes := #[] }, { accessFlags := 25, nameIndex := 53, descriptorIndex := 25, attributes := #[] }, { accessFlags := 25, nameIndex := 24, descriptorIndex := 25, attributes := #[] }, { accessFlags := 25, nameIndex := 162, descriptorIndex := 25, attributes := #[] }, { accessFlags := 25, nameIndex := 187, descriptorIndex := 25, attributes := #[] }, { accessFlags := 26, nameIndex := 48, descriptorIndex := 25, attributes := #[] }, { accessFlags := 25, nameIndex := 277, descriptorIndex := 25, attributes := #[] }, { accessFlags := 25, nameIndex := 280, descriptorIndex := 25, attributes := #[] }, { accessFlags := 25, nameIndex := 282, descriptorIndex := 25, attributes := #[] }, { accessFlags := 25, nameIndex := 284, descriptorIndex := 25, attributes := #[] }, { accessFlags := 25, nameIndex := 286, descriptorIndex := 25, attributes := #[] }, { accessFlags := 25, nameIndex := 288, descriptorIndex := 25, attributes := #[] }, { accessFlags := 25, nameIndex := 290, descriptorIndex := 25, attributes := #[] }, { accessFlags := 25, nameIndex := 292, descriptorIndex := 25, attributes := #[] }, { accessFlags := 26, nameIndex := 108, descriptorIndex := 109, attributes := #[] }, { accessFlags := 25, nameIndex := 294, descriptorIndex := 25, attributes := #[] }])
  fields := #[{ name := "U", type := (.object "jdk/internal/misc/Unsafe"), accessFlags := 24, slot := 0, constantValue := 0 }, { name := "BIG_ENDIAN", type := .boolean, accessFlags := 26, slot := 1, constantValue := 0 }, { name := "LOG2_ARRAY_BOOLEAN_INDEX_SCALE", type := .int, accessFlags := 25, slot := 2, constantValue := 0 }, { name := "LOG2_ARRAY_BYTE_INDEX_SCALE", type := .int, accessFlags := 25, slot := 3, constantValue := 0 }, { name := "LOG2_ARRAY_CHAR_INDEX_SCALE", type := .int, accessFlags := 25, slot := 4, constantValue := 0 }, { name := "LOG2_ARRAY_SHORT_INDEX_SCALE", type := .int, accessFlags := 25, slot := 5, constantValue := 0 }, { name := "LOG2_ARRAY_INT_INDEX_SCALE", type := .int, accessFlags := 25, slot := 6, constantValue := 0 }, { name := "LOG2_ARRAY_LONG_INDEX_SCALE", type := .int, accessFlags := 25, slot := 7, constantValue := 0 }, { name := "LOG2_ARRAY_FLOAT_INDEX_SCALE", type := .int, accessFlags := 25, slot := 8, constantValue := 0 }, { name := "LOG2_ARRAY_DOUBLE_INDEX_SCALE", type := .int, accessFlags := 25, slot := 9, constantValue := 0 }, { name := "LOG2_BYTE_BIT_SIZE", type := .int, accessFlags := 26, slot := 10, constantValue := 0 }, { name := "T_BOOLEAN", type := .int, accessFlags := 25, slot := 11, constantValue := 0 }, { name := "T_CHAR", type := .int, accessFlags := 25, slot := 12, constantValue := 0 }, { name := "T_FLOAT", type := .int, accessFlags := 25, slot := 13, constantValue := 0 }, { name := "T_DOUBLE", type := .int, accessFlags := 25, slot := 14, constantValue := 0 }, { name := "T_BYTE", type := .int, accessFlags := 25, slot := 15, constantValue := 0 }, { name := "T_SHORT", type := .int, accessFlags := 25, slot := 16, constantValue := 0 }, { name := "T_INT", type := .int, accessFlags := 25, slot := 17, constantValue := 0 }, { name := "T_LONG", type := .int, accessFlags := 25, slot := 18, constantValue := 0 }, { name := "JLA", type := (.object "jdk/internal/access/JavaLangAccess"), accessFlags := 26, slot := 19, constantValue := 0 }, { name := "SOFT_MAX_ARRAY_LENGTH", type := .int, accessFlags := 25, slot := 20, constantValue := 0 }]
  methods := #[k11m0]
  instanceTypes := #[]
  staticTypes := #[(.object "jdk/internal/misc/Unsafe"), .boolean, .int, .int, .int, .int, .int, .int, .int, .int, .int, .int, .int, .int, .int, .int, .int, .int, .int, (.object "jdk/internal/access/JavaLangAccess"), .int]
  resolved := Array.replicate 378 none
  statics := none }

def pool12 : Array CpInfo := pool [(1, u "java/lang/Cloneable"), (0, .class_ 1), (0, u "java/lang/Object"), (0, .class_ 3)] 3

/-- java/lang/Cloneable -/
def k12 : Class := { plain "java/lang/Cloneable" (some 0) with
  accessFlags := 1537
  interfaces := #[]
  cf := some (fileOf pool12 2 #[] #[] 1537 4 #[] #[])
  fields := #[]
  methods := #[]
  instanceTypes := #[]
  staticTypes := #[]
  resolved := Array.replicate 8 none
  statics := none }

/-- the primitive byte -/
def k13 : Class := { plain "byte" none with kind := .primitive 'B', accessFlags := 0x411 }
/-- [B -/
def k14 : Class := { plain "[B" (some 0) with kind := .array 13 .byte, interfaces := #[12, 3], accessFlags := 1041 }

/-- the primitive int -/
def k15 : Class := { plain "int" none with kind := .primitive 'I', accessFlags := 0x411 }
/-- [I -/
def k16 : Class := { plain "[I" (some 0) with kind := .array 15 .int, interfaces := #[12, 3], accessFlags := 1041 }

def heap : Heap := #[{ cls := 8, slots := #[.long 0, .int 1, .null, .int 0, .null, .int 0, .int 0], vm := .statics 8 },
  { cls := 10, slots := #[.null, .null, .null], vm := .statics 10 }]
def classes : Array Class := #[k0, k1, k2, k3, k4, k5, k6, k7, k8, k9, k10, k11, k12, k13, k14, k15, k16]
def interned : List (Array UInt16 × Addr) := []
def slotsUsed : Nat := 10
def theMethod : MethodId := ⟨1, 1⟩
def args0 : Array Value := #[.int 65, .int 10]
def aboutOver (below : List Frame) : State where
  vm := { classes := classes, interned := interned.toArray }
  heap := heap
  slotsUsed := slotsUsed
  threads := #[{ frames := .invoking theMethod args0 :: below }]
def below0 : List Frame := [.native { method := ⟨0, 0⟩, args := #[] }]
def about1 : State := aboutOver below0
def p0 : Program := .bare "" "" ""
def e0 : Env := launch0.env 0 0 0
theorem w_frames : about1.frames = Frame.invoking theMethod args0 :: below0 := rfl
set_option maxRecDepth 65536 in
theorem w_args : argsFit about1.vm theMethod args0 = true := by decide +kernel
set_option maxRecDepth 65536 in
theorem w_heap : heapFits about1 = true := by decide +kernel
set_option maxRecDepth 65536 in
theorem w_runnable : about1.curStatus? = some .runnable := by decide +kernel
set_option maxRecDepth 65536 in
theorem w_alone : about1.alone = true := by decide +kernel
set_option maxRecDepth 65536 in
theorem w_named : about1.methodNamed? x = some theMethod := by decide +kernel
set_option maxRecDepth 65536 in
theorem w_hears : about1.hears theMethod below0 = true := by decide +kernel
set_option maxRecDepth 65536 in
theorem w_ripe : about1.ripe theMethod args0 below0 = true := by decide +kernel
theorem w_running : about1.status = .running := rfl
set_option maxRecDepth 65536 in
theorem w_room : about1.hasRoom e0.platform room_1 = true :=
  launch0.hasRoom_least _ room_1 (by decide +kernel) (by decide +kernel) (by decide +kernel) (by decide +kernel) (by decide +kernel) (by decide +kernel)
theorem allAtoms_all (ts : List Jvm.Cond) (a : Array Jvm.Value) (st : Jvm.State) : (allAtoms ts).before a st = ts.all (fun c => c.before a st) := by
  induction ts with
  | nil => rfl
  | cons c t ih =>
    show (Jvm.Cond.and c (allAtoms t)).before a st = _
    rw [Jvm.Cond.before_and, ih, List.all_cons]
def words1 : List Jvm.Cond := Jvm.Cond.code x code maxLocals ret :: tables_1
/-- a 'code' word, met by the world's own term for the bytes: nothing is compared byte by byte -/
theorem code_word {y : MethodName} {bytes : ByteArray} {mx : Nat} {rt : Option FieldType} {a : Array Value} {s : State} {m : MethodId} {meth : Method} {c : Code} (h1 : s.methodNamed? y = some m) (h2 : s.vm.method? m = some meth) (h3 : meth.code = some c) (h4 : c.code = bytes)
    (h5 : (c.maxLocals == mx && c.exceptionTable.isEmpty && decide (c.maxStack ≤ mostOperands) && decide (meth.sig.returnType = rt) && !meth.locks && decide (parseMethodDescriptor y.desc = some meth.sig)) = true) : (Jvm.Cond.code y bytes mx rt).before a s = true := by
  simp only [Bool.and_eq_true, beq_iff_eq, Bool.not_eq_true', decide_eq_true_eq] at h5
  obtain ⟨⟨⟨⟨⟨g1, g2⟩, g3⟩, g4⟩, g5⟩, g6⟩ := h5
  simp [Cond.before, Cond.holds, Cond.value, h1, h2, h3, h4, g1, g2, g3, g4, g5, g6]
def isCode : Jvm.Cond → Bool
  | .code _ _ _ _ => true
  | _ => false
theorem all_split {L : List Jvm.Cond} {P : Jvm.Cond → Bool} (h1 : L.all (fun c => isCode c || P c) = true) (h2 : ∀ c ∈ L.filter isCode, P c = true) : L.all P = true := by
  refine List.all_eq_true.mpr fun c hc => ?_
  have h := List.all_eq_true.mp h1 c hc
  rcases Bool.eq_false_or_eq_true (isCode c) with hi | hi
  · exact h2 c (List.mem_filter.mpr ⟨hc, hi⟩)
  · simpa [hi] using h
set_option maxRecDepth 65536 in
theorem w_c0 : (Jvm.Cond.code x code maxLocals ret).before args0 about1 = true := code_word (m := ⟨1, 1⟩) (meth := k1m1) (c := k1c1) (by decide +kernel) rfl rfl rfl (by decide +kernel)
set_option maxRecDepth 65536 in
theorem w_c1 : (Jvm.Cond.code ({ cls := "com/example/door3/door3/uri/PercentEncoding", name := "hexDigit", desc := "(C)I" } : Jvm.MethodName) prog_40_method_10_code (2 : Nat) (Option.some Jvm.ClassFile.FieldType.int)).before args0 about1 = true := code_word (m := ⟨2, 1⟩) (meth := k2m1) (c := k2c1) (by decide +kernel) rfl rfl rfl (by decide +kernel)
set_option maxRecDepth 65536 in
theorem w_c2 : (Jvm.Cond.code ({ cls := "java/lang/String", name := "charAt", desc := "(I)C" } : Jvm.MethodName) jdk_42_method_56_code (2 : Nat) (Option.some Jvm.ClassFile.FieldType.char)).before args0 about1 = true := code_word (m := ⟨8, 1⟩) (meth := k8m1) (c := k8c1) (by decide +kernel) rfl rfl rfl (by decide +kernel)
set_option maxRecDepth 65536 in
theorem w_c3 : (Jvm.Cond.code ({ cls := "java/lang/String", name := "isLatin1", desc := "()Z" } : Jvm.MethodName) jdk_42_method_154_code (1 : Nat) (Option.some Jvm.ClassFile.FieldType.boolean)).before args0 about1 = true := code_word (m := ⟨8, 2⟩) (meth := k8m2) (c := k8c2) (by decide +kernel) rfl rfl rfl (by decide +kernel)
set_option maxRecDepth 65536 in
theorem w_c4 : (Jvm.Cond.code ({ cls := "java/lang/StringLatin1", name := "charAt", desc := "([BI)C" } : Jvm.MethodName) jdk_43_method_2_code (2 : Nat) (Option.some Jvm.ClassFile.FieldType.char)).before args0 about1 = true := code_word (m := ⟨9, 1⟩) (meth := k9m1) (c := k9c1) (by decide +kernel) rfl rfl rfl (by decide +kernel)
set_option maxRecDepth 65536 in
theorem w_c5 : (Jvm.Cond.code ({ cls := "java/lang/String", name := "checkIndex", desc := "(II)V" } : Jvm.MethodName) jdk_42_method_155_code (2 : Nat) (Option.none : Option Jvm.ClassFile.FieldType)).before args0 about1 = true := code_word (m := ⟨8, 3⟩) (meth := k8m3) (c := k8c3) (by decide +kernel) rfl rfl rfl (by decide +kernel)
set_option maxRecDepth 65536 in
theorem w_c6 : (Jvm.Cond.code ({ cls := "jdk/internal/util/Preconditions", name := "checkIndex", desc := "(IILjava/util/function/BiFunction;)I" } : Jvm.MethodName) jdk_41_method_11_code (3 : Nat) (Option.some Jvm.ClassFile.FieldType.int)).before args0 about1 = true := code_word (m := ⟨10, 1⟩) (meth := k10m1) (c := k10c1) (by decide +kernel) rfl rfl rfl (by decide +kernel)
def codes1 : List Jvm.Cond := [Jvm.Cond.code x code maxLocals ret, Jvm.Cond.code ({ cls := "com/example/door3/door3/uri/PercentEncoding", name := "hexDigit", desc := "(C)I" } : Jvm.MethodName) prog_40_method_10_code (2 : Nat) (Option.some Jvm.ClassFile.FieldType.int), Jvm.Cond.code ({ cls := "java/lang/String", name := "charAt", desc := "(I)C" } : Jvm.MethodName) jdk_42_method_56_code (2 : Nat) (Option.some Jvm.ClassFile.FieldType.char), Jvm.Cond.code ({ cls := "java/lang/String", name := "isLatin1", desc := "()Z" } : Jvm.MethodName) jdk_42_method_154_code (1 : Nat) (Option.some Jvm.ClassFile.FieldType.boolean), Jvm.Cond.code ({ cls := "java/lang/StringLatin1", name := "charAt", desc := "([BI)C" } : Jvm.MethodName) jdk_43_method_2_code (2 : Nat) (Option.some Jvm.ClassFile.FieldType.char), Jvm.Cond.code ({ cls := "java/lang/String", name := "checkIndex", desc := "(II)V" } : Jvm.MethodName) jdk_42_method_155_code (2 : Nat) (Option.none : Option Jvm.ClassFile.FieldType), Jvm.Cond.code ({ cls := "jdk/internal/util/Preconditions", name := "checkIndex", desc := "(IILjava/util/function/BiFunction;)I" } : Jvm.MethodName) jdk_41_method_11_code (3 : Nat) (Option.some Jvm.ClassFile.FieldType.int)]
set_option maxRecDepth 65536 in
theorem codes_eq : words1.filter isCode = codes1 := rfl
theorem w_codes : ∀ c ∈ words1.filter isCode, c.before args0 about1 = true := by
  rw [codes_eq]
  intro c hc
  simp only [codes1, List.mem_cons, List.not_mem_nil, or_false] at hc
  rcases hc with rfl | rfl | rfl | rfl | rfl | rfl | rfl
  · exact w_c0
  · exact w_c1
  · exact w_c2
  · exact w_c3
  · exact w_c4
  · exact w_c5
  · exact w_c6
set_option maxRecDepth 65536 in
theorem w_t1 : (words1.take 24).all (fun c => isCode c || c.before args0 about1) = true := by decide +kernel
set_option maxRecDepth 65536 in
theorem w_t2 : (words1.drop 24).all (fun c => isCode c || c.before args0 about1) = true := by decide +kernel
theorem w_tables : (allAtoms (Jvm.Cond.code x code maxLocals ret :: tables_1)).before args0 about1 = true := by
  rw [allAtoms_all]
  show words1.all (fun c => c.before args0 about1) = true
  refine all_split ?_ w_codes
  rw [← List.take_append_drop 24 words1, List.all_append, w_t1, w_t2]
  rfl
set_option maxRecDepth 65536 in
theorem w_rest : rest_1_c.before args0 about1 = true := by decide +kernel
set_option maxRecDepth 65536 in
theorem w_case : (Jvm.Cond.and given_1 narrow_1).before args0 about1 = true := by decide +kernel
set_option maxRecDepth 65536 in
theorem w_consts : constsHeld consts_1 about1 := Jvm.Lit.constsHeldB_iff.mp (by decide +kernel)
theorem w_applies : (headSpec (Jvm.Cond.code x code maxLocals ret :: tables_1) room_1).applies x e0.platform about1 = true :=
  (Spec.applies_iff w_frames).mpr ⟨w_running, w_runnable, w_alone, w_named, w_hears, w_ripe, w_room, w_tables⟩
theorem atStart : AtStart classFile x code maxLocals ret World_1 tables_1 room_1 Calls_1 rest_1 Pre_1 launch0 p0 e0 about1 theMethod args0 below0 :=
  ⟨lists_1, trivial, launch0.admits_env _ _ _, launch0.least_env, fairChoices_fair.cas, fairChoices_fair.clock, w_frames, w_args, w_heap, w_applies, ⟨w_consts, trivial⟩, w_rest, w_case⟩
end start1
theorem witness_1 : WitnessClaimed_1 := ⟨start1.p0, start1.e0, start1.about1, start1.theMethod, start1.args0, start1.below0, start1.atStart⟩
end Jvm.Pilot.@@N@@
