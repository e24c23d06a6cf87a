import JvmDerived
import JvmDerived.Pilot.@@N@@Statement
import JvmDerived.Pilot.@@N@@Code
set_option linter.unusedVariables false
set_option linter.unusedSimpArgs false
namespace Jvm.RoadKit
open Sem ClassFile Op Lib Jvm.Stand Jvm.Free Jvm.LawKit
section New
variable {p : Program} {l : Launch} {e : Env} {R : Room} {s : State} {m : MethodId} {args : Array Value} {below : List Frame} {meth : Method} {c : Code} {T : State} {locs : List Loc} {cells slots : Nat}
theorem retI (X : Stand p l e R s m args below meth c T locs cells slots) (hx : p.tables.exec = Jvm.exec) {pc : Nat} {Ls : Array Slot} {z : Int32} {rest : List Value} (hret : meth.sig.returnType = some .int) (hd : decode c.code pc = .ok (.ireturn, 1)) {fs : List Frame}
    (hl : ∀ (f : JFrame) (acts : List Action), f.method = m → f.locked = none → f.entered = [] → (doReturn e (T.setTop f) acts (some (.int z))).1 = T.setFrames fs) : Steps p.tables e below (T.setTop (mkF m pc Ls (.int z :: rest))) (T.setFrames fs) := by
  have hm' : T.vm.method? m = some meth := X.method'
  have hn : narrow .int (.int z) = .int z := rfl
  show Steps p.tables e below (T.setTop { method := m, pc := pc, locals := Ls, stack := _ :: rest, locked := none }) _
  jvm_step X.here [X.here.top, hx, hd, hm', hret, hn]
  first | (intro acts; rw [hl _ acts rfl rfl rfl]) | rw [hl _ _ rfl rfl rfl]
  exact Steps.refl _
end New
/-- the run from the state A ends as asked: what is left of the goal while one walks -/
def own_End (p : Program) (e : Env) (below : List Frame) (s A : State) (W : Option Value → Heap → List Loc → Prop) (k n : Nat) : Prop :=
  ∃ s₂ o, Steps p.tables e below A s₂ ∧ s₂.status = .running ∧ Ended s₂ below o ∧ ∃ v L, o = .returned v ∧ W v s₂.heap L ∧ FrameEnd s o s₂ L k n
theorem own_pre {p : Program} {e : Env} {below : List Frame} {s A B : State} {W : Option Value → Heap → List Loc → Prop} {k n : Nat} (f : ∀ t, Steps p.tables e below A t → Steps p.tables e below B t) (h : own_End p e below s A W k n) : own_End p e below s B W k n := by
  obtain ⟨s₂, o, h1, h2⟩ := h; exact ⟨s₂, o, f _ h1, h2⟩
end Jvm.RoadKit
namespace Jvm.Pilot.@@N@@
open Jvm Jvm.ClassFile Sem Op Lib Jvm.Free Jvm.Stand Jvm.LawKit Jvm.RoadKit Bundle Jvm.Pilot.@@N@@.Jvm.D
def own_Obj (Z : State) (h : Heap) (a : Addr) (v0 : Int64) (v1 : Int64) (v2 : Int64) (v3 : Int64) : Prop := Exa Z h a "com/example/door3/door3/transport/LeastRate" ∧ Fld Z h a "com/example/door3/door3/transport/LeastRate" "idleNanos" "J" (.long v0) ∧ Fld Z h a "com/example/door3/door3/transport/LeastRate" "left" "J" (.long v1) ∧ Fld Z h a "com/example/door3/door3/transport/LeastRate" "since" "J" (.long v2) ∧ Fld Z h a "com/example/door3/door3/transport/LeastRate" "moved" "J" (.long v3)
theorem d1_0 : decode prog_33_method_1_code 0 = .ok (.aload_n 0, 1) := by decide +kernel
theorem d1_1 : decode prog_33_method_1_code 1 = .ok (.invokespecial 1, 3) := by decide +kernel
theorem d1_4 : decode prog_33_method_1_code 4 = .ok (.aload_n 0, 1) := by decide +kernel
theorem d1_5 : decode prog_33_method_1_code 5 = .ok (.lload_n 1, 1) := by decide +kernel
theorem d1_6 : decode prog_33_method_1_code 6 = .ok (.putfield 7, 3) := by decide +kernel
theorem d1_9 : decode prog_33_method_1_code 9 = .ok (.aload_n 0, 1) := by decide +kernel
theorem d1_10 : decode prog_33_method_1_code 10 = .ok (.lload_n 1, 1) := by decide +kernel
theorem d1_11 : decode prog_33_method_1_code 11 = .ok (.putfield 13, 3) := by decide +kernel
theorem d1_14 : decode prog_33_method_1_code 14 = .ok (.return_, 1) := by decide +kernel
theorem pn_1 : plainName "com/example/door3/door3/transport/LeastRate" = true := by first | (simp [plainName, overriddenIn]; done) | decide +kernel
theorem ef_1 (m : MethodId) (x0 : Addr) (x1 : Int64) : entryFrame m #[(.ref x0), (.long x1)] 3 = mkF m 0 #[.val (.ref x0), .val (.long x1), .second] [] := by first | (simp [entryFrame, mkF, argsToLocals, Value.category]; done) | rfl
def Q1 (Z : State) (a1 : Addr) (q2 : Int64) (vi : Int64) (vl : Int64) (vs : Int64) (vm : Int64) (h0 : Heap) (n0 : Nat) (v : Option Value) (h : Heap) (L : List Loc) : Prop := v = none ∧ Fr n0 L ∧ Keep h0 h [a1] ∧ own_Obj Z h a1 q2 q2 vs vm
set_option maxRecDepth 65536 in
set_option maxHeartbeats 40000000 in
theorem rm1 (l : Launch) (Z : State) (a0 : Array Value) (hw : ∀ d ∈ tables_1, d.before a0 Z = true) (ws : List Jvm.Cond) (a1 : Addr) (q2 : Int64) (vi : Int64) (vl : Int64) (vs : Int64) (vm : Int64) (h0 : Heap) (n0 : Nat) (Z0 : n0 ≤ h0.size) (O_a1 : own_Obj Z h0 a1 vi vl vs vm) (g_a1 : n0 ≤ a1) :
    MetFree l (⟨"com/example/door3/door3/transport/LeastRate", "<init>", "(J)V"⟩ : MethodName) (head1 (Jvm.Cond.code (⟨"com/example/door3/door3/transport/LeastRate", "<init>", "(J)V"⟩ : MethodName) prog_33_method_1_code 3 none :: ws) ({ frames := 1, cells := 0, slots := 0, locals := 12 } : Room)) (fun a U => a = #[(.ref a1), (.long q2)] ∧ Z.Warmed39 U.vm ∧ U.heap = h0) (fun _ _ _ _ _ => True) (fun _ U o U' => ∃ v L, o = .returned v ∧ Q1 Z a1 q2 vi vl vs vm h0 n0 v U'.heap L ∧ FrameEnd U o U' L ({ frames := 1, cells := 0, slots := 0, locals := 12 } : Room).cells ({ frames := 1, cells := 0, slots := 0, locals := 12 } : Room).slots) := by
  refine MetFree.of_bodySF (plainFor_of_name pn_1) hisR ?_
  intro p e s m args below meth c s₁ Bd hml0 hP hK
  obtain ⟨rfl, hZ, hh⟩ := hP
  have hx := Bd.exec
  have hby := Bd.bytes
  have hml : c.maxLocals = 3 := hml0
  have hown : s.vm.findClass "com/example/door3/door3/transport/LeastRate" = some m.cls := findClass_of_methodNamed Bd.named
  have hnm := (name_of_methodNamed Bd.named Bd.method).1
  have X0 : Stand p l e ({ frames := 1, cells := 0, slots := 0, locals := 12 } : Room) s m #[(.ref a1), (.long q2)] below meth c s₁ [] 0 0 := Stand.of_body Bd
  have e0 : s₁.heap = h0 := by rw [← hh, Bd.state]; rfl
  have N0 := Fr.nil n0
  show own_End p e below s (s₁.setTop (entryFrame m #[(.ref a1), (.long q2)] 3)) (Q1 Z a1 q2 vi vl vs vm h0 n0) ({ frames := 1, cells := 0, slots := 0, locals := 12 } : Room).cells ({ frames := 1, cells := 0, slots := 0, locals := 12 } : Room).slots
  obtain ⟨E_a1_1, F_idleNanos_a1_2, F_left_a1_3, F_since_a1_4, F_moved_a1_5⟩ := O_a1
  refine own_pre (A := s₁.setTop (mkF m 0 #[.val (.ref a1), .val (.long q2), .second] [])) (fun tt kt => castTop (ef_1 m a1 q2) kt) ?_
  show own_End p e below s (s₁.setTop (mkF m 0 #[.val (.ref a1), .val (.long q2), .second] [])) (Q1 Z a1 q2 vi vl vs vm h0 n0) ({ frames := 1, cells := 0, slots := 0, locals := 12 } : Room).cells ({ frames := 1, cells := 0, slots := 0, locals := 12 } : Room).slots
  obtain ⟨T6, X6, e6, st6⟩ := initO X0 hx hZ hown (hw _ (List.mem_of_getElem? (i := 6) rfl)) (hw _ (List.mem_of_getElem? (i := 7) rfl)) (hw _ (List.mem_of_getElem? (i := 8) rfl)) e0 (g := (mkF m 1 #[.val (.ref a1), .val (.long q2), .second] [(.ref a1)])) rfl (by rw [hml]; rfl) rfl (hb hby d1_1) (by decide) (W := 0) (by show 2 * 0 + _ ≤ _; exact Nat.le_of_eq rfl) (by decide)
  obtain ⟨T7, h7, X7, e7, W7, st7⟩ := putF X6 hx hZ hown (host := "") (Or.inl (hw _ (List.mem_of_getElem? (i := 9) rfl))) Via.refl e6 F_idleNanos_a1_2 E_a1_1 (Or.inr ⟨(hw _ (List.mem_of_getElem? (i := 10) rfl)), rfl, hnm⟩) (hw _ (List.mem_of_getElem? (i := 1) rfl)) (ty := .long) (by decide) rfl rfl (g := (mkF m 6 #[.val (.ref a1), .val (.long q2), .second] [(.long q2), (.ref a1)])) rfl rfl (hb hby d1_6)
  have Fw7 := Fld.same W7 F_idleNanos_a1_2
  have fE_a1_x7 := (E_a1_1.wr W7)
  have fF_a1_left_x7 := (Fld.other W7 F_left_a1_3 (Or.inr (slot_ne (Or.inl (hw _ (List.mem_of_getElem? (i := 12) rfl))) (Or.inr (hw _ (List.mem_of_getElem? (i := 10) rfl))) (by decide) (t := .long) (t' := .long) (by decide) (by decide))))
  have fF_a1_since_x7 := (Fld.other W7 F_since_a1_4 (Or.inr (slot_ne (Or.inl (hw _ (List.mem_of_getElem? (i := 19) rfl))) (Or.inr (hw _ (List.mem_of_getElem? (i := 10) rfl))) (by decide) (t := .long) (t' := .long) (by decide) (by decide))))
  have fF_a1_moved_x7 := (Fld.other W7 F_moved_a1_5 (Or.inr (slot_ne (Or.inl (hw _ (List.mem_of_getElem? (i := 26) rfl))) (Or.inr (hw _ (List.mem_of_getElem? (i := 10) rfl))) (by decide) (t := .long) (t' := .long) (by decide) (by decide))))
  have N7 := Fr.snoc X7 N0 g_a1
  have K7 : Keep h0 h7 [a1] := Keep.wr (Keep.refl h0 _) W7 (Or.inl (List.mem_of_getElem? (i := 0) rfl))
  have Z7 : n0 ≤ h7.size := Nat.le_trans Z0 (Nat.le_of_eq W7.size.symm)
  obtain ⟨T8, h8, X8, e8, W8, st8⟩ := putF X7 hx hZ hown (host := "") (Or.inl (hw _ (List.mem_of_getElem? (i := 11) rfl))) Via.refl e7 fF_a1_left_x7 fE_a1_x7 (Or.inl (hw _ (List.mem_of_getElem? (i := 12) rfl))) (hw _ (List.mem_of_getElem? (i := 1) rfl)) (ty := .long) (by decide) rfl rfl (g := (mkF m 11 #[.val (.ref a1), .val (.long q2), .second] [(.long q2), (.ref a1)])) rfl rfl (hb hby d1_11)
  have Fw8 := Fld.same W8 fF_a1_left_x7
  have fE_a1_x8 := (fE_a1_x7.wr W8)
  have fF_a1_idleNanos_x8 := (Fld.other W8 Fw7 (Or.inr (slot_ne (Or.inr (hw _ (List.mem_of_getElem? (i := 10) rfl))) (Or.inl (hw _ (List.mem_of_getElem? (i := 12) rfl))) (by decide) (t := .long) (t' := .long) (by decide) (by decide))))
  have fF_a1_since_x8 := (Fld.other W8 fF_a1_since_x7 (Or.inr (slot_ne (Or.inl (hw _ (List.mem_of_getElem? (i := 19) rfl))) (Or.inl (hw _ (List.mem_of_getElem? (i := 12) rfl))) (by decide) (t := .long) (t' := .long) (by decide) (by decide))))
  have fF_a1_moved_x8 := (Fld.other W8 fF_a1_moved_x7 (Or.inr (slot_ne (Or.inl (hw _ (List.mem_of_getElem? (i := 26) rfl))) (Or.inl (hw _ (List.mem_of_getElem? (i := 12) rfl))) (by decide) (t := .long) (t' := .long) (by decide) (by decide))))
  have N8 := Fr.snoc X8 N7 g_a1
  have K8 : Keep h0 h8 [a1] := Keep.wr K7 W8 (Or.inl (List.mem_of_getElem? (i := 0) rfl))
  have Z8 : n0 ≤ h8.size := Nat.le_trans Z7 (Nat.le_of_eq W8.size.symm)
  refine own_pre (A := T8.setTop (mkF m 14 #[.val (.ref a1), .val (.long q2), .second] [])) (fun tt kt => ?_) ?_
  · show Steps p.tables e below (s₁.setTop (mkF m 0 #[.val (.ref a1), .val (.long q2), .second] [])) _
    refine XS.aloadN X0.here hx rfl (hb hby d1_0) rfl rfl ?_
    show Steps p.tables e below (s₁.setTop (mkF m 1 #[.val (.ref a1), .val (.long q2), .second] [(.ref a1)])) _
    refine st6 _ ?_
    show Steps p.tables e below (T6.setTop (mkF m 4 #[.val (.ref a1), .val (.long q2), .second] [])) _
    refine XS.aloadN X6.here hx rfl (hb hby d1_4) rfl rfl ?_
    show Steps p.tables e below (T6.setTop (mkF m 5 #[.val (.ref a1), .val (.long q2), .second] [(.ref a1)])) _
    refine XS.lloadN X6.here hx rfl (hb hby d1_5) rfl ?_
    show Steps p.tables e below (T6.setTop (mkF m 6 #[.val (.ref a1), .val (.long q2), .second] [(.long q2), (.ref a1)])) _
    refine st7 _ ?_
    show Steps p.tables e below (T7.setTop (mkF m 9 #[.val (.ref a1), .val (.long q2), .second] [])) _
    refine XS.aloadN X7.here hx rfl (hb hby d1_9) rfl rfl ?_
    show Steps p.tables e below (T7.setTop (mkF m 10 #[.val (.ref a1), .val (.long q2), .second] [(.ref a1)])) _
    refine XS.lloadN X7.here hx rfl (hb hby d1_10) rfl ?_
    show Steps p.tables e below (T7.setTop (mkF m 11 #[.val (.ref a1), .val (.long q2), .second] [(.long q2), (.ref a1)])) _
    refine st8 _ ?_
    exact kt
  show own_End p e below s (T8.setTop (mkF m 14 #[.val (.ref a1), .val (.long q2), .second] [])) (Q1 Z a1 q2 vi vl vs vm h0 n0) ({ frames := 1, cells := 0, slots := 0, locals := 12 } : Room).cells ({ frames := 1, cells := 0, slots := 0, locals := 12 } : Room).slots
  obtain ⟨fs, hr, hrun, hended, hW, hsame⟩ := X8.leave (v := none) (fun _ => rfl)
  refine ⟨_, _, ?_, hrun, hended, _, _, rfl, ?_, ⟨_, rfl⟩, hW, hsame.mono (by decide) (by decide)⟩
  · exact X8.returnOut hx Bd.returns (hb hby d1_14) hr
  · show Q1 Z a1 q2 vi vl vs vm h0 n0 _ T8.heap _
    rw [e8]
    exact ⟨rfl, N8, K8, ⟨fE_a1_x8, fF_a1_idleNanos_x8, Fw8, fF_a1_since_x8, fF_a1_moved_x8⟩⟩
theorem d3_0 : decode prog_33_method_4_code 0 = .ok (.aload_n 0, 1) := by decide +kernel
theorem d3_1 : decode prog_33_method_4_code 1 = .ok (.dup, 1) := by decide +kernel
theorem d3_2 : decode prog_33_method_4_code 2 = .ok (.getfield 13, 3) := by decide +kernel
theorem d3_5 : decode prog_33_method_4_code 5 = .ok (.lload_n 1, 1) := by decide +kernel
theorem d3_6 : decode prog_33_method_4_code 6 = .ok (.aload_n 0, 1) := by decide +kernel
theorem d3_7 : decode prog_33_method_4_code 7 = .ok (.getfield 19, 3) := by decide +kernel
theorem d3_10 : decode prog_33_method_4_code 10 = .ok (.lsub, 1) := by decide +kernel
theorem d3_11 : decode prog_33_method_4_code 11 = .ok (.lsub, 1) := by decide +kernel
theorem d3_12 : decode prog_33_method_4_code 12 = .ok (.putfield 13, 3) := by decide +kernel
theorem d3_15 : decode prog_33_method_4_code 15 = .ok (.return_, 1) := by decide +kernel
theorem pn_3 : plainName "com/example/door3/door3/transport/LeastRate" = true := by first | (simp [plainName, overriddenIn]; done) | decide +kernel
theorem ef_3 (m : MethodId) (x0 : Addr) (x1 : Int64) : entryFrame m #[(.ref x0), (.long x1)] 3 = mkF m 0 #[.val (.ref x0), .val (.long x1), .second] [] := by first | (simp [entryFrame, mkF, argsToLocals, Value.category]; done) | rfl
def Q3 (Z : State) (a1 : Addr) (q2 : Int64) (vi : Int64) (vl : Int64) (vs : Int64) (vm : Int64) (h0 : Heap) (n0 : Nat) (v : Option Value) (h : Heap) (L : List Loc) : Prop := v = none ∧ Fr n0 L ∧ Keep h0 h [a1] ∧ own_Obj Z h a1 vi (vl - (q2 - vs)) vs vm
set_option maxRecDepth 65536 in
set_option maxHeartbeats 40000000 in
theorem rm3 (l : Launch) (Z : State) (a0 : Array Value) (hw : ∀ d ∈ tables_1, d.before a0 Z = true) (ws : List Jvm.Cond) (a1 : Addr) (q2 : Int64) (vi : Int64) (vl : Int64) (vs : Int64) (vm : Int64) (h0 : Heap) (n0 : Nat) (Z0 : n0 ≤ h0.size) (O_a1 : own_Obj Z h0 a1 vi vl vs vm) (g_a1 : n0 ≤ a1) :
    MetFree l (⟨"com/example/door3/door3/transport/LeastRate", "stopWaiting", "(J)V"⟩ : MethodName) (head1 (Jvm.Cond.code (⟨"com/example/door3/door3/transport/LeastRate", "stopWaiting", "(J)V"⟩ : MethodName) prog_33_method_4_code 3 none :: ws) ({ frames := 0, cells := 0, slots := 0, locals := 0 } : Room)) (fun a U => a = #[(.ref a1), (.long q2)] ∧ Z.Warmed39 U.vm ∧ U.heap = h0) (fun _ _ _ _ _ => True) (fun _ U o U' => ∃ v L, o = .returned v ∧ Q3 Z a1 q2 vi vl vs vm h0 n0 v U'.heap L ∧ FrameEnd U o U' L ({ frames := 0, cells := 0, slots := 0, locals := 0 } : Room).cells ({ frames := 0, cells := 0, slots := 0, locals := 0 } : Room).slots) := by
  refine MetFree.of_bodySF (plainFor_of_name pn_3) hisR ?_
  intro p e s m args below meth c s₁ Bd hml0 hP hK
  obtain ⟨rfl, hZ, hh⟩ := hP
  have hx := Bd.exec
  have hby := Bd.bytes
  have hml : c.maxLocals = 3 := hml0
  have hown : s.vm.findClass "com/example/door3/door3/transport/LeastRate" = some m.cls := findClass_of_methodNamed Bd.named
  have hnm := (name_of_methodNamed Bd.named Bd.method).1
  have X0 : Stand p l e ({ frames := 0, cells := 0, slots := 0, locals := 0 } : Room) s m #[(.ref a1), (.long q2)] below meth c s₁ [] 0 0 := Stand.of_body Bd
  have e0 : s₁.heap = h0 := by rw [← hh, Bd.state]; rfl
  have N0 := Fr.nil n0
  show own_End p e below s (s₁.setTop (entryFrame m #[(.ref a1), (.long q2)] 3)) (Q3 Z a1 q2 vi vl vs vm h0 n0) ({ frames := 0, cells := 0, slots := 0, locals := 0 } : Room).cells ({ frames := 0, cells := 0, slots := 0, locals := 0 } : Room).slots
  obtain ⟨E_a1_1, F_idleNanos_a1_2, F_left_a1_3, F_since_a1_4, F_moved_a1_5⟩ := O_a1
  refine own_pre (A := s₁.setTop (mkF m 0 #[.val (.ref a1), .val (.long q2), .second] [])) (fun tt kt => castTop (ef_3 m a1 q2) kt) ?_
  show own_End p e below s (s₁.setTop (mkF m 0 #[.val (.ref a1), .val (.long q2), .second] [])) (Q3 Z a1 q2 vi vl vs vm h0 n0) ({ frames := 0, cells := 0, slots := 0, locals := 0 } : Room).cells ({ frames := 0, cells := 0, slots := 0, locals := 0 } : Room).slots
  obtain ⟨T6, X6, e6, st6⟩ := getF X0 hx hZ hown (host := "") (Or.inl (hw _ (List.mem_of_getElem? (i := 11) rfl))) Via.refl e0 F_left_a1_3 (g := (mkF m 2 #[.val (.ref a1), .val (.long q2), .second] [(.ref a1), (.ref a1)])) rfl rfl (hb hby d3_2)
  obtain ⟨T7, X7, e7, st7⟩ := getF X6 hx hZ hown (host := "") (Or.inl (hw _ (List.mem_of_getElem? (i := 18) rfl))) Via.refl e6 F_since_a1_4 (g := (mkF m 7 #[.val (.ref a1), .val (.long q2), .second] [(.ref a1), (.long q2), (.long vl), (.ref a1)])) rfl rfl (hb hby d3_7)
  obtain ⟨T8, h8, X8, e8, W8, st8⟩ := putF X7 hx hZ hown (host := "") (Or.inl (hw _ (List.mem_of_getElem? (i := 11) rfl))) Via.refl e7 F_left_a1_3 E_a1_1 (Or.inl (hw _ (List.mem_of_getElem? (i := 12) rfl))) (hw _ (List.mem_of_getElem? (i := 1) rfl)) (ty := .long) (by decide) rfl rfl (g := (mkF m 12 #[.val (.ref a1), .val (.long q2), .second] [(.long (vl - (q2 - vs))), (.ref a1)])) rfl rfl (hb hby d3_12)
  have Fw8 := Fld.same W8 F_left_a1_3
  have fE_a1_x8 := (E_a1_1.wr W8)
  have fF_a1_idleNanos_x8 := (Fld.other W8 F_idleNanos_a1_2 (Or.inr (slot_ne (Or.inr (hw _ (List.mem_of_getElem? (i := 10) rfl))) (Or.inl (hw _ (List.mem_of_getElem? (i := 12) rfl))) (by decide) (t := .long) (t' := .long) (by decide) (by decide))))
  have fF_a1_since_x8 := (Fld.other W8 F_since_a1_4 (Or.inr (slot_ne (Or.inl (hw _ (List.mem_of_getElem? (i := 19) rfl))) (Or.inl (hw _ (List.mem_of_getElem? (i := 12) rfl))) (by decide) (t := .long) (t' := .long) (by decide) (by decide))))
  have fF_a1_moved_x8 := (Fld.other W8 F_moved_a1_5 (Or.inr (slot_ne (Or.inl (hw _ (List.mem_of_getElem? (i := 26) rfl))) (Or.inl (hw _ (List.mem_of_getElem? (i := 12) rfl))) (by decide) (t := .long) (t' := .long) (by decide) (by decide))))
  have N8 := Fr.snoc X8 N0 g_a1
  have K8 : Keep h0 h8 [a1] := Keep.wr (Keep.refl h0 _) W8 (Or.inl (List.mem_of_getElem? (i := 0) rfl))
  have Z8 : n0 ≤ h8.size := Nat.le_trans Z0 (Nat.le_of_eq W8.size.symm)
  refine own_pre (A := T8.setTop (mkF m 15 #[.val (.ref a1), .val (.long q2), .second] [])) (fun tt kt => ?_) ?_
  · show Steps p.tables e below (s₁.setTop (mkF m 0 #[.val (.ref a1), .val (.long q2), .second] [])) _
    refine XS.aloadN X0.here hx rfl (hb hby d3_0) rfl rfl ?_
    show Steps p.tables e below (s₁.setTop (mkF m 1 #[.val (.ref a1), .val (.long q2), .second] [(.ref a1)])) _
    refine XS.dup X0.here hx rfl (hb hby d3_1) rfl rfl ?_
    show Steps p.tables e below (s₁.setTop (mkF m 2 #[.val (.ref a1), .val (.long q2), .second] [(.ref a1), (.ref a1)])) _
    refine st6 _ ?_
    show Steps p.tables e below (T6.setTop (mkF m 5 #[.val (.ref a1), .val (.long q2), .second] [(.long vl), (.ref a1)])) _
    refine XS.lloadN X6.here hx rfl (hb hby d3_5) rfl ?_
    show Steps p.tables e below (T6.setTop (mkF m 6 #[.val (.ref a1), .val (.long q2), .second] [(.long q2), (.long vl), (.ref a1)])) _
    refine XS.aloadN X6.here hx rfl (hb hby d3_6) rfl rfl ?_
    show Steps p.tables e below (T6.setTop (mkF m 7 #[.val (.ref a1), .val (.long q2), .second] [(.ref a1), (.long q2), (.long vl), (.ref a1)])) _
    refine st7 _ ?_
    show Steps p.tables e below (T7.setTop (mkF m 10 #[.val (.ref a1), .val (.long q2), .second] [(.long vs), (.long q2), (.long vl), (.ref a1)])) _
    refine XS.lsub X7.here hx rfl (hb hby d3_10) rfl ?_
    show Steps p.tables e below (T7.setTop (mkF m 11 #[.val (.ref a1), .val (.long q2), .second] [(.long (q2 - vs)), (.long vl), (.ref a1)])) _
    refine XS.lsub X7.here hx rfl (hb hby d3_11) rfl ?_
    show Steps p.tables e below (T7.setTop (mkF m 12 #[.val (.ref a1), .val (.long q2), .second] [(.long (vl - (q2 - vs))), (.ref a1)])) _
    refine st8 _ ?_
    exact kt
  show own_End p e below s (T8.setTop (mkF m 15 #[.val (.ref a1), .val (.long q2), .second] [])) (Q3 Z a1 q2 vi vl vs vm h0 n0) ({ frames := 0, cells := 0, slots := 0, locals := 0 } : Room).cells ({ frames := 0, cells := 0, slots := 0, locals := 0 } : Room).slots
  obtain ⟨fs, hr, hrun, hended, hW, hsame⟩ := X8.leave (v := none) (fun _ => rfl)
  refine ⟨_, _, ?_, hrun, hended, _, _, rfl, ?_, ⟨_, rfl⟩, hW, hsame.mono (by decide) (by decide)⟩
  · exact X8.returnOut hx Bd.returns (hb hby d3_15) hr
  · show Q3 Z a1 q2 vi vl vs vm h0 n0 _ T8.heap _
    rw [e8]
    exact ⟨rfl, N8, K8, ⟨fE_a1_x8, fF_a1_idleNanos_x8, Fw8, fF_a1_since_x8, fF_a1_moved_x8⟩⟩
theorem d5_0 : decode prog_33_method_2_code 0 = .ok (.aload_n 0, 1) := by decide +kernel
theorem d5_1 : decode prog_33_method_2_code 1 = .ok (.aload_n 0, 1) := by decide +kernel
theorem d5_2 : decode prog_33_method_2_code 2 = .ok (.getfield 7, 3) := by decide +kernel
theorem d5_5 : decode prog_33_method_2_code 5 = .ok (.putfield 13, 3) := by decide +kernel
theorem d5_8 : decode prog_33_method_2_code 8 = .ok (.aload_n 0, 1) := by decide +kernel
theorem d5_9 : decode prog_33_method_2_code 9 = .ok (.lconst 0, 1) := by decide +kernel
theorem d5_10 : decode prog_33_method_2_code 10 = .ok (.putfield 16, 3) := by decide +kernel
theorem d5_13 : decode prog_33_method_2_code 13 = .ok (.return_, 1) := by decide +kernel
theorem pn_5 : plainName "com/example/door3/door3/transport/LeastRate" = true := by first | (simp [plainName, overriddenIn]; done) | decide +kernel
theorem ef_5 (m : MethodId) (x0 : Addr) : entryFrame m #[(.ref x0)] 1 = mkF m 0 #[.val (.ref x0)] [] := by first | (simp [entryFrame, mkF, argsToLocals, Value.category]; done) | rfl
def Q5 (Z : State) (a1 : Addr) (vi : Int64) (vl : Int64) (vs : Int64) (vm : Int64) (h0 : Heap) (n0 : Nat) (v : Option Value) (h : Heap) (L : List Loc) : Prop := v = none ∧ Fr n0 L ∧ Keep h0 h [a1] ∧ own_Obj Z h a1 vi vi vs (0 : Int64)
set_option maxRecDepth 65536 in
set_option maxHeartbeats 40000000 in
theorem rm5 (l : Launch) (Z : State) (a0 : Array Value) (hw : ∀ d ∈ tables_1, d.before a0 Z = true) (ws : List Jvm.Cond) (a1 : Addr) (vi : Int64) (vl : Int64) (vs : Int64) (vm : Int64) (h0 : Heap) (n0 : Nat) (Z0 : n0 ≤ h0.size) (O_a1 : own_Obj Z h0 a1 vi vl vs vm) (g_a1 : n0 ≤ a1) :
    MetFree l (⟨"com/example/door3/door3/transport/LeastRate", "restart", "()V"⟩ : MethodName) (head1 (Jvm.Cond.code (⟨"com/example/door3/door3/transport/LeastRate", "restart", "()V"⟩ : MethodName) prog_33_method_2_code 1 none :: ws) ({ frames := 0, cells := 0, slots := 0, locals := 0 } : Room)) (fun a U => a = #[(.ref a1)] ∧ Z.Warmed39 U.vm ∧ U.heap = h0) (fun _ _ _ _ _ => True) (fun _ U o U' => ∃ v L, o = .returned v ∧ Q5 Z a1 vi vl vs vm h0 n0 v U'.heap L ∧ FrameEnd U o U' L ({ frames := 0, cells := 0, slots := 0, locals := 0 } : Room).cells ({ frames := 0, cells := 0, slots := 0, locals := 0 } : Room).slots) := by
  refine MetFree.of_bodySF (plainFor_of_name pn_5) hisR ?_
  intro p e s m args below meth c s₁ Bd hml0 hP hK
  obtain ⟨rfl, hZ, hh⟩ := hP
  have hx := Bd.exec
  have hby := Bd.bytes
  have hml : c.maxLocals = 1 := hml0
  have hown : s.vm.findClass "com/example/door3/door3/transport/LeastRate" = some m.cls := findClass_of_methodNamed Bd.named
  have hnm := (name_of_methodNamed Bd.named Bd.method).1
  have X0 : Stand p l e ({ frames := 0, cells := 0, slots := 0, locals := 0 } : Room) s m #[(.ref a1)] below meth c s₁ [] 0 0 := Stand.of_body Bd
  have e0 : s₁.heap = h0 := by rw [← hh, Bd.state]; rfl
  have N0 := Fr.nil n0
  show own_End p e below s (s₁.setTop (entryFrame m #[(.ref a1)] 1)) (Q5 Z a1 vi vl vs vm h0 n0) ({ frames := 0, cells := 0, slots := 0, locals := 0 } : Room).cells ({ frames := 0, cells := 0, slots := 0, locals := 0 } : Room).slots
  obtain ⟨E_a1_1, F_idleNanos_a1_2, F_left_a1_3, F_since_a1_4, F_moved_a1_5⟩ := O_a1
  refine own_pre (A := s₁.setTop (mkF m 0 #[.val (.ref a1)] [])) (fun tt kt => castTop (ef_5 m a1) kt) ?_
  show own_End p e below s (s₁.setTop (mkF m 0 #[.val (.ref a1)] [])) (Q5 Z a1 vi vl vs vm h0 n0) ({ frames := 0, cells := 0, slots := 0, locals := 0 } : Room).cells ({ frames := 0, cells := 0, slots := 0, locals := 0 } : Room).slots
  obtain ⟨T6, X6, e6, st6⟩ := getF X0 hx hZ hown (host := "") (Or.inl (hw _ (List.mem_of_getElem? (i := 9) rfl))) Via.refl e0 F_idleNanos_a1_2 (g := (mkF m 2 #[.val (.ref a1)] [(.ref a1), (.ref a1)])) rfl rfl (hb hby d5_2)
  obtain ⟨T7, h7, X7, e7, W7, st7⟩ := putF X6 hx hZ hown (host := "") (Or.inl (hw _ (List.mem_of_getElem? (i := 11) rfl))) Via.refl e6 F_left_a1_3 E_a1_1 (Or.inl (hw _ (List.mem_of_getElem? (i := 12) rfl))) (hw _ (List.mem_of_getElem? (i := 1) rfl)) (ty := .long) (by decide) rfl rfl (g := (mkF m 5 #[.val (.ref a1)] [(.long vi), (.ref a1)])) rfl rfl (hb hby d5_5)
  have Fw7 := Fld.same W7 F_left_a1_3
  have fE_a1_x7 := (E_a1_1.wr W7)
  have fF_a1_idleNanos_x7 := (Fld.other W7 F_idleNanos_a1_2 (Or.inr (slot_ne (Or.inr (hw _ (List.mem_of_getElem? (i := 10) rfl))) (Or.inl (hw _ (List.mem_of_getElem? (i := 12) rfl))) (by decide) (t := .long) (t' := .long) (by decide) (by decide))))
  have fF_a1_since_x7 := (Fld.other W7 F_since_a1_4 (Or.inr (slot_ne (Or.inl (hw _ (List.mem_of_getElem? (i := 19) rfl))) (Or.inl (hw _ (List.mem_of_getElem? (i := 12) rfl))) (by decide) (t := .long) (t' := .long) (by decide) (by decide))))
  have fF_a1_moved_x7 := (Fld.other W7 F_moved_a1_5 (Or.inr (slot_ne (Or.inl (hw _ (List.mem_of_getElem? (i := 26) rfl))) (Or.inl (hw _ (List.mem_of_getElem? (i := 12) rfl))) (by decide) (t := .long) (t' := .long) (by decide) (by decide))))
  have N7 := Fr.snoc X7 N0 g_a1
  have K7 : Keep h0 h7 [a1] := Keep.wr (Keep.refl h0 _) W7 (Or.inl (List.mem_of_getElem? (i := 0) rfl))
  have Z7 : n0 ≤ h7.size := Nat.le_trans Z0 (Nat.le_of_eq W7.size.symm)
  obtain ⟨T8, h8, X8, e8, W8, st8⟩ := putF X7 hx hZ hown (host := "") (Or.inl (hw _ (List.mem_of_getElem? (i := 25) rfl))) Via.refl e7 fF_a1_moved_x7 fE_a1_x7 (Or.inl (hw _ (List.mem_of_getElem? (i := 26) rfl))) (hw _ (List.mem_of_getElem? (i := 1) rfl)) (ty := .long) (by decide) rfl rfl (g := (mkF m 10 #[.val (.ref a1)] [(.long (0 : Int64)), (.ref a1)])) rfl rfl (hb hby d5_10)
  have Fw8 := Fld.same W8 fF_a1_moved_x7
  have fE_a1_x8 := (fE_a1_x7.wr W8)
  have fF_a1_idleNanos_x8 := (Fld.other W8 fF_a1_idleNanos_x7 (Or.inr (slot_ne (Or.inr (hw _ (List.mem_of_getElem? (i := 10) rfl))) (Or.inl (hw _ (List.mem_of_getElem? (i := 26) rfl))) (by decide) (t := .long) (t' := .long) (by decide) (by decide))))
  have fF_a1_left_x8 := (Fld.other W8 Fw7 (Or.inr (slot_ne (Or.inl (hw _ (List.mem_of_getElem? (i := 12) rfl))) (Or.inl (hw _ (List.mem_of_getElem? (i := 26) rfl))) (by decide) (t := .long) (t' := .long) (by decide) (by decide))))
  have fF_a1_since_x8 := (Fld.other W8 fF_a1_since_x7 (Or.inr (slot_ne (Or.inl (hw _ (List.mem_of_getElem? (i := 19) rfl))) (Or.inl (hw _ (List.mem_of_getElem? (i := 26) rfl))) (by decide) (t := .long) (t' := .long) (by decide) (by decide))))
  have N8 := Fr.snoc X8 N7 g_a1
  have K8 : Keep h0 h8 [a1] := Keep.wr K7 W8 (Or.inl (List.mem_of_getElem? (i := 0) rfl))
  have Z8 : n0 ≤ h8.size := Nat.le_trans Z7 (Nat.le_of_eq W8.size.symm)
  refine own_pre (A := T8.setTop (mkF m 13 #[.val (.ref a1)] [])) (fun tt kt => ?_) ?_
  · show Steps p.tables e below (s₁.setTop (mkF m 0 #[.val (.ref a1)] [])) _
    refine XS.aloadN X0.here hx rfl (hb hby d5_0) rfl rfl ?_
    show Steps p.tables e below (s₁.setTop (mkF m 1 #[.val (.ref a1)] [(.ref a1)])) _
    refine XS.aloadN X0.here hx rfl (hb hby d5_1) rfl rfl ?_
    show Steps p.tables e below (s₁.setTop (mkF m 2 #[.val (.ref a1)] [(.ref a1), (.ref a1)])) _
    refine st6 _ ?_
    show Steps p.tables e below (T6.setTop (mkF m 5 #[.val (.ref a1)] [(.long vi), (.ref a1)])) _
    refine st7 _ ?_
    show Steps p.tables e below (T7.setTop (mkF m 8 #[.val (.ref a1)] [])) _
    refine XS.aloadN X7.here hx rfl (hb hby d5_8) rfl rfl ?_
    show Steps p.tables e below (T7.setTop (mkF m 9 #[.val (.ref a1)] [(.ref a1)])) _
    refine XS.lconst X7.here hx rfl (hb hby d5_9) ?_
    show Steps p.tables e below (T7.setTop (mkF m 10 #[.val (.ref a1)] [(.long (0 : Int64)), (.ref a1)])) _
    refine st8 _ ?_
    exact kt
  show own_End p e below s (T8.setTop (mkF m 13 #[.val (.ref a1)] [])) (Q5 Z a1 vi vl vs vm h0 n0) ({ frames := 0, cells := 0, slots := 0, locals := 0 } : Room).cells ({ frames := 0, cells := 0, slots := 0, locals := 0 } : Room).slots
  obtain ⟨fs, hr, hrun, hended, hW, hsame⟩ := X8.leave (v := none) (fun _ => rfl)
  refine ⟨_, _, ?_, hrun, hended, _, _, rfl, ?_, ⟨_, rfl⟩, hW, hsame.mono (by decide) (by decide)⟩
  · exact X8.returnOut hx Bd.returns (hb hby d5_13) hr
  · show Q5 Z a1 vi vl vs vm h0 n0 _ T8.heap _
    rw [e8]
    exact ⟨rfl, N8, K8, ⟨fE_a1_x8, fF_a1_idleNanos_x8, fF_a1_left_x8, fF_a1_since_x8, Fw8⟩⟩
theorem d4_0 : decode prog_33_method_5_code 0 = .ok (.aload_n 0, 1) := by decide +kernel
theorem d4_1 : decode prog_33_method_5_code 1 = .ok (.dup, 1) := by decide +kernel
theorem d4_2 : decode prog_33_method_5_code 2 = .ok (.getfield 16, 3) := by decide +kernel
theorem d4_5 : decode prog_33_method_5_code 5 = .ok (.lload_n 1, 1) := by decide +kernel
theorem d4_6 : decode prog_33_method_5_code 6 = .ok (.ladd, 1) := by decide +kernel
theorem d4_7 : decode prog_33_method_5_code 7 = .ok (.putfield 16, 3) := by decide +kernel
theorem d4_10 : decode prog_33_method_5_code 10 = .ok (.aload_n 0, 1) := by decide +kernel
theorem d4_11 : decode prog_33_method_5_code 11 = .ok (.getfield 16, 3) := by decide +kernel
theorem d4_14 : decode prog_33_method_5_code 14 = .ok (.ldc2_w 22, 3) := by decide +kernel
theorem d4_17 : decode prog_33_method_5_code 17 = .ok (.lcmp, 1) := by decide +kernel
theorem d4_18 : decode prog_33_method_5_code 18 = .ok (.ifCond .lt 12, 3) := by decide +kernel
theorem d4_21 : decode prog_33_method_5_code 21 = .ok (.aload_n 0, 1) := by decide +kernel
theorem d4_22 : decode prog_33_method_5_code 22 = .ok (.invokevirtual 24, 3) := by decide +kernel
theorem d4_25 : decode prog_33_method_5_code 25 = .ok (.aload_n 0, 1) := by decide +kernel
theorem d4_26 : decode prog_33_method_5_code 26 = .ok (.lload_n 3, 1) := by decide +kernel
theorem d4_27 : decode prog_33_method_5_code 27 = .ok (.putfield 19, 3) := by decide +kernel
theorem d4_30 : decode prog_33_method_5_code 30 = .ok (.return_, 1) := by decide +kernel
theorem pn_4 : plainName "com/example/door3/door3/transport/LeastRate" = true := by first | (simp [plainName, overriddenIn]; done) | decide +kernel
theorem pd_4_0 : parseMethodDescriptor "()V" = some ⟨[], none⟩ := by decide +kernel
theorem ef_4 (m : MethodId) (x0 : Addr) (x1 : Int64) (x2 : Int64) : entryFrame m #[(.ref x0), (.long x1), (.long x2)] 5 = mkF m 0 #[.val (.ref x0), .val (.long x1), .second, .val (.long x2), .second] [] := by first | (simp [entryFrame, mkF, argsToLocals, Value.category]; done) | rfl
def Q4 (Z : State) (a1 : Addr) (q2 : Int64) (q3 : Int64) (vi : Int64) (vl : Int64) (vs : Int64) (vm : Int64) (h0 : Heap) (n0 : Nat) (v : Option Value) (h : Heap) (L : List Loc) : Prop := v = none ∧ Fr n0 L ∧ Keep h0 h [a1] ∧ own_Obj Z h a1 vi (if (vm + q2) < (8192 : Int64) then vl else vi) (if (vm + q2) < (8192 : Int64) then vs else q3) (if (vm + q2) < (8192 : Int64) then (vm + q2) else (0 : Int64))
set_option maxRecDepth 65536 in
set_option maxHeartbeats 40000000 in
theorem rm4 (l : Launch) (Z : State) (a0 : Array Value) (hw : ∀ d ∈ tables_1, d.before a0 Z = true) (ws : List Jvm.Cond) (a1 : Addr) (q2 : Int64) (q3 : Int64) (vi : Int64) (vl : Int64) (vs : Int64) (vm : Int64) (h0 : Heap) (n0 : Nat) (Z0 : n0 ≤ h0.size) (O_a1 : own_Obj Z h0 a1 vi vl vs vm) (g_a1 : n0 ≤ a1) :
    MetFree l (⟨"com/example/door3/door3/transport/LeastRate", "moved", "(JJ)V"⟩ : MethodName) (head1 (Jvm.Cond.code (⟨"com/example/door3/door3/transport/LeastRate", "moved", "(JJ)V"⟩ : MethodName) prog_33_method_5_code 5 none :: ws) ({ frames := 1, cells := 0, slots := 0, locals := 12 } : Room)) (fun a U => a = #[(.ref a1), (.long q2), (.long q3)] ∧ Z.Warmed39 U.vm ∧ U.heap = h0) (fun _ _ _ _ _ => True) (fun _ U o U' => ∃ v L, o = .returned v ∧ Q4 Z a1 q2 q3 vi vl vs vm h0 n0 v U'.heap L ∧ FrameEnd U o U' L ({ frames := 1, cells := 0, slots := 0, locals := 12 } : Room).cells ({ frames := 1, cells := 0, slots := 0, locals := 12 } : Room).slots) := by
  refine MetFree.of_bodySF (plainFor_of_name pn_4) hisR ?_
  intro p e s m args below meth c s₁ Bd hml0 hP hK
  obtain ⟨rfl, hZ, hh⟩ := hP
  have hx := Bd.exec
  have hby := Bd.bytes
  have hml : c.maxLocals = 5 := hml0
  have hown : s.vm.findClass "com/example/door3/door3/transport/LeastRate" = some m.cls := findClass_of_methodNamed Bd.named
  have hnm := (name_of_methodNamed Bd.named Bd.method).1
  have X0 : Stand p l e ({ frames := 1, cells := 0, slots := 0, locals := 12 } : Room) s m #[(.ref a1), (.long q2), (.long q3)] below meth c s₁ [] 0 0 := Stand.of_body Bd
  have e0 : s₁.heap = h0 := by rw [← hh, Bd.state]; rfl
  have N0 := Fr.nil n0
  show own_End p e below s (s₁.setTop (entryFrame m #[(.ref a1), (.long q2), (.long q3)] 5)) (Q4 Z a1 q2 q3 vi vl vs vm h0 n0) ({ frames := 1, cells := 0, slots := 0, locals := 12 } : Room).cells ({ frames := 1, cells := 0, slots := 0, locals := 12 } : Room).slots
  obtain ⟨E_a1_1, F_idleNanos_a1_2, F_left_a1_3, F_since_a1_4, F_moved_a1_5⟩ := O_a1
  refine own_pre (A := s₁.setTop (mkF m 0 #[.val (.ref a1), .val (.long q2), .second, .val (.long q3), .second] [])) (fun tt kt => castTop (ef_4 m a1 q2 q3) kt) ?_
  show own_End p e below s (s₁.setTop (mkF m 0 #[.val (.ref a1), .val (.long q2), .second, .val (.long q3), .second] [])) (Q4 Z a1 q2 q3 vi vl vs vm h0 n0) ({ frames := 1, cells := 0, slots := 0, locals := 12 } : Room).cells ({ frames := 1, cells := 0, slots := 0, locals := 12 } : Room).slots
  obtain ⟨T6, X6, e6, st6⟩ := getF X0 hx hZ hown (host := "") (Or.inl (hw _ (List.mem_of_getElem? (i := 25) rfl))) Via.refl e0 F_moved_a1_5 (g := (mkF m 2 #[.val (.ref a1), .val (.long q2), .second, .val (.long q3), .second] [(.ref a1), (.ref a1)])) rfl rfl (hb hby d4_2)
  obtain ⟨T7, h7, X7, e7, W7, st7⟩ := putF X6 hx hZ hown (host := "") (Or.inl (hw _ (List.mem_of_getElem? (i := 25) rfl))) Via.refl e6 F_moved_a1_5 E_a1_1 (Or.inl (hw _ (List.mem_of_getElem? (i := 26) rfl))) (hw _ (List.mem_of_getElem? (i := 1) rfl)) (ty := .long) (by decide) rfl rfl (g := (mkF m 7 #[.val (.ref a1), .val (.long q2), .second, .val (.long q3), .second] [(.long (vm + q2)), (.ref a1)])) rfl rfl (hb hby d4_7)
  have Fw7 := Fld.same W7 F_moved_a1_5
  have fE_a1_x7 := (E_a1_1.wr W7)
  have fF_a1_idleNanos_x7 := (Fld.other W7 F_idleNanos_a1_2 (Or.inr (slot_ne (Or.inr (hw _ (List.mem_of_getElem? (i := 10) rfl))) (Or.inl (hw _ (List.mem_of_getElem? (i := 26) rfl))) (by decide) (t := .long) (t' := .long) (by decide) (by decide))))
  have fF_a1_left_x7 := (Fld.other W7 F_left_a1_3 (Or.inr (slot_ne (Or.inl (hw _ (List.mem_of_getElem? (i := 12) rfl))) (Or.inl (hw _ (List.mem_of_getElem? (i := 26) rfl))) (by decide) (t := .long) (t' := .long) (by decide) (by decide))))
  have fF_a1_since_x7 := (Fld.other W7 F_since_a1_4 (Or.inr (slot_ne (Or.inl (hw _ (List.mem_of_getElem? (i := 19) rfl))) (Or.inl (hw _ (List.mem_of_getElem? (i := 26) rfl))) (by decide) (t := .long) (t' := .long) (by decide) (by decide))))
  have N7 := Fr.snoc X7 N0 g_a1
  have K7 : Keep h0 h7 [a1] := Keep.wr (Keep.refl h0 _) W7 (Or.inl (List.mem_of_getElem? (i := 0) rfl))
  have Z7 : n0 ≤ h7.size := Nat.le_trans Z0 (Nat.le_of_eq W7.size.symm)
  obtain ⟨T8, X8, e8, st8⟩ := getF X7 hx hZ hown (host := "") (Or.inl (hw _ (List.mem_of_getElem? (i := 25) rfl))) Via.refl e7 Fw7 (g := (mkF m 11 #[.val (.ref a1), .val (.long q2), .second, .val (.long q3), .second] [(.ref a1)])) rfl rfl (hb hby d4_11)
  refine own_pre (A := T8.setTop (mkF m 18 #[.val (.ref a1), .val (.long q2), .second, .val (.long q3), .second] [(.int (lcmpW (vm + q2) (8192 : Int64)))])) (fun tt kt => ?_) ?_
  · show Steps p.tables e below (s₁.setTop (mkF m 0 #[.val (.ref a1), .val (.long q2), .second, .val (.long q3), .second] [])) _
    refine XS.aloadN X0.here hx rfl (hb hby d4_0) rfl rfl ?_
    show Steps p.tables e below (s₁.setTop (mkF m 1 #[.val (.ref a1), .val (.long q2), .second, .val (.long q3), .second] [(.ref a1)])) _
    refine XS.dup X0.here hx rfl (hb hby d4_1) rfl rfl ?_
    show Steps p.tables e below (s₁.setTop (mkF m 2 #[.val (.ref a1), .val (.long q2), .second, .val (.long q3), .second] [(.ref a1), (.ref a1)])) _
    refine st6 _ ?_
    show Steps p.tables e below (T6.setTop (mkF m 5 #[.val (.ref a1), .val (.long q2), .second, .val (.long q3), .second] [(.long vm), (.ref a1)])) _
    refine XS.lloadN X6.here hx rfl (hb hby d4_5) rfl ?_
    show Steps p.tables e below (T6.setTop (mkF m 6 #[.val (.ref a1), .val (.long q2), .second, .val (.long q3), .second] [(.long q2), (.long vm), (.ref a1)])) _
    refine XS.ladd X6.here hx rfl (hb hby d4_6) rfl ?_
    show Steps p.tables e below (T6.setTop (mkF m 7 #[.val (.ref a1), .val (.long q2), .second, .val (.long q3), .second] [(.long (vm + q2)), (.ref a1)])) _
    refine st7 _ ?_
    show Steps p.tables e below (T7.setTop (mkF m 10 #[.val (.ref a1), .val (.long q2), .second, .val (.long q3), .second] [])) _
    refine XS.aloadN X7.here hx rfl (hb hby d4_10) rfl rfl ?_
    show Steps p.tables e below (T7.setTop (mkF m 11 #[.val (.ref a1), .val (.long q2), .second, .val (.long q3), .second] [(.ref a1)])) _
    refine st8 _ ?_
    show Steps p.tables e below (T8.setTop (mkF m 14 #[.val (.ref a1), .val (.long q2), .second, .val (.long q3), .second] [(.long (vm + q2))])) _
    refine X8.ldc2Long hx hown (mvT hZ (hw _ (List.mem_of_getElem? (i := 27) rfl))) (g := (mkF m 14 #[.val (.ref a1), .val (.long q2), .second, .val (.long q3), .second] [(.long (vm + q2))])) rfl (hb hby d4_14) _ ?_
    show Steps p.tables e below (T8.setTop (mkF m 17 #[.val (.ref a1), .val (.long q2), .second, .val (.long q3), .second] [(.long (8192 : Int64)), (.long (vm + q2))])) _
    refine XS.lcmp X8.here hx rfl (hb hby d4_17) rfl ?_
    exact kt
  show own_End p e below s (T8.setTop (mkF m 18 #[.val (.ref a1), .val (.long q2), .second, .val (.long q3), .second] [(.int (lcmpW (vm + q2) (8192 : Int64)))])) (Q4 Z a1 q2 q3 vi vl vs vm h0 n0) ({ frames := 1, cells := 0, slots := 0, locals := 12 } : Room).cells ({ frames := 1, cells := 0, slots := 0, locals := 12 } : Room).slots
  by_cases hc18_9 : (vm + q2) < (8192 : Int64)
  · refine own_pre (A := T8.setTop (mkF m 30 #[.val (.ref a1), .val (.long q2), .second, .val (.long q3), .second] [])) (fun tt kt => ?_) ?_
    · show Steps p.tables e below (T8.setTop (mkF m 18 #[.val (.ref a1), .val (.long q2), .second, .val (.long q3), .second] [(.int (lcmpW (vm + q2) (8192 : Int64)))])) _
      refine XS.ifYes X8.here hx rfl (pc0 := 18) (pc' := 30) rfl (hb hby d4_18) rfl ((if0 _ _).trans (tlt ((lw_lt (vm + q2) (8192 : Int64)).mpr hc18_9)).1) (by decide) (by decide) ?_
      exact kt
    show own_End p e below s (T8.setTop (mkF m 30 #[.val (.ref a1), .val (.long q2), .second, .val (.long q3), .second] [])) (Q4 Z a1 q2 q3 vi vl vs vm h0 n0) ({ frames := 1, cells := 0, slots := 0, locals := 12 } : Room).cells ({ frames := 1, cells := 0, slots := 0, locals := 12 } : Room).slots
    obtain ⟨fs, hr, hrun, hended, hW, hsame⟩ := X8.leave (v := none) (fun _ => rfl)
    refine ⟨_, _, ?_, hrun, hended, _, _, rfl, ?_, ⟨_, rfl⟩, hW, hsame.mono (by decide) (by decide)⟩
    · exact X8.returnOut hx Bd.returns (hb hby d4_30) hr
    · show Q4 Z a1 q2 q3 vi vl vs vm h0 n0 _ T8.heap _
      rw [e8]
      exact ⟨rfl, N7, K7, (by simp only [if_pos hc18_9]; exact ⟨fE_a1_x7, fF_a1_idleNanos_x7, fF_a1_left_x7, fF_a1_since_x7, Fw7⟩)⟩
  · obtain ⟨cq10, kq10, q10a, q10b, q10c⟩ := isOf hZ e8 fE_a1_x7
    obtain ⟨_, _, ⟨T10, L10, k10, n10⟩, -, X10, ⟨Lc10, hQ10, l10, y10, z10⟩, st10⟩ := X8.virtualBack hx (y := (⟨"com/example/door3/door3/transport/LeastRate", "restart", "()V"⟩ : MethodName)) (z := (⟨"com/example/door3/door3/transport/LeastRate", "restart", "()V"⟩ : MethodName)) hown (mvT hZ (hw _ (List.mem_of_getElem? (i := 44) rfl))) (mvT hZ (hw _ (List.mem_of_getElem? (i := 29) rfl))) (notFace_of_selects (args := #[]) (mvT hZ (hw _ (List.mem_of_getElem? (i := 31) rfl)))) (mvT hZ (hw _ (List.mem_of_getElem? (i := 31) rfl))) (mvT hZ (hw _ (List.mem_of_getElem? (i := 30) rfl))) (by decide) (backOf (W := 0) (rm5 l Z a0 hw [] a1 vi vl vs (vm + q2) h7 n0 Z7 ⟨fE_a1_x7, fF_a1_idleNanos_x7, fF_a1_left_x7, fF_a1_since_x7, Fw7⟩ g_a1) hZ (hw _ (List.mem_of_getElem? (i := 32) rfl)) (hw _ (List.mem_of_getElem? (i := 2) rfl)) (by decide) (by decide)) q10a q10c (g := (mkF m 22 #[.val (.ref a1), .val (.long q2), .second, .val (.long q3), .second] [(.ref a1)])) rfl (by rw [hml]; rfl) (Steps.refl _) (argsL := []) (rest := []) (lenOf pd_4_0 rfl) rfl (by show 2 * 0 + _ ≤ _; exact Nat.le_of_eq rfl) (hb hby d4_22) (fun _ _ => ⟨rfl, e8, (by decide : 0 + 0 ≤ _), (by decide : 0 + 0 ≤ _)⟩)
    dsimp only [Pt.U, Pt.locs, Pt.cells, Pt.slots] at X10 l10 y10 z10 st10 hQ10
    subst l10 y10 z10
    obtain ⟨rfl, N10q, Kq10, O10_0⟩ := hQ10
    have N10 := Fr.app N7 N10q
    have fE_a1_x10 := (fE_a1_x7.keep Kq10)
    have K10 : Keep h0 T10.heap [a1] := Keep.trans K7 Kq10 (allS (Or.inl (List.mem_of_getElem? (i := 0) rfl)) all0)
    have Z10 : n0 ≤ T10.heap.size := Nat.le_trans Z7 Kq10.1
    obtain ⟨E_a1_11, F_idleNanos_a1_12, F_left_a1_13, F_since_a1_14, F_moved_a1_15⟩ := O10_0
    obtain ⟨T16, h16, X16, e16, W16, st16⟩ := putF X10 hx hZ hown (host := "") (Or.inl (hw _ (List.mem_of_getElem? (i := 18) rfl))) Via.refl rfl F_since_a1_14 E_a1_11 (Or.inl (hw _ (List.mem_of_getElem? (i := 19) rfl))) (hw _ (List.mem_of_getElem? (i := 1) rfl)) (ty := .long) (by decide) rfl rfl (g := (mkF m 27 #[.val (.ref a1), .val (.long q2), .second, .val (.long q3), .second] [(.long q3), (.ref a1)])) rfl rfl (hb hby d4_27)
    have Fw16 := Fld.same W16 F_since_a1_14
    have fE_a1_x16 := (E_a1_11.wr W16)
    have fF_a1_idleNanos_x16 := (Fld.other W16 F_idleNanos_a1_12 (Or.inr (slot_ne (Or.inr (hw _ (List.mem_of_getElem? (i := 10) rfl))) (Or.inl (hw _ (List.mem_of_getElem? (i := 19) rfl))) (by decide) (t := .long) (t' := .long) (by decide) (by decide))))
    have fF_a1_left_x16 := (Fld.other W16 F_left_a1_13 (Or.inr (slot_ne (Or.inl (hw _ (List.mem_of_getElem? (i := 12) rfl))) (Or.inl (hw _ (List.mem_of_getElem? (i := 19) rfl))) (by decide) (t := .long) (t' := .long) (by decide) (by decide))))
    have fF_a1_moved_x16 := (Fld.other W16 F_moved_a1_15 (Or.inr (slot_ne (Or.inl (hw _ (List.mem_of_getElem? (i := 26) rfl))) (Or.inl (hw _ (List.mem_of_getElem? (i := 19) rfl))) (by decide) (t := .long) (t' := .long) (by decide) (by decide))))
    have N16 := Fr.snoc X16 N10 g_a1
    have K16 : Keep h0 h16 [a1] := Keep.wr K10 W16 (Or.inl (List.mem_of_getElem? (i := 0) rfl))
    have Z16 : n0 ≤ h16.size := Nat.le_trans Z10 (Nat.le_of_eq W16.size.symm)
    refine own_pre (A := T16.setTop (mkF m 30 #[.val (.ref a1), .val (.long q2), .second, .val (.long q3), .second] [])) (fun tt kt => ?_) ?_
    · show Steps p.tables e below (T8.setTop (mkF m 18 #[.val (.ref a1), .val (.long q2), .second, .val (.long q3), .second] [(.int (lcmpW (vm + q2) (8192 : Int64)))])) _
      refine XS.ifNo X8.here hx rfl (hb hby d4_18) rfl ((if0 _ _).trans (flt (fun q => hc18_9 ((lw_lt (vm + q2) (8192 : Int64)).mp q))).1) ?_
      show Steps p.tables e below (T8.setTop (mkF m 21 #[.val (.ref a1), .val (.long q2), .second, .val (.long q3), .second] [])) _
      refine XS.aloadN X8.here hx rfl (hb hby d4_21) rfl rfl ?_
      show Steps p.tables e below (T8.setTop (mkF m 22 #[.val (.ref a1), .val (.long q2), .second, .val (.long q3), .second] [(.ref a1)])) _
      refine st10.trans ?_
      show Steps p.tables e below (T10.setTop (mkF m 25 #[.val (.ref a1), .val (.long q2), .second, .val (.long q3), .second] [])) _
      refine XS.aloadN X10.here hx rfl (hb hby d4_25) rfl rfl ?_
      show Steps p.tables e below (T10.setTop (mkF m 26 #[.val (.ref a1), .val (.long q2), .second, .val (.long q3), .second] [(.ref a1)])) _
      refine XS.lloadN X10.here hx rfl (hb hby d4_26) rfl ?_
      show Steps p.tables e below (T10.setTop (mkF m 27 #[.val (.ref a1), .val (.long q2), .second, .val (.long q3), .second] [(.long q3), (.ref a1)])) _
      refine st16 _ ?_
      exact kt
    show own_End p e below s (T16.setTop (mkF m 30 #[.val (.ref a1), .val (.long q2), .second, .val (.long q3), .second] [])) (Q4 Z a1 q2 q3 vi vl vs vm h0 n0) ({ frames := 1, cells := 0, slots := 0, locals := 12 } : Room).cells ({ frames := 1, cells := 0, slots := 0, locals := 12 } : Room).slots
    obtain ⟨fs, hr, hrun, hended, hW, hsame⟩ := X16.leave (v := none) (fun _ => rfl)
    refine ⟨_, _, ?_, hrun, hended, _, _, rfl, ?_, ⟨_, rfl⟩, hW, hsame.mono (by decide) (by decide)⟩
    · exact X16.returnOut hx Bd.returns (hb hby d4_30) hr
    · show Q4 Z a1 q2 q3 vi vl vs vm h0 n0 _ T16.heap _
      rw [e16]
      exact ⟨rfl, N16, K16, (by simp only [if_neg hc18_9]; exact ⟨fE_a1_x16, fF_a1_idleNanos_x16, fF_a1_left_x16, Fw16, fF_a1_moved_x16⟩)⟩
theorem d6_0 : decode prog_33_method_3_code 0 = .ok (.aload_n 0, 1) := by decide +kernel
theorem d6_1 : decode prog_33_method_3_code 1 = .ok (.lload_n 1, 1) := by decide +kernel
theorem d6_2 : decode prog_33_method_3_code 2 = .ok (.putfield 19, 3) := by decide +kernel
theorem d6_5 : decode prog_33_method_3_code 5 = .ok (.return_, 1) := by decide +kernel
theorem pn_6 : plainName "com/example/door3/door3/transport/LeastRate" = true := by first | (simp [plainName, overriddenIn]; done) | decide +kernel
theorem ef_6 (m : MethodId) (x0 : Addr) (x1 : Int64) : entryFrame m #[(.ref x0), (.long x1)] 3 = mkF m 0 #[.val (.ref x0), .val (.long x1), .second] [] := by first | (simp [entryFrame, mkF, argsToLocals, Value.category]; done) | rfl
def Q6 (Z : State) (a1 : Addr) (q2 : Int64) (vi : Int64) (vl : Int64) (vs : Int64) (vm : Int64) (h0 : Heap) (n0 : Nat) (v : Option Value) (h : Heap) (L : List Loc) : Prop := v = none ∧ Fr n0 L ∧ Keep h0 h [a1] ∧ own_Obj Z h a1 vi vl q2 vm
set_option maxRecDepth 65536 in
set_option maxHeartbeats 40000000 in
theorem rm6 (l : Launch) (Z : State) (a0 : Array Value) (hw : ∀ d ∈ tables_1, d.before a0 Z = true) (ws : List Jvm.Cond) (a1 : Addr) (q2 : Int64) (vi : Int64) (vl : Int64) (vs : Int64) (vm : Int64) (h0 : Heap) (n0 : Nat) (Z0 : n0 ≤ h0.size) (O_a1 : own_Obj Z h0 a1 vi vl vs vm) (g_a1 : n0 ≤ a1) :
    MetFree l (⟨"com/example/door3/door3/transport/LeastRate", "startWaiting", "(J)V"⟩ : MethodName) (head1 (Jvm.Cond.code (⟨"com/example/door3/door3/transport/LeastRate", "startWaiting", "(J)V"⟩ : MethodName) prog_33_method_3_code 3 none :: ws) ({ frames := 0, cells := 0, slots := 0, locals := 0 } : Room)) (fun a U => a = #[(.ref a1), (.long q2)] ∧ Z.Warmed39 U.vm ∧ U.heap = h0) (fun _ _ _ _ _ => True) (fun _ U o U' => ∃ v L, o = .returned v ∧ Q6 Z a1 q2 vi vl vs vm h0 n0 v U'.heap L ∧ FrameEnd U o U' L ({ frames := 0, cells := 0, slots := 0, locals := 0 } : Room).cells ({ frames := 0, cells := 0, slots := 0, locals := 0 } : Room).slots) := by
  refine MetFree.of_bodySF (plainFor_of_name pn_6) hisR ?_
  intro p e s m args below meth c s₁ Bd hml0 hP hK
  obtain ⟨rfl, hZ, hh⟩ := hP
  have hx := Bd.exec
  have hby := Bd.bytes
  have hml : c.maxLocals = 3 := hml0
  have hown : s.vm.findClass "com/example/door3/door3/transport/LeastRate" = some m.cls := findClass_of_methodNamed Bd.named
  have hnm := (name_of_methodNamed Bd.named Bd.method).1
  have X0 : Stand p l e ({ frames := 0, cells := 0, slots := 0, locals := 0 } : Room) s m #[(.ref a1), (.long q2)] below meth c s₁ [] 0 0 := Stand.of_body Bd
  have e0 : s₁.heap = h0 := by rw [← hh, Bd.state]; rfl
  have N0 := Fr.nil n0
  show own_End p e below s (s₁.setTop (entryFrame m #[(.ref a1), (.long q2)] 3)) (Q6 Z a1 q2 vi vl vs vm h0 n0) ({ frames := 0, cells := 0, slots := 0, locals := 0 } : Room).cells ({ frames := 0, cells := 0, slots := 0, locals := 0 } : Room).slots
  obtain ⟨E_a1_1, F_idleNanos_a1_2, F_left_a1_3, F_since_a1_4, F_moved_a1_5⟩ := O_a1
  refine own_pre (A := s₁.setTop (mkF m 0 #[.val (.ref a1), .val (.long q2), .second] [])) (fun tt kt => castTop (ef_6 m a1 q2) kt) ?_
  show own_End p e below s (s₁.setTop (mkF m 0 #[.val (.ref a1), .val (.long q2), .second] [])) (Q6 Z a1 q2 vi vl vs vm h0 n0) ({ frames := 0, cells := 0, slots := 0, locals := 0 } : Room).cells ({ frames := 0, cells := 0, slots := 0, locals := 0 } : Room).slots
  obtain ⟨T6, h6, X6, e6, W6, st6⟩ := putF X0 hx hZ hown (host := "") (Or.inl (hw _ (List.mem_of_getElem? (i := 18) rfl))) Via.refl e0 F_since_a1_4 E_a1_1 (Or.inl (hw _ (List.mem_of_getElem? (i := 19) rfl))) (hw _ (List.mem_of_getElem? (i := 1) rfl)) (ty := .long) (by decide) rfl rfl (g := (mkF m 2 #[.val (.ref a1), .val (.long q2), .second] [(.long q2), (.ref a1)])) rfl rfl (hb hby d6_2)
  have Fw6 := Fld.same W6 F_since_a1_4
  have fE_a1_x6 := (E_a1_1.wr W6)
  have fF_a1_idleNanos_x6 := (Fld.other W6 F_idleNanos_a1_2 (Or.inr (slot_ne (Or.inr (hw _ (List.mem_of_getElem? (i := 10) rfl))) (Or.inl (hw _ (List.mem_of_getElem? (i := 19) rfl))) (by decide) (t := .long) (t' := .long) (by decide) (by decide))))
  have fF_a1_left_x6 := (Fld.other W6 F_left_a1_3 (Or.inr (slot_ne (Or.inl (hw _ (List.mem_of_getElem? (i := 12) rfl))) (Or.inl (hw _ (List.mem_of_getElem? (i := 19) rfl))) (by decide) (t := .long) (t' := .long) (by decide) (by decide))))
  have fF_a1_moved_x6 := (Fld.other W6 F_moved_a1_5 (Or.inr (slot_ne (Or.inl (hw _ (List.mem_of_getElem? (i := 26) rfl))) (Or.inl (hw _ (List.mem_of_getElem? (i := 19) rfl))) (by decide) (t := .long) (t' := .long) (by decide) (by decide))))
  have N6 := Fr.snoc X6 N0 g_a1
  have K6 : Keep h0 h6 [a1] := Keep.wr (Keep.refl h0 _) W6 (Or.inl (List.mem_of_getElem? (i := 0) rfl))
  have Z6 : n0 ≤ h6.size := Nat.le_trans Z0 (Nat.le_of_eq W6.size.symm)
  refine own_pre (A := T6.setTop (mkF m 5 #[.val (.ref a1), .val (.long q2), .second] [])) (fun tt kt => ?_) ?_
  · show Steps p.tables e below (s₁.setTop (mkF m 0 #[.val (.ref a1), .val (.long q2), .second] [])) _
    refine XS.aloadN X0.here hx rfl (hb hby d6_0) rfl rfl ?_
    show Steps p.tables e below (s₁.setTop (mkF m 1 #[.val (.ref a1), .val (.long q2), .second] [(.ref a1)])) _
    refine XS.lloadN X0.here hx rfl (hb hby d6_1) rfl ?_
    show Steps p.tables e below (s₁.setTop (mkF m 2 #[.val (.ref a1), .val (.long q2), .second] [(.long q2), (.ref a1)])) _
    refine st6 _ ?_
    exact kt
  show own_End p e below s (T6.setTop (mkF m 5 #[.val (.ref a1), .val (.long q2), .second] [])) (Q6 Z a1 q2 vi vl vs vm h0 n0) ({ frames := 0, cells := 0, slots := 0, locals := 0 } : Room).cells ({ frames := 0, cells := 0, slots := 0, locals := 0 } : Room).slots
  obtain ⟨fs, hr, hrun, hended, hW, hsame⟩ := X6.leave (v := none) (fun _ => rfl)
  refine ⟨_, _, ?_, hrun, hended, _, _, rfl, ?_, ⟨_, rfl⟩, hW, hsame.mono (by decide) (by decide)⟩
  · exact X6.returnOut hx Bd.returns (hb hby d6_5) hr
  · show Q6 Z a1 q2 vi vl vs vm h0 n0 _ T6.heap _
    rw [e6]
    exact ⟨rfl, N6, K6, ⟨fE_a1_x6, fF_a1_idleNanos_x6, fF_a1_left_x6, Fw6, fF_a1_moved_x6⟩⟩
theorem d7_0 : decode prog_33_method_6_code 0 = .ok (.aload_n 0, 1) := by decide +kernel
theorem d7_1 : decode prog_33_method_6_code 1 = .ok (.getfield 19, 3) := by decide +kernel
theorem d7_4 : decode prog_33_method_6_code 4 = .ok (.aload_n 0, 1) := by decide +kernel
theorem d7_5 : decode prog_33_method_6_code 5 = .ok (.getfield 13, 3) := by decide +kernel
theorem d7_8 : decode prog_33_method_6_code 8 = .ok (.ladd, 1) := by decide +kernel
theorem d7_9 : decode prog_33_method_6_code 9 = .ok (.lreturn, 1) := by decide +kernel
theorem pn_7 : plainName "com/example/door3/door3/transport/LeastRate" = true := by first | (simp [plainName, overriddenIn]; done) | decide +kernel
theorem ef_7 (m : MethodId) (x0 : Addr) : entryFrame m #[(.ref x0)] 1 = mkF m 0 #[.val (.ref x0)] [] := by first | (simp [entryFrame, mkF, argsToLocals, Value.category]; done) | rfl
def Q7 (Z : State) (a1 : Addr) (vi : Int64) (vl : Int64) (vs : Int64) (vm : Int64) (h0 : Heap) (n0 : Nat) (v : Option Value) (h : Heap) (L : List Loc) : Prop := v = some (.long (vs + vl)) ∧ Fr n0 L ∧ h = h0
set_option maxRecDepth 65536 in
set_option maxHeartbeats 40000000 in
theorem rm7 (l : Launch) (Z : State) (a0 : Array Value) (hw : ∀ d ∈ tables_1, d.before a0 Z = true) (ws : List Jvm.Cond) (a1 : Addr) (vi : Int64) (vl : Int64) (vs : Int64) (vm : Int64) (h0 : Heap) (n0 : Nat) (Z0 : n0 ≤ h0.size) (O_a1 : own_Obj Z h0 a1 vi vl vs vm) :
    MetFree l (⟨"com/example/door3/door3/transport/LeastRate", "deadline", "()J"⟩ : MethodName) (head1 (Jvm.Cond.code (⟨"com/example/door3/door3/transport/LeastRate", "deadline", "()J"⟩ : MethodName) prog_33_method_6_code 1 (some .long) :: ws) ({ frames := 0, cells := 0, slots := 0, locals := 0 } : Room)) (fun a U => a = #[(.ref a1)] ∧ Z.Warmed39 U.vm ∧ U.heap = h0) (fun _ _ _ _ _ => True) (fun _ U o U' => ∃ v L, o = .returned v ∧ Q7 Z a1 vi vl vs vm h0 n0 v U'.heap L ∧ FrameEnd U o U' L ({ frames := 0, cells := 0, slots := 0, locals := 0 } : Room).cells ({ frames := 0, cells := 0, slots := 0, locals := 0 } : Room).slots) := by
  refine MetFree.of_bodySF (plainFor_of_name pn_7) hisR ?_
  intro p e s m args below meth c s₁ Bd hml0 hP hK
  obtain ⟨rfl, hZ, hh⟩ := hP
  have hx := Bd.exec
  have hby := Bd.bytes
  have hml : c.maxLocals = 1 := hml0
  have hown : s.vm.findClass "com/example/door3/door3/transport/LeastRate" = some m.cls := findClass_of_methodNamed Bd.named
  have hnm := (name_of_methodNamed Bd.named Bd.method).1
  have X0 : Stand p l e ({ frames := 0, cells := 0, slots := 0, locals := 0 } : Room) s m #[(.ref a1)] below meth c s₁ [] 0 0 := Stand.of_body Bd
  have e0 : s₁.heap = h0 := by rw [← hh, Bd.state]; rfl
  have N0 := Fr.nil n0
  show own_End p e below s (s₁.setTop (entryFrame m #[(.ref a1)] 1)) (Q7 Z a1 vi vl vs vm h0 n0) ({ frames := 0, cells := 0, slots := 0, locals := 0 } : Room).cells ({ frames := 0, cells := 0, slots := 0, locals := 0 } : Room).slots
  obtain ⟨E_a1_1, F_idleNanos_a1_2, F_left_a1_3, F_since_a1_4, F_moved_a1_5⟩ := O_a1
  refine own_pre (A := s₁.setTop (mkF m 0 #[.val (.ref a1)] [])) (fun tt kt => castTop (ef_7 m a1) kt) ?_
  show own_End p e below s (s₁.setTop (mkF m 0 #[.val (.ref a1)] [])) (Q7 Z a1 vi vl vs vm h0 n0) ({ frames := 0, cells := 0, slots := 0, locals := 0 } : Room).cells ({ frames := 0, cells := 0, slots := 0, locals := 0 } : Room).slots
  obtain ⟨T6, X6, e6, st6⟩ := getF X0 hx hZ hown (host := "") (Or.inl (hw _ (List.mem_of_getElem? (i := 18) rfl))) Via.refl e0 F_since_a1_4 (g := (mkF m 1 #[.val (.ref a1)] [(.ref a1)])) rfl rfl (hb hby d7_1)
  obtain ⟨T7, X7, e7, st7⟩ := getF X6 hx hZ hown (host := "") (Or.inl (hw _ (List.mem_of_getElem? (i := 11) rfl))) Via.refl e6 F_left_a1_3 (g := (mkF m 5 #[.val (.ref a1)] [(.ref a1), (.long vs)])) rfl rfl (hb hby d7_5)
  refine own_pre (A := T7.setTop (mkF m 9 #[.val (.ref a1)] [(.long (vs + vl))])) (fun tt kt => ?_) ?_
  · show Steps p.tables e below (s₁.setTop (mkF m 0 #[.val (.ref a1)] [])) _
    refine XS.aloadN X0.here hx rfl (hb hby d7_0) rfl rfl ?_
    show Steps p.tables e below (s₁.setTop (mkF m 1 #[.val (.ref a1)] [(.ref a1)])) _
    refine st6 _ ?_
    show Steps p.tables e below (T6.setTop (mkF m 4 #[.val (.ref a1)] [(.long vs)])) _
    refine XS.aloadN X6.here hx rfl (hb hby d7_4) rfl rfl ?_
    show Steps p.tables e below (T6.setTop (mkF m 5 #[.val (.ref a1)] [(.ref a1), (.long vs)])) _
    refine st7 _ ?_
    show Steps p.tables e below (T7.setTop (mkF m 8 #[.val (.ref a1)] [(.long vl), (.long vs)])) _
    refine XS.ladd X7.here hx rfl (hb hby d7_8) rfl ?_
    exact kt
  show own_End p e below s (T7.setTop (mkF m 9 #[.val (.ref a1)] [(.long (vs + vl))])) (Q7 Z a1 vi vl vs vm h0 n0) ({ frames := 0, cells := 0, slots := 0, locals := 0 } : Room).cells ({ frames := 0, cells := 0, slots := 0, locals := 0 } : Room).slots
  obtain ⟨fs, hr, hrun, hended, hW, hsame⟩ := X7.leave (v := some (.long (vs + vl))) (fun h => by rw [Bd.returns] at h; cases h)
  refine ⟨_, _, ?_, hrun, hended, _, _, rfl, ?_, ⟨_, rfl⟩, hW, hsame.mono (by decide) (by decide)⟩
  · jvm_step X7.here [X7.here.top, hx, (hb hby d7_9), X7.method', Bd.returns, narrow]
    first | (intro acts; rw [hr _ acts rfl rfl rfl]) | rw [hr _ _ rfl rfl rfl]
    exact Steps.refl _
  · show Q7 Z a1 vi vl vs vm h0 n0 _ T7.heap _
    rw [e7]
    exact ⟨rfl, N0, rfl⟩
def own_law (q1 : Int64) (q2 : Int64) (q3 : Int64) (q4 : Int64) (p5 : Int32) (p6 : Int32) : Int32 := (if ((if ((0 : Int64) + ((p6 &&& (8191 : Int32)).toInt64)) < (8192 : Int64) then q3 else q4) + (if ((0 : Int64) + ((p6 &&& (8191 : Int32)).toInt64)) < (8192 : Int64) then q1 else q1)) = (q3 + q1) then (if ((if ((if ((0 : Int64) + ((p6 &&& (8191 : Int32)).toInt64)) < (8192 : Int64) then ((0 : Int64) + ((p6 &&& (8191 : Int32)).toInt64)) else (0 : Int64)) + ((8192 : Int64) - ((p6 &&& (8191 : Int32)).toInt64))) < (8192 : Int64) then (if ((0 : Int64) + ((p6 &&& (8191 : Int32)).toInt64)) < (8192 : Int64) then q3 else q4) else q4) + (if ((if ((0 : Int64) + ((p6 &&& (8191 : Int32)).toInt64)) < (8192 : Int64) then ((0 : Int64) + ((p6 &&& (8191 : Int32)).toInt64)) else (0 : Int64)) + ((8192 : Int64) - ((p6 &&& (8191 : Int32)).toInt64))) < (8192 : Int64) then (if ((0 : Int64) + ((p6 &&& (8191 : Int32)).toInt64)) < (8192 : Int64) then q1 else q1) else q1)) = (q4 + q1) then (1 : Int32) else (0 : Int32)) else (if ((if ((if ((0 : Int64) + ((p6 &&& (8191 : Int32)).toInt64)) < (8192 : Int64) then ((0 : Int64) + ((p6 &&& (8191 : Int32)).toInt64)) else (0 : Int64)) + ((8192 : Int64) - ((p6 &&& (8191 : Int32)).toInt64))) < (8192 : Int64) then (if ((0 : Int64) + ((p6 &&& (8191 : Int32)).toInt64)) < (8192 : Int64) then q3 else q4) else q4) + (if ((if ((0 : Int64) + ((p6 &&& (8191 : Int32)).toInt64)) < (8192 : Int64) then ((0 : Int64) + ((p6 &&& (8191 : Int32)).toInt64)) else (0 : Int64)) + ((8192 : Int64) - ((p6 &&& (8191 : Int32)).toInt64))) < (8192 : Int64) then (if ((0 : Int64) + ((p6 &&& (8191 : Int32)).toInt64)) < (8192 : Int64) then q1 else q1) else q1)) = (q4 + q1) then (0 : Int32) else (0 : Int32)))
theorem pn_0 : plainName "com/example/door3/door3/transport/LeastRateRestartPinLaw" = true := by first | (simp [plainName, overriddenIn]; done) | decide +kernel
theorem pd_0_0 : parseMethodDescriptor "(J)V" = some ⟨[.long], none⟩ := by decide +kernel
theorem pd_0_1 : parseMethodDescriptor "(JJ)V" = some ⟨[.long, .long], none⟩ := by decide +kernel
theorem pd_0_2 : parseMethodDescriptor "()V" = some ⟨[], none⟩ := by decide +kernel
theorem pd_0_3 : parseMethodDescriptor "()J" = some ⟨[], some .long⟩ := by decide +kernel
theorem ef_0 (m : MethodId) (x0 : Int64) (x1 : Int64) (x2 : Int64) (x3 : Int64) (x4 : Int32) (x5 : Int32) : entryFrame m #[(.long x0), (.long x1), (.long x2), (.long x3), (.int x4), (.int x5)] maxLocals = mkF m 0 #[.val (.long x0), .second, .val (.long x1), .second, .val (.long x2), .second, .val (.long x3), .second, .val (.int x4), .val (.int x5), .unset, .unset, .unset, .unset, .unset, .unset, .unset, .unset] [] := by first | (simp [entryFrame, mkF, argsToLocals, Value.category, maxLocals]; done) | rfl
def Q0 (Z : State) (q1 : Int64) (q2 : Int64) (q3 : Int64) (q4 : Int64) (p5 : Int32) (p6 : Int32) (h0 : Heap) (n0 : Nat) (v : Option Value) (h : Heap) (L : List Loc) : Prop := v = some (.int (own_law q1 q2 q3 q4 p5 p6)) ∧ Fr n0 L
set_option maxRecDepth 65536 in
set_option maxHeartbeats 40000000 in
theorem rm0 (l : Launch) (Z : State) (a0 : Array Value) (hw : ∀ d ∈ tables_1, d.before a0 Z = true) (ws : List Jvm.Cond) (q1 : Int64) (q2 : Int64) (q3 : Int64) (q4 : Int64) (p5 : Int32) (p6 : Int32) (h0 : Heap) (n0 : Nat) (Z0 : n0 ≤ h0.size) :
    MetFree l x (head1 (Jvm.Cond.code x code maxLocals ret :: ws) room_1) (fun a U => a = #[(.long q1), (.long q2), (.long q3), (.long q4), (.int p5), (.int p6)] ∧ Z.Warmed39 U.vm ∧ U.heap = h0) (fun _ _ _ _ _ => True) (fun _ U o U' => ∃ v L, o = .returned v ∧ Q0 Z q1 q2 q3 q4 p5 p6 h0 n0 v U'.heap L ∧ FrameEnd U o U' L room_1.cells room_1.slots) := by
  refine MetFree.of_bodySF (plainFor_of_name pn_0) hisR ?_
  intro p e s m args below meth c s₁ Bd hml0 hP hK
  obtain ⟨rfl, hZ, hh⟩ := hP
  have hx := Bd.exec
  have hby := Bd.bytes
  have hml : c.maxLocals = 18 := hml0
  have hown : s.vm.findClass "com/example/door3/door3/transport/LeastRateRestartPinLaw" = some m.cls := findClass_of_methodNamed Bd.named
  have hnm := (name_of_methodNamed Bd.named Bd.method).1
  have X0 : Stand p l e room_1 s m #[(.long q1), (.long q2), (.long q3), (.long q4), (.int p5), (.int p6)] below meth c s₁ [] 0 0 := Stand.of_body Bd
  have e0 : s₁.heap = h0 := by rw [← hh, Bd.state]; rfl
  have N0 := Fr.nil n0
  show own_End p e below s (s₁.setTop (entryFrame m #[(.long q1), (.long q2), (.long q3), (.long q4), (.int p5), (.int p6)] maxLocals)) (Q0 Z q1 q2 q3 q4 p5 p6 h0 n0) room_1.cells room_1.slots
  refine own_pre (A := s₁.setTop (mkF m 0 #[.val (.long q1), .second, .val (.long q2), .second, .val (.long q3), .second, .val (.long q4), .second, .val (.int p5), .val (.int p6), .unset, .unset, .unset, .unset, .unset, .unset, .unset, .unset] [])) (fun tt kt => castTop (ef_0 m q1 q2 q3 q4 p5 p6) kt) ?_
  show own_End p e below s (s₁.setTop (mkF m 0 #[.val (.long q1), .second, .val (.long q2), .second, .val (.long q3), .second, .val (.long q4), .second, .val (.int p5), .val (.int p6), .unset, .unset, .unset, .unset, .unset, .unset, .unset, .unset] [])) (Q0 Z q1 q2 q3 q4 p5 p6 h0 n0) room_1.cells room_1.slots
  have hj : own_law q1 q2 q3 q4 p5 p6 = own_law q1 q2 q3 q4 p5 p6 := rfl
  obtain ⟨T1, h1, X1, e1, E1, A1, D1, -, st1⟩ := newO X0 hx hZ hown (hw _ (List.mem_of_getElem? (i := 0) rfl)) (hw _ (List.mem_of_getElem? (i := 1) rfl)) (hw _ (List.mem_of_getElem? (i := 2) rfl)) e0 (g := (mkF m 18 #[.val (.long q1), .second, .val (.long q2), .second, .val (.long q3), .second, .val (.long q4), .second, .val (.int p5), .val (.int p6), .val (.long ((p5 &&& (8191 : Int32)).toInt64)), .second, .val (.long ((p6 &&& (8191 : Int32)).toInt64)), .second, .unset, .unset, .unset, .unset] [])) rfl (hb hby at_18) (by decide) (by decide)
  obtain ⟨b1, g1⟩ : ∃ z, z = h0.size := ⟨_, rfl⟩
  rw [← g1] at A1 D1 st1
  have g_b1 : n0 ≤ b1 := Nat.le_trans Z0 (Nat.le_of_eq g1.symm)
  have sz_b1 : h0.size ≤ b1 := Nat.le_trans (show Keep h0 h0 [] from (Keep.refl h0 _)).1 (Nat.le_of_eq g1.symm)
  have K1 : Keep h0 h1 [] := Keep.ext (Keep.refl h0 _) E1
  have Z1 : n0 ≤ h1.size := Nat.le_trans Z0 E1.1
  have F_idleNanos_b1 : Fld Z h1 b1 "com/example/door3/door3/transport/LeastRate" "idleNanos" "J" (.long (0 : Int64)) := D1 (Or.inr (hw _ (List.mem_of_getElem? (i := 10) rfl))) (ty := .long) (by decide)
  have F_left_b1 : Fld Z h1 b1 "com/example/door3/door3/transport/LeastRate" "left" "J" (.long (0 : Int64)) := D1 (Or.inl (hw _ (List.mem_of_getElem? (i := 12) rfl))) (ty := .long) (by decide)
  have F_since_b1 : Fld Z h1 b1 "com/example/door3/door3/transport/LeastRate" "since" "J" (.long (0 : Int64)) := D1 (Or.inl (hw _ (List.mem_of_getElem? (i := 19) rfl))) (ty := .long) (by decide)
  have F_moved_b1 : Fld Z h1 b1 "com/example/door3/door3/transport/LeastRate" "moved" "J" (.long (0 : Int64)) := D1 (Or.inl (hw _ (List.mem_of_getElem? (i := 26) rfl))) (ty := .long) (by decide)
  obtain ⟨_, _, ⟨T2, L2, k2, n2⟩, -, X2, ⟨Lc2, hQ2, l2, y2, z2⟩, st2⟩ := X1.specialBack hx (y := (⟨"com/example/door3/door3/transport/LeastRate", "<init>", "(J)V"⟩ : MethodName)) rfl hown (mvT hZ (hw _ (List.mem_of_getElem? (i := 3) rfl))) (mvT hZ (hw _ (List.mem_of_getElem? (i := 4) rfl))) (mvT hZ (hw _ (List.mem_of_getElem? (i := 5) rfl))) (by decide) (backOf (W := 1) (rm1 l Z a0 hw [] b1 q1 (0 : Int64) (0 : Int64) (0 : Int64) (0 : Int64) h1 n0 Z1 ⟨A1, F_idleNanos_b1, F_left_b1, F_since_b1, F_moved_b1⟩ g_b1) hZ (hw _ (List.mem_of_getElem? (i := 5) rfl)) (hw _ (List.mem_of_getElem? (i := 2) rfl)) (by decide) (by decide)) (g := (mkF m 23 #[.val (.long q1), .second, .val (.long q2), .second, .val (.long q3), .second, .val (.long q4), .second, .val (.int p5), .val (.int p6), .val (.long ((p5 &&& (8191 : Int32)).toInt64)), .second, .val (.long ((p6 &&& (8191 : Int32)).toInt64)), .second, .unset, .unset, .unset, .unset] [(.long q1), (.ref b1), (.ref b1)])) rfl (by rw [hml]; rfl) (Steps.refl _) (a := b1) (argsL := [(.long q1)]) (rest := [(.ref b1)]) (lenOf pd_0_0 rfl) rfl (by show 2 * 0 + _ ≤ _; exact Nat.le_of_eq rfl) (hb hby at_23) (fun _ _ => ⟨rfl, e1, (by decide : 1 + 0 ≤ _), (by decide : 4 + 0 ≤ _)⟩)
  dsimp only [Pt.U, Pt.locs, Pt.cells, Pt.slots] at X2 l2 y2 z2 st2 hQ2
  subst l2 y2 z2
  obtain ⟨rfl, N2q, Kq2, O2_0⟩ := hQ2
  have N2 := Fr.app N0 N2q
  have fE_b1_x2 := (A1.keep Kq2)
  have K2 : Keep h0 T2.heap [] := Keep.trans K1 Kq2 (allS (Or.inr sz_b1) all0)
  have Z2 : n0 ≤ T2.heap.size := Nat.le_trans Z1 Kq2.1
  obtain ⟨E_b1_3, F_idleNanos_b1_4, F_left_b1_5, F_since_b1_6, F_moved_b1_7⟩ := O2_0
  obtain ⟨cq8, kq8, q8a, q8b, q8c⟩ := isOf hZ rfl E_b1_3
  obtain ⟨_, _, ⟨T8, L8, k8, n8⟩, -, X8, ⟨Lc8, hQ8, l8, y8, z8⟩, st8⟩ := X2.virtualBack hx (y := (⟨"com/example/door3/door3/transport/LeastRate", "stopWaiting", "(J)V"⟩ : MethodName)) (z := (⟨"com/example/door3/door3/transport/LeastRate", "stopWaiting", "(J)V"⟩ : MethodName)) hown (mvT hZ (hw _ (List.mem_of_getElem? (i := 13) rfl))) (mvT hZ (hw _ (List.mem_of_getElem? (i := 14) rfl))) (notFace_of_selects (args := #[]) (mvT hZ (hw _ (List.mem_of_getElem? (i := 16) rfl)))) (mvT hZ (hw _ (List.mem_of_getElem? (i := 16) rfl))) (mvT hZ (hw _ (List.mem_of_getElem? (i := 15) rfl))) (by decide) (backOf (W := 0) (rm3 l Z a0 hw [] b1 q2 q1 q1 (0 : Int64) (0 : Int64) T2.heap n0 Z2 ⟨E_b1_3, F_idleNanos_b1_4, F_left_b1_5, F_since_b1_6, F_moved_b1_7⟩ g_b1) hZ (hw _ (List.mem_of_getElem? (i := 17) rfl)) (hw _ (List.mem_of_getElem? (i := 2) rfl)) (by decide) (by decide)) q8a q8c (g := (mkF m 31 #[.val (.long q1), .second, .val (.long q2), .second, .val (.long q3), .second, .val (.long q4), .second, .val (.int p5), .val (.int p6), .val (.long ((p5 &&& (8191 : Int32)).toInt64)), .second, .val (.long ((p6 &&& (8191 : Int32)).toInt64)), .second, .val (.ref b1), .unset, .unset, .unset] [(.long q2), (.ref b1)])) rfl (by rw [hml]; rfl) (Steps.refl _) (argsL := [(.long q2)]) (rest := []) (lenOf pd_0_0 rfl) rfl (by show 2 * 0 + _ ≤ _; exact Nat.le_of_eq rfl) (hb hby at_31) (fun _ _ => ⟨rfl, rfl, (by decide : 1 + 0 ≤ _), (by decide : 4 + 0 ≤ _)⟩)
  dsimp only [Pt.U, Pt.locs, Pt.cells, Pt.slots] at X8 l8 y8 z8 st8 hQ8
  subst l8 y8 z8
  obtain ⟨rfl, N8q, Kq8, O8_0⟩ := hQ8
  have N8 := Fr.app N2 N8q
  have fE_b1_x8 := (E_b1_3.keep Kq8)
  have K8 : Keep h0 T8.heap [] := Keep.trans K2 Kq8 (allS (Or.inr sz_b1) all0)
  have Z8 : n0 ≤ T8.heap.size := Nat.le_trans Z2 Kq8.1
  obtain ⟨E_b1_9, F_idleNanos_b1_10, F_left_b1_11, F_since_b1_12, F_moved_b1_13⟩ := O8_0
  obtain ⟨cq14, kq14, q14a, q14b, q14c⟩ := isOf hZ rfl E_b1_9
  obtain ⟨_, _, ⟨T14, L14, k14, n14⟩, -, X14, ⟨Lc14, hQ14, l14, y14, z14⟩, st14⟩ := X8.virtualBack hx (y := (⟨"com/example/door3/door3/transport/LeastRate", "moved", "(JJ)V"⟩ : MethodName)) (z := (⟨"com/example/door3/door3/transport/LeastRate", "moved", "(JJ)V"⟩ : MethodName)) hown (mvT hZ (hw _ (List.mem_of_getElem? (i := 20) rfl))) (mvT hZ (hw _ (List.mem_of_getElem? (i := 21) rfl))) (notFace_of_selects (args := #[]) (mvT hZ (hw _ (List.mem_of_getElem? (i := 23) rfl)))) (mvT hZ (hw _ (List.mem_of_getElem? (i := 23) rfl))) (mvT hZ (hw _ (List.mem_of_getElem? (i := 22) rfl))) (by decide) (backOf (W := 0) (rm4 l Z a0 hw [] b1 ((p5 &&& (8191 : Int32)).toInt64) q4 q1 (q1 - (q2 - (0 : Int64))) (0 : Int64) (0 : Int64) T8.heap n0 Z8 ⟨E_b1_9, F_idleNanos_b1_10, F_left_b1_11, F_since_b1_12, F_moved_b1_13⟩ g_b1) hZ (hw _ (List.mem_of_getElem? (i := 24) rfl)) (hw _ (List.mem_of_getElem? (i := 2) rfl)) (by decide) (by decide)) q14a q14c (g := (mkF m 40 #[.val (.long q1), .second, .val (.long q2), .second, .val (.long q3), .second, .val (.long q4), .second, .val (.int p5), .val (.int p6), .val (.long ((p5 &&& (8191 : Int32)).toInt64)), .second, .val (.long ((p6 &&& (8191 : Int32)).toInt64)), .second, .val (.ref b1), .unset, .unset, .unset] [(.long q4), (.long ((p5 &&& (8191 : Int32)).toInt64)), (.ref b1)])) rfl (by rw [hml]; rfl) (Steps.refl _) (argsL := [(.long ((p5 &&& (8191 : Int32)).toInt64)), (.long q4)]) (rest := []) (lenOf pd_0_1 rfl) rfl (by show 2 * 0 + _ ≤ _; exact Nat.le_of_eq rfl) (hb hby at_40) (fun _ _ => ⟨rfl, rfl, (by decide : 1 + 0 ≤ _), (by decide : 4 + 0 ≤ _)⟩)
  dsimp only [Pt.U, Pt.locs, Pt.cells, Pt.slots] at X14 l14 y14 z14 st14 hQ14
  subst l14 y14 z14
  obtain ⟨rfl, N14q, Kq14, O14_0⟩ := hQ14
  have N14 := Fr.app N8 N14q
  have fE_b1_x14 := (E_b1_9.keep Kq14)
  have K14 : Keep h0 T14.heap [] := Keep.trans K8 Kq14 (allS (Or.inr sz_b1) all0)
  have Z14 : n0 ≤ T14.heap.size := Nat.le_trans Z8 Kq14.1
  obtain ⟨E_b1_15, F_idleNanos_b1_16, F_left_b1_17, F_since_b1_18, F_moved_b1_19⟩ := O14_0
  obtain ⟨cq20, kq20, q20a, q20b, q20c⟩ := isOf hZ rfl E_b1_15
  obtain ⟨_, _, ⟨T20, L20, k20, n20⟩, -, X20, ⟨Lc20, hQ20, l20, y20, z20⟩, st20⟩ := X14.virtualBack hx (y := (⟨"com/example/door3/door3/transport/LeastRate", "restart", "()V"⟩ : MethodName)) (z := (⟨"com/example/door3/door3/transport/LeastRate", "restart", "()V"⟩ : MethodName)) hown (mvT hZ (hw _ (List.mem_of_getElem? (i := 28) rfl))) (mvT hZ (hw _ (List.mem_of_getElem? (i := 29) rfl))) (notFace_of_selects (args := #[]) (mvT hZ (hw _ (List.mem_of_getElem? (i := 31) rfl)))) (mvT hZ (hw _ (List.mem_of_getElem? (i := 31) rfl))) (mvT hZ (hw _ (List.mem_of_getElem? (i := 30) rfl))) (by decide) (backOf (W := 0) (rm5 l Z a0 hw [] b1 q1 (if ((0 : Int64) + ((p5 &&& (8191 : Int32)).toInt64)) < (8192 : Int64) then (q1 - (q2 - (0 : Int64))) else q1) (if ((0 : Int64) + ((p5 &&& (8191 : Int32)).toInt64)) < (8192 : Int64) then (0 : Int64) else q4) (if ((0 : Int64) + ((p5 &&& (8191 : Int32)).toInt64)) < (8192 : Int64) then ((0 : Int64) + ((p5 &&& (8191 : Int32)).toInt64)) else (0 : Int64)) T14.heap n0 Z14 ⟨E_b1_15, F_idleNanos_b1_16, F_left_b1_17, F_since_b1_18, F_moved_b1_19⟩ g_b1) hZ (hw _ (List.mem_of_getElem? (i := 32) rfl)) (hw _ (List.mem_of_getElem? (i := 2) rfl)) (by decide) (by decide)) q20a q20c (g := (mkF m 45 #[.val (.long q1), .second, .val (.long q2), .second, .val (.long q3), .second, .val (.long q4), .second, .val (.int p5), .val (.int p6), .val (.long ((p5 &&& (8191 : Int32)).toInt64)), .second, .val (.long ((p6 &&& (8191 : Int32)).toInt64)), .second, .val (.ref b1), .unset, .unset, .unset] [(.ref b1)])) rfl (by rw [hml]; rfl) (Steps.refl _) (argsL := []) (rest := []) (lenOf pd_0_2 rfl) rfl (by show 2 * 0 + _ ≤ _; exact Nat.le_of_eq rfl) (hb hby at_45) (fun _ _ => ⟨rfl, rfl, (by decide : 1 + 0 ≤ _), (by decide : 4 + 0 ≤ _)⟩)
  dsimp only [Pt.U, Pt.locs, Pt.cells, Pt.slots] at X20 l20 y20 z20 st20 hQ20
  subst l20 y20 z20
  obtain ⟨rfl, N20q, Kq20, O20_0⟩ := hQ20
  have N20 := Fr.app N14 N20q
  have fE_b1_x20 := (E_b1_15.keep Kq20)
  have K20 : Keep h0 T20.heap [] := Keep.trans K14 Kq20 (allS (Or.inr sz_b1) all0)
  have Z20 : n0 ≤ T20.heap.size := Nat.le_trans Z14 Kq20.1
  obtain ⟨E_b1_21, F_idleNanos_b1_22, F_left_b1_23, F_since_b1_24, F_moved_b1_25⟩ := O20_0
  obtain ⟨cq26, kq26, q26a, q26b, q26c⟩ := isOf hZ rfl E_b1_21
  obtain ⟨_, _, ⟨T26, L26, k26, n26⟩, -, X26, ⟨Lc26, hQ26, l26, y26, z26⟩, st26⟩ := X20.virtualBack hx (y := (⟨"com/example/door3/door3/transport/LeastRate", "startWaiting", "(J)V"⟩ : MethodName)) (z := (⟨"com/example/door3/door3/transport/LeastRate", "startWaiting", "(J)V"⟩ : MethodName)) hown (mvT hZ (hw _ (List.mem_of_getElem? (i := 33) rfl))) (mvT hZ (hw _ (List.mem_of_getElem? (i := 34) rfl))) (notFace_of_selects (args := #[]) (mvT hZ (hw _ (List.mem_of_getElem? (i := 36) rfl)))) (mvT hZ (hw _ (List.mem_of_getElem? (i := 36) rfl))) (mvT hZ (hw _ (List.mem_of_getElem? (i := 35) rfl))) (by decide) (backOf (W := 0) (rm6 l Z a0 hw [] b1 q3 q1 q1 (if ((0 : Int64) + ((p5 &&& (8191 : Int32)).toInt64)) < (8192 : Int64) then (0 : Int64) else q4) (0 : Int64) T20.heap n0 Z20 ⟨E_b1_21, F_idleNanos_b1_22, F_left_b1_23, F_since_b1_24, F_moved_b1_25⟩ g_b1) hZ (hw _ (List.mem_of_getElem? (i := 37) rfl)) (hw _ (List.mem_of_getElem? (i := 2) rfl)) (by decide) (by decide)) q26a q26c (g := (mkF m 52 #[.val (.long q1), .second, .val (.long q2), .second, .val (.long q3), .second, .val (.long q4), .second, .val (.int p5), .val (.int p6), .val (.long ((p5 &&& (8191 : Int32)).toInt64)), .second, .val (.long ((p6 &&& (8191 : Int32)).toInt64)), .second, .val (.ref b1), .unset, .unset, .unset] [(.long q3), (.ref b1)])) rfl (by rw [hml]; rfl) (Steps.refl _) (argsL := [(.long q3)]) (rest := []) (lenOf pd_0_0 rfl) rfl (by show 2 * 0 + _ ≤ _; exact Nat.le_of_eq rfl) (hb hby at_52) (fun _ _ => ⟨rfl, rfl, (by decide : 1 + 0 ≤ _), (by decide : 4 + 0 ≤ _)⟩)
  dsimp only [Pt.U, Pt.locs, Pt.cells, Pt.slots] at X26 l26 y26 z26 st26 hQ26
  subst l26 y26 z26
  obtain ⟨rfl, N26q, Kq26, O26_0⟩ := hQ26
  have N26 := Fr.app N20 N26q
  have fE_b1_x26 := (E_b1_21.keep Kq26)
  have K26 : Keep h0 T26.heap [] := Keep.trans K20 Kq26 (allS (Or.inr sz_b1) all0)
  have Z26 : n0 ≤ T26.heap.size := Nat.le_trans Z20 Kq26.1
  obtain ⟨E_b1_27, F_idleNanos_b1_28, F_left_b1_29, F_since_b1_30, F_moved_b1_31⟩ := O26_0
  obtain ⟨cq32, kq32, q32a, q32b, q32c⟩ := isOf hZ rfl E_b1_27
  obtain ⟨_, _, ⟨T32, L32, k32, n32⟩, -, X32, ⟨Lc32, hQ32, l32, y32, z32⟩, st32⟩ := X26.virtualBack hx (y := (⟨"com/example/door3/door3/transport/LeastRate", "deadline", "()J"⟩ : MethodName)) (z := (⟨"com/example/door3/door3/transport/LeastRate", "deadline", "()J"⟩ : MethodName)) hown (mvT hZ (hw _ (List.mem_of_getElem? (i := 38) rfl))) (mvT hZ (hw _ (List.mem_of_getElem? (i := 39) rfl))) (notFace_of_selects (args := #[]) (mvT hZ (hw _ (List.mem_of_getElem? (i := 41) rfl)))) (mvT hZ (hw _ (List.mem_of_getElem? (i := 41) rfl))) (mvT hZ (hw _ (List.mem_of_getElem? (i := 40) rfl))) (by decide) (backOf (W := 0) (rm7 l Z a0 hw [] b1 q1 q1 q3 (0 : Int64) T26.heap n0 Z26 ⟨E_b1_27, F_idleNanos_b1_28, F_left_b1_29, F_since_b1_30, F_moved_b1_31⟩) hZ (hw _ (List.mem_of_getElem? (i := 42) rfl)) (hw _ (List.mem_of_getElem? (i := 2) rfl)) (by decide) (by decide)) q32a q32c (g := (mkF m 57 #[.val (.long q1), .second, .val (.long q2), .second, .val (.long q3), .second, .val (.long q4), .second, .val (.int p5), .val (.int p6), .val (.long ((p5 &&& (8191 : Int32)).toInt64)), .second, .val (.long ((p6 &&& (8191 : Int32)).toInt64)), .second, .val (.ref b1), .unset, .unset, .unset] [(.ref b1)])) rfl (by rw [hml]; rfl) (Steps.refl _) (argsL := []) (rest := []) (lenOf pd_0_3 rfl) rfl (by show 2 * 0 + _ ≤ _; exact Nat.le_of_eq rfl) (hb hby at_57) (fun _ _ => ⟨rfl, rfl, (by decide : 1 + 0 ≤ _), (by decide : 4 + 0 ≤ _)⟩)
  dsimp only [Pt.U, Pt.locs, Pt.cells, Pt.slots] at X32 l32 y32 z32 st32 hQ32
  subst l32 y32 z32
  obtain ⟨rfl, N32q, e32⟩ := hQ32
  have N32 := Fr.app N26 N32q
  obtain ⟨cq33, kq33, q33a, q33b, q33c⟩ := isOf hZ e32 E_b1_27
  obtain ⟨_, _, ⟨T33, L33, k33, n33⟩, -, X33, ⟨Lc33, hQ33, l33, y33, z33⟩, st33⟩ := X32.virtualBack hx (y := (⟨"com/example/door3/door3/transport/LeastRate", "moved", "(JJ)V"⟩ : MethodName)) (z := (⟨"com/example/door3/door3/transport/LeastRate", "moved", "(JJ)V"⟩ : MethodName)) hown (mvT hZ (hw _ (List.mem_of_getElem? (i := 20) rfl))) (mvT hZ (hw _ (List.mem_of_getElem? (i := 21) rfl))) (notFace_of_selects (args := #[]) (mvT hZ (hw _ (List.mem_of_getElem? (i := 23) rfl)))) (mvT hZ (hw _ (List.mem_of_getElem? (i := 23) rfl))) (mvT hZ (hw _ (List.mem_of_getElem? (i := 22) rfl))) (by decide) (backOf (W := 0) (rm4 l Z a0 hw [] b1 ((p6 &&& (8191 : Int32)).toInt64) q4 q1 q1 q3 (0 : Int64) T26.heap n0 Z26 ⟨E_b1_27, F_idleNanos_b1_28, F_left_b1_29, F_since_b1_30, F_moved_b1_31⟩ g_b1) hZ (hw _ (List.mem_of_getElem? (i := 24) rfl)) (hw _ (List.mem_of_getElem? (i := 2) rfl)) (by decide) (by decide)) q33a q33c (g := (mkF m 81 #[.val (.long q1), .second, .val (.long q2), .second, .val (.long q3), .second, .val (.long q4), .second, .val (.int p5), .val (.int p6), .val (.long ((p5 &&& (8191 : Int32)).toInt64)), .second, .val (.long ((p6 &&& (8191 : Int32)).toInt64)), .second, .val (.ref b1), .val (.int (1 : Int32)), .unset, .unset] [(.long q4), (.long ((p6 &&& (8191 : Int32)).toInt64)), (.ref b1)])) rfl (by rw [hml]; rfl) (Steps.refl _) (argsL := [(.long ((p6 &&& (8191 : Int32)).toInt64)), (.long q4)]) (rest := []) (lenOf pd_0_1 rfl) rfl (by show 2 * 0 + _ ≤ _; exact Nat.le_of_eq rfl) (hb hby at_81) (fun _ _ => ⟨rfl, e32, (by decide : 1 + 0 ≤ _), (by decide : 4 + 0 ≤ _)⟩)
  dsimp only [Pt.U, Pt.locs, Pt.cells, Pt.slots] at X33 l33 y33 z33 st33 hQ33
  subst l33 y33 z33
  obtain ⟨rfl, N33q, Kq33, O33_0⟩ := hQ33
  have N33 := Fr.app N32 N33q
  have fE_b1_x33 := (E_b1_27.keep Kq33)
  have K33 : Keep h0 T33.heap [] := Keep.trans K26 Kq33 (allS (Or.inr sz_b1) all0)
  have Z33 : n0 ≤ T33.heap.size := Nat.le_trans Z26 Kq33.1
  obtain ⟨E_b1_34, F_idleNanos_b1_35, F_left_b1_36, F_since_b1_37, F_moved_b1_38⟩ := O33_0
  obtain ⟨cq39, kq39, q39a, q39b, q39c⟩ := isOf hZ rfl E_b1_34
  obtain ⟨_, _, ⟨T39, L39, k39, n39⟩, -, X39, ⟨Lc39, hQ39, l39, y39, z39⟩, st39⟩ := X33.virtualBack hx (y := (⟨"com/example/door3/door3/transport/LeastRate", "deadline", "()J"⟩ : MethodName)) (z := (⟨"com/example/door3/door3/transport/LeastRate", "deadline", "()J"⟩ : MethodName)) hown (mvT hZ (hw _ (List.mem_of_getElem? (i := 38) rfl))) (mvT hZ (hw _ (List.mem_of_getElem? (i := 39) rfl))) (notFace_of_selects (args := #[]) (mvT hZ (hw _ (List.mem_of_getElem? (i := 41) rfl)))) (mvT hZ (hw _ (List.mem_of_getElem? (i := 41) rfl))) (mvT hZ (hw _ (List.mem_of_getElem? (i := 40) rfl))) (by decide) (backOf (W := 0) (rm7 l Z a0 hw [] b1 q1 (if ((0 : Int64) + ((p6 &&& (8191 : Int32)).toInt64)) < (8192 : Int64) then q1 else q1) (if ((0 : Int64) + ((p6 &&& (8191 : Int32)).toInt64)) < (8192 : Int64) then q3 else q4) (if ((0 : Int64) + ((p6 &&& (8191 : Int32)).toInt64)) < (8192 : Int64) then ((0 : Int64) + ((p6 &&& (8191 : Int32)).toInt64)) else (0 : Int64)) T33.heap n0 Z33 ⟨E_b1_34, F_idleNanos_b1_35, F_left_b1_36, F_since_b1_37, F_moved_b1_38⟩) hZ (hw _ (List.mem_of_getElem? (i := 42) rfl)) (hw _ (List.mem_of_getElem? (i := 2) rfl)) (by decide) (by decide)) q39a q39c (g := (mkF m 86 #[.val (.long q1), .second, .val (.long q2), .second, .val (.long q3), .second, .val (.long q4), .second, .val (.int p5), .val (.int p6), .val (.long ((p5 &&& (8191 : Int32)).toInt64)), .second, .val (.long ((p6 &&& (8191 : Int32)).toInt64)), .second, .val (.ref b1), .val (.int (1 : Int32)), .unset, .unset] [(.ref b1)])) rfl (by rw [hml]; rfl) (Steps.refl _) (argsL := []) (rest := []) (lenOf pd_0_3 rfl) rfl (by show 2 * 0 + _ ≤ _; exact Nat.le_of_eq rfl) (hb hby at_86) (fun _ _ => ⟨rfl, rfl, (by decide : 1 + 0 ≤ _), (by decide : 4 + 0 ≤ _)⟩)
  dsimp only [Pt.U, Pt.locs, Pt.cells, Pt.slots] at X39 l39 y39 z39 st39 hQ39
  subst l39 y39 z39
  obtain ⟨rfl, N39q, e39⟩ := hQ39
  have N39 := Fr.app N33 N39q
  refine own_pre (A := T39.setTop (mkF m 94 #[.val (.long q1), .second, .val (.long q2), .second, .val (.long q3), .second, .val (.long q4), .second, .val (.int p5), .val (.int p6), .val (.long ((p5 &&& (8191 : Int32)).toInt64)), .second, .val (.long ((p6 &&& (8191 : Int32)).toInt64)), .second, .val (.ref b1), .val (.int (1 : Int32)), .unset, .unset] [(.int (lcmpW ((if ((0 : Int64) + ((p6 &&& (8191 : Int32)).toInt64)) < (8192 : Int64) then q3 else q4) + (if ((0 : Int64) + ((p6 &&& (8191 : Int32)).toInt64)) < (8192 : Int64) then q1 else q1)) (q3 + q1)))])) (fun tt kt => ?_) ?_
  · show Steps p.tables e below (s₁.setTop (mkF m 0 #[.val (.long q1), .second, .val (.long q2), .second, .val (.long q3), .second, .val (.long q4), .second, .val (.int p5), .val (.int p6), .unset, .unset, .unset, .unset, .unset, .unset, .unset, .unset] [])) _
    refine XS.iload X0.here hx rfl (hb hby at_0) rfl ?_
    show Steps p.tables e below (s₁.setTop (mkF m 2 #[.val (.long q1), .second, .val (.long q2), .second, .val (.long q3), .second, .val (.long q4), .second, .val (.int p5), .val (.int p6), .unset, .unset, .unset, .unset, .unset, .unset, .unset, .unset] [(.int p5)])) _
    refine XS.sipush X0.here hx rfl (hb hby at_2) ?_
    show Steps p.tables e below (s₁.setTop (mkF m 5 #[.val (.long q1), .second, .val (.long q2), .second, .val (.long q3), .second, .val (.long q4), .second, .val (.int p5), .val (.int p6), .unset, .unset, .unset, .unset, .unset, .unset, .unset, .unset] [(.int (8191 : Int32)), (.int p5)])) _
    refine XS.iand X0.here hx rfl (hb hby at_5) rfl ?_
    show Steps p.tables e below (s₁.setTop (mkF m 6 #[.val (.long q1), .second, .val (.long q2), .second, .val (.long q3), .second, .val (.long q4), .second, .val (.int p5), .val (.int p6), .unset, .unset, .unset, .unset, .unset, .unset, .unset, .unset] [(.int (p5 &&& (8191 : Int32)))])) _
    refine XS.i2l X0.here hx rfl (hb hby at_6) rfl ?_
    show Steps p.tables e below (s₁.setTop (mkF m 7 #[.val (.long q1), .second, .val (.long q2), .second, .val (.long q3), .second, .val (.long q4), .second, .val (.int p5), .val (.int p6), .unset, .unset, .unset, .unset, .unset, .unset, .unset, .unset] [(.long ((p5 &&& (8191 : Int32)).toInt64))])) _
    refine XS.lstore X0.here hx rfl (hb hby at_7) rfl (l' := #[.val (.long q1), .second, .val (.long q2), .second, .val (.long q3), .second, .val (.long q4), .second, .val (.int p5), .val (.int p6), .val (.long ((p5 &&& (8191 : Int32)).toInt64)), .second, .unset, .unset, .unset, .unset, .unset, .unset]) rfl ?_
    show Steps p.tables e below (s₁.setTop (mkF m 9 #[.val (.long q1), .second, .val (.long q2), .second, .val (.long q3), .second, .val (.long q4), .second, .val (.int p5), .val (.int p6), .val (.long ((p5 &&& (8191 : Int32)).toInt64)), .second, .unset, .unset, .unset, .unset, .unset, .unset] [])) _
    refine XS.iload X0.here hx rfl (hb hby at_9) rfl ?_
    show Steps p.tables e below (s₁.setTop (mkF m 11 #[.val (.long q1), .second, .val (.long q2), .second, .val (.long q3), .second, .val (.long q4), .second, .val (.int p5), .val (.int p6), .val (.long ((p5 &&& (8191 : Int32)).toInt64)), .second, .unset, .unset, .unset, .unset, .unset, .unset] [(.int p6)])) _
    refine XS.sipush X0.here hx rfl (hb hby at_11) ?_
    show Steps p.tables e below (s₁.setTop (mkF m 14 #[.val (.long q1), .second, .val (.long q2), .second, .val (.long q3), .second, .val (.long q4), .second, .val (.int p5), .val (.int p6), .val (.long ((p5 &&& (8191 : Int32)).toInt64)), .second, .unset, .unset, .unset, .unset, .unset, .unset] [(.int (8191 : Int32)), (.int p6)])) _
    refine XS.iand X0.here hx rfl (hb hby at_14) rfl ?_
    show Steps p.tables e below (s₁.setTop (mkF m 15 #[.val (.long q1), .second, .val (.long q2), .second, .val (.long q3), .second, .val (.long q4), .second, .val (.int p5), .val (.int p6), .val (.long ((p5 &&& (8191 : Int32)).toInt64)), .second, .unset, .unset, .unset, .unset, .unset, .unset] [(.int (p6 &&& (8191 : Int32)))])) _
    refine XS.i2l X0.here hx rfl (hb hby at_15) rfl ?_
    show Steps p.tables e below (s₁.setTop (mkF m 16 #[.val (.long q1), .second, .val (.long q2), .second, .val (.long q3), .second, .val (.long q4), .second, .val (.int p5), .val (.int p6), .val (.long ((p5 &&& (8191 : Int32)).toInt64)), .second, .unset, .unset, .unset, .unset, .unset, .unset] [(.long ((p6 &&& (8191 : Int32)).toInt64))])) _
    refine XS.lstore X0.here hx rfl (hb hby at_16) rfl (l' := #[.val (.long q1), .second, .val (.long q2), .second, .val (.long q3), .second, .val (.long q4), .second, .val (.int p5), .val (.int p6), .val (.long ((p5 &&& (8191 : Int32)).toInt64)), .second, .val (.long ((p6 &&& (8191 : Int32)).toInt64)), .second, .unset, .unset, .unset, .unset]) rfl ?_
    show Steps p.tables e below (s₁.setTop (mkF m 18 #[.val (.long q1), .second, .val (.long q2), .second, .val (.long q3), .second, .val (.long q4), .second, .val (.int p5), .val (.int p6), .val (.long ((p5 &&& (8191 : Int32)).toInt64)), .second, .val (.long ((p6 &&& (8191 : Int32)).toInt64)), .second, .unset, .unset, .unset, .unset] [])) _
    refine st1 _ ?_
    show Steps p.tables e below (T1.setTop (mkF m 21 #[.val (.long q1), .second, .val (.long q2), .second, .val (.long q3), .second, .val (.long q4), .second, .val (.int p5), .val (.int p6), .val (.long ((p5 &&& (8191 : Int32)).toInt64)), .second, .val (.long ((p6 &&& (8191 : Int32)).toInt64)), .second, .unset, .unset, .unset, .unset] [(.ref b1)])) _
    refine XS.dup X1.here hx rfl (hb hby at_21) rfl rfl ?_
    show Steps p.tables e below (T1.setTop (mkF m 22 #[.val (.long q1), .second, .val (.long q2), .second, .val (.long q3), .second, .val (.long q4), .second, .val (.int p5), .val (.int p6), .val (.long ((p5 &&& (8191 : Int32)).toInt64)), .second, .val (.long ((p6 &&& (8191 : Int32)).toInt64)), .second, .unset, .unset, .unset, .unset] [(.ref b1), (.ref b1)])) _
    refine XS.lloadN X1.here hx rfl (hb hby at_22) rfl ?_
    show Steps p.tables e below (T1.setTop (mkF m 23 #[.val (.long q1), .second, .val (.long q2), .second, .val (.long q3), .second, .val (.long q4), .second, .val (.int p5), .val (.int p6), .val (.long ((p5 &&& (8191 : Int32)).toInt64)), .second, .val (.long ((p6 &&& (8191 : Int32)).toInt64)), .second, .unset, .unset, .unset, .unset] [(.long q1), (.ref b1), (.ref b1)])) _
    refine st2.trans ?_
    show Steps p.tables e below (T2.setTop (mkF m 26 #[.val (.long q1), .second, .val (.long q2), .second, .val (.long q3), .second, .val (.long q4), .second, .val (.int p5), .val (.int p6), .val (.long ((p5 &&& (8191 : Int32)).toInt64)), .second, .val (.long ((p6 &&& (8191 : Int32)).toInt64)), .second, .unset, .unset, .unset, .unset] [(.ref b1)])) _
    refine XS.astore X2.here hx rfl (hb hby at_26) rfl rfl (l' := #[.val (.long q1), .second, .val (.long q2), .second, .val (.long q3), .second, .val (.long q4), .second, .val (.int p5), .val (.int p6), .val (.long ((p5 &&& (8191 : Int32)).toInt64)), .second, .val (.long ((p6 &&& (8191 : Int32)).toInt64)), .second, .val (.ref b1), .unset, .unset, .unset]) rfl ?_
    show Steps p.tables e below (T2.setTop (mkF m 28 #[.val (.long q1), .second, .val (.long q2), .second, .val (.long q3), .second, .val (.long q4), .second, .val (.int p5), .val (.int p6), .val (.long ((p5 &&& (8191 : Int32)).toInt64)), .second, .val (.long ((p6 &&& (8191 : Int32)).toInt64)), .second, .val (.ref b1), .unset, .unset, .unset] [])) _
    refine XS.aload X2.here hx rfl (hb hby at_28) rfl rfl ?_
    show Steps p.tables e below (T2.setTop (mkF m 30 #[.val (.long q1), .second, .val (.long q2), .second, .val (.long q3), .second, .val (.long q4), .second, .val (.int p5), .val (.int p6), .val (.long ((p5 &&& (8191 : Int32)).toInt64)), .second, .val (.long ((p6 &&& (8191 : Int32)).toInt64)), .second, .val (.ref b1), .unset, .unset, .unset] [(.ref b1)])) _
    refine XS.lloadN X2.here hx rfl (hb hby at_30) rfl ?_
    show Steps p.tables e below (T2.setTop (mkF m 31 #[.val (.long q1), .second, .val (.long q2), .second, .val (.long q3), .second, .val (.long q4), .second, .val (.int p5), .val (.int p6), .val (.long ((p5 &&& (8191 : Int32)).toInt64)), .second, .val (.long ((p6 &&& (8191 : Int32)).toInt64)), .second, .val (.ref b1), .unset, .unset, .unset] [(.long q2), (.ref b1)])) _
    refine st8.trans ?_
    show Steps p.tables e below (T8.setTop (mkF m 34 #[.val (.long q1), .second, .val (.long q2), .second, .val (.long q3), .second, .val (.long q4), .second, .val (.int p5), .val (.int p6), .val (.long ((p5 &&& (8191 : Int32)).toInt64)), .second, .val (.long ((p6 &&& (8191 : Int32)).toInt64)), .second, .val (.ref b1), .unset, .unset, .unset] [])) _
    refine XS.aload X8.here hx rfl (hb hby at_34) rfl rfl ?_
    show Steps p.tables e below (T8.setTop (mkF m 36 #[.val (.long q1), .second, .val (.long q2), .second, .val (.long q3), .second, .val (.long q4), .second, .val (.int p5), .val (.int p6), .val (.long ((p5 &&& (8191 : Int32)).toInt64)), .second, .val (.long ((p6 &&& (8191 : Int32)).toInt64)), .second, .val (.ref b1), .unset, .unset, .unset] [(.ref b1)])) _
    refine XS.lload X8.here hx rfl (hb hby at_36) rfl ?_
    show Steps p.tables e below (T8.setTop (mkF m 38 #[.val (.long q1), .second, .val (.long q2), .second, .val (.long q3), .second, .val (.long q4), .second, .val (.int p5), .val (.int p6), .val (.long ((p5 &&& (8191 : Int32)).toInt64)), .second, .val (.long ((p6 &&& (8191 : Int32)).toInt64)), .second, .val (.ref b1), .unset, .unset, .unset] [(.long ((p5 &&& (8191 : Int32)).toInt64)), (.ref b1)])) _
    refine XS.lload X8.here hx rfl (hb hby at_38) rfl ?_
    show Steps p.tables e below (T8.setTop (mkF m 40 #[.val (.long q1), .second, .val (.long q2), .second, .val (.long q3), .second, .val (.long q4), .second, .val (.int p5), .val (.int p6), .val (.long ((p5 &&& (8191 : Int32)).toInt64)), .second, .val (.long ((p6 &&& (8191 : Int32)).toInt64)), .second, .val (.ref b1), .unset, .unset, .unset] [(.long q4), (.long ((p5 &&& (8191 : Int32)).toInt64)), (.ref b1)])) _
    refine st14.trans ?_
    show Steps p.tables e below (T14.setTop (mkF m 43 #[.val (.long q1), .second, .val (.long q2), .second, .val (.long q3), .second, .val (.long q4), .second, .val (.int p5), .val (.int p6), .val (.long ((p5 &&& (8191 : Int32)).toInt64)), .second, .val (.long ((p6 &&& (8191 : Int32)).toInt64)), .second, .val (.ref b1), .unset, .unset, .unset] [])) _
    refine XS.aload X14.here hx rfl (hb hby at_43) rfl rfl ?_
    show Steps p.tables e below (T14.setTop (mkF m 45 #[.val (.long q1), .second, .val (.long q2), .second, .val (.long q3), .second, .val (.long q4), .second, .val (.int p5), .val (.int p6), .val (.long ((p5 &&& (8191 : Int32)).toInt64)), .second, .val (.long ((p6 &&& (8191 : Int32)).toInt64)), .second, .val (.ref b1), .unset, .unset, .unset] [(.ref b1)])) _
    refine st20.trans ?_
    show Steps p.tables e below (T20.setTop (mkF m 48 #[.val (.long q1), .second, .val (.long q2), .second, .val (.long q3), .second, .val (.long q4), .second, .val (.int p5), .val (.int p6), .val (.long ((p5 &&& (8191 : Int32)).toInt64)), .second, .val (.long ((p6 &&& (8191 : Int32)).toInt64)), .second, .val (.ref b1), .unset, .unset, .unset] [])) _
    refine XS.aload X20.here hx rfl (hb hby at_48) rfl rfl ?_
    show Steps p.tables e below (T20.setTop (mkF m 50 #[.val (.long q1), .second, .val (.long q2), .second, .val (.long q3), .second, .val (.long q4), .second, .val (.int p5), .val (.int p6), .val (.long ((p5 &&& (8191 : Int32)).toInt64)), .second, .val (.long ((p6 &&& (8191 : Int32)).toInt64)), .second, .val (.ref b1), .unset, .unset, .unset] [(.ref b1)])) _
    refine XS.lload X20.here hx rfl (hb hby at_50) rfl ?_
    show Steps p.tables e below (T20.setTop (mkF m 52 #[.val (.long q1), .second, .val (.long q2), .second, .val (.long q3), .second, .val (.long q4), .second, .val (.int p5), .val (.int p6), .val (.long ((p5 &&& (8191 : Int32)).toInt64)), .second, .val (.long ((p6 &&& (8191 : Int32)).toInt64)), .second, .val (.ref b1), .unset, .unset, .unset] [(.long q3), (.ref b1)])) _
    refine st26.trans ?_
    show Steps p.tables e below (T26.setTop (mkF m 55 #[.val (.long q1), .second, .val (.long q2), .second, .val (.long q3), .second, .val (.long q4), .second, .val (.int p5), .val (.int p6), .val (.long ((p5 &&& (8191 : Int32)).toInt64)), .second, .val (.long ((p6 &&& (8191 : Int32)).toInt64)), .second, .val (.ref b1), .unset, .unset, .unset] [])) _
    refine XS.aload X26.here hx rfl (hb hby at_55) rfl rfl ?_
    show Steps p.tables e below (T26.setTop (mkF m 57 #[.val (.long q1), .second, .val (.long q2), .second, .val (.long q3), .second, .val (.long q4), .second, .val (.int p5), .val (.int p6), .val (.long ((p5 &&& (8191 : Int32)).toInt64)), .second, .val (.long ((p6 &&& (8191 : Int32)).toInt64)), .second, .val (.ref b1), .unset, .unset, .unset] [(.ref b1)])) _
    refine st32.trans ?_
    show Steps p.tables e below (T32.setTop (mkF m 60 #[.val (.long q1), .second, .val (.long q2), .second, .val (.long q3), .second, .val (.long q4), .second, .val (.int p5), .val (.int p6), .val (.long ((p5 &&& (8191 : Int32)).toInt64)), .second, .val (.long ((p6 &&& (8191 : Int32)).toInt64)), .second, .val (.ref b1), .unset, .unset, .unset] [(.long (q3 + q1))])) _
    refine XS.lload X32.here hx rfl (hb hby at_60) rfl ?_
    show Steps p.tables e below (T32.setTop (mkF m 62 #[.val (.long q1), .second, .val (.long q2), .second, .val (.long q3), .second, .val (.long q4), .second, .val (.int p5), .val (.int p6), .val (.long ((p5 &&& (8191 : Int32)).toInt64)), .second, .val (.long ((p6 &&& (8191 : Int32)).toInt64)), .second, .val (.ref b1), .unset, .unset, .unset] [(.long q3), (.long (q3 + q1))])) _
    refine XS.lloadN X32.here hx rfl (hb hby at_62) rfl ?_
    show Steps p.tables e below (T32.setTop (mkF m 63 #[.val (.long q1), .second, .val (.long q2), .second, .val (.long q3), .second, .val (.long q4), .second, .val (.int p5), .val (.int p6), .val (.long ((p5 &&& (8191 : Int32)).toInt64)), .second, .val (.long ((p6 &&& (8191 : Int32)).toInt64)), .second, .val (.ref b1), .unset, .unset, .unset] [(.long q1), (.long q3), (.long (q3 + q1))])) _
    refine XS.ladd X32.here hx rfl (hb hby at_63) rfl ?_
    show Steps p.tables e below (T32.setTop (mkF m 64 #[.val (.long q1), .second, .val (.long q2), .second, .val (.long q3), .second, .val (.long q4), .second, .val (.int p5), .val (.int p6), .val (.long ((p5 &&& (8191 : Int32)).toInt64)), .second, .val (.long ((p6 &&& (8191 : Int32)).toInt64)), .second, .val (.ref b1), .unset, .unset, .unset] [(.long (q3 + q1)), (.long (q3 + q1))])) _
    refine XS.lcmp X32.here hx rfl (hb hby at_64) rfl ?_
    show Steps p.tables e below (T32.setTop (mkF m 65 #[.val (.long q1), .second, .val (.long q2), .second, .val (.long q3), .second, .val (.long q4), .second, .val (.int p5), .val (.int p6), .val (.long ((p5 &&& (8191 : Int32)).toInt64)), .second, .val (.long ((p6 &&& (8191 : Int32)).toInt64)), .second, .val (.ref b1), .unset, .unset, .unset] [(.int (lcmpW (q3 + q1) (q3 + q1)))])) _
    refine XS.ifNo X32.here hx rfl (hb hby at_65) rfl ((if0 _ _).trans (teq ((lw_eq (q3 + q1) (q3 + q1)).mpr (rfl : (q3 + q1) = (q3 + q1)))).2) ?_
    show Steps p.tables e below (T32.setTop (mkF m 68 #[.val (.long q1), .second, .val (.long q2), .second, .val (.long q3), .second, .val (.long q4), .second, .val (.int p5), .val (.int p6), .val (.long ((p5 &&& (8191 : Int32)).toInt64)), .second, .val (.long ((p6 &&& (8191 : Int32)).toInt64)), .second, .val (.ref b1), .unset, .unset, .unset] [])) _
    refine XS.iconst X32.here hx rfl (hb hby at_68) ?_
    show Steps p.tables e below (T32.setTop (mkF m 69 #[.val (.long q1), .second, .val (.long q2), .second, .val (.long q3), .second, .val (.long q4), .second, .val (.int p5), .val (.int p6), .val (.long ((p5 &&& (8191 : Int32)).toInt64)), .second, .val (.long ((p6 &&& (8191 : Int32)).toInt64)), .second, .val (.ref b1), .unset, .unset, .unset] [(.int (1 : Int32))])) _
    refine XS.goto X32.here hx rfl (pc0 := 69) (pc' := 73) rfl (hb hby at_69) (by decide) (by decide) ?_
    show Steps p.tables e below (T32.setTop (mkF m 73 #[.val (.long q1), .second, .val (.long q2), .second, .val (.long q3), .second, .val (.long q4), .second, .val (.int p5), .val (.int p6), .val (.long ((p5 &&& (8191 : Int32)).toInt64)), .second, .val (.long ((p6 &&& (8191 : Int32)).toInt64)), .second, .val (.ref b1), .unset, .unset, .unset] [(.int (1 : Int32))])) _
    refine XS.istore X32.here hx rfl (hb hby at_73) rfl (l' := #[.val (.long q1), .second, .val (.long q2), .second, .val (.long q3), .second, .val (.long q4), .second, .val (.int p5), .val (.int p6), .val (.long ((p5 &&& (8191 : Int32)).toInt64)), .second, .val (.long ((p6 &&& (8191 : Int32)).toInt64)), .second, .val (.ref b1), .val (.int (1 : Int32)), .unset, .unset]) rfl ?_
    show Steps p.tables e below (T32.setTop (mkF m 75 #[.val (.long q1), .second, .val (.long q2), .second, .val (.long q3), .second, .val (.long q4), .second, .val (.int p5), .val (.int p6), .val (.long ((p5 &&& (8191 : Int32)).toInt64)), .second, .val (.long ((p6 &&& (8191 : Int32)).toInt64)), .second, .val (.ref b1), .val (.int (1 : Int32)), .unset, .unset] [])) _
    refine XS.aload X32.here hx rfl (hb hby at_75) rfl rfl ?_
    show Steps p.tables e below (T32.setTop (mkF m 77 #[.val (.long q1), .second, .val (.long q2), .second, .val (.long q3), .second, .val (.long q4), .second, .val (.int p5), .val (.int p6), .val (.long ((p5 &&& (8191 : Int32)).toInt64)), .second, .val (.long ((p6 &&& (8191 : Int32)).toInt64)), .second, .val (.ref b1), .val (.int (1 : Int32)), .unset, .unset] [(.ref b1)])) _
    refine XS.lload X32.here hx rfl (hb hby at_77) rfl ?_
    show Steps p.tables e below (T32.setTop (mkF m 79 #[.val (.long q1), .second, .val (.long q2), .second, .val (.long q3), .second, .val (.long q4), .second, .val (.int p5), .val (.int p6), .val (.long ((p5 &&& (8191 : Int32)).toInt64)), .second, .val (.long ((p6 &&& (8191 : Int32)).toInt64)), .second, .val (.ref b1), .val (.int (1 : Int32)), .unset, .unset] [(.long ((p6 &&& (8191 : Int32)).toInt64)), (.ref b1)])) _
    refine XS.lload X32.here hx rfl (hb hby at_79) rfl ?_
    show Steps p.tables e below (T32.setTop (mkF m 81 #[.val (.long q1), .second, .val (.long q2), .second, .val (.long q3), .second, .val (.long q4), .second, .val (.int p5), .val (.int p6), .val (.long ((p5 &&& (8191 : Int32)).toInt64)), .second, .val (.long ((p6 &&& (8191 : Int32)).toInt64)), .second, .val (.ref b1), .val (.int (1 : Int32)), .unset, .unset] [(.long q4), (.long ((p6 &&& (8191 : Int32)).toInt64)), (.ref b1)])) _
    refine st33.trans ?_
    show Steps p.tables e below (T33.setTop (mkF m 84 #[.val (.long q1), .second, .val (.long q2), .second, .val (.long q3), .second, .val (.long q4), .second, .val (.int p5), .val (.int p6), .val (.long ((p5 &&& (8191 : Int32)).toInt64)), .second, .val (.long ((p6 &&& (8191 : Int32)).toInt64)), .second, .val (.ref b1), .val (.int (1 : Int32)), .unset, .unset] [])) _
    refine XS.aload X33.here hx rfl (hb hby at_84) rfl rfl ?_
    show Steps p.tables e below (T33.setTop (mkF m 86 #[.val (.long q1), .second, .val (.long q2), .second, .val (.long q3), .second, .val (.long q4), .second, .val (.int p5), .val (.int p6), .val (.long ((p5 &&& (8191 : Int32)).toInt64)), .second, .val (.long ((p6 &&& (8191 : Int32)).toInt64)), .second, .val (.ref b1), .val (.int (1 : Int32)), .unset, .unset] [(.ref b1)])) _
    refine st39.trans ?_
    show Steps p.tables e below (T39.setTop (mkF m 89 #[.val (.long q1), .second, .val (.long q2), .second, .val (.long q3), .second, .val (.long q4), .second, .val (.int p5), .val (.int p6), .val (.long ((p5 &&& (8191 : Int32)).toInt64)), .second, .val (.long ((p6 &&& (8191 : Int32)).toInt64)), .second, .val (.ref b1), .val (.int (1 : Int32)), .unset, .unset] [(.long ((if ((0 : Int64) + ((p6 &&& (8191 : Int32)).toInt64)) < (8192 : Int64) then q3 else q4) + (if ((0 : Int64) + ((p6 &&& (8191 : Int32)).toInt64)) < (8192 : Int64) then q1 else q1)))])) _
    refine XS.lload X39.here hx rfl (hb hby at_89) rfl ?_
    show Steps p.tables e below (T39.setTop (mkF m 91 #[.val (.long q1), .second, .val (.long q2), .second, .val (.long q3), .second, .val (.long q4), .second, .val (.int p5), .val (.int p6), .val (.long ((p5 &&& (8191 : Int32)).toInt64)), .second, .val (.long ((p6 &&& (8191 : Int32)).toInt64)), .second, .val (.ref b1), .val (.int (1 : Int32)), .unset, .unset] [(.long q3), (.long ((if ((0 : Int64) + ((p6 &&& (8191 : Int32)).toInt64)) < (8192 : Int64) then q3 else q4) + (if ((0 : Int64) + ((p6 &&& (8191 : Int32)).toInt64)) < (8192 : Int64) then q1 else q1)))])) _
    refine XS.lloadN X39.here hx rfl (hb hby at_91) rfl ?_
    show Steps p.tables e below (T39.setTop (mkF m 92 #[.val (.long q1), .second, .val (.long q2), .second, .val (.long q3), .second, .val (.long q4), .second, .val (.int p5), .val (.int p6), .val (.long ((p5 &&& (8191 : Int32)).toInt64)), .second, .val (.long ((p6 &&& (8191 : Int32)).toInt64)), .second, .val (.ref b1), .val (.int (1 : Int32)), .unset, .unset] [(.long q1), (.long q3), (.long ((if ((0 : Int64) + ((p6 &&& (8191 : Int32)).toInt64)) < (8192 : Int64) then q3 else q4) + (if ((0 : Int64) + ((p6 &&& (8191 : Int32)).toInt64)) < (8192 : Int64) then q1 else q1)))])) _
    refine XS.ladd X39.here hx rfl (hb hby at_92) rfl ?_
    show Steps p.tables e below (T39.setTop (mkF m 93 #[.val (.long q1), .second, .val (.long q2), .second, .val (.long q3), .second, .val (.long q4), .second, .val (.int p5), .val (.int p6), .val (.long ((p5 &&& (8191 : Int32)).toInt64)), .second, .val (.long ((p6 &&& (8191 : Int32)).toInt64)), .second, .val (.ref b1), .val (.int (1 : Int32)), .unset, .unset] [(.long (q3 + q1)), (.long ((if ((0 : Int64) + ((p6 &&& (8191 : Int32)).toInt64)) < (8192 : Int64) then q3 else q4) + (if ((0 : Int64) + ((p6 &&& (8191 : Int32)).toInt64)) < (8192 : Int64) then q1 else q1)))])) _
    refine XS.lcmp X39.here hx rfl (hb hby at_93) rfl ?_
    exact kt
  show own_End p e below s (T39.setTop (mkF m 94 #[.val (.long q1), .second, .val (.long q2), .second, .val (.long q3), .second, .val (.long q4), .second, .val (.int p5), .val (.int p6), .val (.long ((p5 &&& (8191 : Int32)).toInt64)), .second, .val (.long ((p6 &&& (8191 : Int32)).toInt64)), .second, .val (.ref b1), .val (.int (1 : Int32)), .unset, .unset] [(.int (lcmpW ((if ((0 : Int64) + ((p6 &&& (8191 : Int32)).toInt64)) < (8192 : Int64) then q3 else q4) + (if ((0 : Int64) + ((p6 &&& (8191 : Int32)).toInt64)) < (8192 : Int64) then q1 else q1)) (q3 + q1)))])) (Q0 Z q1 q2 q3 q4 p5 p6 h0 n0) room_1.cells room_1.slots
  by_cases hc94_40 : ((if ((0 : Int64) + ((p6 &&& (8191 : Int32)).toInt64)) < (8192 : Int64) then q3 else q4) + (if ((0 : Int64) + ((p6 &&& (8191 : Int32)).toInt64)) < (8192 : Int64) then q1 else q1)) = (q3 + q1)
  · obtain ⟨cq41, kq41, q41a, q41b, q41c⟩ := isOf hZ e39 E_b1_34
    obtain ⟨_, _, ⟨T41, L41, k41, n41⟩, -, X41, ⟨Lc41, hQ41, l41, y41, z41⟩, st41⟩ := X39.virtualBack hx (y := (⟨"com/example/door3/door3/transport/LeastRate", "moved", "(JJ)V"⟩ : MethodName)) (z := (⟨"com/example/door3/door3/transport/LeastRate", "moved", "(JJ)V"⟩ : MethodName)) hown (mvT hZ (hw _ (List.mem_of_getElem? (i := 20) rfl))) (mvT hZ (hw _ (List.mem_of_getElem? (i := 21) rfl))) (notFace_of_selects (args := #[]) (mvT hZ (hw _ (List.mem_of_getElem? (i := 23) rfl)))) (mvT hZ (hw _ (List.mem_of_getElem? (i := 23) rfl))) (mvT hZ (hw _ (List.mem_of_getElem? (i := 22) rfl))) (by decide) (backOf (W := 0) (rm4 l Z a0 hw [] b1 ((8192 : Int64) - ((p6 &&& (8191 : Int32)).toInt64)) q4 q1 (if ((0 : Int64) + ((p6 &&& (8191 : Int32)).toInt64)) < (8192 : Int64) then q1 else q1) (if ((0 : Int64) + ((p6 &&& (8191 : Int32)).toInt64)) < (8192 : Int64) then q3 else q4) (if ((0 : Int64) + ((p6 &&& (8191 : Int32)).toInt64)) < (8192 : Int64) then ((0 : Int64) + ((p6 &&& (8191 : Int32)).toInt64)) else (0 : Int64)) T33.heap n0 Z33 ⟨E_b1_34, F_idleNanos_b1_35, F_left_b1_36, F_since_b1_37, F_moved_b1_38⟩ g_b1) hZ (hw _ (List.mem_of_getElem? (i := 24) rfl)) (hw _ (List.mem_of_getElem? (i := 2) rfl)) (by decide) (by decide)) q41a q41c (g := (mkF m 114 #[.val (.long q1), .second, .val (.long q2), .second, .val (.long q3), .second, .val (.long q4), .second, .val (.int p5), .val (.int p6), .val (.long ((p5 &&& (8191 : Int32)).toInt64)), .second, .val (.long ((p6 &&& (8191 : Int32)).toInt64)), .second, .val (.ref b1), .val (.int (1 : Int32)), .val (.int (1 : Int32)), .unset] [(.long q4), (.long ((8192 : Int64) - ((p6 &&& (8191 : Int32)).toInt64))), (.ref b1)])) rfl (by rw [hml]; rfl) (Steps.refl _) (argsL := [(.long ((8192 : Int64) - ((p6 &&& (8191 : Int32)).toInt64))), (.long q4)]) (rest := []) (lenOf pd_0_1 rfl) rfl (by show 2 * 0 + _ ≤ _; exact Nat.le_of_eq rfl) (hb hby at_114) (fun _ _ => ⟨rfl, e39, (by decide : 1 + 0 ≤ _), (by decide : 4 + 0 ≤ _)⟩)
    dsimp only [Pt.U, Pt.locs, Pt.cells, Pt.slots] at X41 l41 y41 z41 st41 hQ41
    subst l41 y41 z41
    obtain ⟨rfl, N41q, Kq41, O41_0⟩ := hQ41
    have N41 := Fr.app N39 N41q
    have fE_b1_x41 := (E_b1_34.keep Kq41)
    have K41 : Keep h0 T41.heap [] := Keep.trans K33 Kq41 (allS (Or.inr sz_b1) all0)
    have Z41 : n0 ≤ T41.heap.size := Nat.le_trans Z33 Kq41.1
    obtain ⟨E_b1_42, F_idleNanos_b1_43, F_left_b1_44, F_since_b1_45, F_moved_b1_46⟩ := O41_0
    obtain ⟨cq47, kq47, q47a, q47b, q47c⟩ := isOf hZ rfl E_b1_42
    obtain ⟨_, _, ⟨T47, L47, k47, n47⟩, -, X47, ⟨Lc47, hQ47, l47, y47, z47⟩, st47⟩ := X41.virtualBack hx (y := (⟨"com/example/door3/door3/transport/LeastRate", "deadline", "()J"⟩ : MethodName)) (z := (⟨"com/example/door3/door3/transport/LeastRate", "deadline", "()J"⟩ : MethodName)) hown (mvT hZ (hw _ (List.mem_of_getElem? (i := 38) rfl))) (mvT hZ (hw _ (List.mem_of_getElem? (i := 39) rfl))) (notFace_of_selects (args := #[]) (mvT hZ (hw _ (List.mem_of_getElem? (i := 41) rfl)))) (mvT hZ (hw _ (List.mem_of_getElem? (i := 41) rfl))) (mvT hZ (hw _ (List.mem_of_getElem? (i := 40) rfl))) (by decide) (backOf (W := 0) (rm7 l Z a0 hw [] b1 q1 (if ((if ((0 : Int64) + ((p6 &&& (8191 : Int32)).toInt64)) < (8192 : Int64) then ((0 : Int64) + ((p6 &&& (8191 : Int32)).toInt64)) else (0 : Int64)) + ((8192 : Int64) - ((p6 &&& (8191 : Int32)).toInt64))) < (8192 : Int64) then (if ((0 : Int64) + ((p6 &&& (8191 : Int32)).toInt64)) < (8192 : Int64) then q1 else q1) else q1) (if ((if ((0 : Int64) + ((p6 &&& (8191 : Int32)).toInt64)) < (8192 : Int64) then ((0 : Int64) + ((p6 &&& (8191 : Int32)).toInt64)) else (0 : Int64)) + ((8192 : Int64) - ((p6 &&& (8191 : Int32)).toInt64))) < (8192 : Int64) then (if ((0 : Int64) + ((p6 &&& (8191 : Int32)).toInt64)) < (8192 : Int64) then q3 else q4) else q4) (if ((if ((0 : Int64) + ((p6 &&& (8191 : Int32)).toInt64)) < (8192 : Int64) then ((0 : Int64) + ((p6 &&& (8191 : Int32)).toInt64)) else (0 : Int64)) + ((8192 : Int64) - ((p6 &&& (8191 : Int32)).toInt64))) < (8192 : Int64) then ((if ((0 : Int64) + ((p6 &&& (8191 : Int32)).toInt64)) < (8192 : Int64) then ((0 : Int64) + ((p6 &&& (8191 : Int32)).toInt64)) else (0 : Int64)) + ((8192 : Int64) - ((p6 &&& (8191 : Int32)).toInt64))) else (0 : Int64)) T41.heap n0 Z41 ⟨E_b1_42, F_idleNanos_b1_43, F_left_b1_44, F_since_b1_45, F_moved_b1_46⟩) hZ (hw _ (List.mem_of_getElem? (i := 42) rfl)) (hw _ (List.mem_of_getElem? (i := 2) rfl)) (by decide) (by decide)) q47a q47c (g := (mkF m 119 #[.val (.long q1), .second, .val (.long q2), .second, .val (.long q3), .second, .val (.long q4), .second, .val (.int p5), .val (.int p6), .val (.long ((p5 &&& (8191 : Int32)).toInt64)), .second, .val (.long ((p6 &&& (8191 : Int32)).toInt64)), .second, .val (.ref b1), .val (.int (1 : Int32)), .val (.int (1 : Int32)), .unset] [(.ref b1)])) rfl (by rw [hml]; rfl) (Steps.refl _) (argsL := []) (rest := []) (lenOf pd_0_3 rfl) rfl (by show 2 * 0 + _ ≤ _; exact Nat.le_of_eq rfl) (hb hby at_119) (fun _ _ => ⟨rfl, rfl, (by decide : 1 + 0 ≤ _), (by decide : 4 + 0 ≤ _)⟩)
    dsimp only [Pt.U, Pt.locs, Pt.cells, Pt.slots] at X47 l47 y47 z47 st47 hQ47
    subst l47 y47 z47
    obtain ⟨rfl, N47q, e47⟩ := hQ47
    have N47 := Fr.app N41 N47q
    refine own_pre (A := T47.setTop (mkF m 127 #[.val (.long q1), .second, .val (.long q2), .second, .val (.long q3), .second, .val (.long q4), .second, .val (.int p5), .val (.int p6), .val (.long ((p5 &&& (8191 : Int32)).toInt64)), .second, .val (.long ((p6 &&& (8191 : Int32)).toInt64)), .second, .val (.ref b1), .val (.int (1 : Int32)), .val (.int (1 : Int32)), .unset] [(.int (lcmpW ((if ((if ((0 : Int64) + ((p6 &&& (8191 : Int32)).toInt64)) < (8192 : Int64) then ((0 : Int64) + ((p6 &&& (8191 : Int32)).toInt64)) else (0 : Int64)) + ((8192 : Int64) - ((p6 &&& (8191 : Int32)).toInt64))) < (8192 : Int64) then (if ((0 : Int64) + ((p6 &&& (8191 : Int32)).toInt64)) < (8192 : Int64) then q3 else q4) else q4) + (if ((if ((0 : Int64) + ((p6 &&& (8191 : Int32)).toInt64)) < (8192 : Int64) then ((0 : Int64) + ((p6 &&& (8191 : Int32)).toInt64)) else (0 : Int64)) + ((8192 : Int64) - ((p6 &&& (8191 : Int32)).toInt64))) < (8192 : Int64) then (if ((0 : Int64) + ((p6 &&& (8191 : Int32)).toInt64)) < (8192 : Int64) then q1 else q1) else q1)) (q4 + q1)))])) (fun tt kt => ?_) ?_
    · show Steps p.tables e below (T39.setTop (mkF m 94 #[.val (.long q1), .second, .val (.long q2), .second, .val (.long q3), .second, .val (.long q4), .second, .val (.int p5), .val (.int p6), .val (.long ((p5 &&& (8191 : Int32)).toInt64)), .second, .val (.long ((p6 &&& (8191 : Int32)).toInt64)), .second, .val (.ref b1), .val (.int (1 : Int32)), .unset, .unset] [(.int (lcmpW ((if ((0 : Int64) + ((p6 &&& (8191 : Int32)).toInt64)) < (8192 : Int64) then q3 else q4) + (if ((0 : Int64) + ((p6 &&& (8191 : Int32)).toInt64)) < (8192 : Int64) then q1 else q1)) (q3 + q1)))])) _
      refine XS.ifNo X39.here hx rfl (hb hby at_94) rfl ((if0 _ _).trans (teq ((lw_eq ((if ((0 : Int64) + ((p6 &&& (8191 : Int32)).toInt64)) < (8192 : Int64) then q3 else q4) + (if ((0 : Int64) + ((p6 &&& (8191 : Int32)).toInt64)) < (8192 : Int64) then q1 else q1)) (q3 + q1)).mpr hc94_40)).2) ?_
      show Steps p.tables e below (T39.setTop (mkF m 97 #[.val (.long q1), .second, .val (.long q2), .second, .val (.long q3), .second, .val (.long q4), .second, .val (.int p5), .val (.int p6), .val (.long ((p5 &&& (8191 : Int32)).toInt64)), .second, .val (.long ((p6 &&& (8191 : Int32)).toInt64)), .second, .val (.ref b1), .val (.int (1 : Int32)), .unset, .unset] [])) _
      refine XS.iconst X39.here hx rfl (hb hby at_97) ?_
      show Steps p.tables e below (T39.setTop (mkF m 98 #[.val (.long q1), .second, .val (.long q2), .second, .val (.long q3), .second, .val (.long q4), .second, .val (.int p5), .val (.int p6), .val (.long ((p5 &&& (8191 : Int32)).toInt64)), .second, .val (.long ((p6 &&& (8191 : Int32)).toInt64)), .second, .val (.ref b1), .val (.int (1 : Int32)), .unset, .unset] [(.int (1 : Int32))])) _
      refine XS.goto X39.here hx rfl (pc0 := 98) (pc' := 102) rfl (hb hby at_98) (by decide) (by decide) ?_
      show Steps p.tables e below (T39.setTop (mkF m 102 #[.val (.long q1), .second, .val (.long q2), .second, .val (.long q3), .second, .val (.long q4), .second, .val (.int p5), .val (.int p6), .val (.long ((p5 &&& (8191 : Int32)).toInt64)), .second, .val (.long ((p6 &&& (8191 : Int32)).toInt64)), .second, .val (.ref b1), .val (.int (1 : Int32)), .unset, .unset] [(.int (1 : Int32))])) _
      refine XS.istore X39.here hx rfl (hb hby at_102) rfl (l' := #[.val (.long q1), .second, .val (.long q2), .second, .val (.long q3), .second, .val (.long q4), .second, .val (.int p5), .val (.int p6), .val (.long ((p5 &&& (8191 : Int32)).toInt64)), .second, .val (.long ((p6 &&& (8191 : Int32)).toInt64)), .second, .val (.ref b1), .val (.int (1 : Int32)), .val (.int (1 : Int32)), .unset]) rfl ?_
      show Steps p.tables e below (T39.setTop (mkF m 104 #[.val (.long q1), .second, .val (.long q2), .second, .val (.long q3), .second, .val (.long q4), .second, .val (.int p5), .val (.int p6), .val (.long ((p5 &&& (8191 : Int32)).toInt64)), .second, .val (.long ((p6 &&& (8191 : Int32)).toInt64)), .second, .val (.ref b1), .val (.int (1 : Int32)), .val (.int (1 : Int32)), .unset] [])) _
      refine XS.aload X39.here hx rfl (hb hby at_104) rfl rfl ?_
      show Steps p.tables e below (T39.setTop (mkF m 106 #[.val (.long q1), .second, .val (.long q2), .second, .val (.long q3), .second, .val (.long q4), .second, .val (.int p5), .val (.int p6), .val (.long ((p5 &&& (8191 : Int32)).toInt64)), .second, .val (.long ((p6 &&& (8191 : Int32)).toInt64)), .second, .val (.ref b1), .val (.int (1 : Int32)), .val (.int (1 : Int32)), .unset] [(.ref b1)])) _
      refine X39.ldc2Long hx hown (mvT hZ (hw _ (List.mem_of_getElem? (i := 43) rfl))) (g := (mkF m 106 #[.val (.long q1), .second, .val (.long q2), .second, .val (.long q3), .second, .val (.long q4), .second, .val (.int p5), .val (.int p6), .val (.long ((p5 &&& (8191 : Int32)).toInt64)), .second, .val (.long ((p6 &&& (8191 : Int32)).toInt64)), .second, .val (.ref b1), .val (.int (1 : Int32)), .val (.int (1 : Int32)), .unset] [(.ref b1)])) rfl (hb hby at_106) _ ?_
      show Steps p.tables e below (T39.setTop (mkF m 109 #[.val (.long q1), .second, .val (.long q2), .second, .val (.long q3), .second, .val (.long q4), .second, .val (.int p5), .val (.int p6), .val (.long ((p5 &&& (8191 : Int32)).toInt64)), .second, .val (.long ((p6 &&& (8191 : Int32)).toInt64)), .second, .val (.ref b1), .val (.int (1 : Int32)), .val (.int (1 : Int32)), .unset] [(.long (8192 : Int64)), (.ref b1)])) _
      refine XS.lload X39.here hx rfl (hb hby at_109) rfl ?_
      show Steps p.tables e below (T39.setTop (mkF m 111 #[.val (.long q1), .second, .val (.long q2), .second, .val (.long q3), .second, .val (.long q4), .second, .val (.int p5), .val (.int p6), .val (.long ((p5 &&& (8191 : Int32)).toInt64)), .second, .val (.long ((p6 &&& (8191 : Int32)).toInt64)), .second, .val (.ref b1), .val (.int (1 : Int32)), .val (.int (1 : Int32)), .unset] [(.long ((p6 &&& (8191 : Int32)).toInt64)), (.long (8192 : Int64)), (.ref b1)])) _
      refine XS.lsub X39.here hx rfl (hb hby at_111) rfl ?_
      show Steps p.tables e below (T39.setTop (mkF m 112 #[.val (.long q1), .second, .val (.long q2), .second, .val (.long q3), .second, .val (.long q4), .second, .val (.int p5), .val (.int p6), .val (.long ((p5 &&& (8191 : Int32)).toInt64)), .second, .val (.long ((p6 &&& (8191 : Int32)).toInt64)), .second, .val (.ref b1), .val (.int (1 : Int32)), .val (.int (1 : Int32)), .unset] [(.long ((8192 : Int64) - ((p6 &&& (8191 : Int32)).toInt64))), (.ref b1)])) _
      refine XS.lload X39.here hx rfl (hb hby at_112) rfl ?_
      show Steps p.tables e below (T39.setTop (mkF m 114 #[.val (.long q1), .second, .val (.long q2), .second, .val (.long q3), .second, .val (.long q4), .second, .val (.int p5), .val (.int p6), .val (.long ((p5 &&& (8191 : Int32)).toInt64)), .second, .val (.long ((p6 &&& (8191 : Int32)).toInt64)), .second, .val (.ref b1), .val (.int (1 : Int32)), .val (.int (1 : Int32)), .unset] [(.long q4), (.long ((8192 : Int64) - ((p6 &&& (8191 : Int32)).toInt64))), (.ref b1)])) _
      refine st41.trans ?_
      show Steps p.tables e below (T41.setTop (mkF m 117 #[.val (.long q1), .second, .val (.long q2), .second, .val (.long q3), .second, .val (.long q4), .second, .val (.int p5), .val (.int p6), .val (.long ((p5 &&& (8191 : Int32)).toInt64)), .second, .val (.long ((p6 &&& (8191 : Int32)).toInt64)), .second, .val (.ref b1), .val (.int (1 : Int32)), .val (.int (1 : Int32)), .unset] [])) _
      refine XS.aload X41.here hx rfl (hb hby at_117) rfl rfl ?_
      show Steps p.tables e below (T41.setTop (mkF m 119 #[.val (.long q1), .second, .val (.long q2), .second, .val (.long q3), .second, .val (.long q4), .second, .val (.int p5), .val (.int p6), .val (.long ((p5 &&& (8191 : Int32)).toInt64)), .second, .val (.long ((p6 &&& (8191 : Int32)).toInt64)), .second, .val (.ref b1), .val (.int (1 : Int32)), .val (.int (1 : Int32)), .unset] [(.ref b1)])) _
      refine st47.trans ?_
      show Steps p.tables e below (T47.setTop (mkF m 122 #[.val (.long q1), .second, .val (.long q2), .second, .val (.long q3), .second, .val (.long q4), .second, .val (.int p5), .val (.int p6), .val (.long ((p5 &&& (8191 : Int32)).toInt64)), .second, .val (.long ((p6 &&& (8191 : Int32)).toInt64)), .second, .val (.ref b1), .val (.int (1 : Int32)), .val (.int (1 : Int32)), .unset] [(.long ((if ((if ((0 : Int64) + ((p6 &&& (8191 : Int32)).toInt64)) < (8192 : Int64) then ((0 : Int64) + ((p6 &&& (8191 : Int32)).toInt64)) else (0 : Int64)) + ((8192 : Int64) - ((p6 &&& (8191 : Int32)).toInt64))) < (8192 : Int64) then (if ((0 : Int64) + ((p6 &&& (8191 : Int32)).toInt64)) < (8192 : Int64) then q3 else q4) else q4) + (if ((if ((0 : Int64) + ((p6 &&& (8191 : Int32)).toInt64)) < (8192 : Int64) then ((0 : Int64) + ((p6 &&& (8191 : Int32)).toInt64)) else (0 : Int64)) + ((8192 : Int64) - ((p6 &&& (8191 : Int32)).toInt64))) < (8192 : Int64) then (if ((0 : Int64) + ((p6 &&& (8191 : Int32)).toInt64)) < (8192 : Int64) then q1 else q1) else q1)))])) _
      refine XS.lload X47.here hx rfl (hb hby at_122) rfl ?_
      show Steps p.tables e below (T47.setTop (mkF m 124 #[.val (.long q1), .second, .val (.long q2), .second, .val (.long q3), .second, .val (.long q4), .second, .val (.int p5), .val (.int p6), .val (.long ((p5 &&& (8191 : Int32)).toInt64)), .second, .val (.long ((p6 &&& (8191 : Int32)).toInt64)), .second, .val (.ref b1), .val (.int (1 : Int32)), .val (.int (1 : Int32)), .unset] [(.long q4), (.long ((if ((if ((0 : Int64) + ((p6 &&& (8191 : Int32)).toInt64)) < (8192 : Int64) then ((0 : Int64) + ((p6 &&& (8191 : Int32)).toInt64)) else (0 : Int64)) + ((8192 : Int64) - ((p6 &&& (8191 : Int32)).toInt64))) < (8192 : Int64) then (if ((0 : Int64) + ((p6 &&& (8191 : Int32)).toInt64)) < (8192 : Int64) then q3 else q4) else q4) + (if ((if ((0 : Int64) + ((p6 &&& (8191 : Int32)).toInt64)) < (8192 : Int64) then ((0 : Int64) + ((p6 &&& (8191 : Int32)).toInt64)) else (0 : Int64)) + ((8192 : Int64) - ((p6 &&& (8191 : Int32)).toInt64))) < (8192 : Int64) then (if ((0 : Int64) + ((p6 &&& (8191 : Int32)).toInt64)) < (8192 : Int64) then q1 else q1) else q1)))])) _
      refine XS.lloadN X47.here hx rfl (hb hby at_124) rfl ?_
      show Steps p.tables e below (T47.setTop (mkF m 125 #[.val (.long q1), .second, .val (.long q2), .second, .val (.long q3), .second, .val (.long q4), .second, .val (.int p5), .val (.int p6), .val (.long ((p5 &&& (8191 : Int32)).toInt64)), .second, .val (.long ((p6 &&& (8191 : Int32)).toInt64)), .second, .val (.ref b1), .val (.int (1 : Int32)), .val (.int (1 : Int32)), .unset] [(.long q1), (.long q4), (.long ((if ((if ((0 : Int64) + ((p6 &&& (8191 : Int32)).toInt64)) < (8192 : Int64) then ((0 : Int64) + ((p6 &&& (8191 : Int32)).toInt64)) else (0 : Int64)) + ((8192 : Int64) - ((p6 &&& (8191 : Int32)).toInt64))) < (8192 : Int64) then (if ((0 : Int64) + ((p6 &&& (8191 : Int32)).toInt64)) < (8192 : Int64) then q3 else q4) else q4) + (if ((if ((0 : Int64) + ((p6 &&& (8191 : Int32)).toInt64)) < (8192 : Int64) then ((0 : Int64) + ((p6 &&& (8191 : Int32)).toInt64)) else (0 : Int64)) + ((8192 : Int64) - ((p6 &&& (8191 : Int32)).toInt64))) < (8192 : Int64) then (if ((0 : Int64) + ((p6 &&& (8191 : Int32)).toInt64)) < (8192 : Int64) then q1 else q1) else q1)))])) _
      refine XS.ladd X47.here hx rfl (hb hby at_125) rfl ?_
      show Steps p.tables e below (T47.setTop (mkF m 126 #[.val (.long q1), .second, .val (.long q2), .second, .val (.long q3), .second, .val (.long q4), .second, .val (.int p5), .val (.int p6), .val (.long ((p5 &&& (8191 : Int32)).toInt64)), .second, .val (.long ((p6 &&& (8191 : Int32)).toInt64)), .second, .val (.ref b1), .val (.int (1 : Int32)), .val (.int (1 : Int32)), .unset] [(.long (q4 + q1)), (.long ((if ((if ((0 : Int64) + ((p6 &&& (8191 : Int32)).toInt64)) < (8192 : Int64) then ((0 : Int64) + ((p6 &&& (8191 : Int32)).toInt64)) else (0 : Int64)) + ((8192 : Int64) - ((p6 &&& (8191 : Int32)).toInt64))) < (8192 : Int64) then (if ((0 : Int64) + ((p6 &&& (8191 : Int32)).toInt64)) < (8192 : Int64) then q3 else q4) else q4) + (if ((if ((0 : Int64) + ((p6 &&& (8191 : Int32)).toInt64)) < (8192 : Int64) then ((0 : Int64) + ((p6 &&& (8191 : Int32)).toInt64)) else (0 : Int64)) + ((8192 : Int64) - ((p6 &&& (8191 : Int32)).toInt64))) < (8192 : Int64) then (if ((0 : Int64) + ((p6 &&& (8191 : Int32)).toInt64)) < (8192 : Int64) then q1 else q1) else q1)))])) _
      refine XS.lcmp X47.here hx rfl (hb hby at_126) rfl ?_
      exact kt
    show own_End p e below s (T47.setTop (mkF m 127 #[.val (.long q1), .second, .val (.long q2), .second, .val (.long q3), .second, .val (.long q4), .second, .val (.int p5), .val (.int p6), .val (.long ((p5 &&& (8191 : Int32)).toInt64)), .second, .val (.long ((p6 &&& (8191 : Int32)).toInt64)), .second, .val (.ref b1), .val (.int (1 : Int32)), .val (.int (1 : Int32)), .unset] [(.int (lcmpW ((if ((if ((0 : Int64) + ((p6 &&& (8191 : Int32)).toInt64)) < (8192 : Int64) then ((0 : Int64) + ((p6 &&& (8191 : Int32)).toInt64)) else (0 : Int64)) + ((8192 : Int64) - ((p6 &&& (8191 : Int32)).toInt64))) < (8192 : Int64) then (if ((0 : Int64) + ((p6 &&& (8191 : Int32)).toInt64)) < (8192 : Int64) then q3 else q4) else q4) + (if ((if ((0 : Int64) + ((p6 &&& (8191 : Int32)).toInt64)) < (8192 : Int64) then ((0 : Int64) + ((p6 &&& (8191 : Int32)).toInt64)) else (0 : Int64)) + ((8192 : Int64) - ((p6 &&& (8191 : Int32)).toInt64))) < (8192 : Int64) then (if ((0 : Int64) + ((p6 &&& (8191 : Int32)).toInt64)) < (8192 : Int64) then q1 else q1) else q1)) (q4 + q1)))])) (Q0 Z q1 q2 q3 q4 p5 p6 h0 n0) room_1.cells room_1.slots
    by_cases hc127_48 : ((if ((if ((0 : Int64) + ((p6 &&& (8191 : Int32)).toInt64)) < (8192 : Int64) then ((0 : Int64) + ((p6 &&& (8191 : Int32)).toInt64)) else (0 : Int64)) + ((8192 : Int64) - ((p6 &&& (8191 : Int32)).toInt64))) < (8192 : Int64) then (if ((0 : Int64) + ((p6 &&& (8191 : Int32)).toInt64)) < (8192 : Int64) then q3 else q4) else q4) + (if ((if ((0 : Int64) + ((p6 &&& (8191 : Int32)).toInt64)) < (8192 : Int64) then ((0 : Int64) + ((p6 &&& (8191 : Int32)).toInt64)) else (0 : Int64)) + ((8192 : Int64) - ((p6 &&& (8191 : Int32)).toInt64))) < (8192 : Int64) then (if ((0 : Int64) + ((p6 &&& (8191 : Int32)).toInt64)) < (8192 : Int64) then q1 else q1) else q1)) = (q4 + q1)
    · refine own_pre (A := T47.setTop (mkF m 157 #[.val (.long q1), .second, .val (.long q2), .second, .val (.long q3), .second, .val (.long q4), .second, .val (.int p5), .val (.int p6), .val (.long ((p5 &&& (8191 : Int32)).toInt64)), .second, .val (.long ((p6 &&& (8191 : Int32)).toInt64)), .second, .val (.ref b1), .val (.int (1 : Int32)), .val (.int (1 : Int32)), .val (.int (1 : Int32))] [(.int (1 : Int32))])) (fun tt kt => ?_) ?_
      · show Steps p.tables e below (T47.setTop (mkF m 127 #[.val (.long q1), .second, .val (.long q2), .second, .val (.long q3), .second, .val (.long q4), .second, .val (.int p5), .val (.int p6), .val (.long ((p5 &&& (8191 : Int32)).toInt64)), .second, .val (.long ((p6 &&& (8191 : Int32)).toInt64)), .second, .val (.ref b1), .val (.int (1 : Int32)), .val (.int (1 : Int32)), .unset] [(.int (lcmpW ((if ((if ((0 : Int64) + ((p6 &&& (8191 : Int32)).toInt64)) < (8192 : Int64) then ((0 : Int64) + ((p6 &&& (8191 : Int32)).toInt64)) else (0 : Int64)) + ((8192 : Int64) - ((p6 &&& (8191 : Int32)).toInt64))) < (8192 : Int64) then (if ((0 : Int64) + ((p6 &&& (8191 : Int32)).toInt64)) < (8192 : Int64) then q3 else q4) else q4) + (if ((if ((0 : Int64) + ((p6 &&& (8191 : Int32)).toInt64)) < (8192 : Int64) then ((0 : Int64) + ((p6 &&& (8191 : Int32)).toInt64)) else (0 : Int64)) + ((8192 : Int64) - ((p6 &&& (8191 : Int32)).toInt64))) < (8192 : Int64) then (if ((0 : Int64) + ((p6 &&& (8191 : Int32)).toInt64)) < (8192 : Int64) then q1 else q1) else q1)) (q4 + q1)))])) _
        refine XS.ifNo X47.here hx rfl (hb hby at_127) rfl ((if0 _ _).trans (teq ((lw_eq ((if ((if ((0 : Int64) + ((p6 &&& (8191 : Int32)).toInt64)) < (8192 : Int64) then ((0 : Int64) + ((p6 &&& (8191 : Int32)).toInt64)) else (0 : Int64)) + ((8192 : Int64) - ((p6 &&& (8191 : Int32)).toInt64))) < (8192 : Int64) then (if ((0 : Int64) + ((p6 &&& (8191 : Int32)).toInt64)) < (8192 : Int64) then q3 else q4) else q4) + (if ((if ((0 : Int64) + ((p6 &&& (8191 : Int32)).toInt64)) < (8192 : Int64) then ((0 : Int64) + ((p6 &&& (8191 : Int32)).toInt64)) else (0 : Int64)) + ((8192 : Int64) - ((p6 &&& (8191 : Int32)).toInt64))) < (8192 : Int64) then (if ((0 : Int64) + ((p6 &&& (8191 : Int32)).toInt64)) < (8192 : Int64) then q1 else q1) else q1)) (q4 + q1)).mpr hc127_48)).2) ?_
        show Steps p.tables e below (T47.setTop (mkF m 130 #[.val (.long q1), .second, .val (.long q2), .second, .val (.long q3), .second, .val (.long q4), .second, .val (.int p5), .val (.int p6), .val (.long ((p5 &&& (8191 : Int32)).toInt64)), .second, .val (.long ((p6 &&& (8191 : Int32)).toInt64)), .second, .val (.ref b1), .val (.int (1 : Int32)), .val (.int (1 : Int32)), .unset] [])) _
        refine XS.iconst X47.here hx rfl (hb hby at_130) ?_
        show Steps p.tables e below (T47.setTop (mkF m 131 #[.val (.long q1), .second, .val (.long q2), .second, .val (.long q3), .second, .val (.long q4), .second, .val (.int p5), .val (.int p6), .val (.long ((p5 &&& (8191 : Int32)).toInt64)), .second, .val (.long ((p6 &&& (8191 : Int32)).toInt64)), .second, .val (.ref b1), .val (.int (1 : Int32)), .val (.int (1 : Int32)), .unset] [(.int (1 : Int32))])) _
        refine XS.goto X47.here hx rfl (pc0 := 131) (pc' := 135) rfl (hb hby at_131) (by decide) (by decide) ?_
        show Steps p.tables e below (T47.setTop (mkF m 135 #[.val (.long q1), .second, .val (.long q2), .second, .val (.long q3), .second, .val (.long q4), .second, .val (.int p5), .val (.int p6), .val (.long ((p5 &&& (8191 : Int32)).toInt64)), .second, .val (.long ((p6 &&& (8191 : Int32)).toInt64)), .second, .val (.ref b1), .val (.int (1 : Int32)), .val (.int (1 : Int32)), .unset] [(.int (1 : Int32))])) _
        refine XS.istore X47.here hx rfl (hb hby at_135) rfl (l' := #[.val (.long q1), .second, .val (.long q2), .second, .val (.long q3), .second, .val (.long q4), .second, .val (.int p5), .val (.int p6), .val (.long ((p5 &&& (8191 : Int32)).toInt64)), .second, .val (.long ((p6 &&& (8191 : Int32)).toInt64)), .second, .val (.ref b1), .val (.int (1 : Int32)), .val (.int (1 : Int32)), .val (.int (1 : Int32))]) rfl ?_
        show Steps p.tables e below (T47.setTop (mkF m 137 #[.val (.long q1), .second, .val (.long q2), .second, .val (.long q3), .second, .val (.long q4), .second, .val (.int p5), .val (.int p6), .val (.long ((p5 &&& (8191 : Int32)).toInt64)), .second, .val (.long ((p6 &&& (8191 : Int32)).toInt64)), .second, .val (.ref b1), .val (.int (1 : Int32)), .val (.int (1 : Int32)), .val (.int (1 : Int32))] [])) _
        refine XS.iload X47.here hx rfl (hb hby at_137) rfl ?_
        show Steps p.tables e below (T47.setTop (mkF m 139 #[.val (.long q1), .second, .val (.long q2), .second, .val (.long q3), .second, .val (.long q4), .second, .val (.int p5), .val (.int p6), .val (.long ((p5 &&& (8191 : Int32)).toInt64)), .second, .val (.long ((p6 &&& (8191 : Int32)).toInt64)), .second, .val (.ref b1), .val (.int (1 : Int32)), .val (.int (1 : Int32)), .val (.int (1 : Int32))] [(.int (1 : Int32))])) _
        refine XS.ifNo X47.here hx rfl (hb hby at_139) rfl ((if0 _ _).trans (feq ((by decide) : ¬ ((1 : Int32) = (0 : Int32)))).1) ?_
        show Steps p.tables e below (T47.setTop (mkF m 142 #[.val (.long q1), .second, .val (.long q2), .second, .val (.long q3), .second, .val (.long q4), .second, .val (.int p5), .val (.int p6), .val (.long ((p5 &&& (8191 : Int32)).toInt64)), .second, .val (.long ((p6 &&& (8191 : Int32)).toInt64)), .second, .val (.ref b1), .val (.int (1 : Int32)), .val (.int (1 : Int32)), .val (.int (1 : Int32))] [])) _
        refine XS.iload X47.here hx rfl (hb hby at_142) rfl ?_
        show Steps p.tables e below (T47.setTop (mkF m 144 #[.val (.long q1), .second, .val (.long q2), .second, .val (.long q3), .second, .val (.long q4), .second, .val (.int p5), .val (.int p6), .val (.long ((p5 &&& (8191 : Int32)).toInt64)), .second, .val (.long ((p6 &&& (8191 : Int32)).toInt64)), .second, .val (.ref b1), .val (.int (1 : Int32)), .val (.int (1 : Int32)), .val (.int (1 : Int32))] [(.int (1 : Int32))])) _
        refine XS.ifNo X47.here hx rfl (hb hby at_144) rfl ((if0 _ _).trans (feq ((by decide) : ¬ ((1 : Int32) = (0 : Int32)))).1) ?_
        show Steps p.tables e below (T47.setTop (mkF m 147 #[.val (.long q1), .second, .val (.long q2), .second, .val (.long q3), .second, .val (.long q4), .second, .val (.int p5), .val (.int p6), .val (.long ((p5 &&& (8191 : Int32)).toInt64)), .second, .val (.long ((p6 &&& (8191 : Int32)).toInt64)), .second, .val (.ref b1), .val (.int (1 : Int32)), .val (.int (1 : Int32)), .val (.int (1 : Int32))] [])) _
        refine XS.iload X47.here hx rfl (hb hby at_147) rfl ?_
        show Steps p.tables e below (T47.setTop (mkF m 149 #[.val (.long q1), .second, .val (.long q2), .second, .val (.long q3), .second, .val (.long q4), .second, .val (.int p5), .val (.int p6), .val (.long ((p5 &&& (8191 : Int32)).toInt64)), .second, .val (.long ((p6 &&& (8191 : Int32)).toInt64)), .second, .val (.ref b1), .val (.int (1 : Int32)), .val (.int (1 : Int32)), .val (.int (1 : Int32))] [(.int (1 : Int32))])) _
        refine XS.ifNo X47.here hx rfl (hb hby at_149) rfl ((if0 _ _).trans (feq ((by decide) : ¬ ((1 : Int32) = (0 : Int32)))).1) ?_
        show Steps p.tables e below (T47.setTop (mkF m 152 #[.val (.long q1), .second, .val (.long q2), .second, .val (.long q3), .second, .val (.long q4), .second, .val (.int p5), .val (.int p6), .val (.long ((p5 &&& (8191 : Int32)).toInt64)), .second, .val (.long ((p6 &&& (8191 : Int32)).toInt64)), .second, .val (.ref b1), .val (.int (1 : Int32)), .val (.int (1 : Int32)), .val (.int (1 : Int32))] [])) _
        refine XS.iconst X47.here hx rfl (hb hby at_152) ?_
        show Steps p.tables e below (T47.setTop (mkF m 153 #[.val (.long q1), .second, .val (.long q2), .second, .val (.long q3), .second, .val (.long q4), .second, .val (.int p5), .val (.int p6), .val (.long ((p5 &&& (8191 : Int32)).toInt64)), .second, .val (.long ((p6 &&& (8191 : Int32)).toInt64)), .second, .val (.ref b1), .val (.int (1 : Int32)), .val (.int (1 : Int32)), .val (.int (1 : Int32))] [(.int (1 : Int32))])) _
        refine XS.goto X47.here hx rfl (pc0 := 153) (pc' := 157) rfl (hb hby at_153) (by decide) (by decide) ?_
        exact kt
      show own_End p e below s (T47.setTop (mkF m 157 #[.val (.long q1), .second, .val (.long q2), .second, .val (.long q3), .second, .val (.long q4), .second, .val (.int p5), .val (.int p6), .val (.long ((p5 &&& (8191 : Int32)).toInt64)), .second, .val (.long ((p6 &&& (8191 : Int32)).toInt64)), .second, .val (.ref b1), .val (.int (1 : Int32)), .val (.int (1 : Int32)), .val (.int (1 : Int32))] [(.int (1 : Int32))])) (Q0 Z q1 q2 q3 q4 p5 p6 h0 n0) room_1.cells room_1.slots
      have hv : (own_law q1 q2 q3 q4 p5 p6) = (1 : Int32) := hj.trans (by simp only [own_law, if_pos hc94_40, if_pos hc127_48])
      obtain ⟨fs, hr, hrun, hended, hW, hsame⟩ := X47.leave (v := some (.int (1 : Int32))) (fun h => by rw [Bd.returns] at h; cases h)
      refine ⟨_, _, ?_, hrun, hended, _, _, rfl, ?_, ⟨_, rfl⟩, hW, hsame.mono (by decide) (by decide)⟩
      · exact retN X47 hx (t := .boolean) Bd.returns (by simp) (hb hby at_157) hr
      · show Q0 Z q1 q2 q3 q4 p5 p6 h0 n0 _ T47.heap _
        rw [e47]
        exact ⟨(congrArg (fun z => some (Value.int z)) hv.symm), N47⟩
    · refine own_pre (A := T47.setTop (mkF m 157 #[.val (.long q1), .second, .val (.long q2), .second, .val (.long q3), .second, .val (.long q4), .second, .val (.int p5), .val (.int p6), .val (.long ((p5 &&& (8191 : Int32)).toInt64)), .second, .val (.long ((p6 &&& (8191 : Int32)).toInt64)), .second, .val (.ref b1), .val (.int (1 : Int32)), .val (.int (1 : Int32)), .val (.int (0 : Int32))] [(.int (0 : Int32))])) (fun tt kt => ?_) ?_
      · show Steps p.tables e below (T47.setTop (mkF m 127 #[.val (.long q1), .second, .val (.long q2), .second, .val (.long q3), .second, .val (.long q4), .second, .val (.int p5), .val (.int p6), .val (.long ((p5 &&& (8191 : Int32)).toInt64)), .second, .val (.long ((p6 &&& (8191 : Int32)).toInt64)), .second, .val (.ref b1), .val (.int (1 : Int32)), .val (.int (1 : Int32)), .unset] [(.int (lcmpW ((if ((if ((0 : Int64) + ((p6 &&& (8191 : Int32)).toInt64)) < (8192 : Int64) then ((0 : Int64) + ((p6 &&& (8191 : Int32)).toInt64)) else (0 : Int64)) + ((8192 : Int64) - ((p6 &&& (8191 : Int32)).toInt64))) < (8192 : Int64) then (if ((0 : Int64) + ((p6 &&& (8191 : Int32)).toInt64)) < (8192 : Int64) then q3 else q4) else q4) + (if ((if ((0 : Int64) + ((p6 &&& (8191 : Int32)).toInt64)) < (8192 : Int64) then ((0 : Int64) + ((p6 &&& (8191 : Int32)).toInt64)) else (0 : Int64)) + ((8192 : Int64) - ((p6 &&& (8191 : Int32)).toInt64))) < (8192 : Int64) then (if ((0 : Int64) + ((p6 &&& (8191 : Int32)).toInt64)) < (8192 : Int64) then q1 else q1) else q1)) (q4 + q1)))])) _
        refine XS.ifYes X47.here hx rfl (pc0 := 127) (pc' := 134) rfl (hb hby at_127) rfl ((if0 _ _).trans (feq (fun q => hc127_48 ((lw_eq ((if ((if ((0 : Int64) + ((p6 &&& (8191 : Int32)).toInt64)) < (8192 : Int64) then ((0 : Int64) + ((p6 &&& (8191 : Int32)).toInt64)) else (0 : Int64)) + ((8192 : Int64) - ((p6 &&& (8191 : Int32)).toInt64))) < (8192 : Int64) then (if ((0 : Int64) + ((p6 &&& (8191 : Int32)).toInt64)) < (8192 : Int64) then q3 else q4) else q4) + (if ((if ((0 : Int64) + ((p6 &&& (8191 : Int32)).toInt64)) < (8192 : Int64) then ((0 : Int64) + ((p6 &&& (8191 : Int32)).toInt64)) else (0 : Int64)) + ((8192 : Int64) - ((p6 &&& (8191 : Int32)).toInt64))) < (8192 : Int64) then (if ((0 : Int64) + ((p6 &&& (8191 : Int32)).toInt64)) < (8192 : Int64) then q1 else q1) else q1)) (q4 + q1)).mp q))).2) (by decide) (by decide) ?_
        show Steps p.tables e below (T47.setTop (mkF m 134 #[.val (.long q1), .second, .val (.long q2), .second, .val (.long q3), .second, .val (.long q4), .second, .val (.int p5), .val (.int p6), .val (.long ((p5 &&& (8191 : Int32)).toInt64)), .second, .val (.long ((p6 &&& (8191 : Int32)).toInt64)), .second, .val (.ref b1), .val (.int (1 : Int32)), .val (.int (1 : Int32)), .unset] [])) _
        refine XS.iconst X47.here hx rfl (hb hby at_134) ?_
        show Steps p.tables e below (T47.setTop (mkF m 135 #[.val (.long q1), .second, .val (.long q2), .second, .val (.long q3), .second, .val (.long q4), .second, .val (.int p5), .val (.int p6), .val (.long ((p5 &&& (8191 : Int32)).toInt64)), .second, .val (.long ((p6 &&& (8191 : Int32)).toInt64)), .second, .val (.ref b1), .val (.int (1 : Int32)), .val (.int (1 : Int32)), .unset] [(.int (0 : Int32))])) _
        refine XS.istore X47.here hx rfl (hb hby at_135) rfl (l' := #[.val (.long q1), .second, .val (.long q2), .second, .val (.long q3), .second, .val (.long q4), .second, .val (.int p5), .val (.int p6), .val (.long ((p5 &&& (8191 : Int32)).toInt64)), .second, .val (.long ((p6 &&& (8191 : Int32)).toInt64)), .second, .val (.ref b1), .val (.int (1 : Int32)), .val (.int (1 : Int32)), .val (.int (0 : Int32))]) rfl ?_
        show Steps p.tables e below (T47.setTop (mkF m 137 #[.val (.long q1), .second, .val (.long q2), .second, .val (.long q3), .second, .val (.long q4), .second, .val (.int p5), .val (.int p6), .val (.long ((p5 &&& (8191 : Int32)).toInt64)), .second, .val (.long ((p6 &&& (8191 : Int32)).toInt64)), .second, .val (.ref b1), .val (.int (1 : Int32)), .val (.int (1 : Int32)), .val (.int (0 : Int32))] [])) _
        refine XS.iload X47.here hx rfl (hb hby at_137) rfl ?_
        show Steps p.tables e below (T47.setTop (mkF m 139 #[.val (.long q1), .second, .val (.long q2), .second, .val (.long q3), .second, .val (.long q4), .second, .val (.int p5), .val (.int p6), .val (.long ((p5 &&& (8191 : Int32)).toInt64)), .second, .val (.long ((p6 &&& (8191 : Int32)).toInt64)), .second, .val (.ref b1), .val (.int (1 : Int32)), .val (.int (1 : Int32)), .val (.int (0 : Int32))] [(.int (1 : Int32))])) _
        refine XS.ifNo X47.here hx rfl (hb hby at_139) rfl ((if0 _ _).trans (feq ((by decide) : ¬ ((1 : Int32) = (0 : Int32)))).1) ?_
        show Steps p.tables e below (T47.setTop (mkF m 142 #[.val (.long q1), .second, .val (.long q2), .second, .val (.long q3), .second, .val (.long q4), .second, .val (.int p5), .val (.int p6), .val (.long ((p5 &&& (8191 : Int32)).toInt64)), .second, .val (.long ((p6 &&& (8191 : Int32)).toInt64)), .second, .val (.ref b1), .val (.int (1 : Int32)), .val (.int (1 : Int32)), .val (.int (0 : Int32))] [])) _
        refine XS.iload X47.here hx rfl (hb hby at_142) rfl ?_
        show Steps p.tables e below (T47.setTop (mkF m 144 #[.val (.long q1), .second, .val (.long q2), .second, .val (.long q3), .second, .val (.long q4), .second, .val (.int p5), .val (.int p6), .val (.long ((p5 &&& (8191 : Int32)).toInt64)), .second, .val (.long ((p6 &&& (8191 : Int32)).toInt64)), .second, .val (.ref b1), .val (.int (1 : Int32)), .val (.int (1 : Int32)), .val (.int (0 : Int32))] [(.int (1 : Int32))])) _
        refine XS.ifNo X47.here hx rfl (hb hby at_144) rfl ((if0 _ _).trans (feq ((by decide) : ¬ ((1 : Int32) = (0 : Int32)))).1) ?_
        show Steps p.tables e below (T47.setTop (mkF m 147 #[.val (.long q1), .second, .val (.long q2), .second, .val (.long q3), .second, .val (.long q4), .second, .val (.int p5), .val (.int p6), .val (.long ((p5 &&& (8191 : Int32)).toInt64)), .second, .val (.long ((p6 &&& (8191 : Int32)).toInt64)), .second, .val (.ref b1), .val (.int (1 : Int32)), .val (.int (1 : Int32)), .val (.int (0 : Int32))] [])) _
        refine XS.iload X47.here hx rfl (hb hby at_147) rfl ?_
        show Steps p.tables e below (T47.setTop (mkF m 149 #[.val (.long q1), .second, .val (.long q2), .second, .val (.long q3), .second, .val (.long q4), .second, .val (.int p5), .val (.int p6), .val (.long ((p5 &&& (8191 : Int32)).toInt64)), .second, .val (.long ((p6 &&& (8191 : Int32)).toInt64)), .second, .val (.ref b1), .val (.int (1 : Int32)), .val (.int (1 : Int32)), .val (.int (0 : Int32))] [(.int (0 : Int32))])) _
        refine XS.ifYes X47.here hx rfl (pc0 := 149) (pc' := 156) rfl (hb hby at_149) rfl ((if0 _ _).trans (teq ((by decide) : (0 : Int32) = (0 : Int32))).1) (by decide) (by decide) ?_
        show Steps p.tables e below (T47.setTop (mkF m 156 #[.val (.long q1), .second, .val (.long q2), .second, .val (.long q3), .second, .val (.long q4), .second, .val (.int p5), .val (.int p6), .val (.long ((p5 &&& (8191 : Int32)).toInt64)), .second, .val (.long ((p6 &&& (8191 : Int32)).toInt64)), .second, .val (.ref b1), .val (.int (1 : Int32)), .val (.int (1 : Int32)), .val (.int (0 : Int32))] [])) _
        refine XS.iconst X47.here hx rfl (hb hby at_156) ?_
        exact kt
      show own_End p e below s (T47.setTop (mkF m 157 #[.val (.long q1), .second, .val (.long q2), .second, .val (.long q3), .second, .val (.long q4), .second, .val (.int p5), .val (.int p6), .val (.long ((p5 &&& (8191 : Int32)).toInt64)), .second, .val (.long ((p6 &&& (8191 : Int32)).toInt64)), .second, .val (.ref b1), .val (.int (1 : Int32)), .val (.int (1 : Int32)), .val (.int (0 : Int32))] [(.int (0 : Int32))])) (Q0 Z q1 q2 q3 q4 p5 p6 h0 n0) room_1.cells room_1.slots
      have hv : (own_law q1 q2 q3 q4 p5 p6) = (0 : Int32) := hj.trans (by simp only [own_law, if_pos hc94_40, if_neg hc127_48])
      obtain ⟨fs, hr, hrun, hended, hW, hsame⟩ := X47.leave (v := some (.int (0 : Int32))) (fun h => by rw [Bd.returns] at h; cases h)
      refine ⟨_, _, ?_, hrun, hended, _, _, rfl, ?_, ⟨_, rfl⟩, hW, hsame.mono (by decide) (by decide)⟩
      · exact retN X47 hx (t := .boolean) Bd.returns (by simp) (hb hby at_157) hr
      · show Q0 Z q1 q2 q3 q4 p5 p6 h0 n0 _ T47.heap _
        rw [e47]
        exact ⟨(congrArg (fun z => some (Value.int z)) hv.symm), N47⟩
  · obtain ⟨cq49, kq49, q49a, q49b, q49c⟩ := isOf hZ e39 E_b1_34
    obtain ⟨_, _, ⟨T49, L49, k49, n49⟩, -, X49, ⟨Lc49, hQ49, l49, y49, z49⟩, st49⟩ := X39.virtualBack hx (y := (⟨"com/example/door3/door3/transport/LeastRate", "moved", "(JJ)V"⟩ : MethodName)) (z := (⟨"com/example/door3/door3/transport/LeastRate", "moved", "(JJ)V"⟩ : MethodName)) hown (mvT hZ (hw _ (List.mem_of_getElem? (i := 20) rfl))) (mvT hZ (hw _ (List.mem_of_getElem? (i := 21) rfl))) (notFace_of_selects (args := #[]) (mvT hZ (hw _ (List.mem_of_getElem? (i := 23) rfl)))) (mvT hZ (hw _ (List.mem_of_getElem? (i := 23) rfl))) (mvT hZ (hw _ (List.mem_of_getElem? (i := 22) rfl))) (by decide) (backOf (W := 0) (rm4 l Z a0 hw [] b1 ((8192 : Int64) - ((p6 &&& (8191 : Int32)).toInt64)) q4 q1 (if ((0 : Int64) + ((p6 &&& (8191 : Int32)).toInt64)) < (8192 : Int64) then q1 else q1) (if ((0 : Int64) + ((p6 &&& (8191 : Int32)).toInt64)) < (8192 : Int64) then q3 else q4) (if ((0 : Int64) + ((p6 &&& (8191 : Int32)).toInt64)) < (8192 : Int64) then ((0 : Int64) + ((p6 &&& (8191 : Int32)).toInt64)) else (0 : Int64)) T33.heap n0 Z33 ⟨E_b1_34, F_idleNanos_b1_35, F_left_b1_36, F_since_b1_37, F_moved_b1_38⟩ g_b1) hZ (hw _ (List.mem_of_getElem? (i := 24) rfl)) (hw _ (List.mem_of_getElem? (i := 2) rfl)) (by decide) (by decide)) q49a q49c (g := (mkF m 114 #[.val (.long q1), .second, .val (.long q2), .second, .val (.long q3), .second, .val (.long q4), .second, .val (.int p5), .val (.int p6), .val (.long ((p5 &&& (8191 : Int32)).toInt64)), .second, .val (.long ((p6 &&& (8191 : Int32)).toInt64)), .second, .val (.ref b1), .val (.int (1 : Int32)), .val (.int (0 : Int32)), .unset] [(.long q4), (.long ((8192 : Int64) - ((p6 &&& (8191 : Int32)).toInt64))), (.ref b1)])) rfl (by rw [hml]; rfl) (Steps.refl _) (argsL := [(.long ((8192 : Int64) - ((p6 &&& (8191 : Int32)).toInt64))), (.long q4)]) (rest := []) (lenOf pd_0_1 rfl) rfl (by show 2 * 0 + _ ≤ _; exact Nat.le_of_eq rfl) (hb hby at_114) (fun _ _ => ⟨rfl, e39, (by decide : 1 + 0 ≤ _), (by decide : 4 + 0 ≤ _)⟩)
    dsimp only [Pt.U, Pt.locs, Pt.cells, Pt.slots] at X49 l49 y49 z49 st49 hQ49
    subst l49 y49 z49
    obtain ⟨rfl, N49q, Kq49, O49_0⟩ := hQ49
    have N49 := Fr.app N39 N49q
    have fE_b1_x49 := (E_b1_34.keep Kq49)
    have K49 : Keep h0 T49.heap [] := Keep.trans K33 Kq49 (allS (Or.inr sz_b1) all0)
    have Z49 : n0 ≤ T49.heap.size := Nat.le_trans Z33 Kq49.1
    obtain ⟨E_b1_50, F_idleNanos_b1_51, F_left_b1_52, F_since_b1_53, F_moved_b1_54⟩ := O49_0
    obtain ⟨cq55, kq55, q55a, q55b, q55c⟩ := isOf hZ rfl E_b1_50
    obtain ⟨_, _, ⟨T55, L55, k55, n55⟩, -, X55, ⟨Lc55, hQ55, l55, y55, z55⟩, st55⟩ := X49.virtualBack hx (y := (⟨"com/example/door3/door3/transport/LeastRate", "deadline", "()J"⟩ : MethodName)) (z := (⟨"com/example/door3/door3/transport/LeastRate", "deadline", "()J"⟩ : MethodName)) hown (mvT hZ (hw _ (List.mem_of_getElem? (i := 38) rfl))) (mvT hZ (hw _ (List.mem_of_getElem? (i := 39) rfl))) (notFace_of_selects (args := #[]) (mvT hZ (hw _ (List.mem_of_getElem? (i := 41) rfl)))) (mvT hZ (hw _ (List.mem_of_getElem? (i := 41) rfl))) (mvT hZ (hw _ (List.mem_of_getElem? (i := 40) rfl))) (by decide) (backOf (W := 0) (rm7 l Z a0 hw [] b1 q1 (if ((if ((0 : Int64) + ((p6 &&& (8191 : Int32)).toInt64)) < (8192 : Int64) then ((0 : Int64) + ((p6 &&& (8191 : Int32)).toInt64)) else (0 : Int64)) + ((8192 : Int64) - ((p6 &&& (8191 : Int32)).toInt64))) < (8192 : Int64) then (if ((0 : Int64) + ((p6 &&& (8191 : Int32)).toInt64)) < (8192 : Int64) then q1 else q1) else q1) (if ((if ((0 : Int64) + ((p6 &&& (8191 : Int32)).toInt64)) < (8192 : Int64) then ((0 : Int64) + ((p6 &&& (8191 : Int32)).toInt64)) else (0 : Int64)) + ((8192 : Int64) - ((p6 &&& (8191 : Int32)).toInt64))) < (8192 : Int64) then (if ((0 : Int64) + ((p6 &&& (8191 : Int32)).toInt64)) < (8192 : Int64) then q3 else q4) else q4) (if ((if ((0 : Int64) + ((p6 &&& (8191 : Int32)).toInt64)) < (8192 : Int64) then ((0 : Int64) + ((p6 &&& (8191 : Int32)).toInt64)) else (0 : Int64)) + ((8192 : Int64) - ((p6 &&& (8191 : Int32)).toInt64))) < (8192 : Int64) then ((if ((0 : Int64) + ((p6 &&& (8191 : Int32)).toInt64)) < (8192 : Int64) then ((0 : Int64) + ((p6 &&& (8191 : Int32)).toInt64)) else (0 : Int64)) + ((8192 : Int64) - ((p6 &&& (8191 : Int32)).toInt64))) else (0 : Int64)) T49.heap n0 Z49 ⟨E_b1_50, F_idleNanos_b1_51, F_left_b1_52, F_since_b1_53, F_moved_b1_54⟩) hZ (hw _ (List.mem_of_getElem? (i := 42) rfl)) (hw _ (List.mem_of_getElem? (i := 2) rfl)) (by decide) (by decide)) q55a q55c (g := (mkF m 119 #[.val (.long q1), .second, .val (.long q2), .second, .val (.long q3), .second, .val (.long q4), .second, .val (.int p5), .val (.int p6), .val (.long ((p5 &&& (8191 : Int32)).toInt64)), .second, .val (.long ((p6 &&& (8191 : Int32)).toInt64)), .second, .val (.ref b1), .val (.int (1 : Int32)), .val (.int (0 : Int32)), .unset] [(.ref b1)])) rfl (by rw [hml]; rfl) (Steps.refl _) (argsL := []) (rest := []) (lenOf pd_0_3 rfl) rfl (by show 2 * 0 + _ ≤ _; exact Nat.le_of_eq rfl) (hb hby at_119) (fun _ _ => ⟨rfl, rfl, (by decide : 1 + 0 ≤ _), (by decide : 4 + 0 ≤ _)⟩)
    dsimp only [Pt.U, Pt.locs, Pt.cells, Pt.slots] at X55 l55 y55 z55 st55 hQ55
    subst l55 y55 z55
    obtain ⟨rfl, N55q, e55⟩ := hQ55
    have N55 := Fr.app N49 N55q
    refine own_pre (A := T55.setTop (mkF m 127 #[.val (.long q1), .second, .val (.long q2), .second, .val (.long q3), .second, .val (.long q4), .second, .val (.int p5), .val (.int p6), .val (.long ((p5 &&& (8191 : Int32)).toInt64)), .second, .val (.long ((p6 &&& (8191 : Int32)).toInt64)), .second, .val (.ref b1), .val (.int (1 : Int32)), .val (.int (0 : Int32)), .unset] [(.int (lcmpW ((if ((if ((0 : Int64) + ((p6 &&& (8191 : Int32)).toInt64)) < (8192 : Int64) then ((0 : Int64) + ((p6 &&& (8191 : Int32)).toInt64)) else (0 : Int64)) + ((8192 : Int64) - ((p6 &&& (8191 : Int32)).toInt64))) < (8192 : Int64) then (if ((0 : Int64) + ((p6 &&& (8191 : Int32)).toInt64)) < (8192 : Int64) then q3 else q4) else q4) + (if ((if ((0 : Int64) + ((p6 &&& (8191 : Int32)).toInt64)) < (8192 : Int64) then ((0 : Int64) + ((p6 &&& (8191 : Int32)).toInt64)) else (0 : Int64)) + ((8192 : Int64) - ((p6 &&& (8191 : Int32)).toInt64))) < (8192 : Int64) then (if ((0 : Int64) + ((p6 &&& (8191 : Int32)).toInt64)) < (8192 : Int64) then q1 else q1) else q1)) (q4 + q1)))])) (fun tt kt => ?_) ?_
    · show Steps p.tables e below (T39.setTop (mkF m 94 #[.val (.long q1), .second, .val (.long q2), .second, .val (.long q3), .second, .val (.long q4), .second, .val (.int p5), .val (.int p6), .val (.long ((p5 &&& (8191 : Int32)).toInt64)), .second, .val (.long ((p6 &&& (8191 : Int32)).toInt64)), .second, .val (.ref b1), .val (.int (1 : Int32)), .unset, .unset] [(.int (lcmpW ((if ((0 : Int64) + ((p6 &&& (8191 : Int32)).toInt64)) < (8192 : Int64) then q3 else q4) + (if ((0 : Int64) + ((p6 &&& (8191 : Int32)).toInt64)) < (8192 : Int64) then q1 else q1)) (q3 + q1)))])) _
      refine XS.ifYes X39.here hx rfl (pc0 := 94) (pc' := 101) rfl (hb hby at_94) rfl ((if0 _ _).trans (feq (fun q => hc94_40 ((lw_eq ((if ((0 : Int64) + ((p6 &&& (8191 : Int32)).toInt64)) < (8192 : Int64) then q3 else q4) + (if ((0 : Int64) + ((p6 &&& (8191 : Int32)).toInt64)) < (8192 : Int64) then q1 else q1)) (q3 + q1)).mp q))).2) (by decide) (by decide) ?_
      show Steps p.tables e below (T39.setTop (mkF m 101 #[.val (.long q1), .second, .val (.long q2), .second, .val (.long q3), .second, .val (.long q4), .second, .val (.int p5), .val (.int p6), .val (.long ((p5 &&& (8191 : Int32)).toInt64)), .second, .val (.long ((p6 &&& (8191 : Int32)).toInt64)), .second, .val (.ref b1), .val (.int (1 : Int32)), .unset, .unset] [])) _
      refine XS.iconst X39.here hx rfl (hb hby at_101) ?_
      show Steps p.tables e below (T39.setTop (mkF m 102 #[.val (.long q1), .second, .val (.long q2), .second, .val (.long q3), .second, .val (.long q4), .second, .val (.int p5), .val (.int p6), .val (.long ((p5 &&& (8191 : Int32)).toInt64)), .second, .val (.long ((p6 &&& (8191 : Int32)).toInt64)), .second, .val (.ref b1), .val (.int (1 : Int32)), .unset, .unset] [(.int (0 : Int32))])) _
      refine XS.istore X39.here hx rfl (hb hby at_102) rfl (l' := #[.val (.long q1), .second, .val (.long q2), .second, .val (.long q3), .second, .val (.long q4), .second, .val (.int p5), .val (.int p6), .val (.long ((p5 &&& (8191 : Int32)).toInt64)), .second, .val (.long ((p6 &&& (8191 : Int32)).toInt64)), .second, .val (.ref b1), .val (.int (1 : Int32)), .val (.int (0 : Int32)), .unset]) rfl ?_
      show Steps p.tables e below (T39.setTop (mkF m 104 #[.val (.long q1), .second, .val (.long q2), .second, .val (.long q3), .second, .val (.long q4), .second, .val (.int p5), .val (.int p6), .val (.long ((p5 &&& (8191 : Int32)).toInt64)), .second, .val (.long ((p6 &&& (8191 : Int32)).toInt64)), .second, .val (.ref b1), .val (.int (1 : Int32)), .val (.int (0 : Int32)), .unset] [])) _
      refine XS.aload X39.here hx rfl (hb hby at_104) rfl rfl ?_
      show Steps p.tables e below (T39.setTop (mkF m 106 #[.val (.long q1), .second, .val (.long q2), .second, .val (.long q3), .second, .val (.long q4), .second, .val (.int p5), .val (.int p6), .val (.long ((p5 &&& (8191 : Int32)).toInt64)), .second, .val (.long ((p6 &&& (8191 : Int32)).toInt64)), .second, .val (.ref b1), .val (.int (1 : Int32)), .val (.int (0 : Int32)), .unset] [(.ref b1)])) _
      refine X39.ldc2Long hx hown (mvT hZ (hw _ (List.mem_of_getElem? (i := 43) rfl))) (g := (mkF m 106 #[.val (.long q1), .second, .val (.long q2), .second, .val (.long q3), .second, .val (.long q4), .second, .val (.int p5), .val (.int p6), .val (.long ((p5 &&& (8191 : Int32)).toInt64)), .second, .val (.long ((p6 &&& (8191 : Int32)).toInt64)), .second, .val (.ref b1), .val (.int (1 : Int32)), .val (.int (0 : Int32)), .unset] [(.ref b1)])) rfl (hb hby at_106) _ ?_
      show Steps p.tables e below (T39.setTop (mkF m 109 #[.val (.long q1), .second, .val (.long q2), .second, .val (.long q3), .second, .val (.long q4), .second, .val (.int p5), .val (.int p6), .val (.long ((p5 &&& (8191 : Int32)).toInt64)), .second, .val (.long ((p6 &&& (8191 : Int32)).toInt64)), .second, .val (.ref b1), .val (.int (1 : Int32)), .val (.int (0 : Int32)), .unset] [(.long (8192 : Int64)), (.ref b1)])) _
      refine XS.lload X39.here hx rfl (hb hby at_109) rfl ?_
      show Steps p.tables e below (T39.setTop (mkF m 111 #[.val (.long q1), .second, .val (.long q2), .second, .val (.long q3), .second, .val (.long q4), .second, .val (.int p5), .val (.int p6), .val (.long ((p5 &&& (8191 : Int32)).toInt64)), .second, .val (.long ((p6 &&& (8191 : Int32)).toInt64)), .second, .val (.ref b1), .val (.int (1 : Int32)), .val (.int (0 : Int32)), .unset] [(.long ((p6 &&& (8191 : Int32)).toInt64)), (.long (8192 : Int64)), (.ref b1)])) _
      refine XS.lsub X39.here hx rfl (hb hby at_111) rfl ?_
      show Steps p.tables e below (T39.setTop (mkF m 112 #[.val (.long q1), .second, .val (.long q2), .second, .val (.long q3), .second, .val (.long q4), .second, .val (.int p5), .val (.int p6), .val (.long ((p5 &&& (8191 : Int32)).toInt64)), .second, .val (.long ((p6 &&& (8191 : Int32)).toInt64)), .second, .val (.ref b1), .val (.int (1 : Int32)), .val (.int (0 : Int32)), .unset] [(.long ((8192 : Int64) - ((p6 &&& (8191 : Int32)).toInt64))), (.ref b1)])) _
      refine XS.lload X39.here hx rfl (hb hby at_112) rfl ?_
      show Steps p.tables e below (T39.setTop (mkF m 114 #[.val (.long q1), .second, .val (.long q2), .second, .val (.long q3), .second, .val (.long q4), .second, .val (.int p5), .val (.int p6), .val (.long ((p5 &&& (8191 : Int32)).toInt64)), .second, .val (.long ((p6 &&& (8191 : Int32)).toInt64)), .second, .val (.ref b1), .val (.int (1 : Int32)), .val (.int (0 : Int32)), .unset] [(.long q4), (.long ((8192 : Int64) - ((p6 &&& (8191 : Int32)).toInt64))), (.ref b1)])) _
      refine st49.trans ?_
      show Steps p.tables e below (T49.setTop (mkF m 117 #[.val (.long q1), .second, .val (.long q2), .second, .val (.long q3), .second, .val (.long q4), .second, .val (.int p5), .val (.int p6), .val (.long ((p5 &&& (8191 : Int32)).toInt64)), .second, .val (.long ((p6 &&& (8191 : Int32)).toInt64)), .second, .val (.ref b1), .val (.int (1 : Int32)), .val (.int (0 : Int32)), .unset] [])) _
      refine XS.aload X49.here hx rfl (hb hby at_117) rfl rfl ?_
      show Steps p.tables e below (T49.setTop (mkF m 119 #[.val (.long q1), .second, .val (.long q2), .second, .val (.long q3), .second, .val (.long q4), .second, .val (.int p5), .val (.int p6), .val (.long ((p5 &&& (8191 : Int32)).toInt64)), .second, .val (.long ((p6 &&& (8191 : Int32)).toInt64)), .second, .val (.ref b1), .val (.int (1 : Int32)), .val (.int (0 : Int32)), .unset] [(.ref b1)])) _
      refine st55.trans ?_
      show Steps p.tables e below (T55.setTop (mkF m 122 #[.val (.long q1), .second, .val (.long q2), .second, .val (.long q3), .second, .val (.long q4), .second, .val (.int p5), .val (.int p6), .val (.long ((p5 &&& (8191 : Int32)).toInt64)), .second, .val (.long ((p6 &&& (8191 : Int32)).toInt64)), .second, .val (.ref b1), .val (.int (1 : Int32)), .val (.int (0 : Int32)), .unset] [(.long ((if ((if ((0 : Int64) + ((p6 &&& (8191 : Int32)).toInt64)) < (8192 : Int64) then ((0 : Int64) + ((p6 &&& (8191 : Int32)).toInt64)) else (0 : Int64)) + ((8192 : Int64) - ((p6 &&& (8191 : Int32)).toInt64))) < (8192 : Int64) then (if ((0 : Int64) + ((p6 &&& (8191 : Int32)).toInt64)) < (8192 : Int64) then q3 else q4) else q4) + (if ((if ((0 : Int64) + ((p6 &&& (8191 : Int32)).toInt64)) < (8192 : Int64) then ((0 : Int64) + ((p6 &&& (8191 : Int32)).toInt64)) else (0 : Int64)) + ((8192 : Int64) - ((p6 &&& (8191 : Int32)).toInt64))) < (8192 : Int64) then (if ((0 : Int64) + ((p6 &&& (8191 : Int32)).toInt64)) < (8192 : Int64) then q1 else q1) else q1)))])) _
      refine XS.lload X55.here hx rfl (hb hby at_122) rfl ?_
      show Steps p.tables e below (T55.setTop (mkF m 124 #[.val (.long q1), .second, .val (.long q2), .second, .val (.long q3), .second, .val (.long q4), .second, .val (.int p5), .val (.int p6), .val (.long ((p5 &&& (8191 : Int32)).toInt64)), .second, .val (.long ((p6 &&& (8191 : Int32)).toInt64)), .second, .val (.ref b1), .val (.int (1 : Int32)), .val (.int (0 : Int32)), .unset] [(.long q4), (.long ((if ((if ((0 : Int64) + ((p6 &&& (8191 : Int32)).toInt64)) < (8192 : Int64) then ((0 : Int64) + ((p6 &&& (8191 : Int32)).toInt64)) else (0 : Int64)) + ((8192 : Int64) - ((p6 &&& (8191 : Int32)).toInt64))) < (8192 : Int64) then (if ((0 : Int64) + ((p6 &&& (8191 : Int32)).toInt64)) < (8192 : Int64) then q3 else q4) else q4) + (if ((if ((0 : Int64) + ((p6 &&& (8191 : Int32)).toInt64)) < (8192 : Int64) then ((0 : Int64) + ((p6 &&& (8191 : Int32)).toInt64)) else (0 : Int64)) + ((8192 : Int64) - ((p6 &&& (8191 : Int32)).toInt64))) < (8192 : Int64) then (if ((0 : Int64) + ((p6 &&& (8191 : Int32)).toInt64)) < (8192 : Int64) then q1 else q1) else q1)))])) _
      refine XS.lloadN X55.here hx rfl (hb hby at_124) rfl ?_
      show Steps p.tables e below (T55.setTop (mkF m 125 #[.val (.long q1), .second, .val (.long q2), .second, .val (.long q3), .second, .val (.long q4), .second, .val (.int p5), .val (.int p6), .val (.long ((p5 &&& (8191 : Int32)).toInt64)), .second, .val (.long ((p6 &&& (8191 : Int32)).toInt64)), .second, .val (.ref b1), .val (.int (1 : Int32)), .val (.int (0 : Int32)), .unset] [(.long q1), (.long q4), (.long ((if ((if ((0 : Int64) + ((p6 &&& (8191 : Int32)).toInt64)) < (8192 : Int64) then ((0 : Int64) + ((p6 &&& (8191 : Int32)).toInt64)) else (0 : Int64)) + ((8192 : Int64) - ((p6 &&& (8191 : Int32)).toInt64))) < (8192 : Int64) then (if ((0 : Int64) + ((p6 &&& (8191 : Int32)).toInt64)) < (8192 : Int64) then q3 else q4) else q4) + (if ((if ((0 : Int64) + ((p6 &&& (8191 : Int32)).toInt64)) < (8192 : Int64) then ((0 : Int64) + ((p6 &&& (8191 : Int32)).toInt64)) else (0 : Int64)) + ((8192 : Int64) - ((p6 &&& (8191 : Int32)).toInt64))) < (8192 : Int64) then (if ((0 : Int64) + ((p6 &&& (8191 : Int32)).toInt64)) < (8192 : Int64) then q1 else q1) else q1)))])) _
      refine XS.ladd X55.here hx rfl (hb hby at_125) rfl ?_
      show Steps p.tables e below (T55.setTop (mkF m 126 #[.val (.long q1), .second, .val (.long q2), .second, .val (.long q3), .second, .val (.long q4), .second, .val (.int p5), .val (.int p6), .val (.long ((p5 &&& (8191 : Int32)).toInt64)), .second, .val (.long ((p6 &&& (8191 : Int32)).toInt64)), .second, .val (.ref b1), .val (.int (1 : Int32)), .val (.int (0 : Int32)), .unset] [(.long (q4 + q1)), (.long ((if ((if ((0 : Int64) + ((p6 &&& (8191 : Int32)).toInt64)) < (8192 : Int64) then ((0 : Int64) + ((p6 &&& (8191 : Int32)).toInt64)) else (0 : Int64)) + ((8192 : Int64) - ((p6 &&& (8191 : Int32)).toInt64))) < (8192 : Int64) then (if ((0 : Int64) + ((p6 &&& (8191 : Int32)).toInt64)) < (8192 : Int64) then q3 else q4) else q4) + (if ((if ((0 : Int64) + ((p6 &&& (8191 : Int32)).toInt64)) < (8192 : Int64) then ((0 : Int64) + ((p6 &&& (8191 : Int32)).toInt64)) else (0 : Int64)) + ((8192 : Int64) - ((p6 &&& (8191 : Int32)).toInt64))) < (8192 : Int64) then (if ((0 : Int64) + ((p6 &&& (8191 : Int32)).toInt64)) < (8192 : Int64) then q1 else q1) else q1)))])) _
      refine XS.lcmp X55.here hx rfl (hb hby at_126) rfl ?_
      exact kt
    show own_End p e below s (T55.setTop (mkF m 127 #[.val (.long q1), .second, .val (.long q2), .second, .val (.long q3), .second, .val (.long q4), .second, .val (.int p5), .val (.int p6), .val (.long ((p5 &&& (8191 : Int32)).toInt64)), .second, .val (.long ((p6 &&& (8191 : Int32)).toInt64)), .second, .val (.ref b1), .val (.int (1 : Int32)), .val (.int (0 : Int32)), .unset] [(.int (lcmpW ((if ((if ((0 : Int64) + ((p6 &&& (8191 : Int32)).toInt64)) < (8192 : Int64) then ((0 : Int64) + ((p6 &&& (8191 : Int32)).toInt64)) else (0 : Int64)) + ((8192 : Int64) - ((p6 &&& (8191 : Int32)).toInt64))) < (8192 : Int64) then (if ((0 : Int64) + ((p6 &&& (8191 : Int32)).toInt64)) < (8192 : Int64) then q3 else q4) else q4) + (if ((if ((0 : Int64) + ((p6 &&& (8191 : Int32)).toInt64)) < (8192 : Int64) then ((0 : Int64) + ((p6 &&& (8191 : Int32)).toInt64)) else (0 : Int64)) + ((8192 : Int64) - ((p6 &&& (8191 : Int32)).toInt64))) < (8192 : Int64) then (if ((0 : Int64) + ((p6 &&& (8191 : Int32)).toInt64)) < (8192 : Int64) then q1 else q1) else q1)) (q4 + q1)))])) (Q0 Z q1 q2 q3 q4 p5 p6 h0 n0) room_1.cells room_1.slots
    by_cases hc127_56 : ((if ((if ((0 : Int64) + ((p6 &&& (8191 : Int32)).toInt64)) < (8192 : Int64) then ((0 : Int64) + ((p6 &&& (8191 : Int32)).toInt64)) else (0 : Int64)) + ((8192 : Int64) - ((p6 &&& (8191 : Int32)).toInt64))) < (8192 : Int64) then (if ((0 : Int64) + ((p6 &&& (8191 : Int32)).toInt64)) < (8192 : Int64) then q3 else q4) else q4) + (if ((if ((0 : Int64) + ((p6 &&& (8191 : Int32)).toInt64)) < (8192 : Int64) then ((0 : Int64) + ((p6 &&& (8191 : Int32)).toInt64)) else (0 : Int64)) + ((8192 : Int64) - ((p6 &&& (8191 : Int32)).toInt64))) < (8192 : Int64) then (if ((0 : Int64) + ((p6 &&& (8191 : Int32)).toInt64)) < (8192 : Int64) then q1 else q1) else q1)) = (q4 + q1)
    · refine own_pre (A := T55.setTop (mkF m 157 #[.val (.long q1), .second, .val (.long q2), .second, .val (.long q3), .second, .val (.long q4), .second, .val (.int p5), .val (.int p6), .val (.long ((p5 &&& (8191 : Int32)).toInt64)), .second, .val (.long ((p6 &&& (8191 : Int32)).toInt64)), .second, .val (.ref b1), .val (.int (1 : Int32)), .val (.int (0 : Int32)), .val (.int (1 : Int32))] [(.int (0 : Int32))])) (fun tt kt => ?_) ?_
      · show Steps p.tables e below (T55.setTop (mkF m 127 #[.val (.long q1), .second, .val (.long q2), .second, .val (.long q3), .second, .val (.long q4), .second, .val (.int p5), .val (.int p6), .val (.long ((p5 &&& (8191 : Int32)).toInt64)), .second, .val (.long ((p6 &&& (8191 : Int32)).toInt64)), .second, .val (.ref b1), .val (.int (1 : Int32)), .val (.int (0 : Int32)), .unset] [(.int (lcmpW ((if ((if ((0 : Int64) + ((p6 &&& (8191 : Int32)).toInt64)) < (8192 : Int64) then ((0 : Int64) + ((p6 &&& (8191 : Int32)).toInt64)) else (0 : Int64)) + ((8192 : Int64) - ((p6 &&& (8191 : Int32)).toInt64))) < (8192 : Int64) then (if ((0 : Int64) + ((p6 &&& (8191 : Int32)).toInt64)) < (8192 : Int64) then q3 else q4) else q4) + (if ((if ((0 : Int64) + ((p6 &&& (8191 : Int32)).toInt64)) < (8192 : Int64) then ((0 : Int64) + ((p6 &&& (8191 : Int32)).toInt64)) else (0 : Int64)) + ((8192 : Int64) - ((p6 &&& (8191 : Int32)).toInt64))) < (8192 : Int64) then (if ((0 : Int64) + ((p6 &&& (8191 : Int32)).toInt64)) < (8192 : Int64) then q1 else q1) else q1)) (q4 + q1)))])) _
        refine XS.ifNo X55.here hx rfl (hb hby at_127) rfl ((if0 _ _).trans (teq ((lw_eq ((if ((if ((0 : Int64) + ((p6 &&& (8191 : Int32)).toInt64)) < (8192 : Int64) then ((0 : Int64) + ((p6 &&& (8191 : Int32)).toInt64)) else (0 : Int64)) + ((8192 : Int64) - ((p6 &&& (8191 : Int32)).toInt64))) < (8192 : Int64) then (if ((0 : Int64) + ((p6 &&& (8191 : Int32)).toInt64)) < (8192 : Int64) then q3 else q4) else q4) + (if ((if ((0 : Int64) + ((p6 &&& (8191 : Int32)).toInt64)) < (8192 : Int64) then ((0 : Int64) + ((p6 &&& (8191 : Int32)).toInt64)) else (0 : Int64)) + ((8192 : Int64) - ((p6 &&& (8191 : Int32)).toInt64))) < (8192 : Int64) then (if ((0 : Int64) + ((p6 &&& (8191 : Int32)).toInt64)) < (8192 : Int64) then q1 else q1) else q1)) (q4 + q1)).mpr hc127_56)).2) ?_
        show Steps p.tables e below (T55.setTop (mkF m 130 #[.val (.long q1), .second, .val (.long q2), .second, .val (.long q3), .second, .val (.long q4), .second, .val (.int p5), .val (.int p6), .val (.long ((p5 &&& (8191 : Int32)).toInt64)), .second, .val (.long ((p6 &&& (8191 : Int32)).toInt64)), .second, .val (.ref b1), .val (.int (1 : Int32)), .val (.int (0 : Int32)), .unset] [])) _
        refine XS.iconst X55.here hx rfl (hb hby at_130) ?_
        show Steps p.tables e below (T55.setTop (mkF m 131 #[.val (.long q1), .second, .val (.long q2), .second, .val (.long q3), .second, .val (.long q4), .second, .val (.int p5), .val (.int p6), .val (.long ((p5 &&& (8191 : Int32)).toInt64)), .second, .val (.long ((p6 &&& (8191 : Int32)).toInt64)), .second, .val (.ref b1), .val (.int (1 : Int32)), .val (.int (0 : Int32)), .unset] [(.int (1 : Int32))])) _
        refine XS.goto X55.here hx rfl (pc0 := 131) (pc' := 135) rfl (hb hby at_131) (by decide) (by decide) ?_
        show Steps p.tables e below (T55.setTop (mkF m 135 #[.val (.long q1), .second, .val (.long q2), .second, .val (.long q3), .second, .val (.long q4), .second, .val (.int p5), .val (.int p6), .val (.long ((p5 &&& (8191 : Int32)).toInt64)), .second, .val (.long ((p6 &&& (8191 : Int32)).toInt64)), .second, .val (.ref b1), .val (.int (1 : Int32)), .val (.int (0 : Int32)), .unset] [(.int (1 : Int32))])) _
        refine XS.istore X55.here hx rfl (hb hby at_135) rfl (l' := #[.val (.long q1), .second, .val (.long q2), .second, .val (.long q3), .second, .val (.long q4), .second, .val (.int p5), .val (.int p6), .val (.long ((p5 &&& (8191 : Int32)).toInt64)), .second, .val (.long ((p6 &&& (8191 : Int32)).toInt64)), .second, .val (.ref b1), .val (.int (1 : Int32)), .val (.int (0 : Int32)), .val (.int (1 : Int32))]) rfl ?_
        show Steps p.tables e below (T55.setTop (mkF m 137 #[.val (.long q1), .second, .val (.long q2), .second, .val (.long q3), .second, .val (.long q4), .second, .val (.int p5), .val (.int p6), .val (.long ((p5 &&& (8191 : Int32)).toInt64)), .second, .val (.long ((p6 &&& (8191 : Int32)).toInt64)), .second, .val (.ref b1), .val (.int (1 : Int32)), .val (.int (0 : Int32)), .val (.int (1 : Int32))] [])) _
        refine XS.iload X55.here hx rfl (hb hby at_137) rfl ?_
        show Steps p.tables e below (T55.setTop (mkF m 139 #[.val (.long q1), .second, .val (.long q2), .second, .val (.long q3), .second, .val (.long q4), .second, .val (.int p5), .val (.int p6), .val (.long ((p5 &&& (8191 : Int32)).toInt64)), .second, .val (.long ((p6 &&& (8191 : Int32)).toInt64)), .second, .val (.ref b1), .val (.int (1 : Int32)), .val (.int (0 : Int32)), .val (.int (1 : Int32))] [(.int (1 : Int32))])) _
        refine XS.ifNo X55.here hx rfl (hb hby at_139) rfl ((if0 _ _).trans (feq ((by decide) : ¬ ((1 : Int32) = (0 : Int32)))).1) ?_
        show Steps p.tables e below (T55.setTop (mkF m 142 #[.val (.long q1), .second, .val (.long q2), .second, .val (.long q3), .second, .val (.long q4), .second, .val (.int p5), .val (.int p6), .val (.long ((p5 &&& (8191 : Int32)).toInt64)), .second, .val (.long ((p6 &&& (8191 : Int32)).toInt64)), .second, .val (.ref b1), .val (.int (1 : Int32)), .val (.int (0 : Int32)), .val (.int (1 : Int32))] [])) _
        refine XS.iload X55.here hx rfl (hb hby at_142) rfl ?_
        show Steps p.tables e below (T55.setTop (mkF m 144 #[.val (.long q1), .second, .val (.long q2), .second, .val (.long q3), .second, .val (.long q4), .second, .val (.int p5), .val (.int p6), .val (.long ((p5 &&& (8191 : Int32)).toInt64)), .second, .val (.long ((p6 &&& (8191 : Int32)).toInt64)), .second, .val (.ref b1), .val (.int (1 : Int32)), .val (.int (0 : Int32)), .val (.int (1 : Int32))] [(.int (0 : Int32))])) _
        refine XS.ifYes X55.here hx rfl (pc0 := 144) (pc' := 156) rfl (hb hby at_144) rfl ((if0 _ _).trans (teq ((by decide) : (0 : Int32) = (0 : Int32))).1) (by decide) (by decide) ?_
        show Steps p.tables e below (T55.setTop (mkF m 156 #[.val (.long q1), .second, .val (.long q2), .second, .val (.long q3), .second, .val (.long q4), .second, .val (.int p5), .val (.int p6), .val (.long ((p5 &&& (8191 : Int32)).toInt64)), .second, .val (.long ((p6 &&& (8191 : Int32)).toInt64)), .second, .val (.ref b1), .val (.int (1 : Int32)), .val (.int (0 : Int32)), .val (.int (1 : Int32))] [])) _
        refine XS.iconst X55.here hx rfl (hb hby at_156) ?_
        exact kt
      show own_End p e below s (T55.setTop (mkF m 157 #[.val (.long q1), .second, .val (.long q2), .second, .val (.long q3), .second, .val (.long q4), .second, .val (.int p5), .val (.int p6), .val (.long ((p5 &&& (8191 : Int32)).toInt64)), .second, .val (.long ((p6 &&& (8191 : Int32)).toInt64)), .second, .val (.ref b1), .val (.int (1 : Int32)), .val (.int (0 : Int32)), .val (.int (1 : Int32))] [(.int (0 : Int32))])) (Q0 Z q1 q2 q3 q4 p5 p6 h0 n0) room_1.cells room_1.slots
      have hv : (own_law q1 q2 q3 q4 p5 p6) = (0 : Int32) := hj.trans (by simp only [own_law, if_neg hc94_40, if_pos hc127_56])
      obtain ⟨fs, hr, hrun, hended, hW, hsame⟩ := X55.leave (v := some (.int (0 : Int32))) (fun h => by rw [Bd.returns] at h; cases h)
      refine ⟨_, _, ?_, hrun, hended, _, _, rfl, ?_, ⟨_, rfl⟩, hW, hsame.mono (by decide) (by decide)⟩
      · exact retN X55 hx (t := .boolean) Bd.returns (by simp) (hb hby at_157) hr
      · show Q0 Z q1 q2 q3 q4 p5 p6 h0 n0 _ T55.heap _
        rw [e55]
        exact ⟨(congrArg (fun z => some (Value.int z)) hv.symm), N55⟩
    · refine own_pre (A := T55.setTop (mkF m 157 #[.val (.long q1), .second, .val (.long q2), .second, .val (.long q3), .second, .val (.long q4), .second, .val (.int p5), .val (.int p6), .val (.long ((p5 &&& (8191 : Int32)).toInt64)), .second, .val (.long ((p6 &&& (8191 : Int32)).toInt64)), .second, .val (.ref b1), .val (.int (1 : Int32)), .val (.int (0 : Int32)), .val (.int (0 : Int32))] [(.int (0 : Int32))])) (fun tt kt => ?_) ?_
      · show Steps p.tables e below (T55.setTop (mkF m 127 #[.val (.long q1), .second, .val (.long q2), .second, .val (.long q3), .second, .val (.long q4), .second, .val (.int p5), .val (.int p6), .val (.long ((p5 &&& (8191 : Int32)).toInt64)), .second, .val (.long ((p6 &&& (8191 : Int32)).toInt64)), .second, .val (.ref b1), .val (.int (1 : Int32)), .val (.int (0 : Int32)), .unset] [(.int (lcmpW ((if ((if ((0 : Int64) + ((p6 &&& (8191 : Int32)).toInt64)) < (8192 : Int64) then ((0 : Int64) + ((p6 &&& (8191 : Int32)).toInt64)) else (0 : Int64)) + ((8192 : Int64) - ((p6 &&& (8191 : Int32)).toInt64))) < (8192 : Int64) then (if ((0 : Int64) + ((p6 &&& (8191 : Int32)).toInt64)) < (8192 : Int64) then q3 else q4) else q4) + (if ((if ((0 : Int64) + ((p6 &&& (8191 : Int32)).toInt64)) < (8192 : Int64) then ((0 : Int64) + ((p6 &&& (8191 : Int32)).toInt64)) else (0 : Int64)) + ((8192 : Int64) - ((p6 &&& (8191 : Int32)).toInt64))) < (8192 : Int64) then (if ((0 : Int64) + ((p6 &&& (8191 : Int32)).toInt64)) < (8192 : Int64) then q1 else q1) else q1)) (q4 + q1)))])) _
        refine XS.ifYes X55.here hx rfl (pc0 := 127) (pc' := 134) rfl (hb hby at_127) rfl ((if0 _ _).trans (feq (fun q => hc127_56 ((lw_eq ((if ((if ((0 : Int64) + ((p6 &&& (8191 : Int32)).toInt64)) < (8192 : Int64) then ((0 : Int64) + ((p6 &&& (8191 : Int32)).toInt64)) else (0 : Int64)) + ((8192 : Int64) - ((p6 &&& (8191 : Int32)).toInt64))) < (8192 : Int64) then (if ((0 : Int64) + ((p6 &&& (8191 : Int32)).toInt64)) < (8192 : Int64) then q3 else q4) else q4) + (if ((if ((0 : Int64) + ((p6 &&& (8191 : Int32)).toInt64)) < (8192 : Int64) then ((0 : Int64) + ((p6 &&& (8191 : Int32)).toInt64)) else (0 : Int64)) + ((8192 : Int64) - ((p6 &&& (8191 : Int32)).toInt64))) < (8192 : Int64) then (if ((0 : Int64) + ((p6 &&& (8191 : Int32)).toInt64)) < (8192 : Int64) then q1 else q1) else q1)) (q4 + q1)).mp q))).2) (by decide) (by decide) ?_
        show Steps p.tables e below (T55.setTop (mkF m 134 #[.val (.long q1), .second, .val (.long q2), .second, .val (.long q3), .second, .val (.long q4), .second, .val (.int p5), .val (.int p6), .val (.long ((p5 &&& (8191 : Int32)).toInt64)), .second, .val (.long ((p6 &&& (8191 : Int32)).toInt64)), .second, .val (.ref b1), .val (.int (1 : Int32)), .val (.int (0 : Int32)), .unset] [])) _
        refine XS.iconst X55.here hx rfl (hb hby at_134) ?_
        show Steps p.tables e below (T55.setTop (mkF m 135 #[.val (.long q1), .second, .val (.long q2), .second, .val (.long q3), .second, .val (.long q4), .second, .val (.int p5), .val (.int p6), .val (.long ((p5 &&& (8191 : Int32)).toInt64)), .second, .val (.long ((p6 &&& (8191 : Int32)).toInt64)), .second, .val (.ref b1), .val (.int (1 : Int32)), .val (.int (0 : Int32)), .unset] [(.int (0 : Int32))])) _
        refine XS.istore X55.here hx rfl (hb hby at_135) rfl (l' := #[.val (.long q1), .second, .val (.long q2), .second, .val (.long q3), .second, .val (.long q4), .second, .val (.int p5), .val (.int p6), .val (.long ((p5 &&& (8191 : Int32)).toInt64)), .second, .val (.long ((p6 &&& (8191 : Int32)).toInt64)), .second, .val (.ref b1), .val (.int (1 : Int32)), .val (.int (0 : Int32)), .val (.int (0 : Int32))]) rfl ?_
        show Steps p.tables e below (T55.setTop (mkF m 137 #[.val (.long q1), .second, .val (.long q2), .second, .val (.long q3), .second, .val (.long q4), .second, .val (.int p5), .val (.int p6), .val (.long ((p5 &&& (8191 : Int32)).toInt64)), .second, .val (.long ((p6 &&& (8191 : Int32)).toInt64)), .second, .val (.ref b1), .val (.int (1 : Int32)), .val (.int (0 : Int32)), .val (.int (0 : Int32))] [])) _
        refine XS.iload X55.here hx rfl (hb hby at_137) rfl ?_
        show Steps p.tables e below (T55.setTop (mkF m 139 #[.val (.long q1), .second, .val (.long q2), .second, .val (.long q3), .second, .val (.long q4), .second, .val (.int p5), .val (.int p6), .val (.long ((p5 &&& (8191 : Int32)).toInt64)), .second, .val (.long ((p6 &&& (8191 : Int32)).toInt64)), .second, .val (.ref b1), .val (.int (1 : Int32)), .val (.int (0 : Int32)), .val (.int (0 : Int32))] [(.int (1 : Int32))])) _
        refine XS.ifNo X55.here hx rfl (hb hby at_139) rfl ((if0 _ _).trans (feq ((by decide) : ¬ ((1 : Int32) = (0 : Int32)))).1) ?_
        show Steps p.tables e below (T55.setTop (mkF m 142 #[.val (.long q1), .second, .val (.long q2), .second, .val (.long q3), .second, .val (.long q4), .second, .val (.int p5), .val (.int p6), .val (.long ((p5 &&& (8191 : Int32)).toInt64)), .second, .val (.long ((p6 &&& (8191 : Int32)).toInt64)), .second, .val (.ref b1), .val (.int (1 : Int32)), .val (.int (0 : Int32)), .val (.int (0 : Int32))] [])) _
        refine XS.iload X55.here hx rfl (hb hby at_142) rfl ?_
        show Steps p.tables e below (T55.setTop (mkF m 144 #[.val (.long q1), .second, .val (.long q2), .second, .val (.long q3), .second, .val (.long q4), .second, .val (.int p5), .val (.int p6), .val (.long ((p5 &&& (8191 : Int32)).toInt64)), .second, .val (.long ((p6 &&& (8191 : Int32)).toInt64)), .second, .val (.ref b1), .val (.int (1 : Int32)), .val (.int (0 : Int32)), .val (.int (0 : Int32))] [(.int (0 : Int32))])) _
        refine XS.ifYes X55.here hx rfl (pc0 := 144) (pc' := 156) rfl (hb hby at_144) rfl ((if0 _ _).trans (teq ((by decide) : (0 : Int32) = (0 : Int32))).1) (by decide) (by decide) ?_
        show Steps p.tables e below (T55.setTop (mkF m 156 #[.val (.long q1), .second, .val (.long q2), .second, .val (.long q3), .second, .val (.long q4), .second, .val (.int p5), .val (.int p6), .val (.long ((p5 &&& (8191 : Int32)).toInt64)), .second, .val (.long ((p6 &&& (8191 : Int32)).toInt64)), .second, .val (.ref b1), .val (.int (1 : Int32)), .val (.int (0 : Int32)), .val (.int (0 : Int32))] [])) _
        refine XS.iconst X55.here hx rfl (hb hby at_156) ?_
        exact kt
      show own_End p e below s (T55.setTop (mkF m 157 #[.val (.long q1), .second, .val (.long q2), .second, .val (.long q3), .second, .val (.long q4), .second, .val (.int p5), .val (.int p6), .val (.long ((p5 &&& (8191 : Int32)).toInt64)), .second, .val (.long ((p6 &&& (8191 : Int32)).toInt64)), .second, .val (.ref b1), .val (.int (1 : Int32)), .val (.int (0 : Int32)), .val (.int (0 : Int32))] [(.int (0 : Int32))])) (Q0 Z q1 q2 q3 q4 p5 p6 h0 n0) room_1.cells room_1.slots
      have hv : (own_law q1 q2 q3 q4 p5 p6) = (0 : Int32) := hj.trans (by simp only [own_law, if_neg hc94_40, if_neg hc127_56])
      obtain ⟨fs, hr, hrun, hended, hW, hsame⟩ := X55.leave (v := some (.int (0 : Int32))) (fun h => by rw [Bd.returns] at h; cases h)
      refine ⟨_, _, ?_, hrun, hended, _, _, rfl, ?_, ⟨_, rfl⟩, hW, hsame.mono (by decide) (by decide)⟩
      · exact retN X55 hx (t := .boolean) Bd.returns (by simp) (hb hby at_157) hr
      · show Q0 Z q1 q2 q3 q4 p5 p6 h0 n0 _ T55.heap _
        rw [e55]
        exact ⟨(congrArg (fun z => some (Value.int z)) hv.symm), N55⟩
theorem own_true (idle t s n : Int64) (b1 b2 : Int32) : own_law idle t s n b1 b2 = 1 := by
  have km : (8192 : Int64).toInt = 8192 := by decide
  have k0 : (0 : Int64).toInt = 0 := by decide
  have e1 : (b2 &&& (8191 : Int32)).toInt = b2.toInt % (2 ^ 13 : Nat) := c_mask b2 8191 13 (by decide) (by decide)
  have e2 := c_i2l (b2 &&& (8191 : Int32))
  have a1 := c_ladd 0 ((b2 &&& (8191 : Int32)).toInt64)
  have r1 := rng64 (0 + (b2 &&& (8191 : Int32)).toInt64)
  have a2 := c_lsub 8192 ((b2 &&& (8191 : Int32)).toInt64)
  have r2 := rng64 (8192 - (b2 &&& (8191 : Int32)).toInt64)
  have a3 := c_ladd (0 + (b2 &&& (8191 : Int32)).toInt64) (8192 - (b2 &&& (8191 : Int32)).toInt64)
  have r3 := rng64 ((0 + (b2 &&& (8191 : Int32)).toInt64) + (8192 - (b2 &&& (8191 : Int32)).toInt64))
  have h1 : ((0 : Int64) + ((b2 &&& (8191 : Int32)).toInt64)) < (8192 : Int64) := Int64.lt_iff_toInt_lt.mpr (by omega)
  have h2 : ¬ (((0 : Int64) + ((b2 &&& (8191 : Int32)).toInt64)) + ((8192 : Int64) - ((b2 &&& (8191 : Int32)).toInt64))) < (8192 : Int64) := fun q => by have := Int64.lt_iff_toInt_lt.mp q; omega
  simp only [own_law, if_pos h1, if_neg h2, if_true]
set_option maxRecDepth 65536 in
set_option maxHeartbeats 40000000 in
theorem comes_1 {Post : Tables → Env → Array Value → State → Outcome → State → Prop} (hpost : ∀ tb e args s v u, (limb_1_1.after args s (.returned v) u = true ∧ limb_1_2.after args s (.returned v) u = true ∧ True) → FrameEnd s (.returned v) u (Jvm.fieldLocs frame_1_writes args s ++ Jvm.arrayLocs frame_1_arrays args s ++ Jvm.staticLocs frame_1_statics s) 16 128 → Post tb e args s (.returned v) u) :
    ArmFor flags0 classFile x code maxLocals ret World_1 tables_1 room_1 Calls_1 rest_1 Pre_1 Post := by
  intro l hfl _ _ p e ha hc hk s m args below hf hA hF happ hP
  obtain ⟨hcalls, hrest, hpre⟩ := hP
  obtain ⟨-, -, -, hnamed, -, -, -, hat⟩ := (Spec.applies_iff hf).mp happ
  obtain ⟨hg, hn⟩ := and_e (Cond.before_iff.mp (show (Jvm.Cond.and given_1 narrow_1).before args s = true from hpre))
  obtain ⟨g1, g2⟩ := and_e hg
  obtain ⟨g3, g4⟩ := and_e g2
  obtain ⟨g5, g6⟩ := and_e g4
  obtain ⟨g7, g8⟩ := and_e g6
  obtain ⟨g9, g10⟩ := and_e g8
  obtain ⟨g11, g12⟩ := and_e g10
  obtain ⟨w0, w1, w2, w3, w4, w5, rfl⟩ : ∃ w0 w1 w2 w3 w4 w5 : Value, args = #[w0, w1, w2, w3, w4, w5] := by
    have hs : args.size = 6 := by simpa [Cond.value, given_1] using g1
    obtain ⟨L⟩ := args
    match L, hs with
    | [w0, w1, w2, w3, w4, w5], _ => exact ⟨w0, w1, w2, w3, w4, w5, rfl⟩
  have hw := fun d (hd : d ∈ tables_1) => atoms_spec (ws := Jvm.Cond.code x code maxLocals ret :: tables_1) hat d (List.mem_cons_of_mem _ hd)
  have hfit : Fit s := fun {y c} hc i hi => by
    obtain ⟨ha, rfl⟩ := Array.getElem?_eq_some_iff.mp hc
    have q := List.all_eq_true.mp ((Array.all_eq_true_iff_forall_mem.mp hF) _ (Array.getElem_mem ha)) i (List.mem_range.mpr hi)
    simpa [Array.getElem?_eq_getElem hi] using q
  obtain ⟨i0, ei0⟩ := isL_v g3
  obtain rfl : w0 = (.long i0) := Option.some.inj ei0
  obtain ⟨i1, ei1⟩ := isL_v g5
  obtain rfl : w1 = (.long i1) := Option.some.inj ei1
  obtain ⟨i2, ei2⟩ := isL_v g7
  obtain rfl : w2 = (.long i2) := Option.some.inj ei2
  obtain ⟨i3, ei3⟩ := isL_v g9
  obtain rfl : w3 = (.long i3) := Option.some.inj ei3
  obtain ⟨i4, ei4⟩ := is_v g11
  obtain rfl : w4 = (.int i4) := Option.some.inj ei4
  obtain ⟨i5, ei5⟩ := is_v g12
  obtain rfl : w5 = (.int i5) := Option.some.inj ei5
  obtain ⟨n, o, h1, h2, h3, _, L, rfl, ⟨rfl, N⟩, hq⟩ := rm0 l s _ hw tables_1 i0 i1 i2 i3 i4 i5 s.heap s.heap.size (Nat.le_refl _)  p e ha hc hk s m _ below hf ((Spec.applies_iff_loose hf).mp happ).1 ⟨rfl, State.Warmed39.refl s, rfl⟩ trivial
  refine ⟨n, _, h1, h2, h3, hpost _ _ _ _ _ _ ⟨Cond.after_iff.mpr rfl, Cond.after_iff.mpr (eq_i res_at (Term.int_eval (1)) (congrArg Value.int (own_true i0 i1 i2 i3 i4 i5))), trivial⟩ ⟨hq.1, hq.2.1, (hq.2.2.sift fun y hy => Or.inr (N y hy)).mono (by decide) (by decide)⟩⟩
theorem main_1_1 : Claimed_1_1 := comes_1 fun _ _ _ _ _ _ h hF => ⟨h.1, hF⟩
theorem main_1_2 : Claimed_1_2 := comes_1 fun _ _ _ _ _ _ h hF => ⟨h.2.1, hF⟩
end Jvm.Pilot.@@N@@
namespace Jvm.Pilot.@@N@@
open Jvm Jvm.ClassFile Sem Op Lib Jvm.Free Jvm.Stand Jvm.Pilot.@@N@@.Jvm.D
/-! MADE BY PROGRAM (witnessworld.py) out of the Statement's table words and the real class files: 9 classes; the members and pool entries that the words name. The judged class is class 1, her method 1. -/
namespace start1
open Jvm.ClassFile
def u (s : String) : CpInfo := .utf8 (stringToUtf16 s)
/-- a pool by its gaps: so many unusable entries, then the entry; so many at the end -/
def gap : Nat → List CpInfo → List CpInfo
  | 0, r => r
  | n + 1, r => .unusable :: gap n r
def poolList (es : List (Nat × CpInfo)) (last : Nat) : List CpInfo := es.foldr (fun e r => gap e.1 (e.2 :: r)) (gap last [])
def pool (es : List (Nat × CpInfo)) (last : Nat) : Array CpInfo := ⟨poolList es last⟩
def fileOf (pool : Array CpInfo) (this : Nat) (attrs : Array Attribute := #[]) (ms : Array MethodInfo := #[]) (fl : Nat := 33) (sup : Nat := 0) (ifs : Array Nat := #[]) (fds : Array FieldInfo := #[]) : ClassFile where
  minorVersion := 0
  majorVersion := 65
  constantPool := pool
  accessFlags := fl
  thisClass := this
  superClass := sup
  interfaces := ifs
  fields := fds
  methods := ms
  attributes := attrs
def plain (name : String) (sup : Option ClassId) : Class where
  name := name
  kind := .ordinary
  loader := none
  accessFlags := 33
  super := sup
  interfaces := #[]
  cf := none
  fields := #[]
  methods := #[]
  instanceTypes := #[]
  staticTypes := #[]
  resolved := #[]
  callSites := []
  init := .initialized
  statics := none
  mirror := none

def pool0 : Array CpInfo := pool [(5, u "<init>"), (0, u "()V"), (1, .class_ 10), (1, u "java/lang/Object")] 113

def k0c0 : Code := { maxStack := 0, maxLocals := 1, code := object_method_1_code, exceptionTable := #[], attributes := #[] }
def k0m0 : Method := { name := "<init>", desc := "()V", sig := { parameters := [], returnType := none }, accessFlags := 1, code := some k0c0 }
/-- java/lang/Object -/
def k0 : Class := { plain "java/lang/Object" none with
  accessFlags := 33
  interfaces := #[]
  cf := some (fileOf pool0 8 #[] #[{ accessFlags := 1, nameIndex := 5, descriptorIndex := 6, attributes := #[] }] 33 0 #[] #[])
  fields := #[]
  methods := #[k0m0]
  instanceTypes := #[]
  staticTypes := #[]
  resolved := Array.replicate 124 none
  statics := none }

def pool1 : Array CpInfo := pool [(2, .class_ 4), (1, u "java/lang/Object"), (0, u "<init>"), (0, u "()V"), (0, .class_ 8), (0, u "com/example/door3/door3/transport/LeastRate"), (0, .methodref 7 10), (0, .nameAndType 5 11), (0, u "(J)V"), (0, .methodref 7 13), (0, .nameAndType 14 11), (0, u "stopWaiting"), (0, .methodref 7 16), (0, .nameAndType 17 18), (0, u "moved"), (0, u "(JJ)V"), (0, .methodref 7 20), (0, .nameAndType 21 6), (0, u "restart"), (0, .methodref 7 23), (0, .nameAndType 24 11), (0, u "startWaiting"), (0, .methodref 7 26), (0, .nameAndType 27 28), (0, u "deadline"), (0, u "()J"), (0, .long 8192), (1, .class_ 32), (0, u "com/example/door3/door3/transport/LeastRateRestartPinLaw"), (2, u "law"), (0, u "(JJJJII)Z")] 3

def k1m0 : Method := { name := "<init>", desc := "()V", sig := { parameters := [], returnType := none }, accessFlags := 1, code := none }
def k1c1 : Code := { maxStack := 6, maxLocals := 18, code := code, exceptionTable := #[], attributes := #[] }
def k1m1 : Method := { name := "law", desc := "(JJJJII)Z", sig := { parameters := [.long, .long, .long, .long, .int, .int], returnType := some .boolean }, accessFlags := 9, code := some k1c1 }
/-- com/example/door3/door3/transport/LeastRateRestartPinLaw -/
def k1 : Class := { plain "com/example/door3/door3/transport/LeastRateRestartPinLaw" (some 0) with
  accessFlags := 49
  interfaces := #[]
  cf := some (fileOf pool1 31 #[] #[{ accessFlags := 1, nameIndex := 5, descriptorIndex := 6, attributes := #[] }, { accessFlags := 9, nameIndex := 35, descriptorIndex := 36, attributes := #[] }] 49 2 #[] #[])
  fields := #[]
  methods := #[k1m0, k1m1]
  instanceTypes := #[]
  staticTypes := #[]
  resolved := Array.replicate 40 none
  statics := none }

def pool2 : Array CpInfo := pool [(1, .methodref 2 3), (0, .class_ 4), (0, .nameAndType 5 6), (0, u "java/lang/Object"), (0, u "<init>"), (0, u "()V"), (0, .fieldref 8 9), (0, .class_ 10), (0, .nameAndType 11 12), (0, u "com/example/door3/door3/transport/LeastRate"), (0, u "idleNanos"), (0, u "J"), (0, .fieldref 8 14), (0, .nameAndType 15 12), (0, u "left"), (0, .fieldref 8 17), (0, .nameAndType 18 12), (0, u "moved"), (0, .fieldref 8 20), (0, .nameAndType 21 12), (0, u "since"), (0, .long 8192), (1, .methodref 8 25), (0, .nameAndType 26 6), (0, u "restart"), (0, u "SLICE"), (0, u "I"), (2, u "(J)V"), (2, u "startWaiting"), (0, u "stopWaiting"), (0, u "(JJ)V"), (1, u "deadline"), (0, u "()J")] 2

def k2c0 : Code := { maxStack := 3, maxLocals := 3, code := prog_33_method_1_code, exceptionTable := #[], attributes := #[] }
def k2m0 : Method := { name := "<init>", desc := "(J)V", sig := { parameters := [.long], returnType := none }, accessFlags := 0, code := some k2c0 }
def k2c1 : Code := { maxStack := 3, maxLocals := 1, code := prog_33_method_2_code, exceptionTable := #[], attributes := #[] }
def k2m1 : Method := { name := "restart", desc := "()V", sig := { parameters := [], returnType := none }, accessFlags := 0, code := some k2c1 }
def k2c2 : Code := { maxStack := 3, maxLocals := 3, code := prog_33_method_3_code, exceptionTable := #[], attributes := #[] }
def k2m2 : Method := { name := "startWaiting", desc := "(J)V", sig := { parameters := [.long], returnType := none }, accessFlags := 0, code := some k2c2 }
def k2c3 : Code := { maxStack := 7, maxLocals := 3, code := prog_33_method_4_code, exceptionTable := #[], attributes := #[] }
def k2m3 : Method := { name := "stopWaiting", desc := "(J)V", sig := { parameters := [.long], returnType := none }, accessFlags := 0, code := some k2c3 }
def k2c4 : Code := { maxStack := 5, maxLocals := 5, code := prog_33_method_5_code, exceptionTable := #[], attributes := #[] }
def k2m4 : Method := { name := "moved", desc := "(JJ)V", sig := { parameters := [.long, .long], returnType := none }, accessFlags := 0, code := some k2c4 }
def k2c5 : Code := { maxStack := 4, maxLocals := 1, code := prog_33_method_6_code, exceptionTable := #[], attributes := #[] }
def k2m5 : Method := { name := "deadline", desc := "()J", sig := { parameters := [], returnType := some .long }, accessFlags := 0, code := some k2c5 }
/-- com/example/door3/door3/transport/LeastRate -/
def k2 : Class := { plain "com/example/door3/door3/transport/LeastRate" (some 0) with
  accessFlags := 32
  interfaces := #[]
  cf := some (fileOf pool2 8 #[] #[{ accessFlags := 0, nameIndex := 5, descriptorIndex := 31, attributes := #[] }, { accessFlags := 0, nameIndex := 26, descriptorIndex := 6, attributes := #[] }, { accessFlags := 0, nameIndex := 34, descriptorIndex := 31, attributes := #[] }, { accessFlags := 0, nameIndex := 35, descriptorIndex := 31, attributes := #[] }, { accessFlags := 0, nameIndex := 18, descriptorIndex := 36, attributes := #[] }, { accessFlags := 0, nameIndex := 38, descriptorIndex := 39, attributes := #[] }] 32 2 #[] #[{ accessFlags := 24, nameIndex := 27, descriptorIndex := 28, attributes := #[] }, { accessFlags := 18, nameIndex := 11, descriptorIndex := 12, attributes := #[] }, { accessFlags := 2, nameIndex := 15, descriptorIndex := 12, attributes := #[] }, { accessFlags := 2, nameIndex := 21, descriptorIndex := 12, attributes := #[] }, { accessFlags := 2, nameIndex := 18, descriptorIndex := 12, attributes := #[] }])
  fields := #[{ name := "SLICE", type := .int, accessFlags := 24, slot := 0, constantValue := 0 }, { name := "idleNanos", type := .long, accessFlags := 18, slot := 0, constantValue := 0 }, { name := "left", type := .long, accessFlags := 2, slot := 1, constantValue := 0 }, { name := "since", type := .long, accessFlags := 2, slot := 2, constantValue := 0 }, { name := "moved", type := .long, accessFlags := 2, slot := 3, constantValue := 0 }]
  methods := #[k2m0, k2m1, k2m2, k2m3, k2m4, k2m5]
  instanceTypes := #[.long, .long, .long, .long]
  staticTypes := #[.int]
  resolved := Array.replicate 42 none
  statics := none }

def pool3 : Array CpInfo := pool [(1, u "java/lang/Cloneable"), (0, .class_ 1), (0, u "java/lang/Object"), (0, .class_ 3)] 3

/-- java/lang/Cloneable -/
def k3 : Class := { plain "java/lang/Cloneable" (some 0) with
  accessFlags := 1537
  interfaces := #[]
  cf := some (fileOf pool3 2 #[] #[] 1537 4 #[] #[])
  fields := #[]
  methods := #[]
  instanceTypes := #[]
  staticTypes := #[]
  resolved := Array.replicate 8 none
  statics := none }

def pool4 : Array CpInfo := pool [(1, u "java/io/Serializable"), (0, .class_ 1), (0, u "java/lang/Object"), (0, .class_ 3)] 3

/-- java/io/Serializable -/
def k4 : Class := { plain "java/io/Serializable" (some 0) with
  accessFlags := 1537
  interfaces := #[]
  cf := some (fileOf pool4 2 #[] #[] 1537 4 #[] #[])
  fields := #[]
  methods := #[]
  instanceTypes := #[]
  staticTypes := #[]
  resolved := Array.replicate 8 none
  statics := none }

/-- the primitive byte -/
def k5 : Class := { plain "byte" none with kind := .primitive 'B', accessFlags := 0x411 }
/-- [B -/
def k6 : Class := { plain "[B" (some 0) with kind := .array 5 .byte, interfaces := #[3, 4], accessFlags := 1041 }

/-- the primitive int -/
def k7 : Class := { plain "int" none with kind := .primitive 'I', accessFlags := 0x411 }
/-- [I -/
def k8 : Class := { plain "[I" (some 0) with kind := .array 7 .int, interfaces := #[3, 4], accessFlags := 1041 }

def heap : Heap := #[]
def classes : Array Class := #[k0, k1, k2, k3, k4, k5, k6, k7, k8]
def interned : List (Array UInt16 × Addr) := []
def slotsUsed : Nat := 0
def theMethod : MethodId := ⟨1, 1⟩
def args0 : Array Value := #[.long 5, .long 9, .long 3, .long 4, .int 7, .int 8]
def aboutOver (below : List Frame) : State where
  vm := { classes := classes, interned := interned.toArray }
  heap := heap
  slotsUsed := slotsUsed
  threads := #[{ frames := .invoking theMethod args0 :: below }]
def below0 : List Frame := [.native { method := ⟨0, 0⟩, args := #[] }]
def about1 : State := aboutOver below0
def p0 : Program := .bare "" "" ""
def e0 : Env := launch0.env 0 0 0
theorem w_frames : about1.frames = Frame.invoking theMethod args0 :: below0 := rfl
set_option maxRecDepth 65536 in
theorem w_args : argsFit about1.vm theMethod args0 = true := by decide +kernel
set_option maxRecDepth 65536 in
theorem w_heap : heapFits about1 = true := by decide +kernel
set_option maxRecDepth 65536 in
theorem w_runnable : about1.curStatus? = some .runnable := by decide +kernel
set_option maxRecDepth 65536 in
theorem w_alone : about1.alone = true := by decide +kernel
set_option maxRecDepth 65536 in
theorem w_named : about1.methodNamed? x = some theMethod := by decide +kernel
set_option maxRecDepth 65536 in
theorem w_hears : about1.hears theMethod below0 = true := by decide +kernel
set_option maxRecDepth 65536 in
theorem w_ripe : about1.ripe theMethod args0 below0 = true := by decide +kernel
theorem w_running : about1.status = .running := rfl
set_option maxRecDepth 65536 in
theorem w_room : about1.hasRoom e0.platform room_1 = true :=
  launch0.hasRoom_least _ room_1 (by decide +kernel) (by decide +kernel) (by decide +kernel) (by decide +kernel) (by decide +kernel) (by decide +kernel)
theorem allAtoms_all (ts : List Jvm.Cond) (a : Array Jvm.Value) (st : Jvm.State) : (allAtoms ts).before a st = ts.all (fun c => c.before a st) := by
  induction ts with
  | nil => rfl
  | cons c t ih =>
    show (Jvm.Cond.and c (allAtoms t)).before a st = _
    rw [Jvm.Cond.before_and, ih, List.all_cons]
def words1 : List Jvm.Cond := Jvm.Cond.code x code maxLocals ret :: tables_1
/-- a 'code' word, met by the world's own term for the bytes: nothing is compared byte by byte -/
theorem code_word {y : MethodName} {bytes : ByteArray} {mx : Nat} {rt : Option FieldType} {a : Array Value} {s : State} {m : MethodId} {meth : Method} {c : Code} (h1 : s.methodNamed? y = some m) (h2 : s.vm.method? m = some meth) (h3 : meth.code = some c) (h4 : c.code = bytes)
    (h5 : (c.maxLocals == mx && c.exceptionTable.isEmpty && decide (c.maxStack ≤ mostOperands) && decide (meth.sig.returnType = rt) && !meth.locks && decide (parseMethodDescriptor y.desc = some meth.sig)) = true) : (Jvm.Cond.code y bytes mx rt).before a s = true := by
  simp only [Bool.and_eq_true, beq_iff_eq, Bool.not_eq_true', decide_eq_true_eq] at h5
  obtain ⟨⟨⟨⟨⟨g1, g2⟩, g3⟩, g4⟩, g5⟩, g6⟩ := h5
  simp [Cond.before, Cond.holds, Cond.value, h1, h2, h3, h4, g1, g2, g3, g4, g5, g6]
def isCode : Jvm.Cond → Bool
  | .code _ _ _ _ => true
  | _ => false
theorem all_split {L : List Jvm.Cond} {P : Jvm.Cond → Bool} (h1 : L.all (fun c => isCode c || P c) = true) (h2 : ∀ c ∈ L.filter isCode, P c = true) : L.all P = true := by
  refine List.all_eq_true.mpr fun c hc => ?_
  have h := List.all_eq_true.mp h1 c hc
  rcases Bool.eq_false_or_eq_true (isCode c) with hi | hi
  · exact h2 c (List.mem_filter.mpr ⟨hc, hi⟩)
  · simpa [hi] using h
set_option maxRecDepth 65536 in
theorem w_c0 : (Jvm.Cond.code x code maxLocals ret).before args0 about1 = true := code_word (m := ⟨1, 1⟩) (meth := k1m1) (c := k1c1) (by decide +kernel) rfl rfl rfl (by decide +kernel)
set_option maxRecDepth 65536 in
theorem w_c1 : (Jvm.Cond.code ({ cls := "com/example/door3/door3/transport/LeastRate", name := "<init>", desc := "(J)V" } : Jvm.MethodName) prog_33_method_1_code (3 : Nat) (Option.none : Option Jvm.ClassFile.FieldType)).before args0 about1 = true := code_word (m := ⟨2, 0⟩) (meth := k2m0) (c := k2c0) (by decide +kernel) rfl rfl rfl (by decide +kernel)
set_option maxRecDepth 65536 in
theorem w_c2 : (Jvm.Cond.code ({ cls := "java/lang/Object", name := "<init>", desc := "()V" } : Jvm.MethodName) object_method_1_code (1 : Nat) (Option.none : Option Jvm.ClassFile.FieldType)).before args0 about1 = true := code_word (m := ⟨0, 0⟩) (meth := k0m0) (c := k0c0) (by decide +kernel) rfl rfl rfl (by decide +kernel)
set_option maxRecDepth 65536 in
theorem w_c3 : (Jvm.Cond.code ({ cls := "com/example/door3/door3/transport/LeastRate", name := "stopWaiting", desc := "(J)V" } : Jvm.MethodName) prog_33_method_4_code (3 : Nat) (Option.none : Option Jvm.ClassFile.FieldType)).before args0 about1 = true := code_word (m := ⟨2, 3⟩) (meth := k2m3) (c := k2c3) (by decide +kernel) rfl rfl rfl (by decide +kernel)
set_option maxRecDepth 65536 in
theorem w_c4 : (Jvm.Cond.code ({ cls := "com/example/door3/door3/transport/LeastRate", name := "moved", desc := "(JJ)V" } : Jvm.MethodName) prog_33_method_5_code (5 : Nat) (Option.none : Option Jvm.ClassFile.FieldType)).before args0 about1 = true := code_word (m := ⟨2, 4⟩) (meth := k2m4) (c := k2c4) (by decide +kernel) rfl rfl rfl (by decide +kernel)
set_option maxRecDepth 65536 in
theorem w_c5 : (Jvm.Cond.code ({ cls := "com/example/door3/door3/transport/LeastRate", name := "restart", desc := "()V" } : Jvm.MethodName) prog_33_method_2_code (1 : Nat) (Option.none : Option Jvm.ClassFile.FieldType)).before args0 about1 = true := code_word (m := ⟨2, 1⟩) (meth := k2m1) (c := k2c1) (by decide +kernel) rfl rfl rfl (by decide +kernel)
set_option maxRecDepth 65536 in
theorem w_c6 : (Jvm.Cond.code ({ cls := "com/example/door3/door3/transport/LeastRate", name := "startWaiting", desc := "(J)V" } : Jvm.MethodName) prog_33_method_3_code (3 : Nat) (Option.none : Option Jvm.ClassFile.FieldType)).before args0 about1 = true := code_word (m := ⟨2, 2⟩) (meth := k2m2) (c := k2c2) (by decide +kernel) rfl rfl rfl (by decide +kernel)
set_option maxRecDepth 65536 in
theorem w_c7 : (Jvm.Cond.code ({ cls := "com/example/door3/door3/transport/LeastRate", name := "deadline", desc := "()J" } : Jvm.MethodName) prog_33_method_6_code (1 : Nat) (Option.some Jvm.ClassFile.FieldType.long)).before args0 about1 = true := code_word (m := ⟨2, 5⟩) (meth := k2m5) (c := k2c5) (by decide +kernel) rfl rfl rfl (by decide +kernel)
def codes1 : List Jvm.Cond := [Jvm.Cond.code x code maxLocals ret, Jvm.Cond.code ({ cls := "com/example/door3/door3/transport/LeastRate", name := "<init>", desc := "(J)V" } : Jvm.MethodName) prog_33_method_1_code (3 : Nat) (Option.none : Option Jvm.ClassFile.FieldType), Jvm.Cond.code ({ cls := "java/lang/Object", name := "<init>", desc := "()V" } : Jvm.MethodName) object_method_1_code (1 : Nat) (Option.none : Option Jvm.ClassFile.FieldType), Jvm.Cond.code ({ cls := "com/example/door3/door3/transport/LeastRate", name := "stopWaiting", desc := "(J)V" } : Jvm.MethodName) prog_33_method_4_code (3 : Nat) (Option.none : Option Jvm.ClassFile.FieldType), Jvm.Cond.code ({ cls := "com/example/door3/door3/transport/LeastRate", name := "moved", desc := "(JJ)V" } : Jvm.MethodName) prog_33_method_5_code (5 : Nat) (Option.none : Option Jvm.ClassFile.FieldType), Jvm.Cond.code ({ cls := "com/example/door3/door3/transport/LeastRate", name := "restart", desc := "()V" } : Jvm.MethodName) prog_33_method_2_code (1 : Nat) (Option.none : Option Jvm.ClassFile.FieldType), Jvm.Cond.code ({ cls := "com/example/door3/door3/transport/LeastRate", name := "startWaiting", desc := "(J)V" } : Jvm.MethodName) prog_33_method_3_code (3 : Nat) (Option.none : Option Jvm.ClassFile.FieldType), Jvm.Cond.code ({ cls := "com/example/door3/door3/transport/LeastRate", name := "deadline", desc := "()J" } : Jvm.MethodName) prog_33_method_6_code (1 : Nat) (Option.some Jvm.ClassFile.FieldType.long)]
set_option maxRecDepth 65536 in
theorem codes_eq : words1.filter isCode = codes1 := rfl
theorem w_codes : ∀ c ∈ words1.filter isCode, c.before args0 about1 = true := by
  rw [codes_eq]
  intro c hc
  simp only [codes1, List.mem_cons, List.not_mem_nil, or_false] at hc
  rcases hc with rfl | rfl | rfl | rfl | rfl | rfl | rfl | rfl
  · exact w_c0
  · exact w_c1
  · exact w_c2
  · exact w_c3
  · exact w_c4
  · exact w_c5
  · exact w_c6
  · exact w_c7
set_option maxRecDepth 65536 in
theorem w_t1 : (words1.take 24).all (fun c => isCode c || c.before args0 about1) = true := by decide +kernel
set_option maxRecDepth 65536 in
theorem w_t2 : (words1.drop 24).all (fun c => isCode c || c.before args0 about1) = true := by decide +kernel
theorem w_tables : (allAtoms (Jvm.Cond.code x code maxLocals ret :: tables_1)).before args0 about1 = true := by
  rw [allAtoms_all]
  show words1.all (fun c => c.before args0 about1) = true
  refine all_split ?_ w_codes
  rw [← List.take_append_drop 24 words1, List.all_append, w_t1, w_t2]
  rfl
set_option maxRecDepth 65536 in
theorem w_case : (Jvm.Cond.and given_1 narrow_1).before args0 about1 = true := by decide +kernel
theorem w_applies : (headSpec (Jvm.Cond.code x code maxLocals ret :: tables_1) room_1).applies x e0.platform about1 = true :=
  (Spec.applies_iff w_frames).mpr ⟨w_running, w_runnable, w_alone, w_named, w_hears, w_ripe, w_room, w_tables⟩
theorem atStart : AtStart classFile x code maxLocals ret World_1 tables_1 room_1 Calls_1 rest_1 Pre_1 launch0 p0 e0 about1 theMethod args0 below0 :=
  ⟨lists_1, trivial, launch0.admits_env _ _ _, launch0.least_env, fairChoices_fair.cas, fairChoices_fair.clock, w_frames, w_args, w_heap, w_applies, trivial, trivial, w_case⟩
end start1
theorem witness_1 : WitnessClaimed_1 := ⟨start1.p0, start1.e0, start1.about1, start1.theMethod, start1.args0, start1.below0, start1.atStart⟩
end Jvm.Pilot.@@N@@
