import JvmDerived
import JvmDerived.Pilot.@@N@@Statement
import JvmDerived.Pilot.@@N@@Code
set_option linter.unusedVariables false
set_option linter.unusedSimpArgs false
namespace Jvm.RoadKit
open Sem ClassFile Op Lib Jvm.Stand Jvm.Free Jvm.LawKit
section New
variable {p : Program} {l : Launch} {e : Env} {R : Room} {s : State} {m : MethodId} {args : Array Value} {below : List Frame} {meth : Method} {c : Code} {T : State} {locs : List Loc} {cells slots : Nat}
theorem retI (X : Stand p l e R s m args below meth c T locs cells slots) (hx : p.tables.exec = Jvm.exec) {pc : Nat} {Ls : Array Slot} {z : Int32} {rest : List Value} (hret : meth.sig.returnType = some .int) (hd : decode c.code pc = .ok (.ireturn, 1)) {fs : List Frame}
    (hl : ∀ (f : JFrame) (acts : List Action), f.method = m → f.locked = none → f.entered = [] → (doReturn e (T.setTop f) acts (some (.int z))).1 = T.setFrames fs) : Steps p.tables e below (T.setTop (mkF m pc Ls (.int z :: rest))) (T.setFrames fs) := by
  have hm' : T.vm.method? m = some meth := X.method'
  have hn : narrow .int (.int z) = .int z := rfl
  show Steps p.tables e below (T.setTop { method := m, pc := pc, locals := Ls, stack := _ :: rest, locked := none }) _
  jvm_step X.here [X.here.top, hx, hd, hm', hret, hn]
  first | (intro acts; rw [hl _ acts rfl rfl rfl]) | rw [hl _ _ rfl rfl rfl]
  exact Steps.refl _
end New
/-- the run from the state A ends as asked: what is left of the goal while one walks -/
def own_End (p : Program) (e : Env) (below : List Frame) (s A : State) (W : Option Value → Heap → List Loc → Prop) (k n : Nat) : Prop :=
  ∃ s₂ o, Steps p.tables e below A s₂ ∧ s₂.status = .running ∧ Ended s₂ below o ∧ ∃ v L, o = .returned v ∧ W v s₂.heap L ∧ FrameEnd s o s₂ L k n
theorem own_pre {p : Program} {e : Env} {below : List Frame} {s A B : State} {W : Option Value → Heap → List Loc → Prop} {k n : Nat} (f : ∀ t, Steps p.tables e below A t → Steps p.tables e below B t) (h : own_End p e below s A W k n) : own_End p e below s B W k n := by
  obtain ⟨s₂, o, h1, h2⟩ := h; exact ⟨s₂, o, f _ h1, h2⟩
end Jvm.RoadKit
namespace Jvm.Pilot.@@N@@
open Jvm Jvm.ClassFile Sem Op Lib Jvm.Free Jvm.Stand Jvm.LawKit Jvm.RoadKit Bundle Jvm.Pilot.@@N@@.Jvm.D
def own_Obj (Z : State) (h : Heap) (a : Addr) (v0 : Int64) (v1 : Int64) (v2 : Int64) : Prop := Exa Z h a "com/example/door3/door3/transport/LeastRate" ∧ Fld Z h a "com/example/door3/door3/transport/LeastRate" "idleNanos" "J" (.long v0) ∧ Fld Z h a "com/example/door3/door3/transport/LeastRate" "left" "J" (.long v1) ∧ Fld Z h a "com/example/door3/door3/transport/LeastRate" "since" "J" (.long v2)
theorem d1_0 : decode prog_33_method_1_code 0 = .ok (.aload_n 0, 1) := by decide +kernel
theorem d1_1 : decode prog_33_method_1_code 1 = .ok (.invokespecial 1, 3) := by decide +kernel
theorem d1_4 : decode prog_33_method_1_code 4 = .ok (.aload_n 0, 1) := by decide +kernel
theorem d1_5 : decode prog_33_method_1_code 5 = .ok (.lload_n 1, 1) := by decide +kernel
theorem d1_6 : decode prog_33_method_1_code 6 = .ok (.putfield 7, 3) := by decide +kernel
theorem d1_9 : decode prog_33_method_1_code 9 = .ok (.aload_n 0, 1) := by decide +kernel
theorem d1_10 : decode prog_33_method_1_code 10 = .ok (.lload_n 1, 1) := by decide +kernel
theorem d1_11 : decode prog_33_method_1_code 11 = .ok (.putfield 13, 3) := by decide +kernel
theorem d1_14 : decode prog_33_method_1_code 14 = .ok (.return_, 1) := by decide +kernel
theorem pn_1 : plainName "com/example/door3/door3/transport/LeastRate" = true := by first | (simp [plainName, overriddenIn]; done) | decide +kernel
theorem ef_1 (m : MethodId) (x0 : Addr) (x1 : Int64) : entryFrame m #[(.ref x0), (.long x1)] 3 = mkF m 0 #[.val (.ref x0), .val (.long x1), .second] [] := by first | (simp [entryFrame, mkF, argsToLocals, Value.category]; done) | rfl
def Q1 (Z : State) (a1 : Addr) (q2 : Int64) (vi : Int64) (vl : Int64) (vs : Int64) (h0 : Heap) (n0 : Nat) (v : Option Value) (h : Heap) (L : List Loc) : Prop := v = none ∧ Fr n0 L ∧ Keep h0 h [a1] ∧ own_Obj Z h a1 q2 q2 vs
set_option maxRecDepth 65536 in
set_option maxHeartbeats 40000000 in
theorem rm1 (l : Launch) (Z : State) (a0 : Array Value) (hw : ∀ d ∈ tables_1, d.before a0 Z = true) (ws : List Jvm.Cond) (a1 : Addr) (q2 : Int64) (vi : Int64) (vl : Int64) (vs : Int64) (h0 : Heap) (n0 : Nat) (Z0 : n0 ≤ h0.size) (O_a1 : own_Obj Z h0 a1 vi vl vs) (g_a1 : n0 ≤ a1) :
    MetFree l (⟨"com/example/door3/door3/transport/LeastRate", "<init>", "(J)V"⟩ : MethodName) (head1 (Jvm.Cond.code (⟨"com/example/door3/door3/transport/LeastRate", "<init>", "(J)V"⟩ : MethodName) prog_33_method_1_code 3 none :: ws) ({ frames := 1, cells := 0, slots := 0, locals := 12 } : Room)) (fun a U => a = #[(.ref a1), (.long q2)] ∧ Z.Warmed39 U.vm ∧ U.heap = h0) (fun _ _ _ _ _ => True) (fun _ U o U' => ∃ v L, o = .returned v ∧ Q1 Z a1 q2 vi vl vs h0 n0 v U'.heap L ∧ FrameEnd U o U' L ({ frames := 1, cells := 0, slots := 0, locals := 12 } : Room).cells ({ frames := 1, cells := 0, slots := 0, locals := 12 } : Room).slots) := by
  refine MetFree.of_bodySF (plainFor_of_name pn_1) hisR ?_
  intro p e s m args below meth c s₁ Bd hml0 hP hK
  obtain ⟨rfl, hZ, hh⟩ := hP
  have hx := Bd.exec
  have hby := Bd.bytes
  have hml : c.maxLocals = 3 := hml0
  have hown : s.vm.findClass "com/example/door3/door3/transport/LeastRate" = some m.cls := findClass_of_methodNamed Bd.named
  have hnm := (name_of_methodNamed Bd.named Bd.method).1
  have X0 : Stand p l e ({ frames := 1, cells := 0, slots := 0, locals := 12 } : Room) s m #[(.ref a1), (.long q2)] below meth c s₁ [] 0 0 := Stand.of_body Bd
  have e0 : s₁.heap = h0 := by rw [← hh, Bd.state]; rfl
  have N0 := Fr.nil n0
  show own_End p e below s (s₁.setTop (entryFrame m #[(.ref a1), (.long q2)] 3)) (Q1 Z a1 q2 vi vl vs h0 n0) ({ frames := 1, cells := 0, slots := 0, locals := 12 } : Room).cells ({ frames := 1, cells := 0, slots := 0, locals := 12 } : Room).slots
  obtain ⟨E_a1_1, F_idleNanos_a1_2, F_left_a1_3, F_since_a1_4⟩ := O_a1
  refine own_pre (A := s₁.setTop (mkF m 0 #[.val (.ref a1), .val (.long q2), .second] [])) (fun tt kt => castTop (ef_1 m a1 q2) kt) ?_
  show own_End p e below s (s₁.setTop (mkF m 0 #[.val (.ref a1), .val (.long q2), .second] [])) (Q1 Z a1 q2 vi vl vs h0 n0) ({ frames := 1, cells := 0, slots := 0, locals := 12 } : Room).cells ({ frames := 1, cells := 0, slots := 0, locals := 12 } : Room).slots
  obtain ⟨T5, X5, e5, st5⟩ := initO X0 hx hZ hown (hw _ (List.mem_of_getElem? (i := 6) rfl)) (hw _ (List.mem_of_getElem? (i := 7) rfl)) (hw _ (List.mem_of_getElem? (i := 8) rfl)) e0 (g := (mkF m 1 #[.val (.ref a1), .val (.long q2), .second] [(.ref a1)])) rfl (by rw [hml]; rfl) rfl (hb hby d1_1) (by decide) (W := 0) (by show 2 * 0 + _ ≤ _; exact Nat.le_of_eq rfl) (by decide)
  obtain ⟨T6, h6, X6, e6, W6, st6⟩ := putF X5 hx hZ hown (host := "") (Or.inl (hw _ (List.mem_of_getElem? (i := 9) rfl))) Via.refl e5 F_idleNanos_a1_2 E_a1_1 (Or.inr ⟨(hw _ (List.mem_of_getElem? (i := 10) rfl)), rfl, hnm⟩) (hw _ (List.mem_of_getElem? (i := 1) rfl)) (ty := .long) (by decide) rfl rfl (g := (mkF m 6 #[.val (.ref a1), .val (.long q2), .second] [(.long q2), (.ref a1)])) rfl rfl (hb hby d1_6)
  have Fw6 := Fld.same W6 F_idleNanos_a1_2
  have fE_a1_x6 := (E_a1_1.wr W6)
  have fF_a1_left_x6 := (Fld.other W6 F_left_a1_3 (Or.inr (slot_ne (Or.inl (hw _ (List.mem_of_getElem? (i := 12) rfl))) (Or.inr (hw _ (List.mem_of_getElem? (i := 10) rfl))) (by decide) (t := .long) (t' := .long) (by decide) (by decide))))
  have fF_a1_since_x6 := (Fld.other W6 F_since_a1_4 (Or.inr (slot_ne (Or.inl (hw _ (List.mem_of_getElem? (i := 19) rfl))) (Or.inr (hw _ (List.mem_of_getElem? (i := 10) rfl))) (by decide) (t := .long) (t' := .long) (by decide) (by decide))))
  have N6 := Fr.snoc X6 N0 g_a1
  have K6 : Keep h0 h6 [a1] := Keep.wr (Keep.refl h0 _) W6 (Or.inl (List.mem_of_getElem? (i := 0) rfl))
  have Z6 : n0 ≤ h6.size := Nat.le_trans Z0 (Nat.le_of_eq W6.size.symm)
  obtain ⟨T7, h7, X7, e7, W7, st7⟩ := putF X6 hx hZ hown (host := "") (Or.inl (hw _ (List.mem_of_getElem? (i := 11) rfl))) Via.refl e6 fF_a1_left_x6 fE_a1_x6 (Or.inl (hw _ (List.mem_of_getElem? (i := 12) rfl))) (hw _ (List.mem_of_getElem? (i := 1) rfl)) (ty := .long) (by decide) rfl rfl (g := (mkF m 11 #[.val (.ref a1), .val (.long q2), .second] [(.long q2), (.ref a1)])) rfl rfl (hb hby d1_11)
  have Fw7 := Fld.same W7 fF_a1_left_x6
  have fE_a1_x7 := (fE_a1_x6.wr W7)
  have fF_a1_idleNanos_x7 := (Fld.other W7 Fw6 (Or.inr (slot_ne (Or.inr (hw _ (List.mem_of_getElem? (i := 10) rfl))) (Or.inl (hw _ (List.mem_of_getElem? (i := 12) rfl))) (by decide) (t := .long) (t' := .long) (by decide) (by decide))))
  have fF_a1_since_x7 := (Fld.other W7 fF_a1_since_x6 (Or.inr (slot_ne (Or.inl (hw _ (List.mem_of_getElem? (i := 19) rfl))) (Or.inl (hw _ (List.mem_of_getElem? (i := 12) rfl))) (by decide) (t := .long) (t' := .long) (by decide) (by decide))))
  have N7 := Fr.snoc X7 N6 g_a1
  have K7 : Keep h0 h7 [a1] := Keep.wr K6 W7 (Or.inl (List.mem_of_getElem? (i := 0) rfl))
  have Z7 : n0 ≤ h7.size := Nat.le_trans Z6 (Nat.le_of_eq W7.size.symm)
  refine own_pre (A := T7.setTop (mkF m 14 #[.val (.ref a1), .val (.long q2), .second] [])) (fun tt kt => ?_) ?_
  · show Steps p.tables e below (s₁.setTop (mkF m 0 #[.val (.ref a1), .val (.long q2), .second] [])) _
    refine XS.aloadN X0.here hx rfl (hb hby d1_0) rfl rfl ?_
    show Steps p.tables e below (s₁.setTop (mkF m 1 #[.val (.ref a1), .val (.long q2), .second] [(.ref a1)])) _
    refine st5 _ ?_
    show Steps p.tables e below (T5.setTop (mkF m 4 #[.val (.ref a1), .val (.long q2), .second] [])) _
    refine XS.aloadN X5.here hx rfl (hb hby d1_4) rfl rfl ?_
    show Steps p.tables e below (T5.setTop (mkF m 5 #[.val (.ref a1), .val (.long q2), .second] [(.ref a1)])) _
    refine XS.lloadN X5.here hx rfl (hb hby d1_5) rfl ?_
    show Steps p.tables e below (T5.setTop (mkF m 6 #[.val (.ref a1), .val (.long q2), .second] [(.long q2), (.ref a1)])) _
    refine st6 _ ?_
    show Steps p.tables e below (T6.setTop (mkF m 9 #[.val (.ref a1), .val (.long q2), .second] [])) _
    refine XS.aloadN X6.here hx rfl (hb hby d1_9) rfl rfl ?_
    show Steps p.tables e below (T6.setTop (mkF m 10 #[.val (.ref a1), .val (.long q2), .second] [(.ref a1)])) _
    refine XS.lloadN X6.here hx rfl (hb hby d1_10) rfl ?_
    show Steps p.tables e below (T6.setTop (mkF m 11 #[.val (.ref a1), .val (.long q2), .second] [(.long q2), (.ref a1)])) _
    refine st7 _ ?_
    exact kt
  show own_End p e below s (T7.setTop (mkF m 14 #[.val (.ref a1), .val (.long q2), .second] [])) (Q1 Z a1 q2 vi vl vs h0 n0) ({ frames := 1, cells := 0, slots := 0, locals := 12 } : Room).cells ({ frames := 1, cells := 0, slots := 0, locals := 12 } : Room).slots
  obtain ⟨fs, hr, hrun, hended, hW, hsame⟩ := X7.leave (v := none) (fun _ => rfl)
  refine ⟨_, _, ?_, hrun, hended, _, _, rfl, ?_, ⟨_, rfl⟩, hW, hsame.mono (by decide) (by decide)⟩
  · exact X7.returnOut hx Bd.returns (hb hby d1_14) hr
  · show Q1 Z a1 q2 vi vl vs h0 n0 _ T7.heap _
    rw [e7]
    exact ⟨rfl, N7, K7, ⟨fE_a1_x7, fF_a1_idleNanos_x7, Fw7, fF_a1_since_x7⟩⟩
theorem d3_0 : decode prog_33_method_3_code 0 = .ok (.aload_n 0, 1) := by decide +kernel
theorem d3_1 : decode prog_33_method_3_code 1 = .ok (.lload_n 1, 1) := by decide +kernel
theorem d3_2 : decode prog_33_method_3_code 2 = .ok (.putfield 19, 3) := by decide +kernel
theorem d3_5 : decode prog_33_method_3_code 5 = .ok (.return_, 1) := by decide +kernel
theorem pn_3 : plainName "com/example/door3/door3/transport/LeastRate" = true := by first | (simp [plainName, overriddenIn]; done) | decide +kernel
theorem ef_3 (m : MethodId) (x0 : Addr) (x1 : Int64) : entryFrame m #[(.ref x0), (.long x1)] 3 = mkF m 0 #[.val (.ref x0), .val (.long x1), .second] [] := by first | (simp [entryFrame, mkF, argsToLocals, Value.category]; done) | rfl
def Q3 (Z : State) (a1 : Addr) (q2 : Int64) (vi : Int64) (vl : Int64) (vs : Int64) (h0 : Heap) (n0 : Nat) (v : Option Value) (h : Heap) (L : List Loc) : Prop := v = none ∧ Fr n0 L ∧ Keep h0 h [a1] ∧ own_Obj Z h a1 vi vl q2
set_option maxRecDepth 65536 in
set_option maxHeartbeats 40000000 in
theorem rm3 (l : Launch) (Z : State) (a0 : Array Value) (hw : ∀ d ∈ tables_1, d.before a0 Z = true) (ws : List Jvm.Cond) (a1 : Addr) (q2 : Int64) (vi : Int64) (vl : Int64) (vs : Int64) (h0 : Heap) (n0 : Nat) (Z0 : n0 ≤ h0.size) (O_a1 : own_Obj Z h0 a1 vi vl vs) (g_a1 : n0 ≤ a1) :
    MetFree l (⟨"com/example/door3/door3/transport/LeastRate", "startWaiting", "(J)V"⟩ : MethodName) (head1 (Jvm.Cond.code (⟨"com/example/door3/door3/transport/LeastRate", "startWaiting", "(J)V"⟩ : MethodName) prog_33_method_3_code 3 none :: ws) ({ frames := 0, cells := 0, slots := 0, locals := 0 } : Room)) (fun a U => a = #[(.ref a1), (.long q2)] ∧ Z.Warmed39 U.vm ∧ U.heap = h0) (fun _ _ _ _ _ => True) (fun _ U o U' => ∃ v L, o = .returned v ∧ Q3 Z a1 q2 vi vl vs h0 n0 v U'.heap L ∧ FrameEnd U o U' L ({ frames := 0, cells := 0, slots := 0, locals := 0 } : Room).cells ({ frames := 0, cells := 0, slots := 0, locals := 0 } : Room).slots) := by
  refine MetFree.of_bodySF (plainFor_of_name pn_3) hisR ?_
  intro p e s m args below meth c s₁ Bd hml0 hP hK
  obtain ⟨rfl, hZ, hh⟩ := hP
  have hx := Bd.exec
  have hby := Bd.bytes
  have hml : c.maxLocals = 3 := hml0
  have hown : s.vm.findClass "com/example/door3/door3/transport/LeastRate" = some m.cls := findClass_of_methodNamed Bd.named
  have hnm := (name_of_methodNamed Bd.named Bd.method).1
  have X0 : Stand p l e ({ frames := 0, cells := 0, slots := 0, locals := 0 } : Room) s m #[(.ref a1), (.long q2)] below meth c s₁ [] 0 0 := Stand.of_body Bd
  have e0 : s₁.heap = h0 := by rw [← hh, Bd.state]; rfl
  have N0 := Fr.nil n0
  show own_End p e below s (s₁.setTop (entryFrame m #[(.ref a1), (.long q2)] 3)) (Q3 Z a1 q2 vi vl vs h0 n0) ({ frames := 0, cells := 0, slots := 0, locals := 0 } : Room).cells ({ frames := 0, cells := 0, slots := 0, locals := 0 } : Room).slots
  obtain ⟨E_a1_1, F_idleNanos_a1_2, F_left_a1_3, F_since_a1_4⟩ := O_a1
  refine own_pre (A := s₁.setTop (mkF m 0 #[.val (.ref a1), .val (.long q2), .second] [])) (fun tt kt => castTop (ef_3 m a1 q2) kt) ?_
  show own_End p e below s (s₁.setTop (mkF m 0 #[.val (.ref a1), .val (.long q2), .second] [])) (Q3 Z a1 q2 vi vl vs h0 n0) ({ frames := 0, cells := 0, slots := 0, locals := 0 } : Room).cells ({ frames := 0, cells := 0, slots := 0, locals := 0 } : Room).slots
  obtain ⟨T5, h5, X5, e5, W5, st5⟩ := putF X0 hx hZ hown (host := "") (Or.inl (hw _ (List.mem_of_getElem? (i := 18) rfl))) Via.refl e0 F_since_a1_4 E_a1_1 (Or.inl (hw _ (List.mem_of_getElem? (i := 19) rfl))) (hw _ (List.mem_of_getElem? (i := 1) rfl)) (ty := .long) (by decide) rfl rfl (g := (mkF m 2 #[.val (.ref a1), .val (.long q2), .second] [(.long q2), (.ref a1)])) rfl rfl (hb hby d3_2)
  have Fw5 := Fld.same W5 F_since_a1_4
  have fE_a1_x5 := (E_a1_1.wr W5)
  have fF_a1_idleNanos_x5 := (Fld.other W5 F_idleNanos_a1_2 (Or.inr (slot_ne (Or.inr (hw _ (List.mem_of_getElem? (i := 10) rfl))) (Or.inl (hw _ (List.mem_of_getElem? (i := 19) rfl))) (by decide) (t := .long) (t' := .long) (by decide) (by decide))))
  have fF_a1_left_x5 := (Fld.other W5 F_left_a1_3 (Or.inr (slot_ne (Or.inl (hw _ (List.mem_of_getElem? (i := 12) rfl))) (Or.inl (hw _ (List.mem_of_getElem? (i := 19) rfl))) (by decide) (t := .long) (t' := .long) (by decide) (by decide))))
  have N5 := Fr.snoc X5 N0 g_a1
  have K5 : Keep h0 h5 [a1] := Keep.wr (Keep.refl h0 _) W5 (Or.inl (List.mem_of_getElem? (i := 0) rfl))
  have Z5 : n0 ≤ h5.size := Nat.le_trans Z0 (Nat.le_of_eq W5.size.symm)
  refine own_pre (A := T5.setTop (mkF m 5 #[.val (.ref a1), .val (.long q2), .second] [])) (fun tt kt => ?_) ?_
  · show Steps p.tables e below (s₁.setTop (mkF m 0 #[.val (.ref a1), .val (.long q2), .second] [])) _
    refine XS.aloadN X0.here hx rfl (hb hby d3_0) rfl rfl ?_
    show Steps p.tables e below (s₁.setTop (mkF m 1 #[.val (.ref a1), .val (.long q2), .second] [(.ref a1)])) _
    refine XS.lloadN X0.here hx rfl (hb hby d3_1) rfl ?_
    show Steps p.tables e below (s₁.setTop (mkF m 2 #[.val (.ref a1), .val (.long q2), .second] [(.long q2), (.ref a1)])) _
    refine st5 _ ?_
    exact kt
  show own_End p e below s (T5.setTop (mkF m 5 #[.val (.ref a1), .val (.long q2), .second] [])) (Q3 Z a1 q2 vi vl vs h0 n0) ({ frames := 0, cells := 0, slots := 0, locals := 0 } : Room).cells ({ frames := 0, cells := 0, slots := 0, locals := 0 } : Room).slots
  obtain ⟨fs, hr, hrun, hended, hW, hsame⟩ := X5.leave (v := none) (fun _ => rfl)
  refine ⟨_, _, ?_, hrun, hended, _, _, rfl, ?_, ⟨_, rfl⟩, hW, hsame.mono (by decide) (by decide)⟩
  · exact X5.returnOut hx Bd.returns (hb hby d3_5) hr
  · show Q3 Z a1 q2 vi vl vs h0 n0 _ T5.heap _
    rw [e5]
    exact ⟨rfl, N5, K5, ⟨fE_a1_x5, fF_a1_idleNanos_x5, fF_a1_left_x5, Fw5⟩⟩
theorem d4_0 : decode prog_33_method_6_code 0 = .ok (.aload_n 0, 1) := by decide +kernel
theorem d4_1 : decode prog_33_method_6_code 1 = .ok (.getfield 19, 3) := by decide +kernel
theorem d4_4 : decode prog_33_method_6_code 4 = .ok (.aload_n 0, 1) := by decide +kernel
theorem d4_5 : decode prog_33_method_6_code 5 = .ok (.getfield 13, 3) := by decide +kernel
theorem d4_8 : decode prog_33_method_6_code 8 = .ok (.ladd, 1) := by decide +kernel
theorem d4_9 : decode prog_33_method_6_code 9 = .ok (.lreturn, 1) := by decide +kernel
theorem pn_4 : plainName "com/example/door3/door3/transport/LeastRate" = true := by first | (simp [plainName, overriddenIn]; done) | decide +kernel
theorem ef_4 (m : MethodId) (x0 : Addr) : entryFrame m #[(.ref x0)] 1 = mkF m 0 #[.val (.ref x0)] [] := by first | (simp [entryFrame, mkF, argsToLocals, Value.category]; done) | rfl
def Q4 (Z : State) (a1 : Addr) (vi : Int64) (vl : Int64) (vs : Int64) (h0 : Heap) (n0 : Nat) (v : Option Value) (h : Heap) (L : List Loc) : Prop := v = some (.long (vs + vl)) ∧ Fr n0 L ∧ h = h0
set_option maxRecDepth 65536 in
set_option maxHeartbeats 40000000 in
theorem rm4 (l : Launch) (Z : State) (a0 : Array Value) (hw : ∀ d ∈ tables_1, d.before a0 Z = true) (ws : List Jvm.Cond) (a1 : Addr) (vi : Int64) (vl : Int64) (vs : Int64) (h0 : Heap) (n0 : Nat) (Z0 : n0 ≤ h0.size) (O_a1 : own_Obj Z h0 a1 vi vl vs) :
    MetFree l (⟨"com/example/door3/door3/transport/LeastRate", "deadline", "()J"⟩ : MethodName) (head1 (Jvm.Cond.code (⟨"com/example/door3/door3/transport/LeastRate", "deadline", "()J"⟩ : MethodName) prog_33_method_6_code 1 (some .long) :: ws) ({ frames := 0, cells := 0, slots := 0, locals := 0 } : Room)) (fun a U => a = #[(.ref a1)] ∧ Z.Warmed39 U.vm ∧ U.heap = h0) (fun _ _ _ _ _ => True) (fun _ U o U' => ∃ v L, o = .returned v ∧ Q4 Z a1 vi vl vs h0 n0 v U'.heap L ∧ FrameEnd U o U' L ({ frames := 0, cells := 0, slots := 0, locals := 0 } : Room).cells ({ frames := 0, cells := 0, slots := 0, locals := 0 } : Room).slots) := by
  refine MetFree.of_bodySF (plainFor_of_name pn_4) hisR ?_
  intro p e s m args below meth c s₁ Bd hml0 hP hK
  obtain ⟨rfl, hZ, hh⟩ := hP
  have hx := Bd.exec
  have hby := Bd.bytes
  have hml : c.maxLocals = 1 := hml0
  have hown : s.vm.findClass "com/example/door3/door3/transport/LeastRate" = some m.cls := findClass_of_methodNamed Bd.named
  have hnm := (name_of_methodNamed Bd.named Bd.method).1
  have X0 : Stand p l e ({ frames := 0, cells := 0, slots := 0, locals := 0 } : Room) s m #[(.ref a1)] below meth c s₁ [] 0 0 := Stand.of_body Bd
  have e0 : s₁.heap = h0 := by rw [← hh, Bd.state]; rfl
  have N0 := Fr.nil n0
  show own_End p e below s (s₁.setTop (entryFrame m #[(.ref a1)] 1)) (Q4 Z a1 vi vl vs h0 n0) ({ frames := 0, cells := 0, slots := 0, locals := 0 } : Room).cells ({ frames := 0, cells := 0, slots := 0, locals := 0 } : Room).slots
  obtain ⟨E_a1_1, F_idleNanos_a1_2, F_left_a1_3, F_since_a1_4⟩ := O_a1
  refine own_pre (A := s₁.setTop (mkF m 0 #[.val (.ref a1)] [])) (fun tt kt => castTop (ef_4 m a1) kt) ?_
  show own_End p e below s (s₁.setTop (mkF m 0 #[.val (.ref a1)] [])) (Q4 Z a1 vi vl vs h0 n0) ({ frames := 0, cells := 0, slots := 0, locals := 0 } : Room).cells ({ frames := 0, cells := 0, slots := 0, locals := 0 } : Room).slots
  obtain ⟨T5, X5, e5, st5⟩ := getF X0 hx hZ hown (host := "") (Or.inl (hw _ (List.mem_of_getElem? (i := 18) rfl))) Via.refl e0 F_since_a1_4 (g := (mkF m 1 #[.val (.ref a1)] [(.ref a1)])) rfl rfl (hb hby d4_1)
  obtain ⟨T6, X6, e6, st6⟩ := getF X5 hx hZ hown (host := "") (Or.inl (hw _ (List.mem_of_getElem? (i := 11) rfl))) Via.refl e5 F_left_a1_3 (g := (mkF m 5 #[.val (.ref a1)] [(.ref a1), (.long vs)])) rfl rfl (hb hby d4_5)
  refine own_pre (A := T6.setTop (mkF m 9 #[.val (.ref a1)] [(.long (vs + vl))])) (fun tt kt => ?_) ?_
  · show Steps p.tables e below (s₁.setTop (mkF m 0 #[.val (.ref a1)] [])) _
    refine XS.aloadN X0.here hx rfl (hb hby d4_0) rfl rfl ?_
    show Steps p.tables e below (s₁.setTop (mkF m 1 #[.val (.ref a1)] [(.ref a1)])) _
    refine st5 _ ?_
    show Steps p.tables e below (T5.setTop (mkF m 4 #[.val (.ref a1)] [(.long vs)])) _
    refine XS.aloadN X5.here hx rfl (hb hby d4_4) rfl rfl ?_
    show Steps p.tables e below (T5.setTop (mkF m 5 #[.val (.ref a1)] [(.ref a1), (.long vs)])) _
    refine st6 _ ?_
    show Steps p.tables e below (T6.setTop (mkF m 8 #[.val (.ref a1)] [(.long vl), (.long vs)])) _
    refine XS.ladd X6.here hx rfl (hb hby d4_8) rfl ?_
    exact kt
  show own_End p e below s (T6.setTop (mkF m 9 #[.val (.ref a1)] [(.long (vs + vl))])) (Q4 Z a1 vi vl vs h0 n0) ({ frames := 0, cells := 0, slots := 0, locals := 0 } : Room).cells ({ frames := 0, cells := 0, slots := 0, locals := 0 } : Room).slots
  obtain ⟨fs, hr, hrun, hended, hW, hsame⟩ := X6.leave (v := some (.long (vs + vl))) (fun h => by rw [Bd.returns] at h; cases h)
  refine ⟨_, _, ?_, hrun, hended, _, _, rfl, ?_, ⟨_, rfl⟩, hW, hsame.mono (by decide) (by decide)⟩
  · jvm_step X6.here [X6.here.top, hx, (hb hby d4_9), X6.method', Bd.returns, narrow]
    first | (intro acts; rw [hr _ acts rfl rfl rfl]) | rw [hr _ _ rfl rfl rfl]
    exact Steps.refl _
  · show Q4 Z a1 vi vl vs h0 n0 _ T6.heap _
    rw [e6]
    exact ⟨rfl, N0, rfl⟩
theorem d5_0 : decode prog_33_method_4_code 0 = .ok (.aload_n 0, 1) := by decide +kernel
theorem d5_1 : decode prog_33_method_4_code 1 = .ok (.dup, 1) := by decide +kernel
theorem d5_2 : decode prog_33_method_4_code 2 = .ok (.getfield 13, 3) := by decide +kernel
theorem d5_5 : decode prog_33_method_4_code 5 = .ok (.lload_n 1, 1) := by decide +kernel
theorem d5_6 : decode prog_33_method_4_code 6 = .ok (.aload_n 0, 1) := by decide +kernel
theorem d5_7 : decode prog_33_method_4_code 7 = .ok (.getfield 19, 3) := by decide +kernel
theorem d5_10 : decode prog_33_method_4_code 10 = .ok (.lsub, 1) := by decide +kernel
theorem d5_11 : decode prog_33_method_4_code 11 = .ok (.lsub, 1) := by decide +kernel
theorem d5_12 : decode prog_33_method_4_code 12 = .ok (.putfield 13, 3) := by decide +kernel
theorem d5_15 : decode prog_33_method_4_code 15 = .ok (.return_, 1) := by decide +kernel
theorem pn_5 : plainName "com/example/door3/door3/transport/LeastRate" = true := by first | (simp [plainName, overriddenIn]; done) | decide +kernel
theorem ef_5 (m : MethodId) (x0 : Addr) (x1 : Int64) : entryFrame m #[(.ref x0), (.long x1)] 3 = mkF m 0 #[.val (.ref x0), .val (.long x1), .second] [] := by first | (simp [entryFrame, mkF, argsToLocals, Value.category]; done) | rfl
def Q5 (Z : State) (a1 : Addr) (q2 : Int64) (vi : Int64) (vl : Int64) (vs : Int64) (h0 : Heap) (n0 : Nat) (v : Option Value) (h : Heap) (L : List Loc) : Prop := v = none ∧ Fr n0 L ∧ Keep h0 h [a1] ∧ own_Obj Z h a1 vi (vl - (q2 - vs)) vs
set_option maxRecDepth 65536 in
set_option maxHeartbeats 40000000 in
theorem rm5 (l : Launch) (Z : State) (a0 : Array Value) (hw : ∀ d ∈ tables_1, d.before a0 Z = true) (ws : List Jvm.Cond) (a1 : Addr) (q2 : Int64) (vi : Int64) (vl : Int64) (vs : Int64) (h0 : Heap) (n0 : Nat) (Z0 : n0 ≤ h0.size) (O_a1 : own_Obj Z h0 a1 vi vl vs) (g_a1 : n0 ≤ a1) :
    MetFree l (⟨"com/example/door3/door3/transport/LeastRate", "stopWaiting", "(J)V"⟩ : MethodName) (head1 (Jvm.Cond.code (⟨"com/example/door3/door3/transport/LeastRate", "stopWaiting", "(J)V"⟩ : MethodName) prog_33_method_4_code 3 none :: ws) ({ frames := 0, cells := 0, slots := 0, locals := 0 } : Room)) (fun a U => a = #[(.ref a1), (.long q2)] ∧ Z.Warmed39 U.vm ∧ U.heap = h0) (fun _ _ _ _ _ => True) (fun _ U o U' => ∃ v L, o = .returned v ∧ Q5 Z a1 q2 vi vl vs h0 n0 v U'.heap L ∧ FrameEnd U o U' L ({ frames := 0, cells := 0, slots := 0, locals := 0 } : Room).cells ({ frames := 0, cells := 0, slots := 0, locals := 0 } : Room).slots) := by
  refine MetFree.of_bodySF (plainFor_of_name pn_5) hisR ?_
  intro p e s m args below meth c s₁ Bd hml0 hP hK
  obtain ⟨rfl, hZ, hh⟩ := hP
  have hx := Bd.exec
  have hby := Bd.bytes
  have hml : c.maxLocals = 3 := hml0
  have hown : s.vm.findClass "com/example/door3/door3/transport/LeastRate" = some m.cls := findClass_of_methodNamed Bd.named
  have hnm := (name_of_methodNamed Bd.named Bd.method).1
  have X0 : Stand p l e ({ frames := 0, cells := 0, slots := 0, locals := 0 } : Room) s m #[(.ref a1), (.long q2)] below meth c s₁ [] 0 0 := Stand.of_body Bd
  have e0 : s₁.heap = h0 := by rw [← hh, Bd.state]; rfl
  have N0 := Fr.nil n0
  show own_End p e below s (s₁.setTop (entryFrame m #[(.ref a1), (.long q2)] 3)) (Q5 Z a1 q2 vi vl vs h0 n0) ({ frames := 0, cells := 0, slots := 0, locals := 0 } : Room).cells ({ frames := 0, cells := 0, slots := 0, locals := 0 } : Room).slots
  obtain ⟨E_a1_1, F_idleNanos_a1_2, F_left_a1_3, F_since_a1_4⟩ := O_a1
  refine own_pre (A := s₁.setTop (mkF m 0 #[.val (.ref a1), .val (.long q2), .second] [])) (fun tt kt => castTop (ef_5 m a1 q2) kt) ?_
  show own_End p e below s (s₁.setTop (mkF m 0 #[.val (.ref a1), .val (.long q2), .second] [])) (Q5 Z a1 q2 vi vl vs h0 n0) ({ frames := 0, cells := 0, slots := 0, locals := 0 } : Room).cells ({ frames := 0, cells := 0, slots := 0, locals := 0 } : Room).slots
  obtain ⟨T5, X5, e5, st5⟩ := getF X0 hx hZ hown (host := "") (Or.inl (hw _ (List.mem_of_getElem? (i := 11) rfl))) Via.refl e0 F_left_a1_3 (g := (mkF m 2 #[.val (.ref a1), .val (.long q2), .second] [(.ref a1), (.ref a1)])) rfl rfl (hb hby d5_2)
  obtain ⟨T6, X6, e6, st6⟩ := getF X5 hx hZ hown (host := "") (Or.inl (hw _ (List.mem_of_getElem? (i := 18) rfl))) Via.refl e5 F_since_a1_4 (g := (mkF m 7 #[.val (.ref a1), .val (.long q2), .second] [(.ref a1), (.long q2), (.long vl), (.ref a1)])) rfl rfl (hb hby d5_7)
  obtain ⟨T7, h7, X7, e7, W7, st7⟩ := putF X6 hx hZ hown (host := "") (Or.inl (hw _ (List.mem_of_getElem? (i := 11) rfl))) Via.refl e6 F_left_a1_3 E_a1_1 (Or.inl (hw _ (List.mem_of_getElem? (i := 12) rfl))) (hw _ (List.mem_of_getElem? (i := 1) rfl)) (ty := .long) (by decide) rfl rfl (g := (mkF m 12 #[.val (.ref a1), .val (.long q2), .second] [(.long (vl - (q2 - vs))), (.ref a1)])) rfl rfl (hb hby d5_12)
  have Fw7 := Fld.same W7 F_left_a1_3
  have fE_a1_x7 := (E_a1_1.wr W7)
  have fF_a1_idleNanos_x7 := (Fld.other W7 F_idleNanos_a1_2 (Or.inr (slot_ne (Or.inr (hw _ (List.mem_of_getElem? (i := 10) rfl))) (Or.inl (hw _ (List.mem_of_getElem? (i := 12) rfl))) (by decide) (t := .long) (t' := .long) (by decide) (by decide))))
  have fF_a1_since_x7 := (Fld.other W7 F_since_a1_4 (Or.inr (slot_ne (Or.inl (hw _ (List.mem_of_getElem? (i := 19) rfl))) (Or.inl (hw _ (List.mem_of_getElem? (i := 12) rfl))) (by decide) (t := .long) (t' := .long) (by decide) (by decide))))
  have N7 := Fr.snoc X7 N0 g_a1
  have K7 : Keep h0 h7 [a1] := Keep.wr (Keep.refl h0 _) W7 (Or.inl (List.mem_of_getElem? (i := 0) rfl))
  have Z7 : n0 ≤ h7.size := Nat.le_trans Z0 (Nat.le_of_eq W7.size.symm)
  refine own_pre (A := T7.setTop (mkF m 15 #[.val (.ref a1), .val (.long q2), .second] [])) (fun tt kt => ?_) ?_
  · show Steps p.tables e below (s₁.setTop (mkF m 0 #[.val (.ref a1), .val (.long q2), .second] [])) _
    refine XS.aloadN X0.here hx rfl (hb hby d5_0) rfl rfl ?_
    show Steps p.tables e below (s₁.setTop (mkF m 1 #[.val (.ref a1), .val (.long q2), .second] [(.ref a1)])) _
    refine XS.dup X0.here hx rfl (hb hby d5_1) rfl rfl ?_
    show Steps p.tables e below (s₁.setTop (mkF m 2 #[.val (.ref a1), .val (.long q2), .second] [(.ref a1), (.ref a1)])) _
    refine st5 _ ?_
    show Steps p.tables e below (T5.setTop (mkF m 5 #[.val (.ref a1), .val (.long q2), .second] [(.long vl), (.ref a1)])) _
    refine XS.lloadN X5.here hx rfl (hb hby d5_5) rfl ?_
    show Steps p.tables e below (T5.setTop (mkF m 6 #[.val (.ref a1), .val (.long q2), .second] [(.long q2), (.long vl), (.ref a1)])) _
    refine XS.aloadN X5.here hx rfl (hb hby d5_6) rfl rfl ?_
    show Steps p.tables e below (T5.setTop (mkF m 7 #[.val (.ref a1), .val (.long q2), .second] [(.ref a1), (.long q2), (.long vl), (.ref a1)])) _
    refine st6 _ ?_
    show Steps p.tables e below (T6.setTop (mkF m 10 #[.val (.ref a1), .val (.long q2), .second] [(.long vs), (.long q2), (.long vl), (.ref a1)])) _
    refine XS.lsub X6.here hx rfl (hb hby d5_10) rfl ?_
    show Steps p.tables e below (T6.setTop (mkF m 11 #[.val (.ref a1), .val (.long q2), .second] [(.long (q2 - vs)), (.long vl), (.ref a1)])) _
    refine XS.lsub X6.here hx rfl (hb hby d5_11) rfl ?_
    show Steps p.tables e below (T6.setTop (mkF m 12 #[.val (.ref a1), .val (.long q2), .second] [(.long (vl - (q2 - vs))), (.ref a1)])) _
    refine st7 _ ?_
    exact kt
  show own_End p e below s (T7.setTop (mkF m 15 #[.val (.ref a1), .val (.long q2), .second] [])) (Q5 Z a1 q2 vi vl vs h0 n0) ({ frames := 0, cells := 0, slots := 0, locals := 0 } : Room).cells ({ frames := 0, cells := 0, slots := 0, locals := 0 } : Room).slots
  obtain ⟨fs, hr, hrun, hended, hW, hsame⟩ := X7.leave (v := none) (fun _ => rfl)
  refine ⟨_, _, ?_, hrun, hended, _, _, rfl, ?_, ⟨_, rfl⟩, hW, hsame.mono (by decide) (by decide)⟩
  · exact X7.returnOut hx Bd.returns (hb hby d5_15) hr
  · show Q5 Z a1 q2 vi vl vs h0 n0 _ T7.heap _
    rw [e7]
    exact ⟨rfl, N7, K7, ⟨fE_a1_x7, fF_a1_idleNanos_x7, Fw7, fF_a1_since_x7⟩⟩
def own_law (q1 : Int64) (q2 : Int64) (q3 : Int64) (q4 : Int64) (q5 : Int64) (q6 : Int64) : Int32 := (1 : Int32)
theorem pn_0 : plainName "com/example/door3/door3/transport/LeastRateStopWaitingPinLaw" = true := by first | (simp [plainName, overriddenIn]; done) | decide +kernel
theorem pd_0_0 : parseMethodDescriptor "(J)V" = some ⟨[.long], none⟩ := by decide +kernel
theorem pd_0_1 : parseMethodDescriptor "()J" = some ⟨[], some .long⟩ := by decide +kernel
theorem ef_0 (m : MethodId) (x0 : Int64) (x1 : Int64) (x2 : Int64) (x3 : Int64) (x4 : Int64) (x5 : Int64) : entryFrame m #[(.long x0), (.long x1), (.long x2), (.long x3), (.long x4), (.long x5)] maxLocals = mkF m 0 #[.val (.long x0), .second, .val (.long x1), .second, .val (.long x2), .second, .val (.long x3), .second, .val (.long x4), .second, .val (.long x5), .second, .unset, .unset, .unset, .unset, .unset, .unset, .unset, .unset, .unset, .unset, .unset, .unset, .unset] [] := by first | (simp [entryFrame, mkF, argsToLocals, Value.category, maxLocals]; done) | rfl
def Q0 (Z : State) (q1 : Int64) (q2 : Int64) (q3 : Int64) (q4 : Int64) (q5 : Int64) (q6 : Int64) (h0 : Heap) (n0 : Nat) (v : Option Value) (h : Heap) (L : List Loc) : Prop := v = some (.int (own_law q1 q2 q3 q4 q5 q6)) ∧ Fr n0 L
set_option maxRecDepth 65536 in
set_option maxHeartbeats 40000000 in
theorem rm0 (l : Launch) (Z : State) (a0 : Array Value) (hw : ∀ d ∈ tables_1, d.before a0 Z = true) (ws : List Jvm.Cond) (q1 : Int64) (q2 : Int64) (q3 : Int64) (q4 : Int64) (q5 : Int64) (q6 : Int64) (h0 : Heap) (n0 : Nat) (Z0 : n0 ≤ h0.size) :
    MetFree l x (head1 (Jvm.Cond.code x code maxLocals ret :: ws) room_1) (fun a U => a = #[(.long q1), (.long q2), (.long q3), (.long q4), (.long q5), (.long q6)] ∧ Z.Warmed39 U.vm ∧ U.heap = h0) (fun _ _ _ _ _ => True) (fun _ U o U' => ∃ v L, o = .returned v ∧ Q0 Z q1 q2 q3 q4 q5 q6 h0 n0 v U'.heap L ∧ FrameEnd U o U' L room_1.cells room_1.slots) := by
  refine MetFree.of_bodySF (plainFor_of_name pn_0) hisR ?_
  intro p e s m args below meth c s₁ Bd hml0 hP hK
  obtain ⟨rfl, hZ, hh⟩ := hP
  have hx := Bd.exec
  have hby := Bd.bytes
  have hml : c.maxLocals = 25 := hml0
  have hown : s.vm.findClass "com/example/door3/door3/transport/LeastRateStopWaitingPinLaw" = some m.cls := findClass_of_methodNamed Bd.named
  have hnm := (name_of_methodNamed Bd.named Bd.method).1
  have X0 : Stand p l e room_1 s m #[(.long q1), (.long q2), (.long q3), (.long q4), (.long q5), (.long q6)] below meth c s₁ [] 0 0 := Stand.of_body Bd
  have e0 : s₁.heap = h0 := by rw [← hh, Bd.state]; rfl
  have N0 := Fr.nil n0
  show own_End p e below s (s₁.setTop (entryFrame m #[(.long q1), (.long q2), (.long q3), (.long q4), (.long q5), (.long q6)] maxLocals)) (Q0 Z q1 q2 q3 q4 q5 q6 h0 n0) room_1.cells room_1.slots
  refine own_pre (A := s₁.setTop (mkF m 0 #[.val (.long q1), .second, .val (.long q2), .second, .val (.long q3), .second, .val (.long q4), .second, .val (.long q5), .second, .val (.long q6), .second, .unset, .unset, .unset, .unset, .unset, .unset, .unset, .unset, .unset, .unset, .unset, .unset, .unset] [])) (fun tt kt => castTop (ef_0 m q1 q2 q3 q4 q5 q6) kt) ?_
  show own_End p e below s (s₁.setTop (mkF m 0 #[.val (.long q1), .second, .val (.long q2), .second, .val (.long q3), .second, .val (.long q4), .second, .val (.long q5), .second, .val (.long q6), .second, .unset, .unset, .unset, .unset, .unset, .unset, .unset, .unset, .unset, .unset, .unset, .unset, .unset] [])) (Q0 Z q1 q2 q3 q4 q5 q6 h0 n0) room_1.cells room_1.slots
  have hj : own_law q1 q2 q3 q4 q5 q6 = own_law q1 q2 q3 q4 q5 q6 := rfl
  obtain ⟨T1, h1, X1, e1, E1, A1, D1, -, st1⟩ := newO X0 hx hZ hown (hw _ (List.mem_of_getElem? (i := 0) rfl)) (hw _ (List.mem_of_getElem? (i := 1) rfl)) (hw _ (List.mem_of_getElem? (i := 2) rfl)) e0 (g := (mkF m 0 #[.val (.long q1), .second, .val (.long q2), .second, .val (.long q3), .second, .val (.long q4), .second, .val (.long q5), .second, .val (.long q6), .second, .unset, .unset, .unset, .unset, .unset, .unset, .unset, .unset, .unset, .unset, .unset, .unset, .unset] [])) rfl (hb hby at_0) (by decide) (by decide)
  obtain ⟨b1, g1⟩ : ∃ z, z = h0.size := ⟨_, rfl⟩
  rw [← g1] at A1 D1 st1
  have g_b1 : n0 ≤ b1 := Nat.le_trans Z0 (Nat.le_of_eq g1.symm)
  have sz_b1 : h0.size ≤ b1 := Nat.le_trans (show Keep h0 h0 [] from (Keep.refl h0 _)).1 (Nat.le_of_eq g1.symm)
  have K1 : Keep h0 h1 [] := Keep.ext (Keep.refl h0 _) E1
  have Z1 : n0 ≤ h1.size := Nat.le_trans Z0 E1.1
  have F_idleNanos_b1 : Fld Z h1 b1 "com/example/door3/door3/transport/LeastRate" "idleNanos" "J" (.long (0 : Int64)) := D1 (Or.inr (hw _ (List.mem_of_getElem? (i := 10) rfl))) (ty := .long) (by decide)
  have F_left_b1 : Fld Z h1 b1 "com/example/door3/door3/transport/LeastRate" "left" "J" (.long (0 : Int64)) := D1 (Or.inl (hw _ (List.mem_of_getElem? (i := 12) rfl))) (ty := .long) (by decide)
  have F_since_b1 : Fld Z h1 b1 "com/example/door3/door3/transport/LeastRate" "since" "J" (.long (0 : Int64)) := D1 (Or.inl (hw _ (List.mem_of_getElem? (i := 19) rfl))) (ty := .long) (by decide)
  obtain ⟨_, _, ⟨T2, L2, k2, n2⟩, -, X2, ⟨Lc2, hQ2, l2, y2, z2⟩, st2⟩ := X1.specialBack hx (y := (⟨"com/example/door3/door3/transport/LeastRate", "<init>", "(J)V"⟩ : MethodName)) rfl hown (mvT hZ (hw _ (List.mem_of_getElem? (i := 3) rfl))) (mvT hZ (hw _ (List.mem_of_getElem? (i := 4) rfl))) (mvT hZ (hw _ (List.mem_of_getElem? (i := 5) rfl))) (by decide) (backOf (W := 1) (rm1 l Z a0 hw [] b1 q1 (0 : Int64) (0 : Int64) (0 : Int64) h1 n0 Z1 ⟨A1, F_idleNanos_b1, F_left_b1, F_since_b1⟩ g_b1) hZ (hw _ (List.mem_of_getElem? (i := 5) rfl)) (hw _ (List.mem_of_getElem? (i := 2) rfl)) (by decide) (by decide)) (g := (mkF m 5 #[.val (.long q1), .second, .val (.long q2), .second, .val (.long q3), .second, .val (.long q4), .second, .val (.long q5), .second, .val (.long q6), .second, .unset, .unset, .unset, .unset, .unset, .unset, .unset, .unset, .unset, .unset, .unset, .unset, .unset] [(.long q1), (.ref b1), (.ref b1)])) rfl (by rw [hml]; rfl) (Steps.refl _) (a := b1) (argsL := [(.long q1)]) (rest := [(.ref b1)]) (lenOf pd_0_0 rfl) rfl (by show 2 * 0 + _ ≤ _; exact Nat.le_of_eq rfl) (hb hby at_5) (fun _ _ => ⟨rfl, e1, (by decide : 1 + 0 ≤ _), (by decide : 4 + 0 ≤ _)⟩)
  dsimp only [Pt.U, Pt.locs, Pt.cells, Pt.slots] at X2 l2 y2 z2 st2 hQ2
  subst l2 y2 z2
  obtain ⟨rfl, N2q, Kq2, O2_0⟩ := hQ2
  have N2 := Fr.app N0 N2q
  have fE_b1_x2 := (A1.keep Kq2)
  have K2 : Keep h0 T2.heap [] := Keep.trans K1 Kq2 (allS (Or.inr sz_b1) all0)
  have Z2 : n0 ≤ T2.heap.size := Nat.le_trans Z1 Kq2.1
  obtain ⟨E_b1_3, F_idleNanos_b1_4, F_left_b1_5, F_since_b1_6⟩ := O2_0
  obtain ⟨cq7, kq7, q7a, q7b, q7c⟩ := isOf hZ rfl E_b1_3
  obtain ⟨_, _, ⟨T7, L7, k7, n7⟩, -, X7, ⟨Lc7, hQ7, l7, y7, z7⟩, st7⟩ := X2.virtualBack hx (y := (⟨"com/example/door3/door3/transport/LeastRate", "startWaiting", "(J)V"⟩ : MethodName)) (z := (⟨"com/example/door3/door3/transport/LeastRate", "startWaiting", "(J)V"⟩ : MethodName)) hown (mvT hZ (hw _ (List.mem_of_getElem? (i := 13) rfl))) (mvT hZ (hw _ (List.mem_of_getElem? (i := 14) rfl))) (notFace_of_selects (args := #[]) (mvT hZ (hw _ (List.mem_of_getElem? (i := 16) rfl)))) (mvT hZ (hw _ (List.mem_of_getElem? (i := 16) rfl))) (mvT hZ (hw _ (List.mem_of_getElem? (i := 15) rfl))) (by decide) (backOf (W := 0) (rm3 l Z a0 hw [] b1 q2 q1 q1 (0 : Int64) T2.heap n0 Z2 ⟨E_b1_3, F_idleNanos_b1_4, F_left_b1_5, F_since_b1_6⟩ g_b1) hZ (hw _ (List.mem_of_getElem? (i := 17) rfl)) (hw _ (List.mem_of_getElem? (i := 2) rfl)) (by decide) (by decide)) q7a q7c (g := (mkF m 13 #[.val (.long q1), .second, .val (.long q2), .second, .val (.long q3), .second, .val (.long q4), .second, .val (.long q5), .second, .val (.long q6), .second, .val (.ref b1), .unset, .unset, .unset, .unset, .unset, .unset, .unset, .unset, .unset, .unset, .unset, .unset] [(.long q2), (.ref b1)])) rfl (by rw [hml]; rfl) (Steps.refl _) (argsL := [(.long q2)]) (rest := []) (lenOf pd_0_0 rfl) rfl (by show 2 * 0 + _ ≤ _; exact Nat.le_of_eq rfl) (hb hby at_13) (fun _ _ => ⟨rfl, rfl, (by decide : 1 + 0 ≤ _), (by decide : 4 + 0 ≤ _)⟩)
  dsimp only [Pt.U, Pt.locs, Pt.cells, Pt.slots] at X7 l7 y7 z7 st7 hQ7
  subst l7 y7 z7
  obtain ⟨rfl, N7q, Kq7, O7_0⟩ := hQ7
  have N7 := Fr.app N2 N7q
  have fE_b1_x7 := (E_b1_3.keep Kq7)
  have K7 : Keep h0 T7.heap [] := Keep.trans K2 Kq7 (allS (Or.inr sz_b1) all0)
  have Z7 : n0 ≤ T7.heap.size := Nat.le_trans Z2 Kq7.1
  obtain ⟨E_b1_8, F_idleNanos_b1_9, F_left_b1_10, F_since_b1_11⟩ := O7_0
  obtain ⟨cq12, kq12, q12a, q12b, q12c⟩ := isOf hZ rfl E_b1_8
  obtain ⟨_, _, ⟨T12, L12, k12, n12⟩, -, X12, ⟨Lc12, hQ12, l12, y12, z12⟩, st12⟩ := X7.virtualBack hx (y := (⟨"com/example/door3/door3/transport/LeastRate", "deadline", "()J"⟩ : MethodName)) (z := (⟨"com/example/door3/door3/transport/LeastRate", "deadline", "()J"⟩ : MethodName)) hown (mvT hZ (hw _ (List.mem_of_getElem? (i := 20) rfl))) (mvT hZ (hw _ (List.mem_of_getElem? (i := 21) rfl))) (notFace_of_selects (args := #[]) (mvT hZ (hw _ (List.mem_of_getElem? (i := 23) rfl)))) (mvT hZ (hw _ (List.mem_of_getElem? (i := 23) rfl))) (mvT hZ (hw _ (List.mem_of_getElem? (i := 22) rfl))) (by decide) (backOf (W := 0) (rm4 l Z a0 hw [] b1 q1 q1 q2 T7.heap n0 Z7 ⟨E_b1_8, F_idleNanos_b1_9, F_left_b1_10, F_since_b1_11⟩) hZ (hw _ (List.mem_of_getElem? (i := 24) rfl)) (hw _ (List.mem_of_getElem? (i := 2) rfl)) (by decide) (by decide)) q12a q12c (g := (mkF m 18 #[.val (.long q1), .second, .val (.long q2), .second, .val (.long q3), .second, .val (.long q4), .second, .val (.long q5), .second, .val (.long q6), .second, .val (.ref b1), .unset, .unset, .unset, .unset, .unset, .unset, .unset, .unset, .unset, .unset, .unset, .unset] [(.ref b1)])) rfl (by rw [hml]; rfl) (Steps.refl _) (argsL := []) (rest := []) (lenOf pd_0_1 rfl) rfl (by show 2 * 0 + _ ≤ _; exact Nat.le_of_eq rfl) (hb hby at_18) (fun _ _ => ⟨rfl, rfl, (by decide : 1 + 0 ≤ _), (by decide : 4 + 0 ≤ _)⟩)
  dsimp only [Pt.U, Pt.locs, Pt.cells, Pt.slots] at X12 l12 y12 z12 st12 hQ12
  subst l12 y12 z12
  obtain ⟨rfl, N12q, e12⟩ := hQ12
  have N12 := Fr.app N7 N12q
  obtain ⟨cq13, kq13, q13a, q13b, q13c⟩ := isOf hZ e12 E_b1_8
  obtain ⟨_, _, ⟨T13, L13, k13, n13⟩, -, X13, ⟨Lc13, hQ13, l13, y13, z13⟩, st13⟩ := X12.virtualBack hx (y := (⟨"com/example/door3/door3/transport/LeastRate", "stopWaiting", "(J)V"⟩ : MethodName)) (z := (⟨"com/example/door3/door3/transport/LeastRate", "stopWaiting", "(J)V"⟩ : MethodName)) hown (mvT hZ (hw _ (List.mem_of_getElem? (i := 25) rfl))) (mvT hZ (hw _ (List.mem_of_getElem? (i := 26) rfl))) (notFace_of_selects (args := #[]) (mvT hZ (hw _ (List.mem_of_getElem? (i := 28) rfl)))) (mvT hZ (hw _ (List.mem_of_getElem? (i := 28) rfl))) (mvT hZ (hw _ (List.mem_of_getElem? (i := 27) rfl))) (by decide) (backOf (W := 0) (rm5 l Z a0 hw [] b1 q3 q1 q1 q2 T7.heap n0 Z7 ⟨E_b1_8, F_idleNanos_b1_9, F_left_b1_10, F_since_b1_11⟩ g_b1) hZ (hw _ (List.mem_of_getElem? (i := 29) rfl)) (hw _ (List.mem_of_getElem? (i := 2) rfl)) (by decide) (by decide)) q13a q13c (g := (mkF m 27 #[.val (.long q1), .second, .val (.long q2), .second, .val (.long q3), .second, .val (.long q4), .second, .val (.long q5), .second, .val (.long q6), .second, .val (.ref b1), .val (.long (q2 + q1)), .second, .unset, .unset, .unset, .unset, .unset, .unset, .unset, .unset, .unset, .unset] [(.long q3), (.ref b1)])) rfl (by rw [hml]; rfl) (Steps.refl _) (argsL := [(.long q3)]) (rest := []) (lenOf pd_0_0 rfl) rfl (by show 2 * 0 + _ ≤ _; exact Nat.le_of_eq rfl) (hb hby at_27) (fun _ _ => ⟨rfl, e12, (by decide : 1 + 0 ≤ _), (by decide : 4 + 0 ≤ _)⟩)
  dsimp only [Pt.U, Pt.locs, Pt.cells, Pt.slots] at X13 l13 y13 z13 st13 hQ13
  subst l13 y13 z13
  obtain ⟨rfl, N13q, Kq13, O13_0⟩ := hQ13
  have N13 := Fr.app N12 N13q
  have fE_b1_x13 := (E_b1_8.keep Kq13)
  have K13 : Keep h0 T13.heap [] := Keep.trans K7 Kq13 (allS (Or.inr sz_b1) all0)
  have Z13 : n0 ≤ T13.heap.size := Nat.le_trans Z7 Kq13.1
  obtain ⟨E_b1_14, F_idleNanos_b1_15, F_left_b1_16, F_since_b1_17⟩ := O13_0
  obtain ⟨cq18, kq18, q18a, q18b, q18c⟩ := isOf hZ rfl E_b1_14
  obtain ⟨_, _, ⟨T18, L18, k18, n18⟩, -, X18, ⟨Lc18, hQ18, l18, y18, z18⟩, st18⟩ := X13.virtualBack hx (y := (⟨"com/example/door3/door3/transport/LeastRate", "deadline", "()J"⟩ : MethodName)) (z := (⟨"com/example/door3/door3/transport/LeastRate", "deadline", "()J"⟩ : MethodName)) hown (mvT hZ (hw _ (List.mem_of_getElem? (i := 20) rfl))) (mvT hZ (hw _ (List.mem_of_getElem? (i := 21) rfl))) (notFace_of_selects (args := #[]) (mvT hZ (hw _ (List.mem_of_getElem? (i := 23) rfl)))) (mvT hZ (hw _ (List.mem_of_getElem? (i := 23) rfl))) (mvT hZ (hw _ (List.mem_of_getElem? (i := 22) rfl))) (by decide) (backOf (W := 0) (rm4 l Z a0 hw [] b1 q1 (q1 - (q3 - q2)) q2 T13.heap n0 Z13 ⟨E_b1_14, F_idleNanos_b1_15, F_left_b1_16, F_since_b1_17⟩) hZ (hw _ (List.mem_of_getElem? (i := 24) rfl)) (hw _ (List.mem_of_getElem? (i := 2) rfl)) (by decide) (by decide)) q18a q18c (g := (mkF m 32 #[.val (.long q1), .second, .val (.long q2), .second, .val (.long q3), .second, .val (.long q4), .second, .val (.long q5), .second, .val (.long q6), .second, .val (.ref b1), .val (.long (q2 + q1)), .second, .unset, .unset, .unset, .unset, .unset, .unset, .unset, .unset, .unset, .unset] [(.ref b1)])) rfl (by rw [hml]; rfl) (Steps.refl _) (argsL := []) (rest := []) (lenOf pd_0_1 rfl) rfl (by show 2 * 0 + _ ≤ _; exact Nat.le_of_eq rfl) (hb hby at_32) (fun _ _ => ⟨rfl, rfl, (by decide : 1 + 0 ≤ _), (by decide : 4 + 0 ≤ _)⟩)
  dsimp only [Pt.U, Pt.locs, Pt.cells, Pt.slots] at X18 l18 y18 z18 st18 hQ18
  subst l18 y18 z18
  obtain ⟨rfl, N18q, e18⟩ := hQ18
  have N18 := Fr.app N13 N18q
  obtain ⟨cq19, kq19, q19a, q19b, q19c⟩ := isOf hZ e18 E_b1_14
  obtain ⟨_, _, ⟨T19, L19, k19, n19⟩, -, X19, ⟨Lc19, hQ19, l19, y19, z19⟩, st19⟩ := X18.virtualBack hx (y := (⟨"com/example/door3/door3/transport/LeastRate", "startWaiting", "(J)V"⟩ : MethodName)) (z := (⟨"com/example/door3/door3/transport/LeastRate", "startWaiting", "(J)V"⟩ : MethodName)) hown (mvT hZ (hw _ (List.mem_of_getElem? (i := 13) rfl))) (mvT hZ (hw _ (List.mem_of_getElem? (i := 14) rfl))) (notFace_of_selects (args := #[]) (mvT hZ (hw _ (List.mem_of_getElem? (i := 16) rfl)))) (mvT hZ (hw _ (List.mem_of_getElem? (i := 16) rfl))) (mvT hZ (hw _ (List.mem_of_getElem? (i := 15) rfl))) (by decide) (backOf (W := 0) (rm3 l Z a0 hw [] b1 q4 q1 (q1 - (q3 - q2)) q2 T13.heap n0 Z13 ⟨E_b1_14, F_idleNanos_b1_15, F_left_b1_16, F_since_b1_17⟩ g_b1) hZ (hw _ (List.mem_of_getElem? (i := 17) rfl)) (hw _ (List.mem_of_getElem? (i := 2) rfl)) (by decide) (by decide)) q19a q19c (g := (mkF m 41 #[.val (.long q1), .second, .val (.long q2), .second, .val (.long q3), .second, .val (.long q4), .second, .val (.long q5), .second, .val (.long q6), .second, .val (.ref b1), .val (.long (q2 + q1)), .second, .val (.long (q2 + (q1 - (q3 - q2)))), .second, .unset, .unset, .unset, .unset, .unset, .unset, .unset, .unset] [(.long q4), (.ref b1)])) rfl (by rw [hml]; rfl) (Steps.refl _) (argsL := [(.long q4)]) (rest := []) (lenOf pd_0_0 rfl) rfl (by show 2 * 0 + _ ≤ _; exact Nat.le_of_eq rfl) (hb hby at_41) (fun _ _ => ⟨rfl, e18, (by decide : 1 + 0 ≤ _), (by decide : 4 + 0 ≤ _)⟩)
  dsimp only [Pt.U, Pt.locs, Pt.cells, Pt.slots] at X19 l19 y19 z19 st19 hQ19
  subst l19 y19 z19
  obtain ⟨rfl, N19q, Kq19, O19_0⟩ := hQ19
  have N19 := Fr.app N18 N19q
  have fE_b1_x19 := (E_b1_14.keep Kq19)
  have K19 : Keep h0 T19.heap [] := Keep.trans K13 Kq19 (allS (Or.inr sz_b1) all0)
  have Z19 : n0 ≤ T19.heap.size := Nat.le_trans Z13 Kq19.1
  obtain ⟨E_b1_20, F_idleNanos_b1_21, F_left_b1_22, F_since_b1_23⟩ := O19_0
  obtain ⟨cq24, kq24, q24a, q24b, q24c⟩ := isOf hZ rfl E_b1_20
  obtain ⟨_, _, ⟨T24, L24, k24, n24⟩, -, X24, ⟨Lc24, hQ24, l24, y24, z24⟩, st24⟩ := X19.virtualBack hx (y := (⟨"com/example/door3/door3/transport/LeastRate", "deadline", "()J"⟩ : MethodName)) (z := (⟨"com/example/door3/door3/transport/LeastRate", "deadline", "()J"⟩ : MethodName)) hown (mvT hZ (hw _ (List.mem_of_getElem? (i := 20) rfl))) (mvT hZ (hw _ (List.mem_of_getElem? (i := 21) rfl))) (notFace_of_selects (args := #[]) (mvT hZ (hw _ (List.mem_of_getElem? (i := 23) rfl)))) (mvT hZ (hw _ (List.mem_of_getElem? (i := 23) rfl))) (mvT hZ (hw _ (List.mem_of_getElem? (i := 22) rfl))) (by decide) (backOf (W := 0) (rm4 l Z a0 hw [] b1 q1 (q1 - (q3 - q2)) q4 T19.heap n0 Z19 ⟨E_b1_20, F_idleNanos_b1_21, F_left_b1_22, F_since_b1_23⟩) hZ (hw _ (List.mem_of_getElem? (i := 24) rfl)) (hw _ (List.mem_of_getElem? (i := 2) rfl)) (by decide) (by decide)) q24a q24c (g := (mkF m 46 #[.val (.long q1), .second, .val (.long q2), .second, .val (.long q3), .second, .val (.long q4), .second, .val (.long q5), .second, .val (.long q6), .second, .val (.ref b1), .val (.long (q2 + q1)), .second, .val (.long (q2 + (q1 - (q3 - q2)))), .second, .unset, .unset, .unset, .unset, .unset, .unset, .unset, .unset] [(.ref b1)])) rfl (by rw [hml]; rfl) (Steps.refl _) (argsL := []) (rest := []) (lenOf pd_0_1 rfl) rfl (by show 2 * 0 + _ ≤ _; exact Nat.le_of_eq rfl) (hb hby at_46) (fun _ _ => ⟨rfl, rfl, (by decide : 1 + 0 ≤ _), (by decide : 4 + 0 ≤ _)⟩)
  dsimp only [Pt.U, Pt.locs, Pt.cells, Pt.slots] at X24 l24 y24 z24 st24 hQ24
  subst l24 y24 z24
  obtain ⟨rfl, N24q, e24⟩ := hQ24
  have N24 := Fr.app N19 N24q
  obtain ⟨cq25, kq25, q25a, q25b, q25c⟩ := isOf hZ e24 E_b1_20
  obtain ⟨_, _, ⟨T25, L25, k25, n25⟩, -, X25, ⟨Lc25, hQ25, l25, y25, z25⟩, st25⟩ := X24.virtualBack hx (y := (⟨"com/example/door3/door3/transport/LeastRate", "stopWaiting", "(J)V"⟩ : MethodName)) (z := (⟨"com/example/door3/door3/transport/LeastRate", "stopWaiting", "(J)V"⟩ : MethodName)) hown (mvT hZ (hw _ (List.mem_of_getElem? (i := 25) rfl))) (mvT hZ (hw _ (List.mem_of_getElem? (i := 26) rfl))) (notFace_of_selects (args := #[]) (mvT hZ (hw _ (List.mem_of_getElem? (i := 28) rfl)))) (mvT hZ (hw _ (List.mem_of_getElem? (i := 28) rfl))) (mvT hZ (hw _ (List.mem_of_getElem? (i := 27) rfl))) (by decide) (backOf (W := 0) (rm5 l Z a0 hw [] b1 q5 q1 (q1 - (q3 - q2)) q4 T19.heap n0 Z19 ⟨E_b1_20, F_idleNanos_b1_21, F_left_b1_22, F_since_b1_23⟩ g_b1) hZ (hw _ (List.mem_of_getElem? (i := 29) rfl)) (hw _ (List.mem_of_getElem? (i := 2) rfl)) (by decide) (by decide)) q25a q25c (g := (mkF m 55 #[.val (.long q1), .second, .val (.long q2), .second, .val (.long q3), .second, .val (.long q4), .second, .val (.long q5), .second, .val (.long q6), .second, .val (.ref b1), .val (.long (q2 + q1)), .second, .val (.long (q2 + (q1 - (q3 - q2)))), .second, .val (.long (q4 + (q1 - (q3 - q2)))), .second, .unset, .unset, .unset, .unset, .unset, .unset] [(.long q5), (.ref b1)])) rfl (by rw [hml]; rfl) (Steps.refl _) (argsL := [(.long q5)]) (rest := []) (lenOf pd_0_0 rfl) rfl (by show 2 * 0 + _ ≤ _; exact Nat.le_of_eq rfl) (hb hby at_55) (fun _ _ => ⟨rfl, e24, (by decide : 1 + 0 ≤ _), (by decide : 4 + 0 ≤ _)⟩)
  dsimp only [Pt.U, Pt.locs, Pt.cells, Pt.slots] at X25 l25 y25 z25 st25 hQ25
  subst l25 y25 z25
  obtain ⟨rfl, N25q, Kq25, O25_0⟩ := hQ25
  have N25 := Fr.app N24 N25q
  have fE_b1_x25 := (E_b1_20.keep Kq25)
  have K25 : Keep h0 T25.heap [] := Keep.trans K19 Kq25 (allS (Or.inr sz_b1) all0)
  have Z25 : n0 ≤ T25.heap.size := Nat.le_trans Z19 Kq25.1
  obtain ⟨E_b1_26, F_idleNanos_b1_27, F_left_b1_28, F_since_b1_29⟩ := O25_0
  obtain ⟨cq30, kq30, q30a, q30b, q30c⟩ := isOf hZ rfl E_b1_26
  obtain ⟨_, _, ⟨T30, L30, k30, n30⟩, -, X30, ⟨Lc30, hQ30, l30, y30, z30⟩, st30⟩ := X25.virtualBack hx (y := (⟨"com/example/door3/door3/transport/LeastRate", "startWaiting", "(J)V"⟩ : MethodName)) (z := (⟨"com/example/door3/door3/transport/LeastRate", "startWaiting", "(J)V"⟩ : MethodName)) hown (mvT hZ (hw _ (List.mem_of_getElem? (i := 13) rfl))) (mvT hZ (hw _ (List.mem_of_getElem? (i := 14) rfl))) (notFace_of_selects (args := #[]) (mvT hZ (hw _ (List.mem_of_getElem? (i := 16) rfl)))) (mvT hZ (hw _ (List.mem_of_getElem? (i := 16) rfl))) (mvT hZ (hw _ (List.mem_of_getElem? (i := 15) rfl))) (by decide) (backOf (W := 0) (rm3 l Z a0 hw [] b1 q6 q1 ((q1 - (q3 - q2)) - (q5 - q4)) q4 T25.heap n0 Z25 ⟨E_b1_26, F_idleNanos_b1_27, F_left_b1_28, F_since_b1_29⟩ g_b1) hZ (hw _ (List.mem_of_getElem? (i := 17) rfl)) (hw _ (List.mem_of_getElem? (i := 2) rfl)) (by decide) (by decide)) q30a q30c (g := (mkF m 62 #[.val (.long q1), .second, .val (.long q2), .second, .val (.long q3), .second, .val (.long q4), .second, .val (.long q5), .second, .val (.long q6), .second, .val (.ref b1), .val (.long (q2 + q1)), .second, .val (.long (q2 + (q1 - (q3 - q2)))), .second, .val (.long (q4 + (q1 - (q3 - q2)))), .second, .unset, .unset, .unset, .unset, .unset, .unset] [(.long q6), (.ref b1)])) rfl (by rw [hml]; rfl) (Steps.refl _) (argsL := [(.long q6)]) (rest := []) (lenOf pd_0_0 rfl) rfl (by show 2 * 0 + _ ≤ _; exact Nat.le_of_eq rfl) (hb hby at_62) (fun _ _ => ⟨rfl, rfl, (by decide : 1 + 0 ≤ _), (by decide : 4 + 0 ≤ _)⟩)
  dsimp only [Pt.U, Pt.locs, Pt.cells, Pt.slots] at X30 l30 y30 z30 st30 hQ30
  subst l30 y30 z30
  obtain ⟨rfl, N30q, Kq30, O30_0⟩ := hQ30
  have N30 := Fr.app N25 N30q
  have fE_b1_x30 := (E_b1_26.keep Kq30)
  have K30 : Keep h0 T30.heap [] := Keep.trans K25 Kq30 (allS (Or.inr sz_b1) all0)
  have Z30 : n0 ≤ T30.heap.size := Nat.le_trans Z25 Kq30.1
  obtain ⟨E_b1_31, F_idleNanos_b1_32, F_left_b1_33, F_since_b1_34⟩ := O30_0
  obtain ⟨cq35, kq35, q35a, q35b, q35c⟩ := isOf hZ rfl E_b1_31
  obtain ⟨_, _, ⟨T35, L35, k35, n35⟩, -, X35, ⟨Lc35, hQ35, l35, y35, z35⟩, st35⟩ := X30.virtualBack hx (y := (⟨"com/example/door3/door3/transport/LeastRate", "deadline", "()J"⟩ : MethodName)) (z := (⟨"com/example/door3/door3/transport/LeastRate", "deadline", "()J"⟩ : MethodName)) hown (mvT hZ (hw _ (List.mem_of_getElem? (i := 20) rfl))) (mvT hZ (hw _ (List.mem_of_getElem? (i := 21) rfl))) (notFace_of_selects (args := #[]) (mvT hZ (hw _ (List.mem_of_getElem? (i := 23) rfl)))) (mvT hZ (hw _ (List.mem_of_getElem? (i := 23) rfl))) (mvT hZ (hw _ (List.mem_of_getElem? (i := 22) rfl))) (by decide) (backOf (W := 0) (rm4 l Z a0 hw [] b1 q1 ((q1 - (q3 - q2)) - (q5 - q4)) q6 T30.heap n0 Z30 ⟨E_b1_31, F_idleNanos_b1_32, F_left_b1_33, F_since_b1_34⟩) hZ (hw _ (List.mem_of_getElem? (i := 24) rfl)) (hw _ (List.mem_of_getElem? (i := 2) rfl)) (by decide) (by decide)) q35a q35c (g := (mkF m 67 #[.val (.long q1), .second, .val (.long q2), .second, .val (.long q3), .second, .val (.long q4), .second, .val (.long q5), .second, .val (.long q6), .second, .val (.ref b1), .val (.long (q2 + q1)), .second, .val (.long (q2 + (q1 - (q3 - q2)))), .second, .val (.long (q4 + (q1 - (q3 - q2)))), .second, .unset, .unset, .unset, .unset, .unset, .unset] [(.ref b1)])) rfl (by rw [hml]; rfl) (Steps.refl _) (argsL := []) (rest := []) (lenOf pd_0_1 rfl) rfl (by show 2 * 0 + _ ≤ _; exact Nat.le_of_eq rfl) (hb hby at_67) (fun _ _ => ⟨rfl, rfl, (by decide : 1 + 0 ≤ _), (by decide : 4 + 0 ≤ _)⟩)
  dsimp only [Pt.U, Pt.locs, Pt.cells, Pt.slots] at X35 l35 y35 z35 st35 hQ35
  subst l35 y35 z35
  obtain ⟨rfl, N35q, e35⟩ := hQ35
  have N35 := Fr.app N30 N35q
  refine own_pre (A := T35.setTop (mkF m 136 #[.val (.long q1), .second, .val (.long q2), .second, .val (.long q3), .second, .val (.long q4), .second, .val (.long q5), .second, .val (.long q6), .second, .val (.ref b1), .val (.long (q2 + q1)), .second, .val (.long (q2 + (q1 - (q3 - q2)))), .second, .val (.long (q4 + (q1 - (q3 - q2)))), .second, .val (.long (q6 + ((q1 - (q3 - q2)) - (q5 - q4)))), .second, .val (.long (q1 - (q3 - q2))), .second, .val (.long ((q1 - (q3 - q2)) - (q5 - q4))), .second] [(.int (1 : Int32))])) (fun tt kt => ?_) ?_
  · show Steps p.tables e below (s₁.setTop (mkF m 0 #[.val (.long q1), .second, .val (.long q2), .second, .val (.long q3), .second, .val (.long q4), .second, .val (.long q5), .second, .val (.long q6), .second, .unset, .unset, .unset, .unset, .unset, .unset, .unset, .unset, .unset, .unset, .unset, .unset, .unset] [])) _
    refine st1 _ ?_
    show Steps p.tables e below (T1.setTop (mkF m 3 #[.val (.long q1), .second, .val (.long q2), .second, .val (.long q3), .second, .val (.long q4), .second, .val (.long q5), .second, .val (.long q6), .second, .unset, .unset, .unset, .unset, .unset, .unset, .unset, .unset, .unset, .unset, .unset, .unset, .unset] [(.ref b1)])) _
    refine XS.dup X1.here hx rfl (hb hby at_3) rfl rfl ?_
    show Steps p.tables e below (T1.setTop (mkF m 4 #[.val (.long q1), .second, .val (.long q2), .second, .val (.long q3), .second, .val (.long q4), .second, .val (.long q5), .second, .val (.long q6), .second, .unset, .unset, .unset, .unset, .unset, .unset, .unset, .unset, .unset, .unset, .unset, .unset, .unset] [(.ref b1), (.ref b1)])) _
    refine XS.lloadN X1.here hx rfl (hb hby at_4) rfl ?_
    show Steps p.tables e below (T1.setTop (mkF m 5 #[.val (.long q1), .second, .val (.long q2), .second, .val (.long q3), .second, .val (.long q4), .second, .val (.long q5), .second, .val (.long q6), .second, .unset, .unset, .unset, .unset, .unset, .unset, .unset, .unset, .unset, .unset, .unset, .unset, .unset] [(.long q1), (.ref b1), (.ref b1)])) _
    refine st2.trans ?_
    show Steps p.tables e below (T2.setTop (mkF m 8 #[.val (.long q1), .second, .val (.long q2), .second, .val (.long q3), .second, .val (.long q4), .second, .val (.long q5), .second, .val (.long q6), .second, .unset, .unset, .unset, .unset, .unset, .unset, .unset, .unset, .unset, .unset, .unset, .unset, .unset] [(.ref b1)])) _
    refine XS.astore X2.here hx rfl (hb hby at_8) rfl rfl (l' := #[.val (.long q1), .second, .val (.long q2), .second, .val (.long q3), .second, .val (.long q4), .second, .val (.long q5), .second, .val (.long q6), .second, .val (.ref b1), .unset, .unset, .unset, .unset, .unset, .unset, .unset, .unset, .unset, .unset, .unset, .unset]) rfl ?_
    show Steps p.tables e below (T2.setTop (mkF m 10 #[.val (.long q1), .second, .val (.long q2), .second, .val (.long q3), .second, .val (.long q4), .second, .val (.long q5), .second, .val (.long q6), .second, .val (.ref b1), .unset, .unset, .unset, .unset, .unset, .unset, .unset, .unset, .unset, .unset, .unset, .unset] [])) _
    refine XS.aload X2.here hx rfl (hb hby at_10) rfl rfl ?_
    show Steps p.tables e below (T2.setTop (mkF m 12 #[.val (.long q1), .second, .val (.long q2), .second, .val (.long q3), .second, .val (.long q4), .second, .val (.long q5), .second, .val (.long q6), .second, .val (.ref b1), .unset, .unset, .unset, .unset, .unset, .unset, .unset, .unset, .unset, .unset, .unset, .unset] [(.ref b1)])) _
    refine XS.lloadN X2.here hx rfl (hb hby at_12) rfl ?_
    show Steps p.tables e below (T2.setTop (mkF m 13 #[.val (.long q1), .second, .val (.long q2), .second, .val (.long q3), .second, .val (.long q4), .second, .val (.long q5), .second, .val (.long q6), .second, .val (.ref b1), .unset, .unset, .unset, .unset, .unset, .unset, .unset, .unset, .unset, .unset, .unset, .unset] [(.long q2), (.ref b1)])) _
    refine st7.trans ?_
    show Steps p.tables e below (T7.setTop (mkF m 16 #[.val (.long q1), .second, .val (.long q2), .second, .val (.long q3), .second, .val (.long q4), .second, .val (.long q5), .second, .val (.long q6), .second, .val (.ref b1), .unset, .unset, .unset, .unset, .unset, .unset, .unset, .unset, .unset, .unset, .unset, .unset] [])) _
    refine XS.aload X7.here hx rfl (hb hby at_16) rfl rfl ?_
    show Steps p.tables e below (T7.setTop (mkF m 18 #[.val (.long q1), .second, .val (.long q2), .second, .val (.long q3), .second, .val (.long q4), .second, .val (.long q5), .second, .val (.long q6), .second, .val (.ref b1), .unset, .unset, .unset, .unset, .unset, .unset, .unset, .unset, .unset, .unset, .unset, .unset] [(.ref b1)])) _
    refine st12.trans ?_
    show Steps p.tables e below (T12.setTop (mkF m 21 #[.val (.long q1), .second, .val (.long q2), .second, .val (.long q3), .second, .val (.long q4), .second, .val (.long q5), .second, .val (.long q6), .second, .val (.ref b1), .unset, .unset, .unset, .unset, .unset, .unset, .unset, .unset, .unset, .unset, .unset, .unset] [(.long (q2 + q1))])) _
    refine XS.lstore X12.here hx rfl (hb hby at_21) rfl (l' := #[.val (.long q1), .second, .val (.long q2), .second, .val (.long q3), .second, .val (.long q4), .second, .val (.long q5), .second, .val (.long q6), .second, .val (.ref b1), .val (.long (q2 + q1)), .second, .unset, .unset, .unset, .unset, .unset, .unset, .unset, .unset, .unset, .unset]) rfl ?_
    show Steps p.tables e below (T12.setTop (mkF m 23 #[.val (.long q1), .second, .val (.long q2), .second, .val (.long q3), .second, .val (.long q4), .second, .val (.long q5), .second, .val (.long q6), .second, .val (.ref b1), .val (.long (q2 + q1)), .second, .unset, .unset, .unset, .unset, .unset, .unset, .unset, .unset, .unset, .unset] [])) _
    refine XS.aload X12.here hx rfl (hb hby at_23) rfl rfl ?_
    show Steps p.tables e below (T12.setTop (mkF m 25 #[.val (.long q1), .second, .val (.long q2), .second, .val (.long q3), .second, .val (.long q4), .second, .val (.long q5), .second, .val (.long q6), .second, .val (.ref b1), .val (.long (q2 + q1)), .second, .unset, .unset, .unset, .unset, .unset, .unset, .unset, .unset, .unset, .unset] [(.ref b1)])) _
    refine XS.lload X12.here hx rfl (hb hby at_25) rfl ?_
    show Steps p.tables e below (T12.setTop (mkF m 27 #[.val (.long q1), .second, .val (.long q2), .second, .val (.long q3), .second, .val (.long q4), .second, .val (.long q5), .second, .val (.long q6), .second, .val (.ref b1), .val (.long (q2 + q1)), .second, .unset, .unset, .unset, .unset, .unset, .unset, .unset, .unset, .unset, .unset] [(.long q3), (.ref b1)])) _
    refine st13.trans ?_
    show Steps p.tables e below (T13.setTop (mkF m 30 #[.val (.long q1), .second, .val (.long q2), .second, .val (.long q3), .second, .val (.long q4), .second, .val (.long q5), .second, .val (.long q6), .second, .val (.ref b1), .val (.long (q2 + q1)), .second, .unset, .unset, .unset, .unset, .unset, .unset, .unset, .unset, .unset, .unset] [])) _
    refine XS.aload X13.here hx rfl (hb hby at_30) rfl rfl ?_
    show Steps p.tables e below (T13.setTop (mkF m 32 #[.val (.long q1), .second, .val (.long q2), .second, .val (.long q3), .second, .val (.long q4), .second, .val (.long q5), .second, .val (.long q6), .second, .val (.ref b1), .val (.long (q2 + q1)), .second, .unset, .unset, .unset, .unset, .unset, .unset, .unset, .unset, .unset, .unset] [(.ref b1)])) _
    refine st18.trans ?_
    show Steps p.tables e below (T18.setTop (mkF m 35 #[.val (.long q1), .second, .val (.long q2), .second, .val (.long q3), .second, .val (.long q4), .second, .val (.long q5), .second, .val (.long q6), .second, .val (.ref b1), .val (.long (q2 + q1)), .second, .unset, .unset, .unset, .unset, .unset, .unset, .unset, .unset, .unset, .unset] [(.long (q2 + (q1 - (q3 - q2))))])) _
    refine XS.lstore X18.here hx rfl (hb hby at_35) rfl (l' := #[.val (.long q1), .second, .val (.long q2), .second, .val (.long q3), .second, .val (.long q4), .second, .val (.long q5), .second, .val (.long q6), .second, .val (.ref b1), .val (.long (q2 + q1)), .second, .val (.long (q2 + (q1 - (q3 - q2)))), .second, .unset, .unset, .unset, .unset, .unset, .unset, .unset, .unset]) rfl ?_
    show Steps p.tables e below (T18.setTop (mkF m 37 #[.val (.long q1), .second, .val (.long q2), .second, .val (.long q3), .second, .val (.long q4), .second, .val (.long q5), .second, .val (.long q6), .second, .val (.ref b1), .val (.long (q2 + q1)), .second, .val (.long (q2 + (q1 - (q3 - q2)))), .second, .unset, .unset, .unset, .unset, .unset, .unset, .unset, .unset] [])) _
    refine XS.aload X18.here hx rfl (hb hby at_37) rfl rfl ?_
    show Steps p.tables e below (T18.setTop (mkF m 39 #[.val (.long q1), .second, .val (.long q2), .second, .val (.long q3), .second, .val (.long q4), .second, .val (.long q5), .second, .val (.long q6), .second, .val (.ref b1), .val (.long (q2 + q1)), .second, .val (.long (q2 + (q1 - (q3 - q2)))), .second, .unset, .unset, .unset, .unset, .unset, .unset, .unset, .unset] [(.ref b1)])) _
    refine XS.lload X18.here hx rfl (hb hby at_39) rfl ?_
    show Steps p.tables e below (T18.setTop (mkF m 41 #[.val (.long q1), .second, .val (.long q2), .second, .val (.long q3), .second, .val (.long q4), .second, .val (.long q5), .second, .val (.long q6), .second, .val (.ref b1), .val (.long (q2 + q1)), .second, .val (.long (q2 + (q1 - (q3 - q2)))), .second, .unset, .unset, .unset, .unset, .unset, .unset, .unset, .unset] [(.long q4), (.ref b1)])) _
    refine st19.trans ?_
    show Steps p.tables e below (T19.setTop (mkF m 44 #[.val (.long q1), .second, .val (.long q2), .second, .val (.long q3), .second, .val (.long q4), .second, .val (.long q5), .second, .val (.long q6), .second, .val (.ref b1), .val (.long (q2 + q1)), .second, .val (.long (q2 + (q1 - (q3 - q2)))), .second, .unset, .unset, .unset, .unset, .unset, .unset, .unset, .unset] [])) _
    refine XS.aload X19.here hx rfl (hb hby at_44) rfl rfl ?_
    show Steps p.tables e below (T19.setTop (mkF m 46 #[.val (.long q1), .second, .val (.long q2), .second, .val (.long q3), .second, .val (.long q4), .second, .val (.long q5), .second, .val (.long q6), .second, .val (.ref b1), .val (.long (q2 + q1)), .second, .val (.long (q2 + (q1 - (q3 - q2)))), .second, .unset, .unset, .unset, .unset, .unset, .unset, .unset, .unset] [(.ref b1)])) _
    refine st24.trans ?_
    show Steps p.tables e below (T24.setTop (mkF m 49 #[.val (.long q1), .second, .val (.long q2), .second, .val (.long q3), .second, .val (.long q4), .second, .val (.long q5), .second, .val (.long q6), .second, .val (.ref b1), .val (.long (q2 + q1)), .second, .val (.long (q2 + (q1 - (q3 - q2)))), .second, .unset, .unset, .unset, .unset, .unset, .unset, .unset, .unset] [(.long (q4 + (q1 - (q3 - q2))))])) _
    refine XS.lstore X24.here hx rfl (hb hby at_49) rfl (l' := #[.val (.long q1), .second, .val (.long q2), .second, .val (.long q3), .second, .val (.long q4), .second, .val (.long q5), .second, .val (.long q6), .second, .val (.ref b1), .val (.long (q2 + q1)), .second, .val (.long (q2 + (q1 - (q3 - q2)))), .second, .val (.long (q4 + (q1 - (q3 - q2)))), .second, .unset, .unset, .unset, .unset, .unset, .unset]) rfl ?_
    show Steps p.tables e below (T24.setTop (mkF m 51 #[.val (.long q1), .second, .val (.long q2), .second, .val (.long q3), .second, .val (.long q4), .second, .val (.long q5), .second, .val (.long q6), .second, .val (.ref b1), .val (.long (q2 + q1)), .second, .val (.long (q2 + (q1 - (q3 - q2)))), .second, .val (.long (q4 + (q1 - (q3 - q2)))), .second, .unset, .unset, .unset, .unset, .unset, .unset] [])) _
    refine XS.aload X24.here hx rfl (hb hby at_51) rfl rfl ?_
    show Steps p.tables e below (T24.setTop (mkF m 53 #[.val (.long q1), .second, .val (.long q2), .second, .val (.long q3), .second, .val (.long q4), .second, .val (.long q5), .second, .val (.long q6), .second, .val (.ref b1), .val (.long (q2 + q1)), .second, .val (.long (q2 + (q1 - (q3 - q2)))), .second, .val (.long (q4 + (q1 - (q3 - q2)))), .second, .unset, .unset, .unset, .unset, .unset, .unset] [(.ref b1)])) _
    refine XS.lload X24.here hx rfl (hb hby at_53) rfl ?_
    show Steps p.tables e below (T24.setTop (mkF m 55 #[.val (.long q1), .second, .val (.long q2), .second, .val (.long q3), .second, .val (.long q4), .second, .val (.long q5), .second, .val (.long q6), .second, .val (.ref b1), .val (.long (q2 + q1)), .second, .val (.long (q2 + (q1 - (q3 - q2)))), .second, .val (.long (q4 + (q1 - (q3 - q2)))), .second, .unset, .unset, .unset, .unset, .unset, .unset] [(.long q5), (.ref b1)])) _
    refine st25.trans ?_
    show Steps p.tables e below (T25.setTop (mkF m 58 #[.val (.long q1), .second, .val (.long q2), .second, .val (.long q3), .second, .val (.long q4), .second, .val (.long q5), .second, .val (.long q6), .second, .val (.ref b1), .val (.long (q2 + q1)), .second, .val (.long (q2 + (q1 - (q3 - q2)))), .second, .val (.long (q4 + (q1 - (q3 - q2)))), .second, .unset, .unset, .unset, .unset, .unset, .unset] [])) _
    refine XS.aload X25.here hx rfl (hb hby at_58) rfl rfl ?_
    show Steps p.tables e below (T25.setTop (mkF m 60 #[.val (.long q1), .second, .val (.long q2), .second, .val (.long q3), .second, .val (.long q4), .second, .val (.long q5), .second, .val (.long q6), .second, .val (.ref b1), .val (.long (q2 + q1)), .second, .val (.long (q2 + (q1 - (q3 - q2)))), .second, .val (.long (q4 + (q1 - (q3 - q2)))), .second, .unset, .unset, .unset, .unset, .unset, .unset] [(.ref b1)])) _
    refine XS.lload X25.here hx rfl (hb hby at_60) rfl ?_
    show Steps p.tables e below (T25.setTop (mkF m 62 #[.val (.long q1), .second, .val (.long q2), .second, .val (.long q3), .second, .val (.long q4), .second, .val (.long q5), .second, .val (.long q6), .second, .val (.ref b1), .val (.long (q2 + q1)), .second, .val (.long (q2 + (q1 - (q3 - q2)))), .second, .val (.long (q4 + (q1 - (q3 - q2)))), .second, .unset, .unset, .unset, .unset, .unset, .unset] [(.long q6), (.ref b1)])) _
    refine st30.trans ?_
    show Steps p.tables e below (T30.setTop (mkF m 65 #[.val (.long q1), .second, .val (.long q2), .second, .val (.long q3), .second, .val (.long q4), .second, .val (.long q5), .second, .val (.long q6), .second, .val (.ref b1), .val (.long (q2 + q1)), .second, .val (.long (q2 + (q1 - (q3 - q2)))), .second, .val (.long (q4 + (q1 - (q3 - q2)))), .second, .unset, .unset, .unset, .unset, .unset, .unset] [])) _
    refine XS.aload X30.here hx rfl (hb hby at_65) rfl rfl ?_
    show Steps p.tables e below (T30.setTop (mkF m 67 #[.val (.long q1), .second, .val (.long q2), .second, .val (.long q3), .second, .val (.long q4), .second, .val (.long q5), .second, .val (.long q6), .second, .val (.ref b1), .val (.long (q2 + q1)), .second, .val (.long (q2 + (q1 - (q3 - q2)))), .second, .val (.long (q4 + (q1 - (q3 - q2)))), .second, .unset, .unset, .unset, .unset, .unset, .unset] [(.ref b1)])) _
    refine st35.trans ?_
    show Steps p.tables e below (T35.setTop (mkF m 70 #[.val (.long q1), .second, .val (.long q2), .second, .val (.long q3), .second, .val (.long q4), .second, .val (.long q5), .second, .val (.long q6), .second, .val (.ref b1), .val (.long (q2 + q1)), .second, .val (.long (q2 + (q1 - (q3 - q2)))), .second, .val (.long (q4 + (q1 - (q3 - q2)))), .second, .unset, .unset, .unset, .unset, .unset, .unset] [(.long (q6 + ((q1 - (q3 - q2)) - (q5 - q4))))])) _
    refine XS.lstore X35.here hx rfl (hb hby at_70) rfl (l' := #[.val (.long q1), .second, .val (.long q2), .second, .val (.long q3), .second, .val (.long q4), .second, .val (.long q5), .second, .val (.long q6), .second, .val (.ref b1), .val (.long (q2 + q1)), .second, .val (.long (q2 + (q1 - (q3 - q2)))), .second, .val (.long (q4 + (q1 - (q3 - q2)))), .second, .val (.long (q6 + ((q1 - (q3 - q2)) - (q5 - q4)))), .second, .unset, .unset, .unset, .unset]) rfl ?_
    show Steps p.tables e below (T35.setTop (mkF m 72 #[.val (.long q1), .second, .val (.long q2), .second, .val (.long q3), .second, .val (.long q4), .second, .val (.long q5), .second, .val (.long q6), .second, .val (.ref b1), .val (.long (q2 + q1)), .second, .val (.long (q2 + (q1 - (q3 - q2)))), .second, .val (.long (q4 + (q1 - (q3 - q2)))), .second, .val (.long (q6 + ((q1 - (q3 - q2)) - (q5 - q4)))), .second, .unset, .unset, .unset, .unset] [])) _
    refine XS.lloadN X35.here hx rfl (hb hby at_72) rfl ?_
    show Steps p.tables e below (T35.setTop (mkF m 73 #[.val (.long q1), .second, .val (.long q2), .second, .val (.long q3), .second, .val (.long q4), .second, .val (.long q5), .second, .val (.long q6), .second, .val (.ref b1), .val (.long (q2 + q1)), .second, .val (.long (q2 + (q1 - (q3 - q2)))), .second, .val (.long (q4 + (q1 - (q3 - q2)))), .second, .val (.long (q6 + ((q1 - (q3 - q2)) - (q5 - q4)))), .second, .unset, .unset, .unset, .unset] [(.long q1)])) _
    refine XS.lload X35.here hx rfl (hb hby at_73) rfl ?_
    show Steps p.tables e below (T35.setTop (mkF m 75 #[.val (.long q1), .second, .val (.long q2), .second, .val (.long q3), .second, .val (.long q4), .second, .val (.long q5), .second, .val (.long q6), .second, .val (.ref b1), .val (.long (q2 + q1)), .second, .val (.long (q2 + (q1 - (q3 - q2)))), .second, .val (.long (q4 + (q1 - (q3 - q2)))), .second, .val (.long (q6 + ((q1 - (q3 - q2)) - (q5 - q4)))), .second, .unset, .unset, .unset, .unset] [(.long q3), (.long q1)])) _
    refine XS.lloadN X35.here hx rfl (hb hby at_75) rfl ?_
    show Steps p.tables e below (T35.setTop (mkF m 76 #[.val (.long q1), .second, .val (.long q2), .second, .val (.long q3), .second, .val (.long q4), .second, .val (.long q5), .second, .val (.long q6), .second, .val (.ref b1), .val (.long (q2 + q1)), .second, .val (.long (q2 + (q1 - (q3 - q2)))), .second, .val (.long (q4 + (q1 - (q3 - q2)))), .second, .val (.long (q6 + ((q1 - (q3 - q2)) - (q5 - q4)))), .second, .unset, .unset, .unset, .unset] [(.long q2), (.long q3), (.long q1)])) _
    refine XS.lsub X35.here hx rfl (hb hby at_76) rfl ?_
    show Steps p.tables e below (T35.setTop (mkF m 77 #[.val (.long q1), .second, .val (.long q2), .second, .val (.long q3), .second, .val (.long q4), .second, .val (.long q5), .second, .val (.long q6), .second, .val (.ref b1), .val (.long (q2 + q1)), .second, .val (.long (q2 + (q1 - (q3 - q2)))), .second, .val (.long (q4 + (q1 - (q3 - q2)))), .second, .val (.long (q6 + ((q1 - (q3 - q2)) - (q5 - q4)))), .second, .unset, .unset, .unset, .unset] [(.long (q3 - q2)), (.long q1)])) _
    refine XS.lsub X35.here hx rfl (hb hby at_77) rfl ?_
    show Steps p.tables e below (T35.setTop (mkF m 78 #[.val (.long q1), .second, .val (.long q2), .second, .val (.long q3), .second, .val (.long q4), .second, .val (.long q5), .second, .val (.long q6), .second, .val (.ref b1), .val (.long (q2 + q1)), .second, .val (.long (q2 + (q1 - (q3 - q2)))), .second, .val (.long (q4 + (q1 - (q3 - q2)))), .second, .val (.long (q6 + ((q1 - (q3 - q2)) - (q5 - q4)))), .second, .unset, .unset, .unset, .unset] [(.long (q1 - (q3 - q2)))])) _
    refine XS.lstore X35.here hx rfl (hb hby at_78) rfl (l' := #[.val (.long q1), .second, .val (.long q2), .second, .val (.long q3), .second, .val (.long q4), .second, .val (.long q5), .second, .val (.long q6), .second, .val (.ref b1), .val (.long (q2 + q1)), .second, .val (.long (q2 + (q1 - (q3 - q2)))), .second, .val (.long (q4 + (q1 - (q3 - q2)))), .second, .val (.long (q6 + ((q1 - (q3 - q2)) - (q5 - q4)))), .second, .val (.long (q1 - (q3 - q2))), .second, .unset, .unset]) rfl ?_
    show Steps p.tables e below (T35.setTop (mkF m 80 #[.val (.long q1), .second, .val (.long q2), .second, .val (.long q3), .second, .val (.long q4), .second, .val (.long q5), .second, .val (.long q6), .second, .val (.ref b1), .val (.long (q2 + q1)), .second, .val (.long (q2 + (q1 - (q3 - q2)))), .second, .val (.long (q4 + (q1 - (q3 - q2)))), .second, .val (.long (q6 + ((q1 - (q3 - q2)) - (q5 - q4)))), .second, .val (.long (q1 - (q3 - q2))), .second, .unset, .unset] [])) _
    refine XS.lload X35.here hx rfl (hb hby at_80) rfl ?_
    show Steps p.tables e below (T35.setTop (mkF m 82 #[.val (.long q1), .second, .val (.long q2), .second, .val (.long q3), .second, .val (.long q4), .second, .val (.long q5), .second, .val (.long q6), .second, .val (.ref b1), .val (.long (q2 + q1)), .second, .val (.long (q2 + (q1 - (q3 - q2)))), .second, .val (.long (q4 + (q1 - (q3 - q2)))), .second, .val (.long (q6 + ((q1 - (q3 - q2)) - (q5 - q4)))), .second, .val (.long (q1 - (q3 - q2))), .second, .unset, .unset] [(.long (q1 - (q3 - q2)))])) _
    refine XS.lload X35.here hx rfl (hb hby at_82) rfl ?_
    show Steps p.tables e below (T35.setTop (mkF m 84 #[.val (.long q1), .second, .val (.long q2), .second, .val (.long q3), .second, .val (.long q4), .second, .val (.long q5), .second, .val (.long q6), .second, .val (.ref b1), .val (.long (q2 + q1)), .second, .val (.long (q2 + (q1 - (q3 - q2)))), .second, .val (.long (q4 + (q1 - (q3 - q2)))), .second, .val (.long (q6 + ((q1 - (q3 - q2)) - (q5 - q4)))), .second, .val (.long (q1 - (q3 - q2))), .second, .unset, .unset] [(.long q5), (.long (q1 - (q3 - q2)))])) _
    refine XS.lload X35.here hx rfl (hb hby at_84) rfl ?_
    show Steps p.tables e below (T35.setTop (mkF m 86 #[.val (.long q1), .second, .val (.long q2), .second, .val (.long q3), .second, .val (.long q4), .second, .val (.long q5), .second, .val (.long q6), .second, .val (.ref b1), .val (.long (q2 + q1)), .second, .val (.long (q2 + (q1 - (q3 - q2)))), .second, .val (.long (q4 + (q1 - (q3 - q2)))), .second, .val (.long (q6 + ((q1 - (q3 - q2)) - (q5 - q4)))), .second, .val (.long (q1 - (q3 - q2))), .second, .unset, .unset] [(.long q4), (.long q5), (.long (q1 - (q3 - q2)))])) _
    refine XS.lsub X35.here hx rfl (hb hby at_86) rfl ?_
    show Steps p.tables e below (T35.setTop (mkF m 87 #[.val (.long q1), .second, .val (.long q2), .second, .val (.long q3), .second, .val (.long q4), .second, .val (.long q5), .second, .val (.long q6), .second, .val (.ref b1), .val (.long (q2 + q1)), .second, .val (.long (q2 + (q1 - (q3 - q2)))), .second, .val (.long (q4 + (q1 - (q3 - q2)))), .second, .val (.long (q6 + ((q1 - (q3 - q2)) - (q5 - q4)))), .second, .val (.long (q1 - (q3 - q2))), .second, .unset, .unset] [(.long (q5 - q4)), (.long (q1 - (q3 - q2)))])) _
    refine XS.lsub X35.here hx rfl (hb hby at_87) rfl ?_
    show Steps p.tables e below (T35.setTop (mkF m 88 #[.val (.long q1), .second, .val (.long q2), .second, .val (.long q3), .second, .val (.long q4), .second, .val (.long q5), .second, .val (.long q6), .second, .val (.ref b1), .val (.long (q2 + q1)), .second, .val (.long (q2 + (q1 - (q3 - q2)))), .second, .val (.long (q4 + (q1 - (q3 - q2)))), .second, .val (.long (q6 + ((q1 - (q3 - q2)) - (q5 - q4)))), .second, .val (.long (q1 - (q3 - q2))), .second, .unset, .unset] [(.long ((q1 - (q3 - q2)) - (q5 - q4)))])) _
    refine XS.lstore X35.here hx rfl (hb hby at_88) rfl (l' := #[.val (.long q1), .second, .val (.long q2), .second, .val (.long q3), .second, .val (.long q4), .second, .val (.long q5), .second, .val (.long q6), .second, .val (.ref b1), .val (.long (q2 + q1)), .second, .val (.long (q2 + (q1 - (q3 - q2)))), .second, .val (.long (q4 + (q1 - (q3 - q2)))), .second, .val (.long (q6 + ((q1 - (q3 - q2)) - (q5 - q4)))), .second, .val (.long (q1 - (q3 - q2))), .second, .val (.long ((q1 - (q3 - q2)) - (q5 - q4))), .second]) rfl ?_
    show Steps p.tables e below (T35.setTop (mkF m 90 #[.val (.long q1), .second, .val (.long q2), .second, .val (.long q3), .second, .val (.long q4), .second, .val (.long q5), .second, .val (.long q6), .second, .val (.ref b1), .val (.long (q2 + q1)), .second, .val (.long (q2 + (q1 - (q3 - q2)))), .second, .val (.long (q4 + (q1 - (q3 - q2)))), .second, .val (.long (q6 + ((q1 - (q3 - q2)) - (q5 - q4)))), .second, .val (.long (q1 - (q3 - q2))), .second, .val (.long ((q1 - (q3 - q2)) - (q5 - q4))), .second] [])) _
    refine XS.lload X35.here hx rfl (hb hby at_90) rfl ?_
    show Steps p.tables e below (T35.setTop (mkF m 92 #[.val (.long q1), .second, .val (.long q2), .second, .val (.long q3), .second, .val (.long q4), .second, .val (.long q5), .second, .val (.long q6), .second, .val (.ref b1), .val (.long (q2 + q1)), .second, .val (.long (q2 + (q1 - (q3 - q2)))), .second, .val (.long (q4 + (q1 - (q3 - q2)))), .second, .val (.long (q6 + ((q1 - (q3 - q2)) - (q5 - q4)))), .second, .val (.long (q1 - (q3 - q2))), .second, .val (.long ((q1 - (q3 - q2)) - (q5 - q4))), .second] [(.long (q2 + q1))])) _
    refine XS.lloadN X35.here hx rfl (hb hby at_92) rfl ?_
    show Steps p.tables e below (T35.setTop (mkF m 93 #[.val (.long q1), .second, .val (.long q2), .second, .val (.long q3), .second, .val (.long q4), .second, .val (.long q5), .second, .val (.long q6), .second, .val (.ref b1), .val (.long (q2 + q1)), .second, .val (.long (q2 + (q1 - (q3 - q2)))), .second, .val (.long (q4 + (q1 - (q3 - q2)))), .second, .val (.long (q6 + ((q1 - (q3 - q2)) - (q5 - q4)))), .second, .val (.long (q1 - (q3 - q2))), .second, .val (.long ((q1 - (q3 - q2)) - (q5 - q4))), .second] [(.long q2), (.long (q2 + q1))])) _
    refine XS.lloadN X35.here hx rfl (hb hby at_93) rfl ?_
    show Steps p.tables e below (T35.setTop (mkF m 94 #[.val (.long q1), .second, .val (.long q2), .second, .val (.long q3), .second, .val (.long q4), .second, .val (.long q5), .second, .val (.long q6), .second, .val (.ref b1), .val (.long (q2 + q1)), .second, .val (.long (q2 + (q1 - (q3 - q2)))), .second, .val (.long (q4 + (q1 - (q3 - q2)))), .second, .val (.long (q6 + ((q1 - (q3 - q2)) - (q5 - q4)))), .second, .val (.long (q1 - (q3 - q2))), .second, .val (.long ((q1 - (q3 - q2)) - (q5 - q4))), .second] [(.long q1), (.long q2), (.long (q2 + q1))])) _
    refine XS.ladd X35.here hx rfl (hb hby at_94) rfl ?_
    show Steps p.tables e below (T35.setTop (mkF m 95 #[.val (.long q1), .second, .val (.long q2), .second, .val (.long q3), .second, .val (.long q4), .second, .val (.long q5), .second, .val (.long q6), .second, .val (.ref b1), .val (.long (q2 + q1)), .second, .val (.long (q2 + (q1 - (q3 - q2)))), .second, .val (.long (q4 + (q1 - (q3 - q2)))), .second, .val (.long (q6 + ((q1 - (q3 - q2)) - (q5 - q4)))), .second, .val (.long (q1 - (q3 - q2))), .second, .val (.long ((q1 - (q3 - q2)) - (q5 - q4))), .second] [(.long (q2 + q1)), (.long (q2 + q1))])) _
    refine XS.lcmp X35.here hx rfl (hb hby at_95) rfl ?_
    show Steps p.tables e below (T35.setTop (mkF m 96 #[.val (.long q1), .second, .val (.long q2), .second, .val (.long q3), .second, .val (.long q4), .second, .val (.long q5), .second, .val (.long q6), .second, .val (.ref b1), .val (.long (q2 + q1)), .second, .val (.long (q2 + (q1 - (q3 - q2)))), .second, .val (.long (q4 + (q1 - (q3 - q2)))), .second, .val (.long (q6 + ((q1 - (q3 - q2)) - (q5 - q4)))), .second, .val (.long (q1 - (q3 - q2))), .second, .val (.long ((q1 - (q3 - q2)) - (q5 - q4))), .second] [(.int (lcmpW (q2 + q1) (q2 + q1)))])) _
    refine XS.ifNo X35.here hx rfl (hb hby at_96) rfl ((if0 _ _).trans (teq ((lw_eq (q2 + q1) (q2 + q1)).mpr (rfl : (q2 + q1) = (q2 + q1)))).2) ?_
    show Steps p.tables e below (T35.setTop (mkF m 99 #[.val (.long q1), .second, .val (.long q2), .second, .val (.long q3), .second, .val (.long q4), .second, .val (.long q5), .second, .val (.long q6), .second, .val (.ref b1), .val (.long (q2 + q1)), .second, .val (.long (q2 + (q1 - (q3 - q2)))), .second, .val (.long (q4 + (q1 - (q3 - q2)))), .second, .val (.long (q6 + ((q1 - (q3 - q2)) - (q5 - q4)))), .second, .val (.long (q1 - (q3 - q2))), .second, .val (.long ((q1 - (q3 - q2)) - (q5 - q4))), .second] [])) _
    refine XS.lload X35.here hx rfl (hb hby at_99) rfl ?_
    show Steps p.tables e below (T35.setTop (mkF m 101 #[.val (.long q1), .second, .val (.long q2), .second, .val (.long q3), .second, .val (.long q4), .second, .val (.long q5), .second, .val (.long q6), .second, .val (.ref b1), .val (.long (q2 + q1)), .second, .val (.long (q2 + (q1 - (q3 - q2)))), .second, .val (.long (q4 + (q1 - (q3 - q2)))), .second, .val (.long (q6 + ((q1 - (q3 - q2)) - (q5 - q4)))), .second, .val (.long (q1 - (q3 - q2))), .second, .val (.long ((q1 - (q3 - q2)) - (q5 - q4))), .second] [(.long (q2 + (q1 - (q3 - q2))))])) _
    refine XS.lloadN X35.here hx rfl (hb hby at_101) rfl ?_
    show Steps p.tables e below (T35.setTop (mkF m 102 #[.val (.long q1), .second, .val (.long q2), .second, .val (.long q3), .second, .val (.long q4), .second, .val (.long q5), .second, .val (.long q6), .second, .val (.ref b1), .val (.long (q2 + q1)), .second, .val (.long (q2 + (q1 - (q3 - q2)))), .second, .val (.long (q4 + (q1 - (q3 - q2)))), .second, .val (.long (q6 + ((q1 - (q3 - q2)) - (q5 - q4)))), .second, .val (.long (q1 - (q3 - q2))), .second, .val (.long ((q1 - (q3 - q2)) - (q5 - q4))), .second] [(.long q2), (.long (q2 + (q1 - (q3 - q2))))])) _
    refine XS.lload X35.here hx rfl (hb hby at_102) rfl ?_
    show Steps p.tables e below (T35.setTop (mkF m 104 #[.val (.long q1), .second, .val (.long q2), .second, .val (.long q3), .second, .val (.long q4), .second, .val (.long q5), .second, .val (.long q6), .second, .val (.ref b1), .val (.long (q2 + q1)), .second, .val (.long (q2 + (q1 - (q3 - q2)))), .second, .val (.long (q4 + (q1 - (q3 - q2)))), .second, .val (.long (q6 + ((q1 - (q3 - q2)) - (q5 - q4)))), .second, .val (.long (q1 - (q3 - q2))), .second, .val (.long ((q1 - (q3 - q2)) - (q5 - q4))), .second] [(.long (q1 - (q3 - q2))), (.long q2), (.long (q2 + (q1 - (q3 - q2))))])) _
    refine XS.ladd X35.here hx rfl (hb hby at_104) rfl ?_
    show Steps p.tables e below (T35.setTop (mkF m 105 #[.val (.long q1), .second, .val (.long q2), .second, .val (.long q3), .second, .val (.long q4), .second, .val (.long q5), .second, .val (.long q6), .second, .val (.ref b1), .val (.long (q2 + q1)), .second, .val (.long (q2 + (q1 - (q3 - q2)))), .second, .val (.long (q4 + (q1 - (q3 - q2)))), .second, .val (.long (q6 + ((q1 - (q3 - q2)) - (q5 - q4)))), .second, .val (.long (q1 - (q3 - q2))), .second, .val (.long ((q1 - (q3 - q2)) - (q5 - q4))), .second] [(.long (q2 + (q1 - (q3 - q2)))), (.long (q2 + (q1 - (q3 - q2))))])) _
    refine XS.lcmp X35.here hx rfl (hb hby at_105) rfl ?_
    show Steps p.tables e below (T35.setTop (mkF m 106 #[.val (.long q1), .second, .val (.long q2), .second, .val (.long q3), .second, .val (.long q4), .second, .val (.long q5), .second, .val (.long q6), .second, .val (.ref b1), .val (.long (q2 + q1)), .second, .val (.long (q2 + (q1 - (q3 - q2)))), .second, .val (.long (q4 + (q1 - (q3 - q2)))), .second, .val (.long (q6 + ((q1 - (q3 - q2)) - (q5 - q4)))), .second, .val (.long (q1 - (q3 - q2))), .second, .val (.long ((q1 - (q3 - q2)) - (q5 - q4))), .second] [(.int (lcmpW (q2 + (q1 - (q3 - q2))) (q2 + (q1 - (q3 - q2)))))])) _
    refine XS.ifNo X35.here hx rfl (hb hby at_106) rfl ((if0 _ _).trans (teq ((lw_eq (q2 + (q1 - (q3 - q2))) (q2 + (q1 - (q3 - q2)))).mpr (rfl : (q2 + (q1 - (q3 - q2))) = (q2 + (q1 - (q3 - q2)))))).2) ?_
    show Steps p.tables e below (T35.setTop (mkF m 109 #[.val (.long q1), .second, .val (.long q2), .second, .val (.long q3), .second, .val (.long q4), .second, .val (.long q5), .second, .val (.long q6), .second, .val (.ref b1), .val (.long (q2 + q1)), .second, .val (.long (q2 + (q1 - (q3 - q2)))), .second, .val (.long (q4 + (q1 - (q3 - q2)))), .second, .val (.long (q6 + ((q1 - (q3 - q2)) - (q5 - q4)))), .second, .val (.long (q1 - (q3 - q2))), .second, .val (.long ((q1 - (q3 - q2)) - (q5 - q4))), .second] [])) _
    refine XS.lload X35.here hx rfl (hb hby at_109) rfl ?_
    show Steps p.tables e below (T35.setTop (mkF m 111 #[.val (.long q1), .second, .val (.long q2), .second, .val (.long q3), .second, .val (.long q4), .second, .val (.long q5), .second, .val (.long q6), .second, .val (.ref b1), .val (.long (q2 + q1)), .second, .val (.long (q2 + (q1 - (q3 - q2)))), .second, .val (.long (q4 + (q1 - (q3 - q2)))), .second, .val (.long (q6 + ((q1 - (q3 - q2)) - (q5 - q4)))), .second, .val (.long (q1 - (q3 - q2))), .second, .val (.long ((q1 - (q3 - q2)) - (q5 - q4))), .second] [(.long (q4 + (q1 - (q3 - q2))))])) _
    refine XS.lload X35.here hx rfl (hb hby at_111) rfl ?_
    show Steps p.tables e below (T35.setTop (mkF m 113 #[.val (.long q1), .second, .val (.long q2), .second, .val (.long q3), .second, .val (.long q4), .second, .val (.long q5), .second, .val (.long q6), .second, .val (.ref b1), .val (.long (q2 + q1)), .second, .val (.long (q2 + (q1 - (q3 - q2)))), .second, .val (.long (q4 + (q1 - (q3 - q2)))), .second, .val (.long (q6 + ((q1 - (q3 - q2)) - (q5 - q4)))), .second, .val (.long (q1 - (q3 - q2))), .second, .val (.long ((q1 - (q3 - q2)) - (q5 - q4))), .second] [(.long q4), (.long (q4 + (q1 - (q3 - q2))))])) _
    refine XS.lload X35.here hx rfl (hb hby at_113) rfl ?_
    show Steps p.tables e below (T35.setTop (mkF m 115 #[.val (.long q1), .second, .val (.long q2), .second, .val (.long q3), .second, .val (.long q4), .second, .val (.long q5), .second, .val (.long q6), .second, .val (.ref b1), .val (.long (q2 + q1)), .second, .val (.long (q2 + (q1 - (q3 - q2)))), .second, .val (.long (q4 + (q1 - (q3 - q2)))), .second, .val (.long (q6 + ((q1 - (q3 - q2)) - (q5 - q4)))), .second, .val (.long (q1 - (q3 - q2))), .second, .val (.long ((q1 - (q3 - q2)) - (q5 - q4))), .second] [(.long (q1 - (q3 - q2))), (.long q4), (.long (q4 + (q1 - (q3 - q2))))])) _
    refine XS.ladd X35.here hx rfl (hb hby at_115) rfl ?_
    show Steps p.tables e below (T35.setTop (mkF m 116 #[.val (.long q1), .second, .val (.long q2), .second, .val (.long q3), .second, .val (.long q4), .second, .val (.long q5), .second, .val (.long q6), .second, .val (.ref b1), .val (.long (q2 + q1)), .second, .val (.long (q2 + (q1 - (q3 - q2)))), .second, .val (.long (q4 + (q1 - (q3 - q2)))), .second, .val (.long (q6 + ((q1 - (q3 - q2)) - (q5 - q4)))), .second, .val (.long (q1 - (q3 - q2))), .second, .val (.long ((q1 - (q3 - q2)) - (q5 - q4))), .second] [(.long (q4 + (q1 - (q3 - q2)))), (.long (q4 + (q1 - (q3 - q2))))])) _
    refine XS.lcmp X35.here hx rfl (hb hby at_116) rfl ?_
    show Steps p.tables e below (T35.setTop (mkF m 117 #[.val (.long q1), .second, .val (.long q2), .second, .val (.long q3), .second, .val (.long q4), .second, .val (.long q5), .second, .val (.long q6), .second, .val (.ref b1), .val (.long (q2 + q1)), .second, .val (.long (q2 + (q1 - (q3 - q2)))), .second, .val (.long (q4 + (q1 - (q3 - q2)))), .second, .val (.long (q6 + ((q1 - (q3 - q2)) - (q5 - q4)))), .second, .val (.long (q1 - (q3 - q2))), .second, .val (.long ((q1 - (q3 - q2)) - (q5 - q4))), .second] [(.int (lcmpW (q4 + (q1 - (q3 - q2))) (q4 + (q1 - (q3 - q2)))))])) _
    refine XS.ifNo X35.here hx rfl (hb hby at_117) rfl ((if0 _ _).trans (teq ((lw_eq (q4 + (q1 - (q3 - q2))) (q4 + (q1 - (q3 - q2)))).mpr (rfl : (q4 + (q1 - (q3 - q2))) = (q4 + (q1 - (q3 - q2)))))).2) ?_
    show Steps p.tables e below (T35.setTop (mkF m 120 #[.val (.long q1), .second, .val (.long q2), .second, .val (.long q3), .second, .val (.long q4), .second, .val (.long q5), .second, .val (.long q6), .second, .val (.ref b1), .val (.long (q2 + q1)), .second, .val (.long (q2 + (q1 - (q3 - q2)))), .second, .val (.long (q4 + (q1 - (q3 - q2)))), .second, .val (.long (q6 + ((q1 - (q3 - q2)) - (q5 - q4)))), .second, .val (.long (q1 - (q3 - q2))), .second, .val (.long ((q1 - (q3 - q2)) - (q5 - q4))), .second] [])) _
    refine XS.lload X35.here hx rfl (hb hby at_120) rfl ?_
    show Steps p.tables e below (T35.setTop (mkF m 122 #[.val (.long q1), .second, .val (.long q2), .second, .val (.long q3), .second, .val (.long q4), .second, .val (.long q5), .second, .val (.long q6), .second, .val (.ref b1), .val (.long (q2 + q1)), .second, .val (.long (q2 + (q1 - (q3 - q2)))), .second, .val (.long (q4 + (q1 - (q3 - q2)))), .second, .val (.long (q6 + ((q1 - (q3 - q2)) - (q5 - q4)))), .second, .val (.long (q1 - (q3 - q2))), .second, .val (.long ((q1 - (q3 - q2)) - (q5 - q4))), .second] [(.long (q6 + ((q1 - (q3 - q2)) - (q5 - q4))))])) _
    refine XS.lload X35.here hx rfl (hb hby at_122) rfl ?_
    show Steps p.tables e below (T35.setTop (mkF m 124 #[.val (.long q1), .second, .val (.long q2), .second, .val (.long q3), .second, .val (.long q4), .second, .val (.long q5), .second, .val (.long q6), .second, .val (.ref b1), .val (.long (q2 + q1)), .second, .val (.long (q2 + (q1 - (q3 - q2)))), .second, .val (.long (q4 + (q1 - (q3 - q2)))), .second, .val (.long (q6 + ((q1 - (q3 - q2)) - (q5 - q4)))), .second, .val (.long (q1 - (q3 - q2))), .second, .val (.long ((q1 - (q3 - q2)) - (q5 - q4))), .second] [(.long q6), (.long (q6 + ((q1 - (q3 - q2)) - (q5 - q4))))])) _
    refine XS.lload X35.here hx rfl (hb hby at_124) rfl ?_
    show Steps p.tables e below (T35.setTop (mkF m 126 #[.val (.long q1), .second, .val (.long q2), .second, .val (.long q3), .second, .val (.long q4), .second, .val (.long q5), .second, .val (.long q6), .second, .val (.ref b1), .val (.long (q2 + q1)), .second, .val (.long (q2 + (q1 - (q3 - q2)))), .second, .val (.long (q4 + (q1 - (q3 - q2)))), .second, .val (.long (q6 + ((q1 - (q3 - q2)) - (q5 - q4)))), .second, .val (.long (q1 - (q3 - q2))), .second, .val (.long ((q1 - (q3 - q2)) - (q5 - q4))), .second] [(.long ((q1 - (q3 - q2)) - (q5 - q4))), (.long q6), (.long (q6 + ((q1 - (q3 - q2)) - (q5 - q4))))])) _
    refine XS.ladd X35.here hx rfl (hb hby at_126) rfl ?_
    show Steps p.tables e below (T35.setTop (mkF m 127 #[.val (.long q1), .second, .val (.long q2), .second, .val (.long q3), .second, .val (.long q4), .second, .val (.long q5), .second, .val (.long q6), .second, .val (.ref b1), .val (.long (q2 + q1)), .second, .val (.long (q2 + (q1 - (q3 - q2)))), .second, .val (.long (q4 + (q1 - (q3 - q2)))), .second, .val (.long (q6 + ((q1 - (q3 - q2)) - (q5 - q4)))), .second, .val (.long (q1 - (q3 - q2))), .second, .val (.long ((q1 - (q3 - q2)) - (q5 - q4))), .second] [(.long (q6 + ((q1 - (q3 - q2)) - (q5 - q4)))), (.long (q6 + ((q1 - (q3 - q2)) - (q5 - q4))))])) _
    refine XS.lcmp X35.here hx rfl (hb hby at_127) rfl ?_
    show Steps p.tables e below (T35.setTop (mkF m 128 #[.val (.long q1), .second, .val (.long q2), .second, .val (.long q3), .second, .val (.long q4), .second, .val (.long q5), .second, .val (.long q6), .second, .val (.ref b1), .val (.long (q2 + q1)), .second, .val (.long (q2 + (q1 - (q3 - q2)))), .second, .val (.long (q4 + (q1 - (q3 - q2)))), .second, .val (.long (q6 + ((q1 - (q3 - q2)) - (q5 - q4)))), .second, .val (.long (q1 - (q3 - q2))), .second, .val (.long ((q1 - (q3 - q2)) - (q5 - q4))), .second] [(.int (lcmpW (q6 + ((q1 - (q3 - q2)) - (q5 - q4))) (q6 + ((q1 - (q3 - q2)) - (q5 - q4)))))])) _
    refine XS.ifNo X35.here hx rfl (hb hby at_128) rfl ((if0 _ _).trans (teq ((lw_eq (q6 + ((q1 - (q3 - q2)) - (q5 - q4))) (q6 + ((q1 - (q3 - q2)) - (q5 - q4)))).mpr (rfl : (q6 + ((q1 - (q3 - q2)) - (q5 - q4))) = (q6 + ((q1 - (q3 - q2)) - (q5 - q4)))))).2) ?_
    show Steps p.tables e below (T35.setTop (mkF m 131 #[.val (.long q1), .second, .val (.long q2), .second, .val (.long q3), .second, .val (.long q4), .second, .val (.long q5), .second, .val (.long q6), .second, .val (.ref b1), .val (.long (q2 + q1)), .second, .val (.long (q2 + (q1 - (q3 - q2)))), .second, .val (.long (q4 + (q1 - (q3 - q2)))), .second, .val (.long (q6 + ((q1 - (q3 - q2)) - (q5 - q4)))), .second, .val (.long (q1 - (q3 - q2))), .second, .val (.long ((q1 - (q3 - q2)) - (q5 - q4))), .second] [])) _
    refine XS.iconst X35.here hx rfl (hb hby at_131) ?_
    show Steps p.tables e below (T35.setTop (mkF m 132 #[.val (.long q1), .second, .val (.long q2), .second, .val (.long q3), .second, .val (.long q4), .second, .val (.long q5), .second, .val (.long q6), .second, .val (.ref b1), .val (.long (q2 + q1)), .second, .val (.long (q2 + (q1 - (q3 - q2)))), .second, .val (.long (q4 + (q1 - (q3 - q2)))), .second, .val (.long (q6 + ((q1 - (q3 - q2)) - (q5 - q4)))), .second, .val (.long (q1 - (q3 - q2))), .second, .val (.long ((q1 - (q3 - q2)) - (q5 - q4))), .second] [(.int (1 : Int32))])) _
    refine XS.goto X35.here hx rfl (pc0 := 132) (pc' := 136) rfl (hb hby at_132) (by decide) (by decide) ?_
    exact kt
  show own_End p e below s (T35.setTop (mkF m 136 #[.val (.long q1), .second, .val (.long q2), .second, .val (.long q3), .second, .val (.long q4), .second, .val (.long q5), .second, .val (.long q6), .second, .val (.ref b1), .val (.long (q2 + q1)), .second, .val (.long (q2 + (q1 - (q3 - q2)))), .second, .val (.long (q4 + (q1 - (q3 - q2)))), .second, .val (.long (q6 + ((q1 - (q3 - q2)) - (q5 - q4)))), .second, .val (.long (q1 - (q3 - q2))), .second, .val (.long ((q1 - (q3 - q2)) - (q5 - q4))), .second] [(.int (1 : Int32))])) (Q0 Z q1 q2 q3 q4 q5 q6 h0 n0) room_1.cells room_1.slots
  have hv : (own_law q1 q2 q3 q4 q5 q6) = (1 : Int32) := hj.trans (by simp only [own_law])
  obtain ⟨fs, hr, hrun, hended, hW, hsame⟩ := X35.leave (v := some (.int (1 : Int32))) (fun h => by rw [Bd.returns] at h; cases h)
  refine ⟨_, _, ?_, hrun, hended, _, _, rfl, ?_, ⟨_, rfl⟩, hW, hsame.mono (by decide) (by decide)⟩
  · exact retN X35 hx (t := .boolean) Bd.returns (by simp) (hb hby at_136) hr
  · show Q0 Z q1 q2 q3 q4 q5 q6 h0 n0 _ T35.heap _
    rw [e35]
    exact ⟨(congrArg (fun z => some (Value.int z)) hv.symm), N35⟩
theorem own_true (idle s n t m u : Int64) : own_law idle s n t m u = 1 := by
  rfl
set_option maxRecDepth 65536 in
set_option maxHeartbeats 40000000 in
theorem comes_1 {Post : Tables → Env → Array Value → State → Outcome → State → Prop} (hpost : ∀ tb e args s v u, (limb_1_1.after args s (.returned v) u = true ∧ limb_1_2.after args s (.returned v) u = true ∧ True) → FrameEnd s (.returned v) u (Jvm.fieldLocs frame_1_writes args s ++ Jvm.arrayLocs frame_1_arrays args s ++ Jvm.staticLocs frame_1_statics s) 16 128 → Post tb e args s (.returned v) u) :
    ArmFor flags0 classFile x code maxLocals ret World_1 tables_1 room_1 Calls_1 rest_1 Pre_1 Post := by
  intro l hfl _ _ p e ha hc hk s m args below hf hA hF happ hP
  obtain ⟨hcalls, hrest, hpre⟩ := hP
  obtain ⟨-, -, -, hnamed, -, -, -, hat⟩ := (Spec.applies_iff hf).mp happ
  obtain ⟨hg, hn⟩ := and_e (Cond.before_iff.mp (show (Jvm.Cond.and given_1 narrow_1).before args s = true from hpre))
  obtain ⟨g1, g2⟩ := and_e hg
  obtain ⟨g3, g4⟩ := and_e g2
  obtain ⟨g5, g6⟩ := and_e g4
  obtain ⟨g7, g8⟩ := and_e g6
  obtain ⟨g9, g10⟩ := and_e g8
  obtain ⟨g11, g12⟩ := and_e g10
  obtain ⟨w0, w1, w2, w3, w4, w5, rfl⟩ : ∃ w0 w1 w2 w3 w4 w5 : Value, args = #[w0, w1, w2, w3, w4, w5] := by
    have hs : args.size = 6 := by simpa [Cond.value, given_1] using g1
    obtain ⟨L⟩ := args
    match L, hs with
    | [w0, w1, w2, w3, w4, w5], _ => exact ⟨w0, w1, w2, w3, w4, w5, rfl⟩
  have hw := fun d (hd : d ∈ tables_1) => atoms_spec (ws := Jvm.Cond.code x code maxLocals ret :: tables_1) hat d (List.mem_cons_of_mem _ hd)
  have hfit : Fit s := fun {y c} hc i hi => by
    obtain ⟨ha, rfl⟩ := Array.getElem?_eq_some_iff.mp hc
    have q := List.all_eq_true.mp ((Array.all_eq_true_iff_forall_mem.mp hF) _ (Array.getElem_mem ha)) i (List.mem_range.mpr hi)
    simpa [Array.getElem?_eq_getElem hi] using q
  obtain ⟨i0, ei0⟩ := isL_v g3
  obtain rfl : w0 = (.long i0) := Option.some.inj ei0
  obtain ⟨i1, ei1⟩ := isL_v g5
  obtain rfl : w1 = (.long i1) := Option.some.inj ei1
  obtain ⟨i2, ei2⟩ := isL_v g7
  obtain rfl : w2 = (.long i2) := Option.some.inj ei2
  obtain ⟨i3, ei3⟩ := isL_v g9
  obtain rfl : w3 = (.long i3) := Option.some.inj ei3
  obtain ⟨i4, ei4⟩ := isL_v g11
  obtain rfl : w4 = (.long i4) := Option.some.inj ei4
  obtain ⟨i5, ei5⟩ := isL_v g12
  obtain rfl : w5 = (.long i5) := Option.some.inj ei5
  obtain ⟨n, o, h1, h2, h3, _, L, rfl, ⟨rfl, N⟩, hq⟩ := rm0 l s _ hw tables_1 i0 i1 i2 i3 i4 i5 s.heap s.heap.size (Nat.le_refl _)  p e ha hc hk s m _ below hf ((Spec.applies_iff_loose hf).mp happ).1 ⟨rfl, State.Warmed39.refl s, rfl⟩ trivial
  refine ⟨n, _, h1, h2, h3, hpost _ _ _ _ _ _ ⟨Cond.after_iff.mpr rfl, Cond.after_iff.mpr (eq_i res_at (Term.int_eval (1)) (congrArg Value.int (own_true i0 i1 i2 i3 i4 i5))), trivial⟩ ⟨hq.1, hq.2.1, (hq.2.2.sift fun y hy => Or.inr (N y hy)).mono (by decide) (by decide)⟩⟩
theorem main_1_1 : Claimed_1_1 := comes_1 fun _ _ _ _ _ _ h hF => ⟨h.1, hF⟩
theorem main_1_2 : Claimed_1_2 := comes_1 fun _ _ _ _ _ _ h hF => ⟨h.2.1, hF⟩
end Jvm.Pilot.@@N@@
namespace Jvm.Pilot.@@N@@
open Jvm Jvm.ClassFile Sem Op Lib Jvm.Free Jvm.Stand Jvm.Pilot.@@N@@.Jvm.D
/-! MADE BY PROGRAM (witnessworld.py) out of the Statement's table words and the real class files: 9 classes; the members and pool entries that the words name. The judged class is class 1, her method 1. -/
namespace start1
open Jvm.ClassFile
def u (s : String) : CpInfo := .utf8 (stringToUtf16 s)
/-- a pool by its gaps: so many unusable entries, then the entry; so many at the end -/
def gap : Nat → List CpInfo → List CpInfo
  | 0, r => r
  | n + 1, r => .unusable :: gap n r
def poolList (es : List (Nat × CpInfo)) (last : Nat) : List CpInfo := es.foldr (fun e r => gap e.1 (e.2 :: r)) (gap last [])
def pool (es : List (Nat × CpInfo)) (last : Nat) : Array CpInfo := ⟨poolList es last⟩
def fileOf (pool : Array CpInfo) (this : Nat) (attrs : Array Attribute := #[]) (ms : Array MethodInfo := #[]) (fl : Nat := 33) (sup : Nat := 0) (ifs : Array Nat := #[]) (fds : Array FieldInfo := #[]) : ClassFile where
  minorVersion := 0
  majorVersion := 65
  constantPool := pool
  accessFlags := fl
  thisClass := this
  superClass := sup
  interfaces := ifs
  fields := fds
  methods := ms
  attributes := attrs
def plain (name : String) (sup : Option ClassId) : Class where
  name := name
  kind := .ordinary
  loader := none
  accessFlags := 33
  super := sup
  interfaces := #[]
  cf := none
  fields := #[]
  methods := #[]
  instanceTypes := #[]
  staticTypes := #[]
  resolved := #[]
  callSites := []
  init := .initialized
  statics := none
  mirror := none

def pool0 : Array CpInfo := pool [(5, u "<init>"), (0, u "()V"), (1, .class_ 10), (1, u "java/lang/Object")] 113

def k0c0 : Code := { maxStack := 0, maxLocals := 1, code := object_method_1_code, exceptionTable := #[], attributes := #[] }
def k0m0 : Method := { name := "<init>", desc := "()V", sig := { parameters := [], returnType := none }, accessFlags := 1, code := some k0c0 }
/-- java/lang/Object -/
def k0 : Class := { plain "java/lang/Object" none with
  accessFlags := 33
  interfaces := #[]
  cf := some (fileOf pool0 8 #[] #[{ accessFlags := 1, nameIndex := 5, descriptorIndex := 6, attributes := #[] }] 33 0 #[] #[])
  fields := #[]
  methods := #[k0m0]
  instanceTypes := #[]
  staticTypes := #[]
  resolved := Array.replicate 124 none
  statics := none }

def pool1 : Array CpInfo := pool [(2, .class_ 4), (1, u "java/lang/Object"), (0, u "<init>"), (0, u "()V"), (0, .class_ 8), (0, u "com/example/door3/door3/transport/LeastRate"), (0, .methodref 7 10), (0, .nameAndType 5 11), (0, u "(J)V"), (0, .methodref 7 13), (0, .nameAndType 14 11), (0, u "startWaiting"), (0, .methodref 7 16), (0, .nameAndType 17 18), (0, u "deadline"), (0, u "()J"), (0, .methodref 7 20), (0, .nameAndType 21 11), (0, u "stopWaiting"), (0, .class_ 23), (0, u "com/example/door3/door3/transport/LeastRateStopWaitingPinLaw"), (2, u "law"), (0, u "(JJJJJJ)Z")] 3

def k1m0 : Method := { name := "<init>", desc := "()V", sig := { parameters := [], returnType := none }, accessFlags := 1, code := none }
def k1c1 : Code := { maxStack := 6, maxLocals := 25, code := code, exceptionTable := #[], attributes := #[] }
def k1m1 : Method := { name := "law", desc := "(JJJJJJ)Z", sig := { parameters := [.long, .long, .long, .long, .long, .long], returnType := some .boolean }, accessFlags := 9, code := some k1c1 }
/-- com/example/door3/door3/transport/LeastRateStopWaitingPinLaw -/
def k1 : Class := { plain "com/example/door3/door3/transport/LeastRateStopWaitingPinLaw" (some 0) with
  accessFlags := 49
  interfaces := #[]
  cf := some (fileOf pool1 22 #[] #[{ accessFlags := 1, nameIndex := 5, descriptorIndex := 6, attributes := #[] }, { accessFlags := 9, nameIndex := 26, descriptorIndex := 27, attributes := #[] }] 49 2 #[] #[])
  fields := #[]
  methods := #[k1m0, k1m1]
  instanceTypes := #[]
  staticTypes := #[]
  resolved := Array.replicate 31 none
  statics := none }

def pool2 : Array CpInfo := pool [(1, .methodref 2 3), (0, .class_ 4), (0, .nameAndType 5 6), (0, u "java/lang/Object"), (0, u "<init>"), (0, u "()V"), (0, .fieldref 8 9), (0, .class_ 10), (0, .nameAndType 11 12), (0, u "com/example/door3/door3/transport/LeastRate"), (0, u "idleNanos"), (0, u "J"), (0, .fieldref 8 14), (0, .nameAndType 15 12), (0, u "left"), (2, u "moved"), (0, .fieldref 8 20), (0, .nameAndType 21 12), (0, u "since"), (5, u "SLICE"), (0, u "I"), (2, u "(J)V"), (2, u "startWaiting"), (0, u "stopWaiting"), (2, u "deadline"), (0, u "()J")] 2

def k2c0 : Code := { maxStack := 3, maxLocals := 3, code := prog_33_method_1_code, exceptionTable := #[], attributes := #[] }
def k2m0 : Method := { name := "<init>", desc := "(J)V", sig := { parameters := [.long], returnType := none }, accessFlags := 0, code := some k2c0 }
def k2c1 : Code := { maxStack := 3, maxLocals := 3, code := prog_33_method_3_code, exceptionTable := #[], attributes := #[] }
def k2m1 : Method := { name := "startWaiting", desc := "(J)V", sig := { parameters := [.long], returnType := none }, accessFlags := 0, code := some k2c1 }
def k2c2 : Code := { maxStack := 7, maxLocals := 3, code := prog_33_method_4_code, exceptionTable := #[], attributes := #[] }
def k2m2 : Method := { name := "stopWaiting", desc := "(J)V", sig := { parameters := [.long], returnType := none }, accessFlags := 0, code := some k2c2 }
def k2c3 : Code := { maxStack := 4, maxLocals := 1, code := prog_33_method_6_code, exceptionTable := #[], attributes := #[] }
def k2m3 : Method := { name := "deadline", desc := "()J", sig := { parameters := [], returnType := some .long }, accessFlags := 0, code := some k2c3 }
/-- com/example/door3/door3/transport/LeastRate -/
def k2 : Class := { plain "com/example/door3/door3/transport/LeastRate" (some 0) with
  accessFlags := 32
  interfaces := #[]
  cf := some (fileOf pool2 8 #[] #[{ accessFlags := 0, nameIndex := 5, descriptorIndex := 31, attributes := #[] }, { accessFlags := 0, nameIndex := 34, descriptorIndex := 31, attributes := #[] }, { accessFlags := 0, nameIndex := 35, descriptorIndex := 31, attributes := #[] }, { accessFlags := 0, nameIndex := 38, descriptorIndex := 39, attributes := #[] }] 32 2 #[] #[{ accessFlags := 24, nameIndex := 27, descriptorIndex := 28, attributes := #[] }, { accessFlags := 18, nameIndex := 11, descriptorIndex := 12, attributes := #[] }, { accessFlags := 2, nameIndex := 15, descriptorIndex := 12, attributes := #[] }, { accessFlags := 2, nameIndex := 21, descriptorIndex := 12, attributes := #[] }, { accessFlags := 2, nameIndex := 18, descriptorIndex := 12, attributes := #[] }])
  fields := #[{ name := "SLICE", type := .int, accessFlags := 24, slot := 0, constantValue := 0 }, { name := "idleNanos", type := .long, accessFlags := 18, slot := 0, constantValue := 0 }, { name := "left", type := .long, accessFlags := 2, slot := 1, constantValue := 0 }, { name := "since", type := .long, accessFlags := 2, slot := 2, constantValue := 0 }, { name := "moved", type := .long, accessFlags := 2, slot := 3, constantValue := 0 }]
  methods := #[k2m0, k2m1, k2m2, k2m3]
  instanceTypes := #[.long, .long, .long, .long]
  staticTypes := #[.int]
  resolved := Array.replicate 42 none
  statics := none }

def pool3 : Array CpInfo := pool [(1, u "java/lang/Cloneable"), (0, .class_ 1), (0, u "java/lang/Object"), (0, .class_ 3)] 3

/-- java/lang/Cloneable -/
def k3 : Class := { plain "java/lang/Cloneable" (some 0) with
  accessFlags := 1537
  interfaces := #[]
  cf := some (fileOf pool3 2 #[] #[] 1537 4 #[] #[])
  fields := #[]
  methods := #[]
  instanceTypes := #[]
  staticTypes := #[]
  resolved := Array.replicate 8 none
  statics := none }

def pool4 : Array CpInfo := pool [(1, u "java/io/Serializable"), (0, .class_ 1), (0, u "java/lang/Object"), (0, .class_ 3)] 3

/-- java/io/Serializable -/
def k4 : Class := { plain "java/io/Serializable" (some 0) with
  accessFlags := 1537
  interfaces := #[]
  cf := some (fileOf pool4 2 #[] #[] 1537 4 #[] #[])
  fields := #[]
  methods := #[]
  instanceTypes := #[]
  staticTypes := #[]
  resolved := Array.replicate 8 none
  statics := none }

/-- the primitive byte -/
def k5 : Class := { plain "byte" none with kind := .primitive 'B', accessFlags := 0x411 }
/-- [B -/
def k6 : Class := { plain "[B" (some 0) with kind := .array 5 .byte, interfaces := #[3, 4], accessFlags := 1041 }

/-- the primitive int -/
def k7 : Class := { plain "int" none with kind := .primitive 'I', accessFlags := 0x411 }
/-- [I -/
def k8 : Class := { plain "[I" (some 0) with kind := .array 7 .int, interfaces := #[3, 4], accessFlags := 1041 }

def heap : Heap := #[]
def classes : Array Class := #[k0, k1, k2, k3, k4, k5, k6, k7, k8]
def interned : List (Array UInt16 × Addr) := []
def slotsUsed : Nat := 0
def theMethod : MethodId := ⟨1, 1⟩
def args0 : Array Value := #[.long 5, .long 9, .long 3, .long 4, .long 7, .long 8]
def aboutOver (below : List Frame) : State where
  vm := { classes := classes, interned := interned.toArray }
  heap := heap
  slotsUsed := slotsUsed
  threads := #[{ frames := .invoking theMethod args0 :: below }]
def below0 : List Frame := [.native { method := ⟨0, 0⟩, args := #[] }]
def about1 : State := aboutOver below0
def p0 : Program := .bare "" "" ""
def e0 : Env := launch0.env 0 0 0
theorem w_frames : about1.frames = Frame.invoking theMethod args0 :: below0 := rfl
set_option maxRecDepth 65536 in
theorem w_args : argsFit about1.vm theMethod args0 = true := by decide +kernel
set_option maxRecDepth 65536 in
theorem w_heap : heapFits about1 = true := by decide +kernel
set_option maxRecDepth 65536 in
theorem w_runnable : about1.curStatus? = some .runnable := by decide +kernel
set_option maxRecDepth 65536 in
theorem w_alone : about1.alone = true := by decide +kernel
set_option maxRecDepth 65536 in
theorem w_named : about1.methodNamed? x = some theMethod := by decide +kernel
set_option maxRecDepth 65536 in
theorem w_hears : about1.hears theMethod below0 = true := by decide +kernel
set_option maxRecDepth 65536 in
theorem w_ripe : about1.ripe theMethod args0 below0 = true := by decide +kernel
theorem w_running : about1.status = .running := rfl
set_option maxRecDepth 65536 in
theorem w_room : about1.hasRoom e0.platform room_1 = true :=
  launch0.hasRoom_least _ room_1 (by decide +kernel) (by decide +kernel) (by decide +kernel) (by decide +kernel) (by decide +kernel) (by decide +kernel)
theorem allAtoms_all (ts : List Jvm.Cond) (a : Array Jvm.Value) (st : Jvm.State) : (allAtoms ts).before a st = ts.all (fun c => c.before a st) := by
  induction ts with
  | nil => rfl
  | cons c t ih =>
    show (Jvm.Cond.and c (allAtoms t)).before a st = _
    rw [Jvm.Cond.before_and, ih, List.all_cons]
def words1 : List Jvm.Cond := Jvm.Cond.code x code maxLocals ret :: tables_1
/-- a 'code' word, met by the world's own term for the bytes: nothing is compared byte by byte -/
theorem code_word {y : MethodName} {bytes : ByteArray} {mx : Nat} {rt : Option FieldType} {a : Array Value} {s : State} {m : MethodId} {meth : Method} {c : Code} (h1 : s.methodNamed? y = some m) (h2 : s.vm.method? m = some meth) (h3 : meth.code = some c) (h4 : c.code = bytes)
    (h5 : (c.maxLocals == mx && c.exceptionTable.isEmpty && decide (c.maxStack ≤ mostOperands) && decide (meth.sig.returnType = rt) && !meth.locks && decide (parseMethodDescriptor y.desc = some meth.sig)) = true) : (Jvm.Cond.code y bytes mx rt).before a s = true := by
  simp only [Bool.and_eq_true, beq_iff_eq, Bool.not_eq_true', decide_eq_true_eq] at h5
  obtain ⟨⟨⟨⟨⟨g1, g2⟩, g3⟩, g4⟩, g5⟩, g6⟩ := h5
  simp [Cond.before, Cond.holds, Cond.value, h1, h2, h3, h4, g1, g2, g3, g4, g5, g6]
def isCode : Jvm.Cond → Bool
  | .code _ _ _ _ => true
  | _ => false
theorem all_split {L : List Jvm.Cond} {P : Jvm.Cond → Bool} (h1 : L.all (fun c => isCode c || P c) = true) (h2 : ∀ c ∈ L.filter isCode, P c = true) : L.all P = true := by
  refine List.all_eq_true.mpr fun c hc => ?_
  have h := List.all_eq_true.mp h1 c hc
  rcases Bool.eq_false_or_eq_true (isCode c) with hi | hi
  · exact h2 c (List.mem_filter.mpr ⟨hc, hi⟩)
  · simpa [hi] using h
set_option maxRecDepth 65536 in
theorem w_c0 : (Jvm.Cond.code x code maxLocals ret).before args0 about1 = true := code_word (m := ⟨1, 1⟩) (meth := k1m1) (c := k1c1) (by decide +kernel) rfl rfl rfl (by decide +kernel)
set_option maxRecDepth 65536 in
theorem w_c1 : (Jvm.Cond.code ({ cls := "com/example/door3/door3/transport/LeastRate", name := "<init>", desc := "(J)V" } : Jvm.MethodName) prog_33_method_1_code (3 : Nat) (Option.none : Option Jvm.ClassFile.FieldType)).before args0 about1 = true := code_word (m := ⟨2, 0⟩) (meth := k2m0) (c := k2c0) (by decide +kernel) rfl rfl rfl (by decide +kernel)
set_option maxRecDepth 65536 in
theorem w_c2 : (Jvm.Cond.code ({ cls := "java/lang/Object", name := "<init>", desc := "()V" } : Jvm.MethodName) object_method_1_code (1 : Nat) (Option.none : Option Jvm.ClassFile.FieldType)).before args0 about1 = true := code_word (m := ⟨0, 0⟩) (meth := k0m0) (c := k0c0) (by decide +kernel) rfl rfl rfl (by decide +kernel)
set_option maxRecDepth 65536 in
theorem w_c3 : (Jvm.Cond.code ({ cls := "com/example/door3/door3/transport/LeastRate", name := "startWaiting", desc := "(J)V" } : Jvm.MethodName) prog_33_method_3_code (3 : Nat) (Option.none : Option Jvm.ClassFile.FieldType)).before args0 about1 = true := code_word (m := ⟨2, 1⟩) (meth := k2m1) (c := k2c1) (by decide +kernel) rfl rfl rfl (by decide +kernel)
set_option maxRecDepth 65536 in
theorem w_c4 : (Jvm.Cond.code ({ cls := "com/example/door3/door3/transport/LeastRate", name := "deadline", desc := "()J" } : Jvm.MethodName) prog_33_method_6_code (1 : Nat) (Option.some Jvm.ClassFile.FieldType.long)).before args0 about1 = true := code_word (m := ⟨2, 3⟩) (meth := k2m3) (c := k2c3) (by decide +kernel) rfl rfl rfl (by decide +kernel)
set_option maxRecDepth 65536 in
theorem w_c5 : (Jvm.Cond.code ({ cls := "com/example/door3/door3/transport/LeastRate", name := "stopWaiting", desc := "(J)V" } : Jvm.MethodName) prog_33_method_4_code (3 : Nat) (Option.none : Option Jvm.ClassFile.FieldType)).before args0 about1 = true := code_word (m := ⟨2, 2⟩) (meth := k2m2) (c := k2c2) (by decide +kernel) rfl rfl rfl (by decide +kernel)
def codes1 : List Jvm.Cond := [Jvm.Cond.code x code maxLocals ret, Jvm.Cond.code ({ cls := "com/example/door3/door3/transport/LeastRate", name := "<init>", desc := "(J)V" } : Jvm.MethodName) prog_33_method_1_code (3 : Nat) (Option.none : Option Jvm.ClassFile.FieldType), Jvm.Cond.code ({ cls := "java/lang/Object", name := "<init>", desc := "()V" } : Jvm.MethodName) object_method_1_code (1 : Nat) (Option.none : Option Jvm.ClassFile.FieldType), Jvm.Cond.code ({ cls := "com/example/door3/door3/transport/LeastRate", name := "startWaiting", desc := "(J)V" } : Jvm.MethodName) prog_33_method_3_code (3 : Nat) (Option.none : Option Jvm.ClassFile.FieldType), Jvm.Cond.code ({ cls := "com/example/door3/door3/transport/LeastRate", name := "deadline", desc := "()J" } : Jvm.MethodName) prog_33_method_6_code (1 : Nat) (Option.some Jvm.ClassFile.FieldType.long), Jvm.Cond.code ({ cls := "com/example/door3/door3/transport/LeastRate", name := "stopWaiting", desc := "(J)V" } : Jvm.MethodName) prog_33_method_4_code (3 : Nat) (Option.none : Option Jvm.ClassFile.FieldType)]
set_option maxRecDepth 65536 in
theorem codes_eq : words1.filter isCode = codes1 := rfl
theorem w_codes : ∀ c ∈ words1.filter isCode, c.before args0 about1 = true := by
  rw [codes_eq]
  intro c hc
  simp only [codes1, List.mem_cons, List.not_mem_nil, or_false] at hc
  rcases hc with rfl | rfl | rfl | rfl | rfl | rfl
  · exact w_c0
  · exact w_c1
  · exact w_c2
  · exact w_c3
  · exact w_c4
  · exact w_c5
set_option maxRecDepth 65536 in
theorem w_t1 : (words1.take 24).all (fun c => isCode c || c.before args0 about1) = true := by decide +kernel
set_option maxRecDepth 65536 in
theorem w_t2 : (words1.drop 24).all (fun c => isCode c || c.before args0 about1) = true := by decide +kernel
theorem w_tables : (allAtoms (Jvm.Cond.code x code maxLocals ret :: tables_1)).before args0 about1 = true := by
  rw [allAtoms_all]
  show words1.all (fun c => c.before args0 about1) = true
  refine all_split ?_ w_codes
  rw [← List.take_append_drop 24 words1, List.all_append, w_t1, w_t2]
  rfl
set_option maxRecDepth 65536 in
theorem w_case : (Jvm.Cond.and given_1 narrow_1).before args0 about1 = true := by decide +kernel
theorem w_applies : (headSpec (Jvm.Cond.code x code maxLocals ret :: tables_1) room_1).applies x e0.platform about1 = true :=
  (Spec.applies_iff w_frames).mpr ⟨w_running, w_runnable, w_alone, w_named, w_hears, w_ripe, w_room, w_tables⟩
theorem atStart : AtStart classFile x code maxLocals ret World_1 tables_1 room_1 Calls_1 rest_1 Pre_1 launch0 p0 e0 about1 theMethod args0 below0 :=
  ⟨lists_1, trivial, launch0.admits_env _ _ _, launch0.least_env, fairChoices_fair.cas, fairChoices_fair.clock, w_frames, w_args, w_heap, w_applies, trivial, trivial, w_case⟩
end start1
theorem witness_1 : WitnessClaimed_1 := ⟨start1.p0, start1.e0, start1.about1, start1.theMethod, start1.args0, start1.below0, start1.atStart⟩
end Jvm.Pilot.@@N@@
