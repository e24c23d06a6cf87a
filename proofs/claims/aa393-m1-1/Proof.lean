import JvmDerived
import JvmDerived.Pilot.@@N@@Statement
import JvmDerived.Pilot.@@N@@Code
set_option linter.unusedVariables false
set_option linter.unusedSimpArgs false
namespace Jvm.RoadKit
open Sem ClassFile Op Lib Jvm.Stand Jvm.Free Jvm.LawKit
section New
variable {p : Program} {l : Launch} {e : Env} {R : Room} {s : State} {m : MethodId} {args : Array Value} {below : List Frame} {meth : Method} {c : Code} {T : State} {locs : List Loc} {cells slots : Nat}
theorem retI (X : Stand p l e R s m args below meth c T locs cells slots) (hx : p.tables.exec = Jvm.exec) {pc : Nat} {Ls : Array Slot} {z : Int32} {rest : List Value} (hret : meth.sig.returnType = some .int) (hd : decode c.code pc = .ok (.ireturn, 1)) {fs : List Frame}
    (hl : ∀ (f : JFrame) (acts : List Action), f.method = m → f.locked = none → f.entered = [] → (doReturn e (T.setTop f) acts (some (.int z))).1 = T.setFrames fs) : Steps p.tables e below (T.setTop (mkF m pc Ls (.int z :: rest))) (T.setFrames fs) := by
  have hm' : T.vm.method? m = some meth := X.method'
  have hn : narrow .int (.int z) = .int z := rfl
  show Steps p.tables e below (T.setTop { method := m, pc := pc, locals := Ls, stack := _ :: rest, locked := none }) _
  jvm_step X.here [X.here.top, hx, hd, hm', hret, hn]
  first | (intro acts; rw [hl _ acts rfl rfl rfl]) | rw [hl _ _ rfl rfl rfl]
  exact Steps.refl _
end New
/-- the run from the state A ends as asked: what is left of the goal while one walks -/
def own_End (p : Program) (e : Env) (below : List Frame) (s A : State) (W : Option Value → Heap → List Loc → Prop) (k n : Nat) : Prop :=
  ∃ s₂ o, Steps p.tables e below A s₂ ∧ s₂.status = .running ∧ Ended s₂ below o ∧ ∃ v L, o = .returned v ∧ W v s₂.heap L ∧ FrameEnd s o s₂ L k n
theorem own_pre {p : Program} {e : Env} {below : List Frame} {s A B : State} {W : Option Value → Heap → List Loc → Prop} {k n : Nat} (f : ∀ t, Steps p.tables e below A t → Steps p.tables e below B t) (h : own_End p e below s A W k n) : own_End p e below s B W k n := by
  obtain ⟨s₂, o, h1, h2⟩ := h; exact ⟨s₂, o, f _ h1, h2⟩
end Jvm.RoadKit
namespace Jvm.Pilot.@@N@@
open Jvm Jvm.ClassFile Sem Op Lib Jvm.Free Jvm.Stand Jvm.LawKit Jvm.RoadKit Bundle Jvm.Pilot.@@N@@.Jvm.D
def own_min (p1 : Int32) (p2 : Int32) : Int32 := (if p2 < p1 then p2 else p1)
theorem d1_0 : decode jdk_29_method_69_code 0 = .ok (.iload_n 0, 1) := by decide +kernel
theorem d1_1 : decode jdk_29_method_69_code 1 = .ok (.iload_n 1, 1) := by decide +kernel
theorem d1_2 : decode jdk_29_method_69_code 2 = .ok (.if_icmp .gt 7, 3) := by decide +kernel
theorem d1_5 : decode jdk_29_method_69_code 5 = .ok (.iload_n 0, 1) := by decide +kernel
theorem d1_6 : decode jdk_29_method_69_code 6 = .ok (.goto 4, 3) := by decide +kernel
theorem d1_9 : decode jdk_29_method_69_code 9 = .ok (.iload_n 1, 1) := by decide +kernel
theorem d1_10 : decode jdk_29_method_69_code 10 = .ok (.ireturn, 1) := by decide +kernel
theorem ef_1 (m : MethodId) (x0 : Int32) (x1 : Int32) : entryFrame m #[(.int x0), (.int x1)] 2 = mkF m 0 #[.val (.int x0), .val (.int x1)] [] := by first | (simp [entryFrame, mkF, argsToLocals, Value.category]; done) | rfl
def Q1 (Z : State) (p1 : Int32) (p2 : Int32) (h0 : Heap) (n0 : Nat) (v : Option Value) (h : Heap) (L : List Loc) : Prop := v = some (.int (own_min p1 p2)) ∧ Fr n0 L ∧ h = h0
set_option maxRecDepth 65536 in
set_option maxHeartbeats 40000000 in
theorem rm1 (l : Launch) (Z : State) (a0 : Array Value) (hw : ∀ d ∈ tables_1, d.before a0 Z = true) (ws : List Jvm.Cond) (p1 : Int32) (p2 : Int32) (h0 : Heap) (n0 : Nat) (Z0 : n0 ≤ h0.size) :
    MetFree l (⟨"java/lang/Math", "min", "(II)I"⟩ : MethodName) (head1 (Jvm.Cond.code (⟨"java/lang/Math", "min", "(II)I"⟩ : MethodName) jdk_29_method_69_code 2 (some .int) :: ws) ({ frames := 0, cells := 0, slots := 0, locals := 0 } : Room)) (fun a U => a = #[(.int p1), (.int p2)] ∧ Z.Warmed39 U.vm ∧ U.heap = h0) (fun _ _ _ _ _ => True) (fun _ U o U' => ∃ v L, o = .returned v ∧ Q1 Z p1 p2 h0 n0 v U'.heap L ∧ FrameEnd U o U' L ({ frames := 0, cells := 0, slots := 0, locals := 0 } : Room).cells ({ frames := 0, cells := 0, slots := 0, locals := 0 } : Room).slots) := by
  refine MetFree.of_bodySF (Jvm.Free.JP.mathPlain rfl (by decide +kernel)) hisR ?_
  intro p e s m args below meth c s₁ Bd hml0 hP hK
  obtain ⟨rfl, hZ, hh⟩ := hP
  have hx := Bd.exec
  have hby := Bd.bytes
  have hml : c.maxLocals = 2 := hml0
  have hown : s.vm.findClass "java/lang/Math" = some m.cls := findClass_of_methodNamed Bd.named
  have hnm := (name_of_methodNamed Bd.named Bd.method).1
  have X0 : Stand p l e ({ frames := 0, cells := 0, slots := 0, locals := 0 } : Room) s m #[(.int p1), (.int p2)] below meth c s₁ [] 0 0 := Stand.of_body Bd
  have e0 : s₁.heap = h0 := by rw [← hh, Bd.state]; rfl
  have N0 := Fr.nil n0
  show own_End p e below s (s₁.setTop (entryFrame m #[(.int p1), (.int p2)] 2)) (Q1 Z p1 p2 h0 n0) ({ frames := 0, cells := 0, slots := 0, locals := 0 } : Room).cells ({ frames := 0, cells := 0, slots := 0, locals := 0 } : Room).slots
  refine own_pre (A := s₁.setTop (mkF m 0 #[.val (.int p1), .val (.int p2)] [])) (fun tt kt => castTop (ef_1 m p1 p2) kt) ?_
  show own_End p e below s (s₁.setTop (mkF m 0 #[.val (.int p1), .val (.int p2)] [])) (Q1 Z p1 p2 h0 n0) ({ frames := 0, cells := 0, slots := 0, locals := 0 } : Room).cells ({ frames := 0, cells := 0, slots := 0, locals := 0 } : Room).slots
  have hj : own_min p1 p2 = own_min p1 p2 := rfl
  refine own_pre (A := s₁.setTop (mkF m 2 #[.val (.int p1), .val (.int p2)] [(.int p2), (.int p1)])) (fun tt kt => ?_) ?_
  · show Steps p.tables e below (s₁.setTop (mkF m 0 #[.val (.int p1), .val (.int p2)] [])) _
    refine XS.iloadN X0.here hx rfl (hb hby d1_0) rfl ?_
    show Steps p.tables e below (s₁.setTop (mkF m 1 #[.val (.int p1), .val (.int p2)] [(.int p1)])) _
    refine XS.iloadN X0.here hx rfl (hb hby d1_1) rfl ?_
    exact kt
  show own_End p e below s (s₁.setTop (mkF m 2 #[.val (.int p1), .val (.int p2)] [(.int p2), (.int p1)])) (Q1 Z p1 p2 h0 n0) ({ frames := 0, cells := 0, slots := 0, locals := 0 } : Room).cells ({ frames := 0, cells := 0, slots := 0, locals := 0 } : Room).slots
  by_cases hc2_1 : p2 < p1
  · refine own_pre (A := s₁.setTop (mkF m 10 #[.val (.int p1), .val (.int p2)] [(.int p2)])) (fun tt kt => ?_) ?_
    · show Steps p.tables e below (s₁.setTop (mkF m 2 #[.val (.int p1), .val (.int p2)] [(.int p2), (.int p1)])) _
      refine XS.icmpYes X0.here hx rfl (pc0 := 2) (pc' := 9) rfl (hb hby d1_2) rfl (tlt hc2_1).2.2.1 (by decide) (by decide) ?_
      show Steps p.tables e below (s₁.setTop (mkF m 9 #[.val (.int p1), .val (.int p2)] [])) _
      refine XS.iloadN X0.here hx rfl (hb hby d1_9) rfl ?_
      exact kt
    show own_End p e below s (s₁.setTop (mkF m 10 #[.val (.int p1), .val (.int p2)] [(.int p2)])) (Q1 Z p1 p2 h0 n0) ({ frames := 0, cells := 0, slots := 0, locals := 0 } : Room).cells ({ frames := 0, cells := 0, slots := 0, locals := 0 } : Room).slots
    have hv : (own_min p1 p2) = p2 := hj.trans (by simp only [own_min, if_pos hc2_1])
    obtain ⟨fs, hr, hrun, hended, hW, hsame⟩ := X0.leave (v := some (.int p2)) (fun h => by rw [Bd.returns] at h; cases h)
    refine ⟨_, _, ?_, hrun, hended, _, _, rfl, ?_, ⟨_, rfl⟩, hW, hsame.mono (by decide) (by decide)⟩
    · exact retI X0 hx Bd.returns (hb hby d1_10) hr
    · show Q1 Z p1 p2 h0 n0 _ s₁.heap _
      rw [e0]
      exact ⟨(congrArg (fun z => some (Value.int z)) hv.symm), N0, rfl⟩
  · refine own_pre (A := s₁.setTop (mkF m 10 #[.val (.int p1), .val (.int p2)] [(.int p1)])) (fun tt kt => ?_) ?_
    · show Steps p.tables e below (s₁.setTop (mkF m 2 #[.val (.int p1), .val (.int p2)] [(.int p2), (.int p1)])) _
      refine XS.icmpNo X0.here hx rfl (hb hby d1_2) rfl (flt hc2_1).2.2.1 ?_
      show Steps p.tables e below (s₁.setTop (mkF m 5 #[.val (.int p1), .val (.int p2)] [])) _
      refine XS.iloadN X0.here hx rfl (hb hby d1_5) rfl ?_
      show Steps p.tables e below (s₁.setTop (mkF m 6 #[.val (.int p1), .val (.int p2)] [(.int p1)])) _
      refine XS.goto X0.here hx rfl (pc0 := 6) (pc' := 10) rfl (hb hby d1_6) (by decide) (by decide) ?_
      exact kt
    show own_End p e below s (s₁.setTop (mkF m 10 #[.val (.int p1), .val (.int p2)] [(.int p1)])) (Q1 Z p1 p2 h0 n0) ({ frames := 0, cells := 0, slots := 0, locals := 0 } : Room).cells ({ frames := 0, cells := 0, slots := 0, locals := 0 } : Room).slots
    have hv : (own_min p1 p2) = p1 := hj.trans (by simp only [own_min, if_neg hc2_1])
    obtain ⟨fs, hr, hrun, hended, hW, hsame⟩ := X0.leave (v := some (.int p1)) (fun h => by rw [Bd.returns] at h; cases h)
    refine ⟨_, _, ?_, hrun, hended, _, _, rfl, ?_, ⟨_, rfl⟩, hW, hsame.mono (by decide) (by decide)⟩
    · exact retI X0 hx Bd.returns (hb hby d1_10) hr
    · show Q1 Z p1 p2 h0 n0 _ s₁.heap _
      rw [e0]
      exact ⟨(congrArg (fun z => some (Value.int z)) hv.symm), N0, rfl⟩
def own_max (p1 : Int32) (p2 : Int32) : Int32 := (if p1 < p2 then p2 else p1)
theorem d2_0 : decode jdk_29_method_65_code 0 = .ok (.iload_n 0, 1) := by decide +kernel
theorem d2_1 : decode jdk_29_method_65_code 1 = .ok (.iload_n 1, 1) := by decide +kernel
theorem d2_2 : decode jdk_29_method_65_code 2 = .ok (.if_icmp .lt 7, 3) := by decide +kernel
theorem d2_5 : decode jdk_29_method_65_code 5 = .ok (.iload_n 0, 1) := by decide +kernel
theorem d2_6 : decode jdk_29_method_65_code 6 = .ok (.goto 4, 3) := by decide +kernel
theorem d2_9 : decode jdk_29_method_65_code 9 = .ok (.iload_n 1, 1) := by decide +kernel
theorem d2_10 : decode jdk_29_method_65_code 10 = .ok (.ireturn, 1) := by decide +kernel
theorem ef_2 (m : MethodId) (x0 : Int32) (x1 : Int32) : entryFrame m #[(.int x0), (.int x1)] 2 = mkF m 0 #[.val (.int x0), .val (.int x1)] [] := by first | (simp [entryFrame, mkF, argsToLocals, Value.category]; done) | rfl
def Q2 (Z : State) (p1 : Int32) (p2 : Int32) (h0 : Heap) (n0 : Nat) (v : Option Value) (h : Heap) (L : List Loc) : Prop := v = some (.int (own_max p1 p2)) ∧ Fr n0 L ∧ h = h0
set_option maxRecDepth 65536 in
set_option maxHeartbeats 40000000 in
theorem rm2 (l : Launch) (Z : State) (a0 : Array Value) (hw : ∀ d ∈ tables_1, d.before a0 Z = true) (ws : List Jvm.Cond) (p1 : Int32) (p2 : Int32) (h0 : Heap) (n0 : Nat) (Z0 : n0 ≤ h0.size) :
    MetFree l (⟨"java/lang/Math", "max", "(II)I"⟩ : MethodName) (head1 (Jvm.Cond.code (⟨"java/lang/Math", "max", "(II)I"⟩ : MethodName) jdk_29_method_65_code 2 (some .int) :: ws) ({ frames := 0, cells := 0, slots := 0, locals := 0 } : Room)) (fun a U => a = #[(.int p1), (.int p2)] ∧ Z.Warmed39 U.vm ∧ U.heap = h0) (fun _ _ _ _ _ => True) (fun _ U o U' => ∃ v L, o = .returned v ∧ Q2 Z p1 p2 h0 n0 v U'.heap L ∧ FrameEnd U o U' L ({ frames := 0, cells := 0, slots := 0, locals := 0 } : Room).cells ({ frames := 0, cells := 0, slots := 0, locals := 0 } : Room).slots) := by
  refine MetFree.of_bodySF (Jvm.Free.JP.mathPlain rfl (by decide +kernel)) hisR ?_
  intro p e s m args below meth c s₁ Bd hml0 hP hK
  obtain ⟨rfl, hZ, hh⟩ := hP
  have hx := Bd.exec
  have hby := Bd.bytes
  have hml : c.maxLocals = 2 := hml0
  have hown : s.vm.findClass "java/lang/Math" = some m.cls := findClass_of_methodNamed Bd.named
  have hnm := (name_of_methodNamed Bd.named Bd.method).1
  have X0 : Stand p l e ({ frames := 0, cells := 0, slots := 0, locals := 0 } : Room) s m #[(.int p1), (.int p2)] below meth c s₁ [] 0 0 := Stand.of_body Bd
  have e0 : s₁.heap = h0 := by rw [← hh, Bd.state]; rfl
  have N0 := Fr.nil n0
  show own_End p e below s (s₁.setTop (entryFrame m #[(.int p1), (.int p2)] 2)) (Q2 Z p1 p2 h0 n0) ({ frames := 0, cells := 0, slots := 0, locals := 0 } : Room).cells ({ frames := 0, cells := 0, slots := 0, locals := 0 } : Room).slots
  refine own_pre (A := s₁.setTop (mkF m 0 #[.val (.int p1), .val (.int p2)] [])) (fun tt kt => castTop (ef_2 m p1 p2) kt) ?_
  show own_End p e below s (s₁.setTop (mkF m 0 #[.val (.int p1), .val (.int p2)] [])) (Q2 Z p1 p2 h0 n0) ({ frames := 0, cells := 0, slots := 0, locals := 0 } : Room).cells ({ frames := 0, cells := 0, slots := 0, locals := 0 } : Room).slots
  have hj : own_max p1 p2 = own_max p1 p2 := rfl
  refine own_pre (A := s₁.setTop (mkF m 2 #[.val (.int p1), .val (.int p2)] [(.int p2), (.int p1)])) (fun tt kt => ?_) ?_
  · show Steps p.tables e below (s₁.setTop (mkF m 0 #[.val (.int p1), .val (.int p2)] [])) _
    refine XS.iloadN X0.here hx rfl (hb hby d2_0) rfl ?_
    show Steps p.tables e below (s₁.setTop (mkF m 1 #[.val (.int p1), .val (.int p2)] [(.int p1)])) _
    refine XS.iloadN X0.here hx rfl (hb hby d2_1) rfl ?_
    exact kt
  show own_End p e below s (s₁.setTop (mkF m 2 #[.val (.int p1), .val (.int p2)] [(.int p2), (.int p1)])) (Q2 Z p1 p2 h0 n0) ({ frames := 0, cells := 0, slots := 0, locals := 0 } : Room).cells ({ frames := 0, cells := 0, slots := 0, locals := 0 } : Room).slots
  by_cases hc2_1 : p1 < p2
  · refine own_pre (A := s₁.setTop (mkF m 10 #[.val (.int p1), .val (.int p2)] [(.int p2)])) (fun tt kt => ?_) ?_
    · show Steps p.tables e below (s₁.setTop (mkF m 2 #[.val (.int p1), .val (.int p2)] [(.int p2), (.int p1)])) _
      refine XS.icmpYes X0.here hx rfl (pc0 := 2) (pc' := 9) rfl (hb hby d2_2) rfl (tlt hc2_1).1 (by decide) (by decide) ?_
      show Steps p.tables e below (s₁.setTop (mkF m 9 #[.val (.int p1), .val (.int p2)] [])) _
      refine XS.iloadN X0.here hx rfl (hb hby d2_9) rfl ?_
      exact kt
    show own_End p e below s (s₁.setTop (mkF m 10 #[.val (.int p1), .val (.int p2)] [(.int p2)])) (Q2 Z p1 p2 h0 n0) ({ frames := 0, cells := 0, slots := 0, locals := 0 } : Room).cells ({ frames := 0, cells := 0, slots := 0, locals := 0 } : Room).slots
    have hv : (own_max p1 p2) = p2 := hj.trans (by simp only [own_max, if_pos hc2_1])
    obtain ⟨fs, hr, hrun, hended, hW, hsame⟩ := X0.leave (v := some (.int p2)) (fun h => by rw [Bd.returns] at h; cases h)
    refine ⟨_, _, ?_, hrun, hended, _, _, rfl, ?_, ⟨_, rfl⟩, hW, hsame.mono (by decide) (by decide)⟩
    · exact retI X0 hx Bd.returns (hb hby d2_10) hr
    · show Q2 Z p1 p2 h0 n0 _ s₁.heap _
      rw [e0]
      exact ⟨(congrArg (fun z => some (Value.int z)) hv.symm), N0, rfl⟩
  · refine own_pre (A := s₁.setTop (mkF m 10 #[.val (.int p1), .val (.int p2)] [(.int p1)])) (fun tt kt => ?_) ?_
    · show Steps p.tables e below (s₁.setTop (mkF m 2 #[.val (.int p1), .val (.int p2)] [(.int p2), (.int p1)])) _
      refine XS.icmpNo X0.here hx rfl (hb hby d2_2) rfl (flt hc2_1).1 ?_
      show Steps p.tables e below (s₁.setTop (mkF m 5 #[.val (.int p1), .val (.int p2)] [])) _
      refine XS.iloadN X0.here hx rfl (hb hby d2_5) rfl ?_
      show Steps p.tables e below (s₁.setTop (mkF m 6 #[.val (.int p1), .val (.int p2)] [(.int p1)])) _
      refine XS.goto X0.here hx rfl (pc0 := 6) (pc' := 10) rfl (hb hby d2_6) (by decide) (by decide) ?_
      exact kt
    show own_End p e below s (s₁.setTop (mkF m 10 #[.val (.int p1), .val (.int p2)] [(.int p1)])) (Q2 Z p1 p2 h0 n0) ({ frames := 0, cells := 0, slots := 0, locals := 0 } : Room).cells ({ frames := 0, cells := 0, slots := 0, locals := 0 } : Room).slots
    have hv : (own_max p1 p2) = p1 := hj.trans (by simp only [own_max, if_neg hc2_1])
    obtain ⟨fs, hr, hrun, hended, hW, hsame⟩ := X0.leave (v := some (.int p1)) (fun h => by rw [Bd.returns] at h; cases h)
    refine ⟨_, _, ?_, hrun, hended, _, _, rfl, ?_, ⟨_, rfl⟩, hW, hsame.mono (by decide) (by decide)⟩
    · exact retI X0 hx Bd.returns (hb hby d2_10) hr
    · show Q2 Z p1 p2 h0 n0 _ s₁.heap _
      rw [e0]
      exact ⟨(congrArg (fun z => some (Value.int z)) hv.symm), N0, rfl⟩
def own_bits (p1 : Int32) (p2 : Int32) (p3 : Int32) : Int64 := (if p1 = ((p2.toUInt32 >>> ((6 : Int32) &&& 31).toUInt32).toInt32) then (if p1 = (((p3 - (1 : Int32)).toUInt32 >>> ((6 : Int32) &&& 31).toUInt32).toInt32) then (((-1 : Int64) <<< (p2 &&& 0x3f).toInt64) &&& (((-1 : Int64).toUInt64 >>> (((63 : Int32) - ((p3 - (1 : Int32)) &&& (63 : Int32))) &&& 0x3f).toInt64.toUInt64).toInt64)) else (((-1 : Int64) <<< (p2 &&& 0x3f).toInt64) &&& (-1 : Int64))) else (if p1 = (((p3 - (1 : Int32)).toUInt32 >>> ((6 : Int32) &&& 31).toUInt32).toInt32) then ((-1 : Int64) &&& (((-1 : Int64).toUInt64 >>> (((63 : Int32) - ((p3 - (1 : Int32)) &&& (63 : Int32))) &&& 0x3f).toInt64.toUInt64).toInt64)) else ((-1 : Int64) &&& (-1 : Int64))))
theorem d3_0 : decode prog_100_method_40_code 0 = .ok (.iload_n 0, 1) := by decide +kernel
theorem d3_1 : decode prog_100_method_40_code 1 = .ok (.iload_n 1, 1) := by decide +kernel
theorem d3_2 : decode prog_100_method_40_code 2 = .ok (.bipush 6, 2) := by decide +kernel
theorem d3_4 : decode prog_100_method_40_code 4 = .ok (.iushr, 1) := by decide +kernel
theorem d3_5 : decode prog_100_method_40_code 5 = .ok (.if_icmp .ne 11, 3) := by decide +kernel
theorem d3_8 : decode prog_100_method_40_code 8 = .ok (.ldc2_w 147, 3) := by decide +kernel
theorem d3_11 : decode prog_100_method_40_code 11 = .ok (.iload_n 1, 1) := by decide +kernel
theorem d3_12 : decode prog_100_method_40_code 12 = .ok (.lshl, 1) := by decide +kernel
theorem d3_13 : decode prog_100_method_40_code 13 = .ok (.goto 6, 3) := by decide +kernel
theorem d3_16 : decode prog_100_method_40_code 16 = .ok (.ldc2_w 147, 3) := by decide +kernel
theorem d3_19 : decode prog_100_method_40_code 19 = .ok (.lstore_n 3, 1) := by decide +kernel
theorem d3_20 : decode prog_100_method_40_code 20 = .ok (.iload_n 0, 1) := by decide +kernel
theorem d3_21 : decode prog_100_method_40_code 21 = .ok (.iload_n 2, 1) := by decide +kernel
theorem d3_22 : decode prog_100_method_40_code 22 = .ok (.iconst 1, 1) := by decide +kernel
theorem d3_23 : decode prog_100_method_40_code 23 = .ok (.isub, 1) := by decide +kernel
theorem d3_24 : decode prog_100_method_40_code 24 = .ok (.bipush 6, 2) := by decide +kernel
theorem d3_26 : decode prog_100_method_40_code 26 = .ok (.iushr, 1) := by decide +kernel
theorem d3_27 : decode prog_100_method_40_code 27 = .ok (.if_icmp .ne 19, 3) := by decide +kernel
theorem d3_30 : decode prog_100_method_40_code 30 = .ok (.ldc2_w 147, 3) := by decide +kernel
theorem d3_33 : decode prog_100_method_40_code 33 = .ok (.bipush 63, 2) := by decide +kernel
theorem d3_35 : decode prog_100_method_40_code 35 = .ok (.iload_n 2, 1) := by decide +kernel
theorem d3_36 : decode prog_100_method_40_code 36 = .ok (.iconst 1, 1) := by decide +kernel
theorem d3_37 : decode prog_100_method_40_code 37 = .ok (.isub, 1) := by decide +kernel
theorem d3_38 : decode prog_100_method_40_code 38 = .ok (.bipush 63, 2) := by decide +kernel
theorem d3_40 : decode prog_100_method_40_code 40 = .ok (.iand, 1) := by decide +kernel
theorem d3_41 : decode prog_100_method_40_code 41 = .ok (.isub, 1) := by decide +kernel
theorem d3_42 : decode prog_100_method_40_code 42 = .ok (.lushr, 1) := by decide +kernel
theorem d3_43 : decode prog_100_method_40_code 43 = .ok (.goto 6, 3) := by decide +kernel
theorem d3_46 : decode prog_100_method_40_code 46 = .ok (.ldc2_w 147, 3) := by decide +kernel
theorem d3_49 : decode prog_100_method_40_code 49 = .ok (.lstore 5, 2) := by decide +kernel
theorem d3_51 : decode prog_100_method_40_code 51 = .ok (.lload_n 3, 1) := by decide +kernel
theorem d3_52 : decode prog_100_method_40_code 52 = .ok (.lload 5, 2) := by decide +kernel
theorem d3_54 : decode prog_100_method_40_code 54 = .ok (.land, 1) := by decide +kernel
theorem d3_55 : decode prog_100_method_40_code 55 = .ok (.lreturn, 1) := by decide +kernel
theorem pn_3 : plainName "com/example/libfacet/libfacet/regex/WalkTables" = true := by first | (simp [plainName, overriddenIn]; done) | decide +kernel
theorem ef_3 (m : MethodId) (x0 : Int32) (x1 : Int32) (x2 : Int32) : entryFrame m #[(.int x0), (.int x1), (.int x2)] 7 = mkF m 0 #[.val (.int x0), .val (.int x1), .val (.int x2), .unset, .unset, .unset, .unset] [] := by first | (simp [entryFrame, mkF, argsToLocals, Value.category]; done) | rfl
def Q3 (Z : State) (p1 : Int32) (p2 : Int32) (p3 : Int32) (h0 : Heap) (n0 : Nat) (v : Option Value) (h : Heap) (L : List Loc) : Prop := v = some (.long (own_bits p1 p2 p3)) ∧ Fr n0 L ∧ h = h0
set_option maxRecDepth 65536 in
set_option maxHeartbeats 40000000 in
theorem rm3 (l : Launch) (Z : State) (a0 : Array Value) (hw : ∀ d ∈ tables_1, d.before a0 Z = true) (ws : List Jvm.Cond) (p1 : Int32) (p2 : Int32) (p3 : Int32) (h0 : Heap) (n0 : Nat) (Z0 : n0 ≤ h0.size) :
    MetFree l (⟨"com/example/libfacet/libfacet/regex/WalkTables", "bitsWithin", "(III)J"⟩ : MethodName) (head1 (Jvm.Cond.code (⟨"com/example/libfacet/libfacet/regex/WalkTables", "bitsWithin", "(III)J"⟩ : MethodName) prog_100_method_40_code 7 (some .long) :: ws) ({ frames := 0, cells := 0, slots := 0, locals := 0 } : Room)) (fun a U => a = #[(.int p1), (.int p2), (.int p3)] ∧ Z.Warmed39 U.vm ∧ U.heap = h0) (fun _ _ _ _ _ => True) (fun _ U o U' => ∃ v L, o = .returned v ∧ Q3 Z p1 p2 p3 h0 n0 v U'.heap L ∧ FrameEnd U o U' L ({ frames := 0, cells := 0, slots := 0, locals := 0 } : Room).cells ({ frames := 0, cells := 0, slots := 0, locals := 0 } : Room).slots) := by
  refine MetFree.of_bodySF (plainFor_of_name pn_3) hisR ?_
  intro p e s m args below meth c s₁ Bd hml0 hP hK
  obtain ⟨rfl, hZ, hh⟩ := hP
  have hx := Bd.exec
  have hby := Bd.bytes
  have hml : c.maxLocals = 7 := hml0
  have hown : s.vm.findClass "com/example/libfacet/libfacet/regex/WalkTables" = some m.cls := findClass_of_methodNamed Bd.named
  have hnm := (name_of_methodNamed Bd.named Bd.method).1
  have X0 : Stand p l e ({ frames := 0, cells := 0, slots := 0, locals := 0 } : Room) s m #[(.int p1), (.int p2), (.int p3)] below meth c s₁ [] 0 0 := Stand.of_body Bd
  have e0 : s₁.heap = h0 := by rw [← hh, Bd.state]; rfl
  have N0 := Fr.nil n0
  show own_End p e below s (s₁.setTop (entryFrame m #[(.int p1), (.int p2), (.int p3)] 7)) (Q3 Z p1 p2 p3 h0 n0) ({ frames := 0, cells := 0, slots := 0, locals := 0 } : Room).cells ({ frames := 0, cells := 0, slots := 0, locals := 0 } : Room).slots
  refine own_pre (A := s₁.setTop (mkF m 0 #[.val (.int p1), .val (.int p2), .val (.int p3), .unset, .unset, .unset, .unset] [])) (fun tt kt => castTop (ef_3 m p1 p2 p3) kt) ?_
  show own_End p e below s (s₁.setTop (mkF m 0 #[.val (.int p1), .val (.int p2), .val (.int p3), .unset, .unset, .unset, .unset] [])) (Q3 Z p1 p2 p3 h0 n0) ({ frames := 0, cells := 0, slots := 0, locals := 0 } : Room).cells ({ frames := 0, cells := 0, slots := 0, locals := 0 } : Room).slots
  have hj : own_bits p1 p2 p3 = own_bits p1 p2 p3 := rfl
  refine own_pre (A := s₁.setTop (mkF m 5 #[.val (.int p1), .val (.int p2), .val (.int p3), .unset, .unset, .unset, .unset] [(.int ((p2.toUInt32 >>> ((6 : Int32) &&& 31).toUInt32).toInt32)), (.int p1)])) (fun tt kt => ?_) ?_
  · show Steps p.tables e below (s₁.setTop (mkF m 0 #[.val (.int p1), .val (.int p2), .val (.int p3), .unset, .unset, .unset, .unset] [])) _
    refine XS.iloadN X0.here hx rfl (hb hby d3_0) rfl ?_
    show Steps p.tables e below (s₁.setTop (mkF m 1 #[.val (.int p1), .val (.int p2), .val (.int p3), .unset, .unset, .unset, .unset] [(.int p1)])) _
    refine XS.iloadN X0.here hx rfl (hb hby d3_1) rfl ?_
    show Steps p.tables e below (s₁.setTop (mkF m 2 #[.val (.int p1), .val (.int p2), .val (.int p3), .unset, .unset, .unset, .unset] [(.int p2), (.int p1)])) _
    refine XS.bipush X0.here hx rfl (hb hby d3_2) ?_
    show Steps p.tables e below (s₁.setTop (mkF m 4 #[.val (.int p1), .val (.int p2), .val (.int p3), .unset, .unset, .unset, .unset] [(.int (6 : Int32)), (.int p2), (.int p1)])) _
    refine XS.iushr X0.here hx rfl (hb hby d3_4) rfl ?_
    exact kt
  show own_End p e below s (s₁.setTop (mkF m 5 #[.val (.int p1), .val (.int p2), .val (.int p3), .unset, .unset, .unset, .unset] [(.int ((p2.toUInt32 >>> ((6 : Int32) &&& 31).toUInt32).toInt32)), (.int p1)])) (Q3 Z p1 p2 p3 h0 n0) ({ frames := 0, cells := 0, slots := 0, locals := 0 } : Room).cells ({ frames := 0, cells := 0, slots := 0, locals := 0 } : Room).slots
  by_cases hc5_1 : p1 = ((p2.toUInt32 >>> ((6 : Int32) &&& 31).toUInt32).toInt32)
  · refine own_pre (A := s₁.setTop (mkF m 27 #[.val (.int p1), .val (.int p2), .val (.int p3), .val (.long ((-1 : Int64) <<< (p2 &&& 0x3f).toInt64)), .second, .unset, .unset] [(.int (((p3 - (1 : Int32)).toUInt32 >>> ((6 : Int32) &&& 31).toUInt32).toInt32)), (.int p1)])) (fun tt kt => ?_) ?_
    · show Steps p.tables e below (s₁.setTop (mkF m 5 #[.val (.int p1), .val (.int p2), .val (.int p3), .unset, .unset, .unset, .unset] [(.int ((p2.toUInt32 >>> ((6 : Int32) &&& 31).toUInt32).toInt32)), (.int p1)])) _
      refine XS.icmpNo X0.here hx rfl (hb hby d3_5) rfl (teq hc5_1).2 ?_
      show Steps p.tables e below (s₁.setTop (mkF m 8 #[.val (.int p1), .val (.int p2), .val (.int p3), .unset, .unset, .unset, .unset] [])) _
      refine X0.ldc2Long hx hown (mvT hZ (hw _ (List.mem_of_getElem? (i := 12) rfl))) (g := (mkF m 8 #[.val (.int p1), .val (.int p2), .val (.int p3), .unset, .unset, .unset, .unset] [])) rfl (hb hby d3_8) _ ?_
      show Steps p.tables e below (s₁.setTop (mkF m 11 #[.val (.int p1), .val (.int p2), .val (.int p3), .unset, .unset, .unset, .unset] [(.long (-1 : Int64))])) _
      refine XS.iloadN X0.here hx rfl (hb hby d3_11) rfl ?_
      show Steps p.tables e below (s₁.setTop (mkF m 12 #[.val (.int p1), .val (.int p2), .val (.int p3), .unset, .unset, .unset, .unset] [(.int p2), (.long (-1 : Int64))])) _
      refine XS.lshl X0.here hx rfl (hb hby d3_12) rfl ?_
      show Steps p.tables e below (s₁.setTop (mkF m 13 #[.val (.int p1), .val (.int p2), .val (.int p3), .unset, .unset, .unset, .unset] [(.long ((-1 : Int64) <<< (p2 &&& 0x3f).toInt64))])) _
      refine XS.goto X0.here hx rfl (pc0 := 13) (pc' := 19) rfl (hb hby d3_13) (by decide) (by decide) ?_
      show Steps p.tables e below (s₁.setTop (mkF m 19 #[.val (.int p1), .val (.int p2), .val (.int p3), .unset, .unset, .unset, .unset] [(.long ((-1 : Int64) <<< (p2 &&& 0x3f).toInt64))])) _
      refine XS.lstoreN X0.here hx rfl (hb hby d3_19) rfl (l' := #[.val (.int p1), .val (.int p2), .val (.int p3), .val (.long ((-1 : Int64) <<< (p2 &&& 0x3f).toInt64)), .second, .unset, .unset]) rfl ?_
      show Steps p.tables e below (s₁.setTop (mkF m 20 #[.val (.int p1), .val (.int p2), .val (.int p3), .val (.long ((-1 : Int64) <<< (p2 &&& 0x3f).toInt64)), .second, .unset, .unset] [])) _
      refine XS.iloadN X0.here hx rfl (hb hby d3_20) rfl ?_
      show Steps p.tables e below (s₁.setTop (mkF m 21 #[.val (.int p1), .val (.int p2), .val (.int p3), .val (.long ((-1 : Int64) <<< (p2 &&& 0x3f).toInt64)), .second, .unset, .unset] [(.int p1)])) _
      refine XS.iloadN X0.here hx rfl (hb hby d3_21) rfl ?_
      show Steps p.tables e below (s₁.setTop (mkF m 22 #[.val (.int p1), .val (.int p2), .val (.int p3), .val (.long ((-1 : Int64) <<< (p2 &&& 0x3f).toInt64)), .second, .unset, .unset] [(.int p3), (.int p1)])) _
      refine XS.iconst X0.here hx rfl (hb hby d3_22) ?_
      show Steps p.tables e below (s₁.setTop (mkF m 23 #[.val (.int p1), .val (.int p2), .val (.int p3), .val (.long ((-1 : Int64) <<< (p2 &&& 0x3f).toInt64)), .second, .unset, .unset] [(.int (1 : Int32)), (.int p3), (.int p1)])) _
      refine XS.isub X0.here hx rfl (hb hby d3_23) rfl ?_
      show Steps p.tables e below (s₁.setTop (mkF m 24 #[.val (.int p1), .val (.int p2), .val (.int p3), .val (.long ((-1 : Int64) <<< (p2 &&& 0x3f).toInt64)), .second, .unset, .unset] [(.int (p3 - (1 : Int32))), (.int p1)])) _
      refine XS.bipush X0.here hx rfl (hb hby d3_24) ?_
      show Steps p.tables e below (s₁.setTop (mkF m 26 #[.val (.int p1), .val (.int p2), .val (.int p3), .val (.long ((-1 : Int64) <<< (p2 &&& 0x3f).toInt64)), .second, .unset, .unset] [(.int (6 : Int32)), (.int (p3 - (1 : Int32))), (.int p1)])) _
      refine XS.iushr X0.here hx rfl (hb hby d3_26) rfl ?_
      exact kt
    show own_End p e below s (s₁.setTop (mkF m 27 #[.val (.int p1), .val (.int p2), .val (.int p3), .val (.long ((-1 : Int64) <<< (p2 &&& 0x3f).toInt64)), .second, .unset, .unset] [(.int (((p3 - (1 : Int32)).toUInt32 >>> ((6 : Int32) &&& 31).toUInt32).toInt32)), (.int p1)])) (Q3 Z p1 p2 p3 h0 n0) ({ frames := 0, cells := 0, slots := 0, locals := 0 } : Room).cells ({ frames := 0, cells := 0, slots := 0, locals := 0 } : Room).slots
    by_cases hc27_2 : p1 = (((p3 - (1 : Int32)).toUInt32 >>> ((6 : Int32) &&& 31).toUInt32).toInt32)
    · refine own_pre (A := s₁.setTop (mkF m 55 #[.val (.int p1), .val (.int p2), .val (.int p3), .val (.long ((-1 : Int64) <<< (p2 &&& 0x3f).toInt64)), .second, .val (.long (((-1 : Int64).toUInt64 >>> (((63 : Int32) - ((p3 - (1 : Int32)) &&& (63 : Int32))) &&& 0x3f).toInt64.toUInt64).toInt64)), .second] [(.long (((-1 : Int64) <<< (p2 &&& 0x3f).toInt64) &&& (((-1 : Int64).toUInt64 >>> (((63 : Int32) - ((p3 - (1 : Int32)) &&& (63 : Int32))) &&& 0x3f).toInt64.toUInt64).toInt64)))])) (fun tt kt => ?_) ?_
      · show Steps p.tables e below (s₁.setTop (mkF m 27 #[.val (.int p1), .val (.int p2), .val (.int p3), .val (.long ((-1 : Int64) <<< (p2 &&& 0x3f).toInt64)), .second, .unset, .unset] [(.int (((p3 - (1 : Int32)).toUInt32 >>> ((6 : Int32) &&& 31).toUInt32).toInt32)), (.int p1)])) _
        refine XS.icmpNo X0.here hx rfl (hb hby d3_27) rfl (teq hc27_2).2 ?_
        show Steps p.tables e below (s₁.setTop (mkF m 30 #[.val (.int p1), .val (.int p2), .val (.int p3), .val (.long ((-1 : Int64) <<< (p2 &&& 0x3f).toInt64)), .second, .unset, .unset] [])) _
        refine X0.ldc2Long hx hown (mvT hZ (hw _ (List.mem_of_getElem? (i := 12) rfl))) (g := (mkF m 30 #[.val (.int p1), .val (.int p2), .val (.int p3), .val (.long ((-1 : Int64) <<< (p2 &&& 0x3f).toInt64)), .second, .unset, .unset] [])) rfl (hb hby d3_30) _ ?_
        show Steps p.tables e below (s₁.setTop (mkF m 33 #[.val (.int p1), .val (.int p2), .val (.int p3), .val (.long ((-1 : Int64) <<< (p2 &&& 0x3f).toInt64)), .second, .unset, .unset] [(.long (-1 : Int64))])) _
        refine XS.bipush X0.here hx rfl (hb hby d3_33) ?_
        show Steps p.tables e below (s₁.setTop (mkF m 35 #[.val (.int p1), .val (.int p2), .val (.int p3), .val (.long ((-1 : Int64) <<< (p2 &&& 0x3f).toInt64)), .second, .unset, .unset] [(.int (63 : Int32)), (.long (-1 : Int64))])) _
        refine XS.iloadN X0.here hx rfl (hb hby d3_35) rfl ?_
        show Steps p.tables e below (s₁.setTop (mkF m 36 #[.val (.int p1), .val (.int p2), .val (.int p3), .val (.long ((-1 : Int64) <<< (p2 &&& 0x3f).toInt64)), .second, .unset, .unset] [(.int p3), (.int (63 : Int32)), (.long (-1 : Int64))])) _
        refine XS.iconst X0.here hx rfl (hb hby d3_36) ?_
        show Steps p.tables e below (s₁.setTop (mkF m 37 #[.val (.int p1), .val (.int p2), .val (.int p3), .val (.long ((-1 : Int64) <<< (p2 &&& 0x3f).toInt64)), .second, .unset, .unset] [(.int (1 : Int32)), (.int p3), (.int (63 : Int32)), (.long (-1 : Int64))])) _
        refine XS.isub X0.here hx rfl (hb hby d3_37) rfl ?_
        show Steps p.tables e below (s₁.setTop (mkF m 38 #[.val (.int p1), .val (.int p2), .val (.int p3), .val (.long ((-1 : Int64) <<< (p2 &&& 0x3f).toInt64)), .second, .unset, .unset] [(.int (p3 - (1 : Int32))), (.int (63 : Int32)), (.long (-1 : Int64))])) _
        refine XS.bipush X0.here hx rfl (hb hby d3_38) ?_
        show Steps p.tables e below (s₁.setTop (mkF m 40 #[.val (.int p1), .val (.int p2), .val (.int p3), .val (.long ((-1 : Int64) <<< (p2 &&& 0x3f).toInt64)), .second, .unset, .unset] [(.int (63 : Int32)), (.int (p3 - (1 : Int32))), (.int (63 : Int32)), (.long (-1 : Int64))])) _
        refine XS.iand X0.here hx rfl (hb hby d3_40) rfl ?_
        show Steps p.tables e below (s₁.setTop (mkF m 41 #[.val (.int p1), .val (.int p2), .val (.int p3), .val (.long ((-1 : Int64) <<< (p2 &&& 0x3f).toInt64)), .second, .unset, .unset] [(.int ((p3 - (1 : Int32)) &&& (63 : Int32))), (.int (63 : Int32)), (.long (-1 : Int64))])) _
        refine XS.isub X0.here hx rfl (hb hby d3_41) rfl ?_
        show Steps p.tables e below (s₁.setTop (mkF m 42 #[.val (.int p1), .val (.int p2), .val (.int p3), .val (.long ((-1 : Int64) <<< (p2 &&& 0x3f).toInt64)), .second, .unset, .unset] [(.int ((63 : Int32) - ((p3 - (1 : Int32)) &&& (63 : Int32)))), (.long (-1 : Int64))])) _
        refine XS.lushr X0.here hx rfl (hb hby d3_42) rfl ?_
        show Steps p.tables e below (s₁.setTop (mkF m 43 #[.val (.int p1), .val (.int p2), .val (.int p3), .val (.long ((-1 : Int64) <<< (p2 &&& 0x3f).toInt64)), .second, .unset, .unset] [(.long (((-1 : Int64).toUInt64 >>> (((63 : Int32) - ((p3 - (1 : Int32)) &&& (63 : Int32))) &&& 0x3f).toInt64.toUInt64).toInt64))])) _
        refine XS.goto X0.here hx rfl (pc0 := 43) (pc' := 49) rfl (hb hby d3_43) (by decide) (by decide) ?_
        show Steps p.tables e below (s₁.setTop (mkF m 49 #[.val (.int p1), .val (.int p2), .val (.int p3), .val (.long ((-1 : Int64) <<< (p2 &&& 0x3f).toInt64)), .second, .unset, .unset] [(.long (((-1 : Int64).toUInt64 >>> (((63 : Int32) - ((p3 - (1 : Int32)) &&& (63 : Int32))) &&& 0x3f).toInt64.toUInt64).toInt64))])) _
        refine XS.lstore X0.here hx rfl (hb hby d3_49) rfl (l' := #[.val (.int p1), .val (.int p2), .val (.int p3), .val (.long ((-1 : Int64) <<< (p2 &&& 0x3f).toInt64)), .second, .val (.long (((-1 : Int64).toUInt64 >>> (((63 : Int32) - ((p3 - (1 : Int32)) &&& (63 : Int32))) &&& 0x3f).toInt64.toUInt64).toInt64)), .second]) rfl ?_
        show Steps p.tables e below (s₁.setTop (mkF m 51 #[.val (.int p1), .val (.int p2), .val (.int p3), .val (.long ((-1 : Int64) <<< (p2 &&& 0x3f).toInt64)), .second, .val (.long (((-1 : Int64).toUInt64 >>> (((63 : Int32) - ((p3 - (1 : Int32)) &&& (63 : Int32))) &&& 0x3f).toInt64.toUInt64).toInt64)), .second] [])) _
        refine XS.lloadN X0.here hx rfl (hb hby d3_51) rfl ?_
        show Steps p.tables e below (s₁.setTop (mkF m 52 #[.val (.int p1), .val (.int p2), .val (.int p3), .val (.long ((-1 : Int64) <<< (p2 &&& 0x3f).toInt64)), .second, .val (.long (((-1 : Int64).toUInt64 >>> (((63 : Int32) - ((p3 - (1 : Int32)) &&& (63 : Int32))) &&& 0x3f).toInt64.toUInt64).toInt64)), .second] [(.long ((-1 : Int64) <<< (p2 &&& 0x3f).toInt64))])) _
        refine XS.lload X0.here hx rfl (hb hby d3_52) rfl ?_
        show Steps p.tables e below (s₁.setTop (mkF m 54 #[.val (.int p1), .val (.int p2), .val (.int p3), .val (.long ((-1 : Int64) <<< (p2 &&& 0x3f).toInt64)), .second, .val (.long (((-1 : Int64).toUInt64 >>> (((63 : Int32) - ((p3 - (1 : Int32)) &&& (63 : Int32))) &&& 0x3f).toInt64.toUInt64).toInt64)), .second] [(.long (((-1 : Int64).toUInt64 >>> (((63 : Int32) - ((p3 - (1 : Int32)) &&& (63 : Int32))) &&& 0x3f).toInt64.toUInt64).toInt64)), (.long ((-1 : Int64) <<< (p2 &&& 0x3f).toInt64))])) _
        refine XS.land X0.here hx rfl (hb hby d3_54) rfl ?_
        exact kt
      show own_End p e below s (s₁.setTop (mkF m 55 #[.val (.int p1), .val (.int p2), .val (.int p3), .val (.long ((-1 : Int64) <<< (p2 &&& 0x3f).toInt64)), .second, .val (.long (((-1 : Int64).toUInt64 >>> (((63 : Int32) - ((p3 - (1 : Int32)) &&& (63 : Int32))) &&& 0x3f).toInt64.toUInt64).toInt64)), .second] [(.long (((-1 : Int64) <<< (p2 &&& 0x3f).toInt64) &&& (((-1 : Int64).toUInt64 >>> (((63 : Int32) - ((p3 - (1 : Int32)) &&& (63 : Int32))) &&& 0x3f).toInt64.toUInt64).toInt64)))])) (Q3 Z p1 p2 p3 h0 n0) ({ frames := 0, cells := 0, slots := 0, locals := 0 } : Room).cells ({ frames := 0, cells := 0, slots := 0, locals := 0 } : Room).slots
      have hv : (own_bits p1 p2 p3) = (((-1 : Int64) <<< (p2 &&& 0x3f).toInt64) &&& (((-1 : Int64).toUInt64 >>> (((63 : Int32) - ((p3 - (1 : Int32)) &&& (63 : Int32))) &&& 0x3f).toInt64.toUInt64).toInt64)) := hj.trans (by simp only [own_bits, if_pos hc5_1, if_pos hc27_2])
      obtain ⟨fs, hr, hrun, hended, hW, hsame⟩ := X0.leave (v := some (.long (((-1 : Int64) <<< (p2 &&& 0x3f).toInt64) &&& (((-1 : Int64).toUInt64 >>> (((63 : Int32) - ((p3 - (1 : Int32)) &&& (63 : Int32))) &&& 0x3f).toInt64.toUInt64).toInt64)))) (fun h => by rw [Bd.returns] at h; cases h)
      refine ⟨_, _, ?_, hrun, hended, _, _, rfl, ?_, ⟨_, rfl⟩, hW, hsame.mono (by decide) (by decide)⟩
      · exact X0.lreturnOut hx Bd.returns (hb hby d3_55) hr
      · show Q3 Z p1 p2 p3 h0 n0 _ s₁.heap _
        rw [e0]
        exact ⟨(congrArg (fun z => some (Value.long z)) hv.symm), N0, rfl⟩
    · refine own_pre (A := s₁.setTop (mkF m 55 #[.val (.int p1), .val (.int p2), .val (.int p3), .val (.long ((-1 : Int64) <<< (p2 &&& 0x3f).toInt64)), .second, .val (.long (-1 : Int64)), .second] [(.long (((-1 : Int64) <<< (p2 &&& 0x3f).toInt64) &&& (-1 : Int64)))])) (fun tt kt => ?_) ?_
      · show Steps p.tables e below (s₁.setTop (mkF m 27 #[.val (.int p1), .val (.int p2), .val (.int p3), .val (.long ((-1 : Int64) <<< (p2 &&& 0x3f).toInt64)), .second, .unset, .unset] [(.int (((p3 - (1 : Int32)).toUInt32 >>> ((6 : Int32) &&& 31).toUInt32).toInt32)), (.int p1)])) _
        refine XS.icmpYes X0.here hx rfl (pc0 := 27) (pc' := 46) rfl (hb hby d3_27) rfl (feq hc27_2).2 (by decide) (by decide) ?_
        show Steps p.tables e below (s₁.setTop (mkF m 46 #[.val (.int p1), .val (.int p2), .val (.int p3), .val (.long ((-1 : Int64) <<< (p2 &&& 0x3f).toInt64)), .second, .unset, .unset] [])) _
        refine X0.ldc2Long hx hown (mvT hZ (hw _ (List.mem_of_getElem? (i := 12) rfl))) (g := (mkF m 46 #[.val (.int p1), .val (.int p2), .val (.int p3), .val (.long ((-1 : Int64) <<< (p2 &&& 0x3f).toInt64)), .second, .unset, .unset] [])) rfl (hb hby d3_46) _ ?_
        show Steps p.tables e below (s₁.setTop (mkF m 49 #[.val (.int p1), .val (.int p2), .val (.int p3), .val (.long ((-1 : Int64) <<< (p2 &&& 0x3f).toInt64)), .second, .unset, .unset] [(.long (-1 : Int64))])) _
        refine XS.lstore X0.here hx rfl (hb hby d3_49) rfl (l' := #[.val (.int p1), .val (.int p2), .val (.int p3), .val (.long ((-1 : Int64) <<< (p2 &&& 0x3f).toInt64)), .second, .val (.long (-1 : Int64)), .second]) rfl ?_
        show Steps p.tables e below (s₁.setTop (mkF m 51 #[.val (.int p1), .val (.int p2), .val (.int p3), .val (.long ((-1 : Int64) <<< (p2 &&& 0x3f).toInt64)), .second, .val (.long (-1 : Int64)), .second] [])) _
        refine XS.lloadN X0.here hx rfl (hb hby d3_51) rfl ?_
        show Steps p.tables e below (s₁.setTop (mkF m 52 #[.val (.int p1), .val (.int p2), .val (.int p3), .val (.long ((-1 : Int64) <<< (p2 &&& 0x3f).toInt64)), .second, .val (.long (-1 : Int64)), .second] [(.long ((-1 : Int64) <<< (p2 &&& 0x3f).toInt64))])) _
        refine XS.lload X0.here hx rfl (hb hby d3_52) rfl ?_
        show Steps p.tables e below (s₁.setTop (mkF m 54 #[.val (.int p1), .val (.int p2), .val (.int p3), .val (.long ((-1 : Int64) <<< (p2 &&& 0x3f).toInt64)), .second, .val (.long (-1 : Int64)), .second] [(.long (-1 : Int64)), (.long ((-1 : Int64) <<< (p2 &&& 0x3f).toInt64))])) _
        refine XS.land X0.here hx rfl (hb hby d3_54) rfl ?_
        exact kt
      show own_End p e below s (s₁.setTop (mkF m 55 #[.val (.int p1), .val (.int p2), .val (.int p3), .val (.long ((-1 : Int64) <<< (p2 &&& 0x3f).toInt64)), .second, .val (.long (-1 : Int64)), .second] [(.long (((-1 : Int64) <<< (p2 &&& 0x3f).toInt64) &&& (-1 : Int64)))])) (Q3 Z p1 p2 p3 h0 n0) ({ frames := 0, cells := 0, slots := 0, locals := 0 } : Room).cells ({ frames := 0, cells := 0, slots := 0, locals := 0 } : Room).slots
      have hv : (own_bits p1 p2 p3) = (((-1 : Int64) <<< (p2 &&& 0x3f).toInt64) &&& (-1 : Int64)) := hj.trans (by simp only [own_bits, if_pos hc5_1, if_neg hc27_2])
      obtain ⟨fs, hr, hrun, hended, hW, hsame⟩ := X0.leave (v := some (.long (((-1 : Int64) <<< (p2 &&& 0x3f).toInt64) &&& (-1 : Int64)))) (fun h => by rw [Bd.returns] at h; cases h)
      refine ⟨_, _, ?_, hrun, hended, _, _, rfl, ?_, ⟨_, rfl⟩, hW, hsame.mono (by decide) (by decide)⟩
      · exact X0.lreturnOut hx Bd.returns (hb hby d3_55) hr
      · show Q3 Z p1 p2 p3 h0 n0 _ s₁.heap _
        rw [e0]
        exact ⟨(congrArg (fun z => some (Value.long z)) hv.symm), N0, rfl⟩
  · refine own_pre (A := s₁.setTop (mkF m 27 #[.val (.int p1), .val (.int p2), .val (.int p3), .val (.long (-1 : Int64)), .second, .unset, .unset] [(.int (((p3 - (1 : Int32)).toUInt32 >>> ((6 : Int32) &&& 31).toUInt32).toInt32)), (.int p1)])) (fun tt kt => ?_) ?_
    · show Steps p.tables e below (s₁.setTop (mkF m 5 #[.val (.int p1), .val (.int p2), .val (.int p3), .unset, .unset, .unset, .unset] [(.int ((p2.toUInt32 >>> ((6 : Int32) &&& 31).toUInt32).toInt32)), (.int p1)])) _
      refine XS.icmpYes X0.here hx rfl (pc0 := 5) (pc' := 16) rfl (hb hby d3_5) rfl (feq hc5_1).2 (by decide) (by decide) ?_
      show Steps p.tables e below (s₁.setTop (mkF m 16 #[.val (.int p1), .val (.int p2), .val (.int p3), .unset, .unset, .unset, .unset] [])) _
      refine X0.ldc2Long hx hown (mvT hZ (hw _ (List.mem_of_getElem? (i := 12) rfl))) (g := (mkF m 16 #[.val (.int p1), .val (.int p2), .val (.int p3), .unset, .unset, .unset, .unset] [])) rfl (hb hby d3_16) _ ?_
      show Steps p.tables e below (s₁.setTop (mkF m 19 #[.val (.int p1), .val (.int p2), .val (.int p3), .unset, .unset, .unset, .unset] [(.long (-1 : Int64))])) _
      refine XS.lstoreN X0.here hx rfl (hb hby d3_19) rfl (l' := #[.val (.int p1), .val (.int p2), .val (.int p3), .val (.long (-1 : Int64)), .second, .unset, .unset]) rfl ?_
      show Steps p.tables e below (s₁.setTop (mkF m 20 #[.val (.int p1), .val (.int p2), .val (.int p3), .val (.long (-1 : Int64)), .second, .unset, .unset] [])) _
      refine XS.iloadN X0.here hx rfl (hb hby d3_20) rfl ?_
      show Steps p.tables e below (s₁.setTop (mkF m 21 #[.val (.int p1), .val (.int p2), .val (.int p3), .val (.long (-1 : Int64)), .second, .unset, .unset] [(.int p1)])) _
      refine XS.iloadN X0.here hx rfl (hb hby d3_21) rfl ?_
      show Steps p.tables e below (s₁.setTop (mkF m 22 #[.val (.int p1), .val (.int p2), .val (.int p3), .val (.long (-1 : Int64)), .second, .unset, .unset] [(.int p3), (.int p1)])) _
      refine XS.iconst X0.here hx rfl (hb hby d3_22) ?_
      show Steps p.tables e below (s₁.setTop (mkF m 23 #[.val (.int p1), .val (.int p2), .val (.int p3), .val (.long (-1 : Int64)), .second, .unset, .unset] [(.int (1 : Int32)), (.int p3), (.int p1)])) _
      refine XS.isub X0.here hx rfl (hb hby d3_23) rfl ?_
      show Steps p.tables e below (s₁.setTop (mkF m 24 #[.val (.int p1), .val (.int p2), .val (.int p3), .val (.long (-1 : Int64)), .second, .unset, .unset] [(.int (p3 - (1 : Int32))), (.int p1)])) _
      refine XS.bipush X0.here hx rfl (hb hby d3_24) ?_
      show Steps p.tables e below (s₁.setTop (mkF m 26 #[.val (.int p1), .val (.int p2), .val (.int p3), .val (.long (-1 : Int64)), .second, .unset, .unset] [(.int (6 : Int32)), (.int (p3 - (1 : Int32))), (.int p1)])) _
      refine XS.iushr X0.here hx rfl (hb hby d3_26) rfl ?_
      exact kt
    show own_End p e below s (s₁.setTop (mkF m 27 #[.val (.int p1), .val (.int p2), .val (.int p3), .val (.long (-1 : Int64)), .second, .unset, .unset] [(.int (((p3 - (1 : Int32)).toUInt32 >>> ((6 : Int32) &&& 31).toUInt32).toInt32)), (.int p1)])) (Q3 Z p1 p2 p3 h0 n0) ({ frames := 0, cells := 0, slots := 0, locals := 0 } : Room).cells ({ frames := 0, cells := 0, slots := 0, locals := 0 } : Room).slots
    by_cases hc27_3 : p1 = (((p3 - (1 : Int32)).toUInt32 >>> ((6 : Int32) &&& 31).toUInt32).toInt32)
    · refine own_pre (A := s₁.setTop (mkF m 55 #[.val (.int p1), .val (.int p2), .val (.int p3), .val (.long (-1 : Int64)), .second, .val (.long (((-1 : Int64).toUInt64 >>> (((63 : Int32) - ((p3 - (1 : Int32)) &&& (63 : Int32))) &&& 0x3f).toInt64.toUInt64).toInt64)), .second] [(.long ((-1 : Int64) &&& (((-1 : Int64).toUInt64 >>> (((63 : Int32) - ((p3 - (1 : Int32)) &&& (63 : Int32))) &&& 0x3f).toInt64.toUInt64).toInt64)))])) (fun tt kt => ?_) ?_
      · show Steps p.tables e below (s₁.setTop (mkF m 27 #[.val (.int p1), .val (.int p2), .val (.int p3), .val (.long (-1 : Int64)), .second, .unset, .unset] [(.int (((p3 - (1 : Int32)).toUInt32 >>> ((6 : Int32) &&& 31).toUInt32).toInt32)), (.int p1)])) _
        refine XS.icmpNo X0.here hx rfl (hb hby d3_27) rfl (teq hc27_3).2 ?_
        show Steps p.tables e below (s₁.setTop (mkF m 30 #[.val (.int p1), .val (.int p2), .val (.int p3), .val (.long (-1 : Int64)), .second, .unset, .unset] [])) _
        refine X0.ldc2Long hx hown (mvT hZ (hw _ (List.mem_of_getElem? (i := 12) rfl))) (g := (mkF m 30 #[.val (.int p1), .val (.int p2), .val (.int p3), .val (.long (-1 : Int64)), .second, .unset, .unset] [])) rfl (hb hby d3_30) _ ?_
        show Steps p.tables e below (s₁.setTop (mkF m 33 #[.val (.int p1), .val (.int p2), .val (.int p3), .val (.long (-1 : Int64)), .second, .unset, .unset] [(.long (-1 : Int64))])) _
        refine XS.bipush X0.here hx rfl (hb hby d3_33) ?_
        show Steps p.tables e below (s₁.setTop (mkF m 35 #[.val (.int p1), .val (.int p2), .val (.int p3), .val (.long (-1 : Int64)), .second, .unset, .unset] [(.int (63 : Int32)), (.long (-1 : Int64))])) _
        refine XS.iloadN X0.here hx rfl (hb hby d3_35) rfl ?_
        show Steps p.tables e below (s₁.setTop (mkF m 36 #[.val (.int p1), .val (.int p2), .val (.int p3), .val (.long (-1 : Int64)), .second, .unset, .unset] [(.int p3), (.int (63 : Int32)), (.long (-1 : Int64))])) _
        refine XS.iconst X0.here hx rfl (hb hby d3_36) ?_
        show Steps p.tables e below (s₁.setTop (mkF m 37 #[.val (.int p1), .val (.int p2), .val (.int p3), .val (.long (-1 : Int64)), .second, .unset, .unset] [(.int (1 : Int32)), (.int p3), (.int (63 : Int32)), (.long (-1 : Int64))])) _
        refine XS.isub X0.here hx rfl (hb hby d3_37) rfl ?_
        show Steps p.tables e below (s₁.setTop (mkF m 38 #[.val (.int p1), .val (.int p2), .val (.int p3), .val (.long (-1 : Int64)), .second, .unset, .unset] [(.int (p3 - (1 : Int32))), (.int (63 : Int32)), (.long (-1 : Int64))])) _
        refine XS.bipush X0.here hx rfl (hb hby d3_38) ?_
        show Steps p.tables e below (s₁.setTop (mkF m 40 #[.val (.int p1), .val (.int p2), .val (.int p3), .val (.long (-1 : Int64)), .second, .unset, .unset] [(.int (63 : Int32)), (.int (p3 - (1 : Int32))), (.int (63 : Int32)), (.long (-1 : Int64))])) _
        refine XS.iand X0.here hx rfl (hb hby d3_40) rfl ?_
        show Steps p.tables e below (s₁.setTop (mkF m 41 #[.val (.int p1), .val (.int p2), .val (.int p3), .val (.long (-1 : Int64)), .second, .unset, .unset] [(.int ((p3 - (1 : Int32)) &&& (63 : Int32))), (.int (63 : Int32)), (.long (-1 : Int64))])) _
        refine XS.isub X0.here hx rfl (hb hby d3_41) rfl ?_
        show Steps p.tables e below (s₁.setTop (mkF m 42 #[.val (.int p1), .val (.int p2), .val (.int p3), .val (.long (-1 : Int64)), .second, .unset, .unset] [(.int ((63 : Int32) - ((p3 - (1 : Int32)) &&& (63 : Int32)))), (.long (-1 : Int64))])) _
        refine XS.lushr X0.here hx rfl (hb hby d3_42) rfl ?_
        show Steps p.tables e below (s₁.setTop (mkF m 43 #[.val (.int p1), .val (.int p2), .val (.int p3), .val (.long (-1 : Int64)), .second, .unset, .unset] [(.long (((-1 : Int64).toUInt64 >>> (((63 : Int32) - ((p3 - (1 : Int32)) &&& (63 : Int32))) &&& 0x3f).toInt64.toUInt64).toInt64))])) _
        refine XS.goto X0.here hx rfl (pc0 := 43) (pc' := 49) rfl (hb hby d3_43) (by decide) (by decide) ?_
        show Steps p.tables e below (s₁.setTop (mkF m 49 #[.val (.int p1), .val (.int p2), .val (.int p3), .val (.long (-1 : Int64)), .second, .unset, .unset] [(.long (((-1 : Int64).toUInt64 >>> (((63 : Int32) - ((p3 - (1 : Int32)) &&& (63 : Int32))) &&& 0x3f).toInt64.toUInt64).toInt64))])) _
        refine XS.lstore X0.here hx rfl (hb hby d3_49) rfl (l' := #[.val (.int p1), .val (.int p2), .val (.int p3), .val (.long (-1 : Int64)), .second, .val (.long (((-1 : Int64).toUInt64 >>> (((63 : Int32) - ((p3 - (1 : Int32)) &&& (63 : Int32))) &&& 0x3f).toInt64.toUInt64).toInt64)), .second]) rfl ?_
        show Steps p.tables e below (s₁.setTop (mkF m 51 #[.val (.int p1), .val (.int p2), .val (.int p3), .val (.long (-1 : Int64)), .second, .val (.long (((-1 : Int64).toUInt64 >>> (((63 : Int32) - ((p3 - (1 : Int32)) &&& (63 : Int32))) &&& 0x3f).toInt64.toUInt64).toInt64)), .second] [])) _
        refine XS.lloadN X0.here hx rfl (hb hby d3_51) rfl ?_
        show Steps p.tables e below (s₁.setTop (mkF m 52 #[.val (.int p1), .val (.int p2), .val (.int p3), .val (.long (-1 : Int64)), .second, .val (.long (((-1 : Int64).toUInt64 >>> (((63 : Int32) - ((p3 - (1 : Int32)) &&& (63 : Int32))) &&& 0x3f).toInt64.toUInt64).toInt64)), .second] [(.long (-1 : Int64))])) _
        refine XS.lload X0.here hx rfl (hb hby d3_52) rfl ?_
        show Steps p.tables e below (s₁.setTop (mkF m 54 #[.val (.int p1), .val (.int p2), .val (.int p3), .val (.long (-1 : Int64)), .second, .val (.long (((-1 : Int64).toUInt64 >>> (((63 : Int32) - ((p3 - (1 : Int32)) &&& (63 : Int32))) &&& 0x3f).toInt64.toUInt64).toInt64)), .second] [(.long (((-1 : Int64).toUInt64 >>> (((63 : Int32) - ((p3 - (1 : Int32)) &&& (63 : Int32))) &&& 0x3f).toInt64.toUInt64).toInt64)), (.long (-1 : Int64))])) _
        refine XS.land X0.here hx rfl (hb hby d3_54) rfl ?_
        exact kt
      show own_End p e below s (s₁.setTop (mkF m 55 #[.val (.int p1), .val (.int p2), .val (.int p3), .val (.long (-1 : Int64)), .second, .val (.long (((-1 : Int64).toUInt64 >>> (((63 : Int32) - ((p3 - (1 : Int32)) &&& (63 : Int32))) &&& 0x3f).toInt64.toUInt64).toInt64)), .second] [(.long ((-1 : Int64) &&& (((-1 : Int64).toUInt64 >>> (((63 : Int32) - ((p3 - (1 : Int32)) &&& (63 : Int32))) &&& 0x3f).toInt64.toUInt64).toInt64)))])) (Q3 Z p1 p2 p3 h0 n0) ({ frames := 0, cells := 0, slots := 0, locals := 0 } : Room).cells ({ frames := 0, cells := 0, slots := 0, locals := 0 } : Room).slots
      have hv : (own_bits p1 p2 p3) = ((-1 : Int64) &&& (((-1 : Int64).toUInt64 >>> (((63 : Int32) - ((p3 - (1 : Int32)) &&& (63 : Int32))) &&& 0x3f).toInt64.toUInt64).toInt64)) := hj.trans (by simp only [own_bits, if_neg hc5_1, if_pos hc27_3])
      obtain ⟨fs, hr, hrun, hended, hW, hsame⟩ := X0.leave (v := some (.long ((-1 : Int64) &&& (((-1 : Int64).toUInt64 >>> (((63 : Int32) - ((p3 - (1 : Int32)) &&& (63 : Int32))) &&& 0x3f).toInt64.toUInt64).toInt64)))) (fun h => by rw [Bd.returns] at h; cases h)
      refine ⟨_, _, ?_, hrun, hended, _, _, rfl, ?_, ⟨_, rfl⟩, hW, hsame.mono (by decide) (by decide)⟩
      · exact X0.lreturnOut hx Bd.returns (hb hby d3_55) hr
      · show Q3 Z p1 p2 p3 h0 n0 _ s₁.heap _
        rw [e0]
        exact ⟨(congrArg (fun z => some (Value.long z)) hv.symm), N0, rfl⟩
    · refine own_pre (A := s₁.setTop (mkF m 55 #[.val (.int p1), .val (.int p2), .val (.int p3), .val (.long (-1 : Int64)), .second, .val (.long (-1 : Int64)), .second] [(.long ((-1 : Int64) &&& (-1 : Int64)))])) (fun tt kt => ?_) ?_
      · show Steps p.tables e below (s₁.setTop (mkF m 27 #[.val (.int p1), .val (.int p2), .val (.int p3), .val (.long (-1 : Int64)), .second, .unset, .unset] [(.int (((p3 - (1 : Int32)).toUInt32 >>> ((6 : Int32) &&& 31).toUInt32).toInt32)), (.int p1)])) _
        refine XS.icmpYes X0.here hx rfl (pc0 := 27) (pc' := 46) rfl (hb hby d3_27) rfl (feq hc27_3).2 (by decide) (by decide) ?_
        show Steps p.tables e below (s₁.setTop (mkF m 46 #[.val (.int p1), .val (.int p2), .val (.int p3), .val (.long (-1 : Int64)), .second, .unset, .unset] [])) _
        refine X0.ldc2Long hx hown (mvT hZ (hw _ (List.mem_of_getElem? (i := 12) rfl))) (g := (mkF m 46 #[.val (.int p1), .val (.int p2), .val (.int p3), .val (.long (-1 : Int64)), .second, .unset, .unset] [])) rfl (hb hby d3_46) _ ?_
        show Steps p.tables e below (s₁.setTop (mkF m 49 #[.val (.int p1), .val (.int p2), .val (.int p3), .val (.long (-1 : Int64)), .second, .unset, .unset] [(.long (-1 : Int64))])) _
        refine XS.lstore X0.here hx rfl (hb hby d3_49) rfl (l' := #[.val (.int p1), .val (.int p2), .val (.int p3), .val (.long (-1 : Int64)), .second, .val (.long (-1 : Int64)), .second]) rfl ?_
        show Steps p.tables e below (s₁.setTop (mkF m 51 #[.val (.int p1), .val (.int p2), .val (.int p3), .val (.long (-1 : Int64)), .second, .val (.long (-1 : Int64)), .second] [])) _
        refine XS.lloadN X0.here hx rfl (hb hby d3_51) rfl ?_
        show Steps p.tables e below (s₁.setTop (mkF m 52 #[.val (.int p1), .val (.int p2), .val (.int p3), .val (.long (-1 : Int64)), .second, .val (.long (-1 : Int64)), .second] [(.long (-1 : Int64))])) _
        refine XS.lload X0.here hx rfl (hb hby d3_52) rfl ?_
        show Steps p.tables e below (s₁.setTop (mkF m 54 #[.val (.int p1), .val (.int p2), .val (.int p3), .val (.long (-1 : Int64)), .second, .val (.long (-1 : Int64)), .second] [(.long (-1 : Int64)), (.long (-1 : Int64))])) _
        refine XS.land X0.here hx rfl (hb hby d3_54) rfl ?_
        exact kt
      show own_End p e below s (s₁.setTop (mkF m 55 #[.val (.int p1), .val (.int p2), .val (.int p3), .val (.long (-1 : Int64)), .second, .val (.long (-1 : Int64)), .second] [(.long ((-1 : Int64) &&& (-1 : Int64)))])) (Q3 Z p1 p2 p3 h0 n0) ({ frames := 0, cells := 0, slots := 0, locals := 0 } : Room).cells ({ frames := 0, cells := 0, slots := 0, locals := 0 } : Room).slots
      have hv : (own_bits p1 p2 p3) = ((-1 : Int64) &&& (-1 : Int64)) := hj.trans (by simp only [own_bits, if_neg hc5_1, if_neg hc27_3])
      obtain ⟨fs, hr, hrun, hended, hW, hsame⟩ := X0.leave (v := some (.long ((-1 : Int64) &&& (-1 : Int64)))) (fun h => by rw [Bd.returns] at h; cases h)
      refine ⟨_, _, ?_, hrun, hended, _, _, rfl, ?_, ⟨_, rfl⟩, hW, hsame.mono (by decide) (by decide)⟩
      · exact X0.lreturnOut hx Bd.returns (hb hby d3_55) hr
      · show Q3 Z p1 p2 p3 h0 n0 _ s₁.heap _
        rw [e0]
        exact ⟨(congrArg (fun z => some (Value.long z)) hv.symm), N0, rfl⟩
theorem own_ord (p1 p2 : Int32) (h : ¬ (own_min (p1 &&& (2147483647 : Int32)) (p2 &&& (2147483647 : Int32))) = (own_max (p1 &&& (2147483647 : Int32)) (p2 &&& (2147483647 : Int32)))) :
    0 ≤ (own_min (p1 &&& (2147483647 : Int32)) (p2 &&& (2147483647 : Int32))).toInt ∧ (own_min (p1 &&& (2147483647 : Int32)) (p2 &&& (2147483647 : Int32))).toInt < (own_max (p1 &&& (2147483647 : Int32)) (p2 &&& (2147483647 : Int32))).toInt := by
  have e1 : (p1 &&& (2147483647 : Int32)).toInt = p1.toInt % (2 ^ 31 : Nat) := c_mask p1 2147483647 31 (by decide) (by decide)
  have e2 : (p2 &&& (2147483647 : Int32)).toInt = p2.toInt % (2 ^ 31 : Nat) := c_mask p2 2147483647 31 (by decide) (by decide)
  generalize (p1 &&& (2147483647 : Int32)) = x at *
  generalize (p2 &&& (2147483647 : Int32)) = y at *
  have hne : x.toInt ≠ y.toInt := fun q => by
    have q' := Int32.toInt_inj.mp q
    subst q'
    exact h (by simp only [own_min, own_max, ite_self])
  unfold own_min own_max
  by_cases q : y < x
  · have q' := Int32.lt_iff_toInt_lt.mp q
    have r : ¬ x < y := fun u => by have := Int32.lt_iff_toInt_lt.mp u; omega
    rw [if_pos q, if_neg r]; omega
  · have q' : ¬ y.toInt < x.toInt := fun u => q (Int32.lt_iff_toInt_lt.mpr u)
    have r : x < y := Int32.lt_iff_toInt_lt.mpr (by omega)
    rw [if_neg q, if_pos r]; omega
theorem own_six (x : Int32) : ((x.toUInt32 >>> ((6 : Int32) &&& 31).toUInt32).toInt32).toInt = (x.toInt % 4294967296) / (2 ^ 6 : Nat) := c_iushr x 6 6 (by decide) (by decide)
theorem own_span (fr to : Int32) (h0 : 0 ≤ fr.toInt) (h1 : fr.toInt < to.toInt) : (((((to - (1 : Int32)).toUInt32 >>> ((6 : Int32) &&& 31).toUInt32).toInt32) - ((fr.toUInt32 >>> ((6 : Int32) &&& 31).toUInt32).toInt32)) + (1 : Int32)).toInt = (to.toInt - 1) / 64 - fr.toInt / 64 + 1 := by
  have k1 : (1 : Int32).toInt = 1 := by decide
  have a1 := c_isub to 1
  have b0 := rng32 to
  have b1 := rng32 (to - 1)
  have s1 := own_six (to - 1)
  have s2 := own_six fr
  generalize (((to - (1 : Int32)).toUInt32 >>> ((6 : Int32) &&& 31).toUInt32).toInt32) = A at *
  generalize ((fr.toUInt32 >>> ((6 : Int32) &&& 31).toUInt32).toInt32) = B at *
  have a2 := c_isub A B
  have a3 := c_iadd (A - B) 1
  have b2 := rng32 (A - B)
  have b3 := rng32 (A - B + 1)
  omega
theorem own_nz (p1 p2 : Int32) (h : ¬ (own_min (p1 &&& (2147483647 : Int32)) (p2 &&& (2147483647 : Int32))) = (own_max (p1 &&& (2147483647 : Int32)) (p2 &&& (2147483647 : Int32)))) :
    ¬ ((((((own_max (p1 &&& (2147483647 : Int32)) (p2 &&& (2147483647 : Int32))) - (1 : Int32)).toUInt32 >>> ((6 : Int32) &&& 31).toUInt32).toInt32) - (((own_min (p1 &&& (2147483647 : Int32)) (p2 &&& (2147483647 : Int32))).toUInt32 >>> ((6 : Int32) &&& 31).toUInt32).toInt32)) + (1 : Int32)) = (0 : Int32) := fun q => by
  obtain ⟨h0, h1⟩ := own_ord p1 p2 h
  have s := own_span _ _ h0 h1
  have k0 : (0 : Int32).toInt = 0 := by decide
  rw [q, k0] at s
  omega
def own_law_124 (p1 : Int32) (p2 : Int32) (p3 : Int32) (p4 : Int32) (fr : Int32) (to : Int32) (w : Int32) (bit : Int32) (r : Int64) (got : Int32) (pos : Int64) : Int32 := (if pos < (fr.toInt64) then (if got = (0 : Int32) then (1 : Int32) else (0 : Int32)) else (if pos < (to.toInt64) then (if got = (1 : Int32) then (1 : Int32) else (0 : Int32)) else (if got = (0 : Int32) then (1 : Int32) else (0 : Int32))))
def own_law_110 (p1 : Int32) (p2 : Int32) (p3 : Int32) (p4 : Int32) (fr : Int32) (to : Int32) (w : Int32) (bit : Int32) (r : Int64) (got : Int32) : Int32 := (own_law_124 p1 p2 p3 p4 fr to w bit r got (((w.toInt64) <<< ((6 : Int32) &&& 0x3f).toInt64) + (bit.toInt64)))
def own_law_93 (p1 : Int32) (p2 : Int32) (p3 : Int32) (p4 : Int32) (fr : Int32) (to : Int32) (w : Int32) (bit : Int32) (r : Int64) : Int32 := (if (((r.toUInt64 >>> (bit &&& 0x3f).toInt64.toUInt64).toInt64) &&& (1 : Int64)) = (0 : Int64) then (own_law_110 p1 p2 p3 p4 fr to w bit r (0 : Int32)) else (own_law_110 p1 p2 p3 p4 fr to w bit r (1 : Int32)))
def own_law_82 (p1 : Int32) (p2 : Int32) (p3 : Int32) (p4 : Int32) (fr : Int32) (to : Int32) (w : Int32) (bit : Int32) : Int32 := (own_law_93 p1 p2 p3 p4 fr to w bit (own_bits w fr to))
def own_law_76 (p1 : Int32) (p2 : Int32) (p3 : Int32) (p4 : Int32) (fr : Int32) (to : Int32) (w : Int32) : Int32 := (own_law_82 p1 p2 p3 p4 fr to w (p4 &&& (63 : Int32)))
def own_law_39 (p1 : Int32) (p2 : Int32) (p3 : Int32) (p4 : Int32) (fr : Int32) (to : Int32) : Int32 := (own_law_76 p1 p2 p3 p4 fr to (((fr.toUInt32 >>> ((6 : Int32) &&& 31).toUInt32).toInt32) + ((p3 &&& (2147483647 : Int32)) % (((((to - (1 : Int32)).toUInt32 >>> ((6 : Int32) &&& 31).toUInt32).toInt32) - ((fr.toUInt32 >>> ((6 : Int32) &&& 31).toUInt32).toInt32)) + (1 : Int32)))))
def own_law (p1 : Int32) (p2 : Int32) (p3 : Int32) (p4 : Int32) : Int32 := (if (own_min (p1 &&& (2147483647 : Int32)) (p2 &&& (2147483647 : Int32))) = (own_max (p1 &&& (2147483647 : Int32)) (p2 &&& (2147483647 : Int32))) then (1 : Int32) else (own_law_39 p1 p2 p3 p4 (own_min (p1 &&& (2147483647 : Int32)) (p2 &&& (2147483647 : Int32))) (own_max (p1 &&& (2147483647 : Int32)) (p2 &&& (2147483647 : Int32)))))
theorem pn_0 : plainName "com/example/libfacet/libfacet/regex/WalkTablesBitsWithinPinLaw" = true := by first | (simp [plainName, overriddenIn]; done) | decide +kernel
theorem pd_0_0 : parseMethodDescriptor "(II)I" = some ⟨[.int, .int], some .int⟩ := by decide +kernel
theorem pd_0_1 : parseMethodDescriptor "(III)J" = some ⟨[.int, .int, .int], some .long⟩ := by decide +kernel
theorem ef_0 (m : MethodId) (x0 : Int32) (x1 : Int32) (x2 : Int32) (x3 : Int32) : entryFrame m #[(.int x0), (.int x1), (.int x2), (.int x3)] maxLocals = mkF m 0 #[.val (.int x0), .val (.int x1), .val (.int x2), .val (.int x3), .unset, .unset, .unset, .unset, .unset, .unset, .unset, .unset, .unset, .unset, .unset, .unset, .unset, .unset, .unset] [] := by first | (simp [entryFrame, mkF, argsToLocals, Value.category, maxLocals]; done) | rfl
def Q0 (Z : State) (p1 : Int32) (p2 : Int32) (p3 : Int32) (p4 : Int32) (h0 : Heap) (n0 : Nat) (v : Option Value) (h : Heap) (L : List Loc) : Prop := v = some (.int (own_law p1 p2 p3 p4)) ∧ Fr n0 L
set_option maxRecDepth 65536 in
set_option maxHeartbeats 40000000 in
theorem rm0 (l : Launch) (Z : State) (a0 : Array Value) (hw : ∀ d ∈ tables_1, d.before a0 Z = true) (ws : List Jvm.Cond) (p1 : Int32) (p2 : Int32) (p3 : Int32) (p4 : Int32) (h0 : Heap) (n0 : Nat) (Z0 : n0 ≤ h0.size) :
    MetFree l x (head1 (Jvm.Cond.code x code maxLocals ret :: ws) room_1) (fun a U => a = #[(.int p1), (.int p2), (.int p3), (.int p4)] ∧ Z.Warmed39 U.vm ∧ U.heap = h0) (fun _ _ _ _ _ => True) (fun _ U o U' => ∃ v L, o = .returned v ∧ Q0 Z p1 p2 p3 p4 h0 n0 v U'.heap L ∧ FrameEnd U o U' L room_1.cells room_1.slots) := by
  refine MetFree.of_bodySF (plainFor_of_name pn_0) hisR ?_
  intro p e s m args below meth c s₁ Bd hml0 hP hK
  obtain ⟨rfl, hZ, hh⟩ := hP
  have hx := Bd.exec
  have hby := Bd.bytes
  have hml : c.maxLocals = 19 := hml0
  have hown : s.vm.findClass "com/example/libfacet/libfacet/regex/WalkTablesBitsWithinPinLaw" = some m.cls := findClass_of_methodNamed Bd.named
  have hnm := (name_of_methodNamed Bd.named Bd.method).1
  have X0 : Stand p l e room_1 s m #[(.int p1), (.int p2), (.int p3), (.int p4)] below meth c s₁ [] 0 0 := Stand.of_body Bd
  have e0 : s₁.heap = h0 := by rw [← hh, Bd.state]; rfl
  have N0 := Fr.nil n0
  show own_End p e below s (s₁.setTop (entryFrame m #[(.int p1), (.int p2), (.int p3), (.int p4)] maxLocals)) (Q0 Z p1 p2 p3 p4 h0 n0) room_1.cells room_1.slots
  refine own_pre (A := s₁.setTop (mkF m 0 #[.val (.int p1), .val (.int p2), .val (.int p3), .val (.int p4), .unset, .unset, .unset, .unset, .unset, .unset, .unset, .unset, .unset, .unset, .unset, .unset, .unset, .unset, .unset] [])) (fun tt kt => castTop (ef_0 m p1 p2 p3 p4) kt) ?_
  show own_End p e below s (s₁.setTop (mkF m 0 #[.val (.int p1), .val (.int p2), .val (.int p3), .val (.int p4), .unset, .unset, .unset, .unset, .unset, .unset, .unset, .unset, .unset, .unset, .unset, .unset, .unset, .unset, .unset] [])) (Q0 Z p1 p2 p3 p4 h0 n0) room_1.cells room_1.slots
  have hj : own_law p1 p2 p3 p4 = own_law p1 p2 p3 p4 := rfl
  obtain ⟨_, _, ⟨T1, L1, k1, n1⟩, -, X1, ⟨Lc1, hQ1, l1, y1, z1⟩, st1⟩ := Jvm.LawKit.callS X0 hx (y := (⟨"java/lang/Math", "min", "(II)I"⟩ : MethodName)) hown (mvT hZ (hw _ (List.mem_of_getElem? (i := 1) rfl))) (mvT hZ (hw _ (List.mem_of_getElem? (i := 2) rfl))) (mvT hZ (hw _ (List.mem_of_getElem? (i := 3) rfl))) (mvT hZ (hw _ (List.mem_of_getElem? (i := 4) rfl))) (by decide) (backOf (W := 0) (rm1 l Z a0 hw [] (p1 &&& (2147483647 : Int32)) (p2 &&& (2147483647 : Int32))  h0 n0 Z0 ) hZ (hw _ (List.mem_of_getElem? (i := 4) rfl)) (hw _ (List.mem_of_getElem? (i := 3) rfl)) (by decide) (by decide)) (g := (mkF m 16 #[.val (.int p1), .val (.int p2), .val (.int p3), .val (.int p4), .val (.int (p1 &&& (2147483647 : Int32))), .val (.int (p2 &&& (2147483647 : Int32))), .unset, .unset, .unset, .unset, .unset, .unset, .unset, .unset, .unset, .unset, .unset, .unset, .unset] [(.int (p2 &&& (2147483647 : Int32))), (.int (p1 &&& (2147483647 : Int32)))])) rfl (by rw [hml]; rfl) (argsL := [(.int (p1 &&& (2147483647 : Int32))), (.int (p2 &&& (2147483647 : Int32)))]) (rest := []) (lenOf pd_0_0 rfl) rfl (by show 2 * 0 + _ ≤ _; exact Nat.le_of_eq rfl) (hb hby at_16) (fun _ _ => ⟨rfl, e0, (by decide : 0 + 0 ≤ _), (by decide : 0 + 0 ≤ _)⟩)
  dsimp only [Pt.U, Pt.locs, Pt.cells, Pt.slots] at X1 l1 y1 z1 st1 hQ1
  subst l1 y1 z1
  obtain ⟨rfl, N1q, e1⟩ := hQ1
  have N1 := Fr.app N0 N1q
  obtain ⟨_, _, ⟨T2, L2, k2, n2⟩, -, X2, ⟨Lc2, hQ2, l2, y2, z2⟩, st2⟩ := Jvm.LawKit.callS X1 hx (y := (⟨"java/lang/Math", "max", "(II)I"⟩ : MethodName)) hown (mvT hZ (hw _ (List.mem_of_getElem? (i := 5) rfl))) (mvT hZ (hw _ (List.mem_of_getElem? (i := 6) rfl))) (mvT hZ (hw _ (List.mem_of_getElem? (i := 3) rfl))) (mvT hZ (hw _ (List.mem_of_getElem? (i := 7) rfl))) (by decide) (backOf (W := 0) (rm2 l Z a0 hw [] (p1 &&& (2147483647 : Int32)) (p2 &&& (2147483647 : Int32))  h0 n0 Z0 ) hZ (hw _ (List.mem_of_getElem? (i := 7) rfl)) (hw _ (List.mem_of_getElem? (i := 3) rfl)) (by decide) (by decide)) (g := (mkF m 25 #[.val (.int p1), .val (.int p2), .val (.int p3), .val (.int p4), .val (.int (p1 &&& (2147483647 : Int32))), .val (.int (p2 &&& (2147483647 : Int32))), .val (.int (own_min (p1 &&& (2147483647 : Int32)) (p2 &&& (2147483647 : Int32)))), .unset, .unset, .unset, .unset, .unset, .unset, .unset, .unset, .unset, .unset, .unset, .unset] [(.int (p2 &&& (2147483647 : Int32))), (.int (p1 &&& (2147483647 : Int32)))])) rfl (by rw [hml]; rfl) (argsL := [(.int (p1 &&& (2147483647 : Int32))), (.int (p2 &&& (2147483647 : Int32)))]) (rest := []) (lenOf pd_0_0 rfl) rfl (by show 2 * 0 + _ ≤ _; exact Nat.le_of_eq rfl) (hb hby at_25) (fun _ _ => ⟨rfl, e1, (by decide : 0 + 0 ≤ _), (by decide : 0 + 0 ≤ _)⟩)
  dsimp only [Pt.U, Pt.locs, Pt.cells, Pt.slots] at X2 l2 y2 z2 st2 hQ2
  subst l2 y2 z2
  obtain ⟨rfl, N2q, e2⟩ := hQ2
  have N2 := Fr.app N1 N2q
  refine own_pre (A := T2.setTop (mkF m 34 #[.val (.int p1), .val (.int p2), .val (.int p3), .val (.int p4), .val (.int (p1 &&& (2147483647 : Int32))), .val (.int (p2 &&& (2147483647 : Int32))), .val (.int (own_min (p1 &&& (2147483647 : Int32)) (p2 &&& (2147483647 : Int32)))), .val (.int (own_max (p1 &&& (2147483647 : Int32)) (p2 &&& (2147483647 : Int32)))), .unset, .unset, .unset, .unset, .unset, .unset, .unset, .unset, .unset, .unset, .unset] [(.int (own_max (p1 &&& (2147483647 : Int32)) (p2 &&& (2147483647 : Int32)))), (.int (own_min (p1 &&& (2147483647 : Int32)) (p2 &&& (2147483647 : Int32))))])) (fun tt kt => ?_) ?_
  · show Steps p.tables e below (s₁.setTop (mkF m 0 #[.val (.int p1), .val (.int p2), .val (.int p3), .val (.int p4), .unset, .unset, .unset, .unset, .unset, .unset, .unset, .unset, .unset, .unset, .unset, .unset, .unset, .unset, .unset] [])) _
    refine XS.iloadN X0.here hx rfl (hb hby at_0) rfl ?_
    show Steps p.tables e below (s₁.setTop (mkF m 1 #[.val (.int p1), .val (.int p2), .val (.int p3), .val (.int p4), .unset, .unset, .unset, .unset, .unset, .unset, .unset, .unset, .unset, .unset, .unset, .unset, .unset, .unset, .unset] [(.int p1)])) _
    refine X0.ldcInt hx hown (mvT hZ (hw _ (List.mem_of_getElem? (i := 0) rfl))) (g := (mkF m 1 #[.val (.int p1), .val (.int p2), .val (.int p3), .val (.int p4), .unset, .unset, .unset, .unset, .unset, .unset, .unset, .unset, .unset, .unset, .unset, .unset, .unset, .unset, .unset] [(.int p1)])) rfl (hb hby at_1) _ ?_
    show Steps p.tables e below (s₁.setTop (mkF m 3 #[.val (.int p1), .val (.int p2), .val (.int p3), .val (.int p4), .unset, .unset, .unset, .unset, .unset, .unset, .unset, .unset, .unset, .unset, .unset, .unset, .unset, .unset, .unset] [(.int (2147483647 : Int32)), (.int p1)])) _
    refine XS.iand X0.here hx rfl (hb hby at_3) rfl ?_
    show Steps p.tables e below (s₁.setTop (mkF m 4 #[.val (.int p1), .val (.int p2), .val (.int p3), .val (.int p4), .unset, .unset, .unset, .unset, .unset, .unset, .unset, .unset, .unset, .unset, .unset, .unset, .unset, .unset, .unset] [(.int (p1 &&& (2147483647 : Int32)))])) _
    refine XS.istore X0.here hx rfl (hb hby at_4) rfl (l' := #[.val (.int p1), .val (.int p2), .val (.int p3), .val (.int p4), .val (.int (p1 &&& (2147483647 : Int32))), .unset, .unset, .unset, .unset, .unset, .unset, .unset, .unset, .unset, .unset, .unset, .unset, .unset, .unset]) rfl ?_
    show Steps p.tables e below (s₁.setTop (mkF m 6 #[.val (.int p1), .val (.int p2), .val (.int p3), .val (.int p4), .val (.int (p1 &&& (2147483647 : Int32))), .unset, .unset, .unset, .unset, .unset, .unset, .unset, .unset, .unset, .unset, .unset, .unset, .unset, .unset] [])) _
    refine XS.iloadN X0.here hx rfl (hb hby at_6) rfl ?_
    show Steps p.tables e below (s₁.setTop (mkF m 7 #[.val (.int p1), .val (.int p2), .val (.int p3), .val (.int p4), .val (.int (p1 &&& (2147483647 : Int32))), .unset, .unset, .unset, .unset, .unset, .unset, .unset, .unset, .unset, .unset, .unset, .unset, .unset, .unset] [(.int p2)])) _
    refine X0.ldcInt hx hown (mvT hZ (hw _ (List.mem_of_getElem? (i := 0) rfl))) (g := (mkF m 7 #[.val (.int p1), .val (.int p2), .val (.int p3), .val (.int p4), .val (.int (p1 &&& (2147483647 : Int32))), .unset, .unset, .unset, .unset, .unset, .unset, .unset, .unset, .unset, .unset, .unset, .unset, .unset, .unset] [(.int p2)])) rfl (hb hby at_7) _ ?_
    show Steps p.tables e below (s₁.setTop (mkF m 9 #[.val (.int p1), .val (.int p2), .val (.int p3), .val (.int p4), .val (.int (p1 &&& (2147483647 : Int32))), .unset, .unset, .unset, .unset, .unset, .unset, .unset, .unset, .unset, .unset, .unset, .unset, .unset, .unset] [(.int (2147483647 : Int32)), (.int p2)])) _
    refine XS.iand X0.here hx rfl (hb hby at_9) rfl ?_
    show Steps p.tables e below (s₁.setTop (mkF m 10 #[.val (.int p1), .val (.int p2), .val (.int p3), .val (.int p4), .val (.int (p1 &&& (2147483647 : Int32))), .unset, .unset, .unset, .unset, .unset, .unset, .unset, .unset, .unset, .unset, .unset, .unset, .unset, .unset] [(.int (p2 &&& (2147483647 : Int32)))])) _
    refine XS.istore X0.here hx rfl (hb hby at_10) rfl (l' := #[.val (.int p1), .val (.int p2), .val (.int p3), .val (.int p4), .val (.int (p1 &&& (2147483647 : Int32))), .val (.int (p2 &&& (2147483647 : Int32))), .unset, .unset, .unset, .unset, .unset, .unset, .unset, .unset, .unset, .unset, .unset, .unset, .unset]) rfl ?_
    show Steps p.tables e below (s₁.setTop (mkF m 12 #[.val (.int p1), .val (.int p2), .val (.int p3), .val (.int p4), .val (.int (p1 &&& (2147483647 : Int32))), .val (.int (p2 &&& (2147483647 : Int32))), .unset, .unset, .unset, .unset, .unset, .unset, .unset, .unset, .unset, .unset, .unset, .unset, .unset] [])) _
    refine XS.iload X0.here hx rfl (hb hby at_12) rfl ?_
    show Steps p.tables e below (s₁.setTop (mkF m 14 #[.val (.int p1), .val (.int p2), .val (.int p3), .val (.int p4), .val (.int (p1 &&& (2147483647 : Int32))), .val (.int (p2 &&& (2147483647 : Int32))), .unset, .unset, .unset, .unset, .unset, .unset, .unset, .unset, .unset, .unset, .unset, .unset, .unset] [(.int (p1 &&& (2147483647 : Int32)))])) _
    refine XS.iload X0.here hx rfl (hb hby at_14) rfl ?_
    show Steps p.tables e below (s₁.setTop (mkF m 16 #[.val (.int p1), .val (.int p2), .val (.int p3), .val (.int p4), .val (.int (p1 &&& (2147483647 : Int32))), .val (.int (p2 &&& (2147483647 : Int32))), .unset, .unset, .unset, .unset, .unset, .unset, .unset, .unset, .unset, .unset, .unset, .unset, .unset] [(.int (p2 &&& (2147483647 : Int32))), (.int (p1 &&& (2147483647 : Int32)))])) _
    refine st1 _ ?_
    show Steps p.tables e below (T1.setTop (mkF m 19 #[.val (.int p1), .val (.int p2), .val (.int p3), .val (.int p4), .val (.int (p1 &&& (2147483647 : Int32))), .val (.int (p2 &&& (2147483647 : Int32))), .unset, .unset, .unset, .unset, .unset, .unset, .unset, .unset, .unset, .unset, .unset, .unset, .unset] [(.int (own_min (p1 &&& (2147483647 : Int32)) (p2 &&& (2147483647 : Int32))))])) _
    refine XS.istore X1.here hx rfl (hb hby at_19) rfl (l' := #[.val (.int p1), .val (.int p2), .val (.int p3), .val (.int p4), .val (.int (p1 &&& (2147483647 : Int32))), .val (.int (p2 &&& (2147483647 : Int32))), .val (.int (own_min (p1 &&& (2147483647 : Int32)) (p2 &&& (2147483647 : Int32)))), .unset, .unset, .unset, .unset, .unset, .unset, .unset, .unset, .unset, .unset, .unset, .unset]) rfl ?_
    show Steps p.tables e below (T1.setTop (mkF m 21 #[.val (.int p1), .val (.int p2), .val (.int p3), .val (.int p4), .val (.int (p1 &&& (2147483647 : Int32))), .val (.int (p2 &&& (2147483647 : Int32))), .val (.int (own_min (p1 &&& (2147483647 : Int32)) (p2 &&& (2147483647 : Int32)))), .unset, .unset, .unset, .unset, .unset, .unset, .unset, .unset, .unset, .unset, .unset, .unset] [])) _
    refine XS.iload X1.here hx rfl (hb hby at_21) rfl ?_
    show Steps p.tables e below (T1.setTop (mkF m 23 #[.val (.int p1), .val (.int p2), .val (.int p3), .val (.int p4), .val (.int (p1 &&& (2147483647 : Int32))), .val (.int (p2 &&& (2147483647 : Int32))), .val (.int (own_min (p1 &&& (2147483647 : Int32)) (p2 &&& (2147483647 : Int32)))), .unset, .unset, .unset, .unset, .unset, .unset, .unset, .unset, .unset, .unset, .unset, .unset] [(.int (p1 &&& (2147483647 : Int32)))])) _
    refine XS.iload X1.here hx rfl (hb hby at_23) rfl ?_
    show Steps p.tables e below (T1.setTop (mkF m 25 #[.val (.int p1), .val (.int p2), .val (.int p3), .val (.int p4), .val (.int (p1 &&& (2147483647 : Int32))), .val (.int (p2 &&& (2147483647 : Int32))), .val (.int (own_min (p1 &&& (2147483647 : Int32)) (p2 &&& (2147483647 : Int32)))), .unset, .unset, .unset, .unset, .unset, .unset, .unset, .unset, .unset, .unset, .unset, .unset] [(.int (p2 &&& (2147483647 : Int32))), (.int (p1 &&& (2147483647 : Int32)))])) _
    refine st2 _ ?_
    show Steps p.tables e below (T2.setTop (mkF m 28 #[.val (.int p1), .val (.int p2), .val (.int p3), .val (.int p4), .val (.int (p1 &&& (2147483647 : Int32))), .val (.int (p2 &&& (2147483647 : Int32))), .val (.int (own_min (p1 &&& (2147483647 : Int32)) (p2 &&& (2147483647 : Int32)))), .unset, .unset, .unset, .unset, .unset, .unset, .unset, .unset, .unset, .unset, .unset, .unset] [(.int (own_max (p1 &&& (2147483647 : Int32)) (p2 &&& (2147483647 : Int32))))])) _
    refine XS.istore X2.here hx rfl (hb hby at_28) rfl (l' := #[.val (.int p1), .val (.int p2), .val (.int p3), .val (.int p4), .val (.int (p1 &&& (2147483647 : Int32))), .val (.int (p2 &&& (2147483647 : Int32))), .val (.int (own_min (p1 &&& (2147483647 : Int32)) (p2 &&& (2147483647 : Int32)))), .val (.int (own_max (p1 &&& (2147483647 : Int32)) (p2 &&& (2147483647 : Int32)))), .unset, .unset, .unset, .unset, .unset, .unset, .unset, .unset, .unset, .unset, .unset]) rfl ?_
    show Steps p.tables e below (T2.setTop (mkF m 30 #[.val (.int p1), .val (.int p2), .val (.int p3), .val (.int p4), .val (.int (p1 &&& (2147483647 : Int32))), .val (.int (p2 &&& (2147483647 : Int32))), .val (.int (own_min (p1 &&& (2147483647 : Int32)) (p2 &&& (2147483647 : Int32)))), .val (.int (own_max (p1 &&& (2147483647 : Int32)) (p2 &&& (2147483647 : Int32)))), .unset, .unset, .unset, .unset, .unset, .unset, .unset, .unset, .unset, .unset, .unset] [])) _
    refine XS.iload X2.here hx rfl (hb hby at_30) rfl ?_
    show Steps p.tables e below (T2.setTop (mkF m 32 #[.val (.int p1), .val (.int p2), .val (.int p3), .val (.int p4), .val (.int (p1 &&& (2147483647 : Int32))), .val (.int (p2 &&& (2147483647 : Int32))), .val (.int (own_min (p1 &&& (2147483647 : Int32)) (p2 &&& (2147483647 : Int32)))), .val (.int (own_max (p1 &&& (2147483647 : Int32)) (p2 &&& (2147483647 : Int32)))), .unset, .unset, .unset, .unset, .unset, .unset, .unset, .unset, .unset, .unset, .unset] [(.int (own_min (p1 &&& (2147483647 : Int32)) (p2 &&& (2147483647 : Int32))))])) _
    refine XS.iload X2.here hx rfl (hb hby at_32) rfl ?_
    exact kt
  show own_End p e below s (T2.setTop (mkF m 34 #[.val (.int p1), .val (.int p2), .val (.int p3), .val (.int p4), .val (.int (p1 &&& (2147483647 : Int32))), .val (.int (p2 &&& (2147483647 : Int32))), .val (.int (own_min (p1 &&& (2147483647 : Int32)) (p2 &&& (2147483647 : Int32)))), .val (.int (own_max (p1 &&& (2147483647 : Int32)) (p2 &&& (2147483647 : Int32)))), .unset, .unset, .unset, .unset, .unset, .unset, .unset, .unset, .unset, .unset, .unset] [(.int (own_max (p1 &&& (2147483647 : Int32)) (p2 &&& (2147483647 : Int32)))), (.int (own_min (p1 &&& (2147483647 : Int32)) (p2 &&& (2147483647 : Int32))))])) (Q0 Z p1 p2 p3 p4 h0 n0) room_1.cells room_1.slots
  by_cases hc34_3 : (own_min (p1 &&& (2147483647 : Int32)) (p2 &&& (2147483647 : Int32))) = (own_max (p1 &&& (2147483647 : Int32)) (p2 &&& (2147483647 : Int32)))
  · refine own_pre (A := T2.setTop (mkF m 38 #[.val (.int p1), .val (.int p2), .val (.int p3), .val (.int p4), .val (.int (p1 &&& (2147483647 : Int32))), .val (.int (p2 &&& (2147483647 : Int32))), .val (.int (own_min (p1 &&& (2147483647 : Int32)) (p2 &&& (2147483647 : Int32)))), .val (.int (own_max (p1 &&& (2147483647 : Int32)) (p2 &&& (2147483647 : Int32)))), .unset, .unset, .unset, .unset, .unset, .unset, .unset, .unset, .unset, .unset, .unset] [(.int (1 : Int32))])) (fun tt kt => ?_) ?_
    · show Steps p.tables e below (T2.setTop (mkF m 34 #[.val (.int p1), .val (.int p2), .val (.int p3), .val (.int p4), .val (.int (p1 &&& (2147483647 : Int32))), .val (.int (p2 &&& (2147483647 : Int32))), .val (.int (own_min (p1 &&& (2147483647 : Int32)) (p2 &&& (2147483647 : Int32)))), .val (.int (own_max (p1 &&& (2147483647 : Int32)) (p2 &&& (2147483647 : Int32)))), .unset, .unset, .unset, .unset, .unset, .unset, .unset, .unset, .unset, .unset, .unset] [(.int (own_max (p1 &&& (2147483647 : Int32)) (p2 &&& (2147483647 : Int32)))), (.int (own_min (p1 &&& (2147483647 : Int32)) (p2 &&& (2147483647 : Int32))))])) _
      refine XS.icmpNo X2.here hx rfl (hb hby at_34) rfl (teq hc34_3).2 ?_
      show Steps p.tables e below (T2.setTop (mkF m 37 #[.val (.int p1), .val (.int p2), .val (.int p3), .val (.int p4), .val (.int (p1 &&& (2147483647 : Int32))), .val (.int (p2 &&& (2147483647 : Int32))), .val (.int (own_min (p1 &&& (2147483647 : Int32)) (p2 &&& (2147483647 : Int32)))), .val (.int (own_max (p1 &&& (2147483647 : Int32)) (p2 &&& (2147483647 : Int32)))), .unset, .unset, .unset, .unset, .unset, .unset, .unset, .unset, .unset, .unset, .unset] [])) _
      refine XS.iconst X2.here hx rfl (hb hby at_37) ?_
      exact kt
    show own_End p e below s (T2.setTop (mkF m 38 #[.val (.int p1), .val (.int p2), .val (.int p3), .val (.int p4), .val (.int (p1 &&& (2147483647 : Int32))), .val (.int (p2 &&& (2147483647 : Int32))), .val (.int (own_min (p1 &&& (2147483647 : Int32)) (p2 &&& (2147483647 : Int32)))), .val (.int (own_max (p1 &&& (2147483647 : Int32)) (p2 &&& (2147483647 : Int32)))), .unset, .unset, .unset, .unset, .unset, .unset, .unset, .unset, .unset, .unset, .unset] [(.int (1 : Int32))])) (Q0 Z p1 p2 p3 p4 h0 n0) room_1.cells room_1.slots
    have hv : (own_law p1 p2 p3 p4) = (1 : Int32) := hj.trans (by simp only [own_law, if_pos hc34_3])
    obtain ⟨fs, hr, hrun, hended, hW, hsame⟩ := X2.leave (v := some (.int (1 : Int32))) (fun h => by rw [Bd.returns] at h; cases h)
    refine ⟨_, _, ?_, hrun, hended, _, _, rfl, ?_, ⟨_, rfl⟩, hW, hsame.mono (by decide) (by decide)⟩
    · exact retN X2 hx (t := .boolean) Bd.returns (by simp) (hb hby at_38) hr
    · show Q0 Z p1 p2 p3 p4 h0 n0 _ T2.heap _
      rw [e2]
      exact ⟨(congrArg (fun z => some (Value.int z)) hv.symm), N2⟩
  · refine own_pre (A := T2.setTop (mkF m 39 #[.val (.int p1), .val (.int p2), .val (.int p3), .val (.int p4), .val (.int (p1 &&& (2147483647 : Int32))), .val (.int (p2 &&& (2147483647 : Int32))), .val (.int (own_min (p1 &&& (2147483647 : Int32)) (p2 &&& (2147483647 : Int32)))), .val (.int (own_max (p1 &&& (2147483647 : Int32)) (p2 &&& (2147483647 : Int32)))), .unset, .unset, .unset, .unset, .unset, .unset, .unset, .unset, .unset, .unset, .unset] [])) (fun tt kt => ?_) ?_
    · show Steps p.tables e below (T2.setTop (mkF m 34 #[.val (.int p1), .val (.int p2), .val (.int p3), .val (.int p4), .val (.int (p1 &&& (2147483647 : Int32))), .val (.int (p2 &&& (2147483647 : Int32))), .val (.int (own_min (p1 &&& (2147483647 : Int32)) (p2 &&& (2147483647 : Int32)))), .val (.int (own_max (p1 &&& (2147483647 : Int32)) (p2 &&& (2147483647 : Int32)))), .unset, .unset, .unset, .unset, .unset, .unset, .unset, .unset, .unset, .unset, .unset] [(.int (own_max (p1 &&& (2147483647 : Int32)) (p2 &&& (2147483647 : Int32)))), (.int (own_min (p1 &&& (2147483647 : Int32)) (p2 &&& (2147483647 : Int32))))])) _
      refine XS.icmpYes X2.here hx rfl (pc0 := 34) (pc' := 39) rfl (hb hby at_34) rfl (feq hc34_3).2 (by decide) (by decide) ?_
      exact kt
    show own_End p e below s (T2.setTop (mkF m 39 #[.val (.int p1), .val (.int p2), .val (.int p3), .val (.int p4), .val (.int (p1 &&& (2147483647 : Int32))), .val (.int (p2 &&& (2147483647 : Int32))), .val (.int (own_min (p1 &&& (2147483647 : Int32)) (p2 &&& (2147483647 : Int32)))), .val (.int (own_max (p1 &&& (2147483647 : Int32)) (p2 &&& (2147483647 : Int32)))), .unset, .unset, .unset, .unset, .unset, .unset, .unset, .unset, .unset, .unset, .unset] [])) (Q0 Z p1 p2 p3 p4 h0 n0) room_1.cells room_1.slots
    have j39 : ∀ (Tj39 : State) (Lj39 : List Loc) (Xj39 : Stand p l e room_1 s m #[(.int p1), (.int p2), (.int p3), (.int p4)] below meth c Tj39 Lj39 0 0) (ej39 : Tj39.heap = h0) (Nj39 : Fr n0 Lj39) (fr : Int32) (to : Int32) (hnz : ¬ ((((((to - (1 : Int32)).toUInt32 >>> ((6 : Int32) &&& 31).toUInt32).toInt32) - ((fr.toUInt32 >>> ((6 : Int32) &&& 31).toUInt32).toInt32)) + (1 : Int32)) = (0 : Int32))), own_law p1 p2 p3 p4 = own_law_39 p1 p2 p3 p4 fr to → own_End p e below s (Tj39.setTop (mkF m 39 #[.val (.int p1), .val (.int p2), .val (.int p3), .val (.int p4), .val (.int (p1 &&& (2147483647 : Int32))), .val (.int (p2 &&& (2147483647 : Int32))), .val (.int fr), .val (.int to), .unset, .unset, .unset, .unset, .unset, .unset, .unset, .unset, .unset, .unset, .unset] [])) (Q0 Z p1 p2 p3 p4 h0 n0) room_1.cells room_1.slots := by
      intro Tj39 Lj39 Xj39 ej39 Nj39 fr to hnz hj
      refine own_pre (A := Tj39.setTop (mkF m 76 #[.val (.int p1), .val (.int p2), .val (.int p3), .val (.int p4), .val (.int (p1 &&& (2147483647 : Int32))), .val (.int (p2 &&& (2147483647 : Int32))), .val (.int fr), .val (.int to), .val (.int ((fr.toUInt32 >>> ((6 : Int32) &&& 31).toUInt32).toInt32)), .val (.int (((to - (1 : Int32)).toUInt32 >>> ((6 : Int32) &&& 31).toUInt32).toInt32)), .val (.int (((((to - (1 : Int32)).toUInt32 >>> ((6 : Int32) &&& 31).toUInt32).toInt32) - ((fr.toUInt32 >>> ((6 : Int32) &&& 31).toUInt32).toInt32)) + (1 : Int32))), .val (.int (((fr.toUInt32 >>> ((6 : Int32) &&& 31).toUInt32).toInt32) + ((p3 &&& (2147483647 : Int32)) % (((((to - (1 : Int32)).toUInt32 >>> ((6 : Int32) &&& 31).toUInt32).toInt32) - ((fr.toUInt32 >>> ((6 : Int32) &&& 31).toUInt32).toInt32)) + (1 : Int32))))), .unset, .unset, .unset, .unset, .unset, .unset, .unset] [])) (fun tt kt => ?_) ?_
      · show Steps p.tables e below (Tj39.setTop (mkF m 39 #[.val (.int p1), .val (.int p2), .val (.int p3), .val (.int p4), .val (.int (p1 &&& (2147483647 : Int32))), .val (.int (p2 &&& (2147483647 : Int32))), .val (.int fr), .val (.int to), .unset, .unset, .unset, .unset, .unset, .unset, .unset, .unset, .unset, .unset, .unset] [])) _
        refine XS.iload Xj39.here hx rfl (hb hby at_39) rfl ?_
        show Steps p.tables e below (Tj39.setTop (mkF m 41 #[.val (.int p1), .val (.int p2), .val (.int p3), .val (.int p4), .val (.int (p1 &&& (2147483647 : Int32))), .val (.int (p2 &&& (2147483647 : Int32))), .val (.int fr), .val (.int to), .unset, .unset, .unset, .unset, .unset, .unset, .unset, .unset, .unset, .unset, .unset] [(.int fr)])) _
        refine XS.bipush Xj39.here hx rfl (hb hby at_41) ?_
        show Steps p.tables e below (Tj39.setTop (mkF m 43 #[.val (.int p1), .val (.int p2), .val (.int p3), .val (.int p4), .val (.int (p1 &&& (2147483647 : Int32))), .val (.int (p2 &&& (2147483647 : Int32))), .val (.int fr), .val (.int to), .unset, .unset, .unset, .unset, .unset, .unset, .unset, .unset, .unset, .unset, .unset] [(.int (6 : Int32)), (.int fr)])) _
        refine XS.iushr Xj39.here hx rfl (hb hby at_43) rfl ?_
        show Steps p.tables e below (Tj39.setTop (mkF m 44 #[.val (.int p1), .val (.int p2), .val (.int p3), .val (.int p4), .val (.int (p1 &&& (2147483647 : Int32))), .val (.int (p2 &&& (2147483647 : Int32))), .val (.int fr), .val (.int to), .unset, .unset, .unset, .unset, .unset, .unset, .unset, .unset, .unset, .unset, .unset] [(.int ((fr.toUInt32 >>> ((6 : Int32) &&& 31).toUInt32).toInt32))])) _
        refine XS.istore Xj39.here hx rfl (hb hby at_44) rfl (l' := #[.val (.int p1), .val (.int p2), .val (.int p3), .val (.int p4), .val (.int (p1 &&& (2147483647 : Int32))), .val (.int (p2 &&& (2147483647 : Int32))), .val (.int fr), .val (.int to), .val (.int ((fr.toUInt32 >>> ((6 : Int32) &&& 31).toUInt32).toInt32)), .unset, .unset, .unset, .unset, .unset, .unset, .unset, .unset, .unset, .unset]) rfl ?_
        show Steps p.tables e below (Tj39.setTop (mkF m 46 #[.val (.int p1), .val (.int p2), .val (.int p3), .val (.int p4), .val (.int (p1 &&& (2147483647 : Int32))), .val (.int (p2 &&& (2147483647 : Int32))), .val (.int fr), .val (.int to), .val (.int ((fr.toUInt32 >>> ((6 : Int32) &&& 31).toUInt32).toInt32)), .unset, .unset, .unset, .unset, .unset, .unset, .unset, .unset, .unset, .unset] [])) _
        refine XS.iload Xj39.here hx rfl (hb hby at_46) rfl ?_
        show Steps p.tables e below (Tj39.setTop (mkF m 48 #[.val (.int p1), .val (.int p2), .val (.int p3), .val (.int p4), .val (.int (p1 &&& (2147483647 : Int32))), .val (.int (p2 &&& (2147483647 : Int32))), .val (.int fr), .val (.int to), .val (.int ((fr.toUInt32 >>> ((6 : Int32) &&& 31).toUInt32).toInt32)), .unset, .unset, .unset, .unset, .unset, .unset, .unset, .unset, .unset, .unset] [(.int to)])) _
        refine XS.iconst Xj39.here hx rfl (hb hby at_48) ?_
        show Steps p.tables e below (Tj39.setTop (mkF m 49 #[.val (.int p1), .val (.int p2), .val (.int p3), .val (.int p4), .val (.int (p1 &&& (2147483647 : Int32))), .val (.int (p2 &&& (2147483647 : Int32))), .val (.int fr), .val (.int to), .val (.int ((fr.toUInt32 >>> ((6 : Int32) &&& 31).toUInt32).toInt32)), .unset, .unset, .unset, .unset, .unset, .unset, .unset, .unset, .unset, .unset] [(.int (1 : Int32)), (.int to)])) _
        refine XS.isub Xj39.here hx rfl (hb hby at_49) rfl ?_
        show Steps p.tables e below (Tj39.setTop (mkF m 50 #[.val (.int p1), .val (.int p2), .val (.int p3), .val (.int p4), .val (.int (p1 &&& (2147483647 : Int32))), .val (.int (p2 &&& (2147483647 : Int32))), .val (.int fr), .val (.int to), .val (.int ((fr.toUInt32 >>> ((6 : Int32) &&& 31).toUInt32).toInt32)), .unset, .unset, .unset, .unset, .unset, .unset, .unset, .unset, .unset, .unset] [(.int (to - (1 : Int32)))])) _
        refine XS.bipush Xj39.here hx rfl (hb hby at_50) ?_
        show Steps p.tables e below (Tj39.setTop (mkF m 52 #[.val (.int p1), .val (.int p2), .val (.int p3), .val (.int p4), .val (.int (p1 &&& (2147483647 : Int32))), .val (.int (p2 &&& (2147483647 : Int32))), .val (.int fr), .val (.int to), .val (.int ((fr.toUInt32 >>> ((6 : Int32) &&& 31).toUInt32).toInt32)), .unset, .unset, .unset, .unset, .unset, .unset, .unset, .unset, .unset, .unset] [(.int (6 : Int32)), (.int (to - (1 : Int32)))])) _
        refine XS.iushr Xj39.here hx rfl (hb hby at_52) rfl ?_
        show Steps p.tables e below (Tj39.setTop (mkF m 53 #[.val (.int p1), .val (.int p2), .val (.int p3), .val (.int p4), .val (.int (p1 &&& (2147483647 : Int32))), .val (.int (p2 &&& (2147483647 : Int32))), .val (.int fr), .val (.int to), .val (.int ((fr.toUInt32 >>> ((6 : Int32) &&& 31).toUInt32).toInt32)), .unset, .unset, .unset, .unset, .unset, .unset, .unset, .unset, .unset, .unset] [(.int (((to - (1 : Int32)).toUInt32 >>> ((6 : Int32) &&& 31).toUInt32).toInt32))])) _
        refine XS.istore Xj39.here hx rfl (hb hby at_53) rfl (l' := #[.val (.int p1), .val (.int p2), .val (.int p3), .val (.int p4), .val (.int (p1 &&& (2147483647 : Int32))), .val (.int (p2 &&& (2147483647 : Int32))), .val (.int fr), .val (.int to), .val (.int ((fr.toUInt32 >>> ((6 : Int32) &&& 31).toUInt32).toInt32)), .val (.int (((to - (1 : Int32)).toUInt32 >>> ((6 : Int32) &&& 31).toUInt32).toInt32)), .unset, .unset, .unset, .unset, .unset, .unset, .unset, .unset, .unset]) rfl ?_
        show Steps p.tables e below (Tj39.setTop (mkF m 55 #[.val (.int p1), .val (.int p2), .val (.int p3), .val (.int p4), .val (.int (p1 &&& (2147483647 : Int32))), .val (.int (p2 &&& (2147483647 : Int32))), .val (.int fr), .val (.int to), .val (.int ((fr.toUInt32 >>> ((6 : Int32) &&& 31).toUInt32).toInt32)), .val (.int (((to - (1 : Int32)).toUInt32 >>> ((6 : Int32) &&& 31).toUInt32).toInt32)), .unset, .unset, .unset, .unset, .unset, .unset, .unset, .unset, .unset] [])) _
        refine XS.iload Xj39.here hx rfl (hb hby at_55) rfl ?_
        show Steps p.tables e below (Tj39.setTop (mkF m 57 #[.val (.int p1), .val (.int p2), .val (.int p3), .val (.int p4), .val (.int (p1 &&& (2147483647 : Int32))), .val (.int (p2 &&& (2147483647 : Int32))), .val (.int fr), .val (.int to), .val (.int ((fr.toUInt32 >>> ((6 : Int32) &&& 31).toUInt32).toInt32)), .val (.int (((to - (1 : Int32)).toUInt32 >>> ((6 : Int32) &&& 31).toUInt32).toInt32)), .unset, .unset, .unset, .unset, .unset, .unset, .unset, .unset, .unset] [(.int (((to - (1 : Int32)).toUInt32 >>> ((6 : Int32) &&& 31).toUInt32).toInt32))])) _
        refine XS.iload Xj39.here hx rfl (hb hby at_57) rfl ?_
        show Steps p.tables e below (Tj39.setTop (mkF m 59 #[.val (.int p1), .val (.int p2), .val (.int p3), .val (.int p4), .val (.int (p1 &&& (2147483647 : Int32))), .val (.int (p2 &&& (2147483647 : Int32))), .val (.int fr), .val (.int to), .val (.int ((fr.toUInt32 >>> ((6 : Int32) &&& 31).toUInt32).toInt32)), .val (.int (((to - (1 : Int32)).toUInt32 >>> ((6 : Int32) &&& 31).toUInt32).toInt32)), .unset, .unset, .unset, .unset, .unset, .unset, .unset, .unset, .unset] [(.int ((fr.toUInt32 >>> ((6 : Int32) &&& 31).toUInt32).toInt32)), (.int (((to - (1 : Int32)).toUInt32 >>> ((6 : Int32) &&& 31).toUInt32).toInt32))])) _
        refine XS.isub Xj39.here hx rfl (hb hby at_59) rfl ?_
        show Steps p.tables e below (Tj39.setTop (mkF m 60 #[.val (.int p1), .val (.int p2), .val (.int p3), .val (.int p4), .val (.int (p1 &&& (2147483647 : Int32))), .val (.int (p2 &&& (2147483647 : Int32))), .val (.int fr), .val (.int to), .val (.int ((fr.toUInt32 >>> ((6 : Int32) &&& 31).toUInt32).toInt32)), .val (.int (((to - (1 : Int32)).toUInt32 >>> ((6 : Int32) &&& 31).toUInt32).toInt32)), .unset, .unset, .unset, .unset, .unset, .unset, .unset, .unset, .unset] [(.int ((((to - (1 : Int32)).toUInt32 >>> ((6 : Int32) &&& 31).toUInt32).toInt32) - ((fr.toUInt32 >>> ((6 : Int32) &&& 31).toUInt32).toInt32)))])) _
        refine XS.iconst Xj39.here hx rfl (hb hby at_60) ?_
        show Steps p.tables e below (Tj39.setTop (mkF m 61 #[.val (.int p1), .val (.int p2), .val (.int p3), .val (.int p4), .val (.int (p1 &&& (2147483647 : Int32))), .val (.int (p2 &&& (2147483647 : Int32))), .val (.int fr), .val (.int to), .val (.int ((fr.toUInt32 >>> ((6 : Int32) &&& 31).toUInt32).toInt32)), .val (.int (((to - (1 : Int32)).toUInt32 >>> ((6 : Int32) &&& 31).toUInt32).toInt32)), .unset, .unset, .unset, .unset, .unset, .unset, .unset, .unset, .unset] [(.int (1 : Int32)), (.int ((((to - (1 : Int32)).toUInt32 >>> ((6 : Int32) &&& 31).toUInt32).toInt32) - ((fr.toUInt32 >>> ((6 : Int32) &&& 31).toUInt32).toInt32)))])) _
        refine XS.iadd Xj39.here hx rfl (hb hby at_61) rfl ?_
        show Steps p.tables e below (Tj39.setTop (mkF m 62 #[.val (.int p1), .val (.int p2), .val (.int p3), .val (.int p4), .val (.int (p1 &&& (2147483647 : Int32))), .val (.int (p2 &&& (2147483647 : Int32))), .val (.int fr), .val (.int to), .val (.int ((fr.toUInt32 >>> ((6 : Int32) &&& 31).toUInt32).toInt32)), .val (.int (((to - (1 : Int32)).toUInt32 >>> ((6 : Int32) &&& 31).toUInt32).toInt32)), .unset, .unset, .unset, .unset, .unset, .unset, .unset, .unset, .unset] [(.int (((((to - (1 : Int32)).toUInt32 >>> ((6 : Int32) &&& 31).toUInt32).toInt32) - ((fr.toUInt32 >>> ((6 : Int32) &&& 31).toUInt32).toInt32)) + (1 : Int32)))])) _
        refine XS.istore Xj39.here hx rfl (hb hby at_62) rfl (l' := #[.val (.int p1), .val (.int p2), .val (.int p3), .val (.int p4), .val (.int (p1 &&& (2147483647 : Int32))), .val (.int (p2 &&& (2147483647 : Int32))), .val (.int fr), .val (.int to), .val (.int ((fr.toUInt32 >>> ((6 : Int32) &&& 31).toUInt32).toInt32)), .val (.int (((to - (1 : Int32)).toUInt32 >>> ((6 : Int32) &&& 31).toUInt32).toInt32)), .val (.int (((((to - (1 : Int32)).toUInt32 >>> ((6 : Int32) &&& 31).toUInt32).toInt32) - ((fr.toUInt32 >>> ((6 : Int32) &&& 31).toUInt32).toInt32)) + (1 : Int32))), .unset, .unset, .unset, .unset, .unset, .unset, .unset, .unset]) rfl ?_
        show Steps p.tables e below (Tj39.setTop (mkF m 64 #[.val (.int p1), .val (.int p2), .val (.int p3), .val (.int p4), .val (.int (p1 &&& (2147483647 : Int32))), .val (.int (p2 &&& (2147483647 : Int32))), .val (.int fr), .val (.int to), .val (.int ((fr.toUInt32 >>> ((6 : Int32) &&& 31).toUInt32).toInt32)), .val (.int (((to - (1 : Int32)).toUInt32 >>> ((6 : Int32) &&& 31).toUInt32).toInt32)), .val (.int (((((to - (1 : Int32)).toUInt32 >>> ((6 : Int32) &&& 31).toUInt32).toInt32) - ((fr.toUInt32 >>> ((6 : Int32) &&& 31).toUInt32).toInt32)) + (1 : Int32))), .unset, .unset, .unset, .unset, .unset, .unset, .unset, .unset] [])) _
        refine XS.iload Xj39.here hx rfl (hb hby at_64) rfl ?_
        show Steps p.tables e below (Tj39.setTop (mkF m 66 #[.val (.int p1), .val (.int p2), .val (.int p3), .val (.int p4), .val (.int (p1 &&& (2147483647 : Int32))), .val (.int (p2 &&& (2147483647 : Int32))), .val (.int fr), .val (.int to), .val (.int ((fr.toUInt32 >>> ((6 : Int32) &&& 31).toUInt32).toInt32)), .val (.int (((to - (1 : Int32)).toUInt32 >>> ((6 : Int32) &&& 31).toUInt32).toInt32)), .val (.int (((((to - (1 : Int32)).toUInt32 >>> ((6 : Int32) &&& 31).toUInt32).toInt32) - ((fr.toUInt32 >>> ((6 : Int32) &&& 31).toUInt32).toInt32)) + (1 : Int32))), .unset, .unset, .unset, .unset, .unset, .unset, .unset, .unset] [(.int ((fr.toUInt32 >>> ((6 : Int32) &&& 31).toUInt32).toInt32))])) _
        refine XS.iloadN Xj39.here hx rfl (hb hby at_66) rfl ?_
        show Steps p.tables e below (Tj39.setTop (mkF m 67 #[.val (.int p1), .val (.int p2), .val (.int p3), .val (.int p4), .val (.int (p1 &&& (2147483647 : Int32))), .val (.int (p2 &&& (2147483647 : Int32))), .val (.int fr), .val (.int to), .val (.int ((fr.toUInt32 >>> ((6 : Int32) &&& 31).toUInt32).toInt32)), .val (.int (((to - (1 : Int32)).toUInt32 >>> ((6 : Int32) &&& 31).toUInt32).toInt32)), .val (.int (((((to - (1 : Int32)).toUInt32 >>> ((6 : Int32) &&& 31).toUInt32).toInt32) - ((fr.toUInt32 >>> ((6 : Int32) &&& 31).toUInt32).toInt32)) + (1 : Int32))), .unset, .unset, .unset, .unset, .unset, .unset, .unset, .unset] [(.int p3), (.int ((fr.toUInt32 >>> ((6 : Int32) &&& 31).toUInt32).toInt32))])) _
        refine Xj39.ldcInt hx hown (mvT hZ (hw _ (List.mem_of_getElem? (i := 0) rfl))) (g := (mkF m 67 #[.val (.int p1), .val (.int p2), .val (.int p3), .val (.int p4), .val (.int (p1 &&& (2147483647 : Int32))), .val (.int (p2 &&& (2147483647 : Int32))), .val (.int fr), .val (.int to), .val (.int ((fr.toUInt32 >>> ((6 : Int32) &&& 31).toUInt32).toInt32)), .val (.int (((to - (1 : Int32)).toUInt32 >>> ((6 : Int32) &&& 31).toUInt32).toInt32)), .val (.int (((((to - (1 : Int32)).toUInt32 >>> ((6 : Int32) &&& 31).toUInt32).toInt32) - ((fr.toUInt32 >>> ((6 : Int32) &&& 31).toUInt32).toInt32)) + (1 : Int32))), .unset, .unset, .unset, .unset, .unset, .unset, .unset, .unset] [(.int p3), (.int ((fr.toUInt32 >>> ((6 : Int32) &&& 31).toUInt32).toInt32))])) rfl (hb hby at_67) _ ?_
        show Steps p.tables e below (Tj39.setTop (mkF m 69 #[.val (.int p1), .val (.int p2), .val (.int p3), .val (.int p4), .val (.int (p1 &&& (2147483647 : Int32))), .val (.int (p2 &&& (2147483647 : Int32))), .val (.int fr), .val (.int to), .val (.int ((fr.toUInt32 >>> ((6 : Int32) &&& 31).toUInt32).toInt32)), .val (.int (((to - (1 : Int32)).toUInt32 >>> ((6 : Int32) &&& 31).toUInt32).toInt32)), .val (.int (((((to - (1 : Int32)).toUInt32 >>> ((6 : Int32) &&& 31).toUInt32).toInt32) - ((fr.toUInt32 >>> ((6 : Int32) &&& 31).toUInt32).toInt32)) + (1 : Int32))), .unset, .unset, .unset, .unset, .unset, .unset, .unset, .unset] [(.int (2147483647 : Int32)), (.int p3), (.int ((fr.toUInt32 >>> ((6 : Int32) &&& 31).toUInt32).toInt32))])) _
        refine XS.iand Xj39.here hx rfl (hb hby at_69) rfl ?_
        show Steps p.tables e below (Tj39.setTop (mkF m 70 #[.val (.int p1), .val (.int p2), .val (.int p3), .val (.int p4), .val (.int (p1 &&& (2147483647 : Int32))), .val (.int (p2 &&& (2147483647 : Int32))), .val (.int fr), .val (.int to), .val (.int ((fr.toUInt32 >>> ((6 : Int32) &&& 31).toUInt32).toInt32)), .val (.int (((to - (1 : Int32)).toUInt32 >>> ((6 : Int32) &&& 31).toUInt32).toInt32)), .val (.int (((((to - (1 : Int32)).toUInt32 >>> ((6 : Int32) &&& 31).toUInt32).toInt32) - ((fr.toUInt32 >>> ((6 : Int32) &&& 31).toUInt32).toInt32)) + (1 : Int32))), .unset, .unset, .unset, .unset, .unset, .unset, .unset, .unset] [(.int (p3 &&& (2147483647 : Int32))), (.int ((fr.toUInt32 >>> ((6 : Int32) &&& 31).toUInt32).toInt32))])) _
        refine XS.iload Xj39.here hx rfl (hb hby at_70) rfl ?_
        show Steps p.tables e below (Tj39.setTop (mkF m 72 #[.val (.int p1), .val (.int p2), .val (.int p3), .val (.int p4), .val (.int (p1 &&& (2147483647 : Int32))), .val (.int (p2 &&& (2147483647 : Int32))), .val (.int fr), .val (.int to), .val (.int ((fr.toUInt32 >>> ((6 : Int32) &&& 31).toUInt32).toInt32)), .val (.int (((to - (1 : Int32)).toUInt32 >>> ((6 : Int32) &&& 31).toUInt32).toInt32)), .val (.int (((((to - (1 : Int32)).toUInt32 >>> ((6 : Int32) &&& 31).toUInt32).toInt32) - ((fr.toUInt32 >>> ((6 : Int32) &&& 31).toUInt32).toInt32)) + (1 : Int32))), .unset, .unset, .unset, .unset, .unset, .unset, .unset, .unset] [(.int (((((to - (1 : Int32)).toUInt32 >>> ((6 : Int32) &&& 31).toUInt32).toInt32) - ((fr.toUInt32 >>> ((6 : Int32) &&& 31).toUInt32).toInt32)) + (1 : Int32))), (.int (p3 &&& (2147483647 : Int32))), (.int ((fr.toUInt32 >>> ((6 : Int32) &&& 31).toUInt32).toInt32))])) _
        refine iremM Xj39 hx rfl (hb hby at_72) rfl hnz ?_
        show Steps p.tables e below (Tj39.setTop (mkF m 73 #[.val (.int p1), .val (.int p2), .val (.int p3), .val (.int p4), .val (.int (p1 &&& (2147483647 : Int32))), .val (.int (p2 &&& (2147483647 : Int32))), .val (.int fr), .val (.int to), .val (.int ((fr.toUInt32 >>> ((6 : Int32) &&& 31).toUInt32).toInt32)), .val (.int (((to - (1 : Int32)).toUInt32 >>> ((6 : Int32) &&& 31).toUInt32).toInt32)), .val (.int (((((to - (1 : Int32)).toUInt32 >>> ((6 : Int32) &&& 31).toUInt32).toInt32) - ((fr.toUInt32 >>> ((6 : Int32) &&& 31).toUInt32).toInt32)) + (1 : Int32))), .unset, .unset, .unset, .unset, .unset, .unset, .unset, .unset] [(.int ((p3 &&& (2147483647 : Int32)) % (((((to - (1 : Int32)).toUInt32 >>> ((6 : Int32) &&& 31).toUInt32).toInt32) - ((fr.toUInt32 >>> ((6 : Int32) &&& 31).toUInt32).toInt32)) + (1 : Int32)))), (.int ((fr.toUInt32 >>> ((6 : Int32) &&& 31).toUInt32).toInt32))])) _
        refine XS.iadd Xj39.here hx rfl (hb hby at_73) rfl ?_
        show Steps p.tables e below (Tj39.setTop (mkF m 74 #[.val (.int p1), .val (.int p2), .val (.int p3), .val (.int p4), .val (.int (p1 &&& (2147483647 : Int32))), .val (.int (p2 &&& (2147483647 : Int32))), .val (.int fr), .val (.int to), .val (.int ((fr.toUInt32 >>> ((6 : Int32) &&& 31).toUInt32).toInt32)), .val (.int (((to - (1 : Int32)).toUInt32 >>> ((6 : Int32) &&& 31).toUInt32).toInt32)), .val (.int (((((to - (1 : Int32)).toUInt32 >>> ((6 : Int32) &&& 31).toUInt32).toInt32) - ((fr.toUInt32 >>> ((6 : Int32) &&& 31).toUInt32).toInt32)) + (1 : Int32))), .unset, .unset, .unset, .unset, .unset, .unset, .unset, .unset] [(.int (((fr.toUInt32 >>> ((6 : Int32) &&& 31).toUInt32).toInt32) + ((p3 &&& (2147483647 : Int32)) % (((((to - (1 : Int32)).toUInt32 >>> ((6 : Int32) &&& 31).toUInt32).toInt32) - ((fr.toUInt32 >>> ((6 : Int32) &&& 31).toUInt32).toInt32)) + (1 : Int32)))))])) _
        refine XS.istore Xj39.here hx rfl (hb hby at_74) rfl (l' := #[.val (.int p1), .val (.int p2), .val (.int p3), .val (.int p4), .val (.int (p1 &&& (2147483647 : Int32))), .val (.int (p2 &&& (2147483647 : Int32))), .val (.int fr), .val (.int to), .val (.int ((fr.toUInt32 >>> ((6 : Int32) &&& 31).toUInt32).toInt32)), .val (.int (((to - (1 : Int32)).toUInt32 >>> ((6 : Int32) &&& 31).toUInt32).toInt32)), .val (.int (((((to - (1 : Int32)).toUInt32 >>> ((6 : Int32) &&& 31).toUInt32).toInt32) - ((fr.toUInt32 >>> ((6 : Int32) &&& 31).toUInt32).toInt32)) + (1 : Int32))), .val (.int (((fr.toUInt32 >>> ((6 : Int32) &&& 31).toUInt32).toInt32) + ((p3 &&& (2147483647 : Int32)) % (((((to - (1 : Int32)).toUInt32 >>> ((6 : Int32) &&& 31).toUInt32).toInt32) - ((fr.toUInt32 >>> ((6 : Int32) &&& 31).toUInt32).toInt32)) + (1 : Int32))))), .unset, .unset, .unset, .unset, .unset, .unset, .unset]) rfl ?_
        exact kt
      show own_End p e below s (Tj39.setTop (mkF m 76 #[.val (.int p1), .val (.int p2), .val (.int p3), .val (.int p4), .val (.int (p1 &&& (2147483647 : Int32))), .val (.int (p2 &&& (2147483647 : Int32))), .val (.int fr), .val (.int to), .val (.int ((fr.toUInt32 >>> ((6 : Int32) &&& 31).toUInt32).toInt32)), .val (.int (((to - (1 : Int32)).toUInt32 >>> ((6 : Int32) &&& 31).toUInt32).toInt32)), .val (.int (((((to - (1 : Int32)).toUInt32 >>> ((6 : Int32) &&& 31).toUInt32).toInt32) - ((fr.toUInt32 >>> ((6 : Int32) &&& 31).toUInt32).toInt32)) + (1 : Int32))), .val (.int (((fr.toUInt32 >>> ((6 : Int32) &&& 31).toUInt32).toInt32) + ((p3 &&& (2147483647 : Int32)) % (((((to - (1 : Int32)).toUInt32 >>> ((6 : Int32) &&& 31).toUInt32).toInt32) - ((fr.toUInt32 >>> ((6 : Int32) &&& 31).toUInt32).toInt32)) + (1 : Int32))))), .unset, .unset, .unset, .unset, .unset, .unset, .unset] [])) (Q0 Z p1 p2 p3 p4 h0 n0) room_1.cells room_1.slots
      have j76 : ∀ (Tj76 : State) (Lj76 : List Loc) (Xj76 : Stand p l e room_1 s m #[(.int p1), (.int p2), (.int p3), (.int p4)] below meth c Tj76 Lj76 0 0) (ej76 : Tj76.heap = h0) (Nj76 : Fr n0 Lj76) (w : Int32) , own_law p1 p2 p3 p4 = own_law_76 p1 p2 p3 p4 fr to w → own_End p e below s (Tj76.setTop (mkF m 76 #[.val (.int p1), .val (.int p2), .val (.int p3), .val (.int p4), .val (.int (p1 &&& (2147483647 : Int32))), .val (.int (p2 &&& (2147483647 : Int32))), .val (.int fr), .val (.int to), .val (.int ((fr.toUInt32 >>> ((6 : Int32) &&& 31).toUInt32).toInt32)), .val (.int (((to - (1 : Int32)).toUInt32 >>> ((6 : Int32) &&& 31).toUInt32).toInt32)), .val (.int (((((to - (1 : Int32)).toUInt32 >>> ((6 : Int32) &&& 31).toUInt32).toInt32) - ((fr.toUInt32 >>> ((6 : Int32) &&& 31).toUInt32).toInt32)) + (1 : Int32))), .val (.int w), .unset, .unset, .unset, .unset, .unset, .unset, .unset] [])) (Q0 Z p1 p2 p3 p4 h0 n0) room_1.cells room_1.slots := by
        intro Tj76 Lj76 Xj76 ej76 Nj76 w  hj
        refine own_pre (A := Tj76.setTop (mkF m 82 #[.val (.int p1), .val (.int p2), .val (.int p3), .val (.int p4), .val (.int (p1 &&& (2147483647 : Int32))), .val (.int (p2 &&& (2147483647 : Int32))), .val (.int fr), .val (.int to), .val (.int ((fr.toUInt32 >>> ((6 : Int32) &&& 31).toUInt32).toInt32)), .val (.int (((to - (1 : Int32)).toUInt32 >>> ((6 : Int32) &&& 31).toUInt32).toInt32)), .val (.int (((((to - (1 : Int32)).toUInt32 >>> ((6 : Int32) &&& 31).toUInt32).toInt32) - ((fr.toUInt32 >>> ((6 : Int32) &&& 31).toUInt32).toInt32)) + (1 : Int32))), .val (.int w), .val (.int (p4 &&& (63 : Int32))), .unset, .unset, .unset, .unset, .unset, .unset] [])) (fun tt kt => ?_) ?_
        · show Steps p.tables e below (Tj76.setTop (mkF m 76 #[.val (.int p1), .val (.int p2), .val (.int p3), .val (.int p4), .val (.int (p1 &&& (2147483647 : Int32))), .val (.int (p2 &&& (2147483647 : Int32))), .val (.int fr), .val (.int to), .val (.int ((fr.toUInt32 >>> ((6 : Int32) &&& 31).toUInt32).toInt32)), .val (.int (((to - (1 : Int32)).toUInt32 >>> ((6 : Int32) &&& 31).toUInt32).toInt32)), .val (.int (((((to - (1 : Int32)).toUInt32 >>> ((6 : Int32) &&& 31).toUInt32).toInt32) - ((fr.toUInt32 >>> ((6 : Int32) &&& 31).toUInt32).toInt32)) + (1 : Int32))), .val (.int w), .unset, .unset, .unset, .unset, .unset, .unset, .unset] [])) _
          refine XS.iloadN Xj76.here hx rfl (hb hby at_76) rfl ?_
          show Steps p.tables e below (Tj76.setTop (mkF m 77 #[.val (.int p1), .val (.int p2), .val (.int p3), .val (.int p4), .val (.int (p1 &&& (2147483647 : Int32))), .val (.int (p2 &&& (2147483647 : Int32))), .val (.int fr), .val (.int to), .val (.int ((fr.toUInt32 >>> ((6 : Int32) &&& 31).toUInt32).toInt32)), .val (.int (((to - (1 : Int32)).toUInt32 >>> ((6 : Int32) &&& 31).toUInt32).toInt32)), .val (.int (((((to - (1 : Int32)).toUInt32 >>> ((6 : Int32) &&& 31).toUInt32).toInt32) - ((fr.toUInt32 >>> ((6 : Int32) &&& 31).toUInt32).toInt32)) + (1 : Int32))), .val (.int w), .unset, .unset, .unset, .unset, .unset, .unset, .unset] [(.int p4)])) _
          refine XS.bipush Xj76.here hx rfl (hb hby at_77) ?_
          show Steps p.tables e below (Tj76.setTop (mkF m 79 #[.val (.int p1), .val (.int p2), .val (.int p3), .val (.int p4), .val (.int (p1 &&& (2147483647 : Int32))), .val (.int (p2 &&& (2147483647 : Int32))), .val (.int fr), .val (.int to), .val (.int ((fr.toUInt32 >>> ((6 : Int32) &&& 31).toUInt32).toInt32)), .val (.int (((to - (1 : Int32)).toUInt32 >>> ((6 : Int32) &&& 31).toUInt32).toInt32)), .val (.int (((((to - (1 : Int32)).toUInt32 >>> ((6 : Int32) &&& 31).toUInt32).toInt32) - ((fr.toUInt32 >>> ((6 : Int32) &&& 31).toUInt32).toInt32)) + (1 : Int32))), .val (.int w), .unset, .unset, .unset, .unset, .unset, .unset, .unset] [(.int (63 : Int32)), (.int p4)])) _
          refine XS.iand Xj76.here hx rfl (hb hby at_79) rfl ?_
          show Steps p.tables e below (Tj76.setTop (mkF m 80 #[.val (.int p1), .val (.int p2), .val (.int p3), .val (.int p4), .val (.int (p1 &&& (2147483647 : Int32))), .val (.int (p2 &&& (2147483647 : Int32))), .val (.int fr), .val (.int to), .val (.int ((fr.toUInt32 >>> ((6 : Int32) &&& 31).toUInt32).toInt32)), .val (.int (((to - (1 : Int32)).toUInt32 >>> ((6 : Int32) &&& 31).toUInt32).toInt32)), .val (.int (((((to - (1 : Int32)).toUInt32 >>> ((6 : Int32) &&& 31).toUInt32).toInt32) - ((fr.toUInt32 >>> ((6 : Int32) &&& 31).toUInt32).toInt32)) + (1 : Int32))), .val (.int w), .unset, .unset, .unset, .unset, .unset, .unset, .unset] [(.int (p4 &&& (63 : Int32)))])) _
          refine XS.istore Xj76.here hx rfl (hb hby at_80) rfl (l' := #[.val (.int p1), .val (.int p2), .val (.int p3), .val (.int p4), .val (.int (p1 &&& (2147483647 : Int32))), .val (.int (p2 &&& (2147483647 : Int32))), .val (.int fr), .val (.int to), .val (.int ((fr.toUInt32 >>> ((6 : Int32) &&& 31).toUInt32).toInt32)), .val (.int (((to - (1 : Int32)).toUInt32 >>> ((6 : Int32) &&& 31).toUInt32).toInt32)), .val (.int (((((to - (1 : Int32)).toUInt32 >>> ((6 : Int32) &&& 31).toUInt32).toInt32) - ((fr.toUInt32 >>> ((6 : Int32) &&& 31).toUInt32).toInt32)) + (1 : Int32))), .val (.int w), .val (.int (p4 &&& (63 : Int32))), .unset, .unset, .unset, .unset, .unset, .unset]) rfl ?_
          exact kt
        show own_End p e below s (Tj76.setTop (mkF m 82 #[.val (.int p1), .val (.int p2), .val (.int p3), .val (.int p4), .val (.int (p1 &&& (2147483647 : Int32))), .val (.int (p2 &&& (2147483647 : Int32))), .val (.int fr), .val (.int to), .val (.int ((fr.toUInt32 >>> ((6 : Int32) &&& 31).toUInt32).toInt32)), .val (.int (((to - (1 : Int32)).toUInt32 >>> ((6 : Int32) &&& 31).toUInt32).toInt32)), .val (.int (((((to - (1 : Int32)).toUInt32 >>> ((6 : Int32) &&& 31).toUInt32).toInt32) - ((fr.toUInt32 >>> ((6 : Int32) &&& 31).toUInt32).toInt32)) + (1 : Int32))), .val (.int w), .val (.int (p4 &&& (63 : Int32))), .unset, .unset, .unset, .unset, .unset, .unset] [])) (Q0 Z p1 p2 p3 p4 h0 n0) room_1.cells room_1.slots
        have j82 : ∀ (Tj82 : State) (Lj82 : List Loc) (Xj82 : Stand p l e room_1 s m #[(.int p1), (.int p2), (.int p3), (.int p4)] below meth c Tj82 Lj82 0 0) (ej82 : Tj82.heap = h0) (Nj82 : Fr n0 Lj82) (bit : Int32) , own_law p1 p2 p3 p4 = own_law_82 p1 p2 p3 p4 fr to w bit → own_End p e below s (Tj82.setTop (mkF m 82 #[.val (.int p1), .val (.int p2), .val (.int p3), .val (.int p4), .val (.int (p1 &&& (2147483647 : Int32))), .val (.int (p2 &&& (2147483647 : Int32))), .val (.int fr), .val (.int to), .val (.int ((fr.toUInt32 >>> ((6 : Int32) &&& 31).toUInt32).toInt32)), .val (.int (((to - (1 : Int32)).toUInt32 >>> ((6 : Int32) &&& 31).toUInt32).toInt32)), .val (.int (((((to - (1 : Int32)).toUInt32 >>> ((6 : Int32) &&& 31).toUInt32).toInt32) - ((fr.toUInt32 >>> ((6 : Int32) &&& 31).toUInt32).toInt32)) + (1 : Int32))), .val (.int w), .val (.int bit), .unset, .unset, .unset, .unset, .unset, .unset] [])) (Q0 Z p1 p2 p3 p4 h0 n0) room_1.cells room_1.slots := by
          intro Tj82 Lj82 Xj82 ej82 Nj82 bit  hj
          obtain ⟨_, _, ⟨T4, L4, k4, n4⟩, -, X4, ⟨Lc4, hQ4, l4, y4, z4⟩, st4⟩ := Jvm.LawKit.callS Xj82 hx (y := (⟨"com/example/libfacet/libfacet/regex/WalkTables", "bitsWithin", "(III)J"⟩ : MethodName)) hown (mvT hZ (hw _ (List.mem_of_getElem? (i := 8) rfl))) (mvT hZ (hw _ (List.mem_of_getElem? (i := 9) rfl))) (mvT hZ (hw _ (List.mem_of_getElem? (i := 10) rfl))) (mvT hZ (hw _ (List.mem_of_getElem? (i := 11) rfl))) (by decide) (backOf (W := 0) (rm3 l Z a0 hw [] w fr to  h0 n0 Z0 ) hZ (hw _ (List.mem_of_getElem? (i := 11) rfl)) (hw _ (List.mem_of_getElem? (i := 10) rfl)) (by decide) (by decide)) (g := (mkF m 88 #[.val (.int p1), .val (.int p2), .val (.int p3), .val (.int p4), .val (.int (p1 &&& (2147483647 : Int32))), .val (.int (p2 &&& (2147483647 : Int32))), .val (.int fr), .val (.int to), .val (.int ((fr.toUInt32 >>> ((6 : Int32) &&& 31).toUInt32).toInt32)), .val (.int (((to - (1 : Int32)).toUInt32 >>> ((6 : Int32) &&& 31).toUInt32).toInt32)), .val (.int (((((to - (1 : Int32)).toUInt32 >>> ((6 : Int32) &&& 31).toUInt32).toInt32) - ((fr.toUInt32 >>> ((6 : Int32) &&& 31).toUInt32).toInt32)) + (1 : Int32))), .val (.int w), .val (.int bit), .unset, .unset, .unset, .unset, .unset, .unset] [(.int to), (.int fr), (.int w)])) rfl (by rw [hml]; rfl) (argsL := [(.int w), (.int fr), (.int to)]) (rest := []) (lenOf pd_0_1 rfl) rfl (by show 2 * 0 + _ ≤ _; exact Nat.le_of_eq rfl) (hb hby at_88) (fun _ _ => ⟨rfl, ej82, (by decide : 0 + 0 ≤ _), (by decide : 0 + 0 ≤ _)⟩)
          dsimp only [Pt.U, Pt.locs, Pt.cells, Pt.slots] at X4 l4 y4 z4 st4 hQ4
          subst l4 y4 z4
          obtain ⟨rfl, N4q, e4⟩ := hQ4
          have N4 := Fr.app Nj82 N4q
          refine own_pre (A := T4.setTop (mkF m 93 #[.val (.int p1), .val (.int p2), .val (.int p3), .val (.int p4), .val (.int (p1 &&& (2147483647 : Int32))), .val (.int (p2 &&& (2147483647 : Int32))), .val (.int fr), .val (.int to), .val (.int ((fr.toUInt32 >>> ((6 : Int32) &&& 31).toUInt32).toInt32)), .val (.int (((to - (1 : Int32)).toUInt32 >>> ((6 : Int32) &&& 31).toUInt32).toInt32)), .val (.int (((((to - (1 : Int32)).toUInt32 >>> ((6 : Int32) &&& 31).toUInt32).toInt32) - ((fr.toUInt32 >>> ((6 : Int32) &&& 31).toUInt32).toInt32)) + (1 : Int32))), .val (.int w), .val (.int bit), .val (.long (own_bits w fr to)), .second, .unset, .unset, .unset, .unset] [])) (fun tt kt => ?_) ?_
          · show Steps p.tables e below (Tj82.setTop (mkF m 82 #[.val (.int p1), .val (.int p2), .val (.int p3), .val (.int p4), .val (.int (p1 &&& (2147483647 : Int32))), .val (.int (p2 &&& (2147483647 : Int32))), .val (.int fr), .val (.int to), .val (.int ((fr.toUInt32 >>> ((6 : Int32) &&& 31).toUInt32).toInt32)), .val (.int (((to - (1 : Int32)).toUInt32 >>> ((6 : Int32) &&& 31).toUInt32).toInt32)), .val (.int (((((to - (1 : Int32)).toUInt32 >>> ((6 : Int32) &&& 31).toUInt32).toInt32) - ((fr.toUInt32 >>> ((6 : Int32) &&& 31).toUInt32).toInt32)) + (1 : Int32))), .val (.int w), .val (.int bit), .unset, .unset, .unset, .unset, .unset, .unset] [])) _
            refine XS.iload Xj82.here hx rfl (hb hby at_82) rfl ?_
            show Steps p.tables e below (Tj82.setTop (mkF m 84 #[.val (.int p1), .val (.int p2), .val (.int p3), .val (.int p4), .val (.int (p1 &&& (2147483647 : Int32))), .val (.int (p2 &&& (2147483647 : Int32))), .val (.int fr), .val (.int to), .val (.int ((fr.toUInt32 >>> ((6 : Int32) &&& 31).toUInt32).toInt32)), .val (.int (((to - (1 : Int32)).toUInt32 >>> ((6 : Int32) &&& 31).toUInt32).toInt32)), .val (.int (((((to - (1 : Int32)).toUInt32 >>> ((6 : Int32) &&& 31).toUInt32).toInt32) - ((fr.toUInt32 >>> ((6 : Int32) &&& 31).toUInt32).toInt32)) + (1 : Int32))), .val (.int w), .val (.int bit), .unset, .unset, .unset, .unset, .unset, .unset] [(.int w)])) _
            refine XS.iload Xj82.here hx rfl (hb hby at_84) rfl ?_
            show Steps p.tables e below (Tj82.setTop (mkF m 86 #[.val (.int p1), .val (.int p2), .val (.int p3), .val (.int p4), .val (.int (p1 &&& (2147483647 : Int32))), .val (.int (p2 &&& (2147483647 : Int32))), .val (.int fr), .val (.int to), .val (.int ((fr.toUInt32 >>> ((6 : Int32) &&& 31).toUInt32).toInt32)), .val (.int (((to - (1 : Int32)).toUInt32 >>> ((6 : Int32) &&& 31).toUInt32).toInt32)), .val (.int (((((to - (1 : Int32)).toUInt32 >>> ((6 : Int32) &&& 31).toUInt32).toInt32) - ((fr.toUInt32 >>> ((6 : Int32) &&& 31).toUInt32).toInt32)) + (1 : Int32))), .val (.int w), .val (.int bit), .unset, .unset, .unset, .unset, .unset, .unset] [(.int fr), (.int w)])) _
            refine XS.iload Xj82.here hx rfl (hb hby at_86) rfl ?_
            show Steps p.tables e below (Tj82.setTop (mkF m 88 #[.val (.int p1), .val (.int p2), .val (.int p3), .val (.int p4), .val (.int (p1 &&& (2147483647 : Int32))), .val (.int (p2 &&& (2147483647 : Int32))), .val (.int fr), .val (.int to), .val (.int ((fr.toUInt32 >>> ((6 : Int32) &&& 31).toUInt32).toInt32)), .val (.int (((to - (1 : Int32)).toUInt32 >>> ((6 : Int32) &&& 31).toUInt32).toInt32)), .val (.int (((((to - (1 : Int32)).toUInt32 >>> ((6 : Int32) &&& 31).toUInt32).toInt32) - ((fr.toUInt32 >>> ((6 : Int32) &&& 31).toUInt32).toInt32)) + (1 : Int32))), .val (.int w), .val (.int bit), .unset, .unset, .unset, .unset, .unset, .unset] [(.int to), (.int fr), (.int w)])) _
            refine st4 _ ?_
            show Steps p.tables e below (T4.setTop (mkF m 91 #[.val (.int p1), .val (.int p2), .val (.int p3), .val (.int p4), .val (.int (p1 &&& (2147483647 : Int32))), .val (.int (p2 &&& (2147483647 : Int32))), .val (.int fr), .val (.int to), .val (.int ((fr.toUInt32 >>> ((6 : Int32) &&& 31).toUInt32).toInt32)), .val (.int (((to - (1 : Int32)).toUInt32 >>> ((6 : Int32) &&& 31).toUInt32).toInt32)), .val (.int (((((to - (1 : Int32)).toUInt32 >>> ((6 : Int32) &&& 31).toUInt32).toInt32) - ((fr.toUInt32 >>> ((6 : Int32) &&& 31).toUInt32).toInt32)) + (1 : Int32))), .val (.int w), .val (.int bit), .unset, .unset, .unset, .unset, .unset, .unset] [(.long (own_bits w fr to))])) _
            refine XS.lstore X4.here hx rfl (hb hby at_91) rfl (l' := #[.val (.int p1), .val (.int p2), .val (.int p3), .val (.int p4), .val (.int (p1 &&& (2147483647 : Int32))), .val (.int (p2 &&& (2147483647 : Int32))), .val (.int fr), .val (.int to), .val (.int ((fr.toUInt32 >>> ((6 : Int32) &&& 31).toUInt32).toInt32)), .val (.int (((to - (1 : Int32)).toUInt32 >>> ((6 : Int32) &&& 31).toUInt32).toInt32)), .val (.int (((((to - (1 : Int32)).toUInt32 >>> ((6 : Int32) &&& 31).toUInt32).toInt32) - ((fr.toUInt32 >>> ((6 : Int32) &&& 31).toUInt32).toInt32)) + (1 : Int32))), .val (.int w), .val (.int bit), .val (.long (own_bits w fr to)), .second, .unset, .unset, .unset, .unset]) rfl ?_
            exact kt
          show own_End p e below s (T4.setTop (mkF m 93 #[.val (.int p1), .val (.int p2), .val (.int p3), .val (.int p4), .val (.int (p1 &&& (2147483647 : Int32))), .val (.int (p2 &&& (2147483647 : Int32))), .val (.int fr), .val (.int to), .val (.int ((fr.toUInt32 >>> ((6 : Int32) &&& 31).toUInt32).toInt32)), .val (.int (((to - (1 : Int32)).toUInt32 >>> ((6 : Int32) &&& 31).toUInt32).toInt32)), .val (.int (((((to - (1 : Int32)).toUInt32 >>> ((6 : Int32) &&& 31).toUInt32).toInt32) - ((fr.toUInt32 >>> ((6 : Int32) &&& 31).toUInt32).toInt32)) + (1 : Int32))), .val (.int w), .val (.int bit), .val (.long (own_bits w fr to)), .second, .unset, .unset, .unset, .unset] [])) (Q0 Z p1 p2 p3 p4 h0 n0) room_1.cells room_1.slots
          have j93 : ∀ (Tj93 : State) (Lj93 : List Loc) (Xj93 : Stand p l e room_1 s m #[(.int p1), (.int p2), (.int p3), (.int p4)] below meth c Tj93 Lj93 0 0) (ej93 : Tj93.heap = h0) (Nj93 : Fr n0 Lj93) (r : Int64) , own_law p1 p2 p3 p4 = own_law_93 p1 p2 p3 p4 fr to w bit r → own_End p e below s (Tj93.setTop (mkF m 93 #[.val (.int p1), .val (.int p2), .val (.int p3), .val (.int p4), .val (.int (p1 &&& (2147483647 : Int32))), .val (.int (p2 &&& (2147483647 : Int32))), .val (.int fr), .val (.int to), .val (.int ((fr.toUInt32 >>> ((6 : Int32) &&& 31).toUInt32).toInt32)), .val (.int (((to - (1 : Int32)).toUInt32 >>> ((6 : Int32) &&& 31).toUInt32).toInt32)), .val (.int (((((to - (1 : Int32)).toUInt32 >>> ((6 : Int32) &&& 31).toUInt32).toInt32) - ((fr.toUInt32 >>> ((6 : Int32) &&& 31).toUInt32).toInt32)) + (1 : Int32))), .val (.int w), .val (.int bit), .val (.long r), .second, .unset, .unset, .unset, .unset] [])) (Q0 Z p1 p2 p3 p4 h0 n0) room_1.cells room_1.slots := by
            intro Tj93 Lj93 Xj93 ej93 Nj93 r  hj
            refine own_pre (A := Tj93.setTop (mkF m 102 #[.val (.int p1), .val (.int p2), .val (.int p3), .val (.int p4), .val (.int (p1 &&& (2147483647 : Int32))), .val (.int (p2 &&& (2147483647 : Int32))), .val (.int fr), .val (.int to), .val (.int ((fr.toUInt32 >>> ((6 : Int32) &&& 31).toUInt32).toInt32)), .val (.int (((to - (1 : Int32)).toUInt32 >>> ((6 : Int32) &&& 31).toUInt32).toInt32)), .val (.int (((((to - (1 : Int32)).toUInt32 >>> ((6 : Int32) &&& 31).toUInt32).toInt32) - ((fr.toUInt32 >>> ((6 : Int32) &&& 31).toUInt32).toInt32)) + (1 : Int32))), .val (.int w), .val (.int bit), .val (.long r), .second, .unset, .unset, .unset, .unset] [(.int (lcmpW (((r.toUInt64 >>> (bit &&& 0x3f).toInt64.toUInt64).toInt64) &&& (1 : Int64)) (0 : Int64)))])) (fun tt kt => ?_) ?_
            · show Steps p.tables e below (Tj93.setTop (mkF m 93 #[.val (.int p1), .val (.int p2), .val (.int p3), .val (.int p4), .val (.int (p1 &&& (2147483647 : Int32))), .val (.int (p2 &&& (2147483647 : Int32))), .val (.int fr), .val (.int to), .val (.int ((fr.toUInt32 >>> ((6 : Int32) &&& 31).toUInt32).toInt32)), .val (.int (((to - (1 : Int32)).toUInt32 >>> ((6 : Int32) &&& 31).toUInt32).toInt32)), .val (.int (((((to - (1 : Int32)).toUInt32 >>> ((6 : Int32) &&& 31).toUInt32).toInt32) - ((fr.toUInt32 >>> ((6 : Int32) &&& 31).toUInt32).toInt32)) + (1 : Int32))), .val (.int w), .val (.int bit), .val (.long r), .second, .unset, .unset, .unset, .unset] [])) _
              refine XS.lload Xj93.here hx rfl (hb hby at_93) rfl ?_
              show Steps p.tables e below (Tj93.setTop (mkF m 95 #[.val (.int p1), .val (.int p2), .val (.int p3), .val (.int p4), .val (.int (p1 &&& (2147483647 : Int32))), .val (.int (p2 &&& (2147483647 : Int32))), .val (.int fr), .val (.int to), .val (.int ((fr.toUInt32 >>> ((6 : Int32) &&& 31).toUInt32).toInt32)), .val (.int (((to - (1 : Int32)).toUInt32 >>> ((6 : Int32) &&& 31).toUInt32).toInt32)), .val (.int (((((to - (1 : Int32)).toUInt32 >>> ((6 : Int32) &&& 31).toUInt32).toInt32) - ((fr.toUInt32 >>> ((6 : Int32) &&& 31).toUInt32).toInt32)) + (1 : Int32))), .val (.int w), .val (.int bit), .val (.long r), .second, .unset, .unset, .unset, .unset] [(.long r)])) _
              refine XS.iload Xj93.here hx rfl (hb hby at_95) rfl ?_
              show Steps p.tables e below (Tj93.setTop (mkF m 97 #[.val (.int p1), .val (.int p2), .val (.int p3), .val (.int p4), .val (.int (p1 &&& (2147483647 : Int32))), .val (.int (p2 &&& (2147483647 : Int32))), .val (.int fr), .val (.int to), .val (.int ((fr.toUInt32 >>> ((6 : Int32) &&& 31).toUInt32).toInt32)), .val (.int (((to - (1 : Int32)).toUInt32 >>> ((6 : Int32) &&& 31).toUInt32).toInt32)), .val (.int (((((to - (1 : Int32)).toUInt32 >>> ((6 : Int32) &&& 31).toUInt32).toInt32) - ((fr.toUInt32 >>> ((6 : Int32) &&& 31).toUInt32).toInt32)) + (1 : Int32))), .val (.int w), .val (.int bit), .val (.long r), .second, .unset, .unset, .unset, .unset] [(.int bit), (.long r)])) _
              refine XS.lushr Xj93.here hx rfl (hb hby at_97) rfl ?_
              show Steps p.tables e below (Tj93.setTop (mkF m 98 #[.val (.int p1), .val (.int p2), .val (.int p3), .val (.int p4), .val (.int (p1 &&& (2147483647 : Int32))), .val (.int (p2 &&& (2147483647 : Int32))), .val (.int fr), .val (.int to), .val (.int ((fr.toUInt32 >>> ((6 : Int32) &&& 31).toUInt32).toInt32)), .val (.int (((to - (1 : Int32)).toUInt32 >>> ((6 : Int32) &&& 31).toUInt32).toInt32)), .val (.int (((((to - (1 : Int32)).toUInt32 >>> ((6 : Int32) &&& 31).toUInt32).toInt32) - ((fr.toUInt32 >>> ((6 : Int32) &&& 31).toUInt32).toInt32)) + (1 : Int32))), .val (.int w), .val (.int bit), .val (.long r), .second, .unset, .unset, .unset, .unset] [(.long ((r.toUInt64 >>> (bit &&& 0x3f).toInt64.toUInt64).toInt64))])) _
              refine XS.lconst Xj93.here hx rfl (hb hby at_98) ?_
              show Steps p.tables e below (Tj93.setTop (mkF m 99 #[.val (.int p1), .val (.int p2), .val (.int p3), .val (.int p4), .val (.int (p1 &&& (2147483647 : Int32))), .val (.int (p2 &&& (2147483647 : Int32))), .val (.int fr), .val (.int to), .val (.int ((fr.toUInt32 >>> ((6 : Int32) &&& 31).toUInt32).toInt32)), .val (.int (((to - (1 : Int32)).toUInt32 >>> ((6 : Int32) &&& 31).toUInt32).toInt32)), .val (.int (((((to - (1 : Int32)).toUInt32 >>> ((6 : Int32) &&& 31).toUInt32).toInt32) - ((fr.toUInt32 >>> ((6 : Int32) &&& 31).toUInt32).toInt32)) + (1 : Int32))), .val (.int w), .val (.int bit), .val (.long r), .second, .unset, .unset, .unset, .unset] [(.long (1 : Int64)), (.long ((r.toUInt64 >>> (bit &&& 0x3f).toInt64.toUInt64).toInt64))])) _
              refine XS.land Xj93.here hx rfl (hb hby at_99) rfl ?_
              show Steps p.tables e below (Tj93.setTop (mkF m 100 #[.val (.int p1), .val (.int p2), .val (.int p3), .val (.int p4), .val (.int (p1 &&& (2147483647 : Int32))), .val (.int (p2 &&& (2147483647 : Int32))), .val (.int fr), .val (.int to), .val (.int ((fr.toUInt32 >>> ((6 : Int32) &&& 31).toUInt32).toInt32)), .val (.int (((to - (1 : Int32)).toUInt32 >>> ((6 : Int32) &&& 31).toUInt32).toInt32)), .val (.int (((((to - (1 : Int32)).toUInt32 >>> ((6 : Int32) &&& 31).toUInt32).toInt32) - ((fr.toUInt32 >>> ((6 : Int32) &&& 31).toUInt32).toInt32)) + (1 : Int32))), .val (.int w), .val (.int bit), .val (.long r), .second, .unset, .unset, .unset, .unset] [(.long (((r.toUInt64 >>> (bit &&& 0x3f).toInt64.toUInt64).toInt64) &&& (1 : Int64)))])) _
              refine XS.lconst Xj93.here hx rfl (hb hby at_100) ?_
              show Steps p.tables e below (Tj93.setTop (mkF m 101 #[.val (.int p1), .val (.int p2), .val (.int p3), .val (.int p4), .val (.int (p1 &&& (2147483647 : Int32))), .val (.int (p2 &&& (2147483647 : Int32))), .val (.int fr), .val (.int to), .val (.int ((fr.toUInt32 >>> ((6 : Int32) &&& 31).toUInt32).toInt32)), .val (.int (((to - (1 : Int32)).toUInt32 >>> ((6 : Int32) &&& 31).toUInt32).toInt32)), .val (.int (((((to - (1 : Int32)).toUInt32 >>> ((6 : Int32) &&& 31).toUInt32).toInt32) - ((fr.toUInt32 >>> ((6 : Int32) &&& 31).toUInt32).toInt32)) + (1 : Int32))), .val (.int w), .val (.int bit), .val (.long r), .second, .unset, .unset, .unset, .unset] [(.long (0 : Int64)), (.long (((r.toUInt64 >>> (bit &&& 0x3f).toInt64.toUInt64).toInt64) &&& (1 : Int64)))])) _
              refine XS.lcmp Xj93.here hx rfl (hb hby at_101) rfl ?_
              exact kt
            show own_End p e below s (Tj93.setTop (mkF m 102 #[.val (.int p1), .val (.int p2), .val (.int p3), .val (.int p4), .val (.int (p1 &&& (2147483647 : Int32))), .val (.int (p2 &&& (2147483647 : Int32))), .val (.int fr), .val (.int to), .val (.int ((fr.toUInt32 >>> ((6 : Int32) &&& 31).toUInt32).toInt32)), .val (.int (((to - (1 : Int32)).toUInt32 >>> ((6 : Int32) &&& 31).toUInt32).toInt32)), .val (.int (((((to - (1 : Int32)).toUInt32 >>> ((6 : Int32) &&& 31).toUInt32).toInt32) - ((fr.toUInt32 >>> ((6 : Int32) &&& 31).toUInt32).toInt32)) + (1 : Int32))), .val (.int w), .val (.int bit), .val (.long r), .second, .unset, .unset, .unset, .unset] [(.int (lcmpW (((r.toUInt64 >>> (bit &&& 0x3f).toInt64.toUInt64).toInt64) &&& (1 : Int64)) (0 : Int64)))])) (Q0 Z p1 p2 p3 p4 h0 n0) room_1.cells room_1.slots
            have j110 : ∀ (Tj110 : State) (Lj110 : List Loc) (Xj110 : Stand p l e room_1 s m #[(.int p1), (.int p2), (.int p3), (.int p4)] below meth c Tj110 Lj110 0 0) (ej110 : Tj110.heap = h0) (Nj110 : Fr n0 Lj110) (got : Int32) , own_law p1 p2 p3 p4 = own_law_110 p1 p2 p3 p4 fr to w bit r got → own_End p e below s (Tj110.setTop (mkF m 110 #[.val (.int p1), .val (.int p2), .val (.int p3), .val (.int p4), .val (.int (p1 &&& (2147483647 : Int32))), .val (.int (p2 &&& (2147483647 : Int32))), .val (.int fr), .val (.int to), .val (.int ((fr.toUInt32 >>> ((6 : Int32) &&& 31).toUInt32).toInt32)), .val (.int (((to - (1 : Int32)).toUInt32 >>> ((6 : Int32) &&& 31).toUInt32).toInt32)), .val (.int (((((to - (1 : Int32)).toUInt32 >>> ((6 : Int32) &&& 31).toUInt32).toInt32) - ((fr.toUInt32 >>> ((6 : Int32) &&& 31).toUInt32).toInt32)) + (1 : Int32))), .val (.int w), .val (.int bit), .val (.long r), .second, .unset, .unset, .unset, .unset] [(.int got)])) (Q0 Z p1 p2 p3 p4 h0 n0) room_1.cells room_1.slots := by
              intro Tj110 Lj110 Xj110 ej110 Nj110 got  hj
              refine own_pre (A := Tj110.setTop (mkF m 124 #[.val (.int p1), .val (.int p2), .val (.int p3), .val (.int p4), .val (.int (p1 &&& (2147483647 : Int32))), .val (.int (p2 &&& (2147483647 : Int32))), .val (.int fr), .val (.int to), .val (.int ((fr.toUInt32 >>> ((6 : Int32) &&& 31).toUInt32).toInt32)), .val (.int (((to - (1 : Int32)).toUInt32 >>> ((6 : Int32) &&& 31).toUInt32).toInt32)), .val (.int (((((to - (1 : Int32)).toUInt32 >>> ((6 : Int32) &&& 31).toUInt32).toInt32) - ((fr.toUInt32 >>> ((6 : Int32) &&& 31).toUInt32).toInt32)) + (1 : Int32))), .val (.int w), .val (.int bit), .val (.long r), .second, .val (.int got), .val (.long (((w.toInt64) <<< ((6 : Int32) &&& 0x3f).toInt64) + (bit.toInt64))), .second, .unset] [])) (fun tt kt => ?_) ?_
              · show Steps p.tables e below (Tj110.setTop (mkF m 110 #[.val (.int p1), .val (.int p2), .val (.int p3), .val (.int p4), .val (.int (p1 &&& (2147483647 : Int32))), .val (.int (p2 &&& (2147483647 : Int32))), .val (.int fr), .val (.int to), .val (.int ((fr.toUInt32 >>> ((6 : Int32) &&& 31).toUInt32).toInt32)), .val (.int (((to - (1 : Int32)).toUInt32 >>> ((6 : Int32) &&& 31).toUInt32).toInt32)), .val (.int (((((to - (1 : Int32)).toUInt32 >>> ((6 : Int32) &&& 31).toUInt32).toInt32) - ((fr.toUInt32 >>> ((6 : Int32) &&& 31).toUInt32).toInt32)) + (1 : Int32))), .val (.int w), .val (.int bit), .val (.long r), .second, .unset, .unset, .unset, .unset] [(.int got)])) _
                refine XS.istore Xj110.here hx rfl (hb hby at_110) rfl (l' := #[.val (.int p1), .val (.int p2), .val (.int p3), .val (.int p4), .val (.int (p1 &&& (2147483647 : Int32))), .val (.int (p2 &&& (2147483647 : Int32))), .val (.int fr), .val (.int to), .val (.int ((fr.toUInt32 >>> ((6 : Int32) &&& 31).toUInt32).toInt32)), .val (.int (((to - (1 : Int32)).toUInt32 >>> ((6 : Int32) &&& 31).toUInt32).toInt32)), .val (.int (((((to - (1 : Int32)).toUInt32 >>> ((6 : Int32) &&& 31).toUInt32).toInt32) - ((fr.toUInt32 >>> ((6 : Int32) &&& 31).toUInt32).toInt32)) + (1 : Int32))), .val (.int w), .val (.int bit), .val (.long r), .second, .val (.int got), .unset, .unset, .unset]) rfl ?_
                show Steps p.tables e below (Tj110.setTop (mkF m 112 #[.val (.int p1), .val (.int p2), .val (.int p3), .val (.int p4), .val (.int (p1 &&& (2147483647 : Int32))), .val (.int (p2 &&& (2147483647 : Int32))), .val (.int fr), .val (.int to), .val (.int ((fr.toUInt32 >>> ((6 : Int32) &&& 31).toUInt32).toInt32)), .val (.int (((to - (1 : Int32)).toUInt32 >>> ((6 : Int32) &&& 31).toUInt32).toInt32)), .val (.int (((((to - (1 : Int32)).toUInt32 >>> ((6 : Int32) &&& 31).toUInt32).toInt32) - ((fr.toUInt32 >>> ((6 : Int32) &&& 31).toUInt32).toInt32)) + (1 : Int32))), .val (.int w), .val (.int bit), .val (.long r), .second, .val (.int got), .unset, .unset, .unset] [])) _
                refine XS.iload Xj110.here hx rfl (hb hby at_112) rfl ?_
                show Steps p.tables e below (Tj110.setTop (mkF m 114 #[.val (.int p1), .val (.int p2), .val (.int p3), .val (.int p4), .val (.int (p1 &&& (2147483647 : Int32))), .val (.int (p2 &&& (2147483647 : Int32))), .val (.int fr), .val (.int to), .val (.int ((fr.toUInt32 >>> ((6 : Int32) &&& 31).toUInt32).toInt32)), .val (.int (((to - (1 : Int32)).toUInt32 >>> ((6 : Int32) &&& 31).toUInt32).toInt32)), .val (.int (((((to - (1 : Int32)).toUInt32 >>> ((6 : Int32) &&& 31).toUInt32).toInt32) - ((fr.toUInt32 >>> ((6 : Int32) &&& 31).toUInt32).toInt32)) + (1 : Int32))), .val (.int w), .val (.int bit), .val (.long r), .second, .val (.int got), .unset, .unset, .unset] [(.int w)])) _
                refine XS.i2l Xj110.here hx rfl (hb hby at_114) rfl ?_
                show Steps p.tables e below (Tj110.setTop (mkF m 115 #[.val (.int p1), .val (.int p2), .val (.int p3), .val (.int p4), .val (.int (p1 &&& (2147483647 : Int32))), .val (.int (p2 &&& (2147483647 : Int32))), .val (.int fr), .val (.int to), .val (.int ((fr.toUInt32 >>> ((6 : Int32) &&& 31).toUInt32).toInt32)), .val (.int (((to - (1 : Int32)).toUInt32 >>> ((6 : Int32) &&& 31).toUInt32).toInt32)), .val (.int (((((to - (1 : Int32)).toUInt32 >>> ((6 : Int32) &&& 31).toUInt32).toInt32) - ((fr.toUInt32 >>> ((6 : Int32) &&& 31).toUInt32).toInt32)) + (1 : Int32))), .val (.int w), .val (.int bit), .val (.long r), .second, .val (.int got), .unset, .unset, .unset] [(.long (w.toInt64))])) _
                refine XS.bipush Xj110.here hx rfl (hb hby at_115) ?_
                show Steps p.tables e below (Tj110.setTop (mkF m 117 #[.val (.int p1), .val (.int p2), .val (.int p3), .val (.int p4), .val (.int (p1 &&& (2147483647 : Int32))), .val (.int (p2 &&& (2147483647 : Int32))), .val (.int fr), .val (.int to), .val (.int ((fr.toUInt32 >>> ((6 : Int32) &&& 31).toUInt32).toInt32)), .val (.int (((to - (1 : Int32)).toUInt32 >>> ((6 : Int32) &&& 31).toUInt32).toInt32)), .val (.int (((((to - (1 : Int32)).toUInt32 >>> ((6 : Int32) &&& 31).toUInt32).toInt32) - ((fr.toUInt32 >>> ((6 : Int32) &&& 31).toUInt32).toInt32)) + (1 : Int32))), .val (.int w), .val (.int bit), .val (.long r), .second, .val (.int got), .unset, .unset, .unset] [(.int (6 : Int32)), (.long (w.toInt64))])) _
                refine XS.lshl Xj110.here hx rfl (hb hby at_117) rfl ?_
                show Steps p.tables e below (Tj110.setTop (mkF m 118 #[.val (.int p1), .val (.int p2), .val (.int p3), .val (.int p4), .val (.int (p1 &&& (2147483647 : Int32))), .val (.int (p2 &&& (2147483647 : Int32))), .val (.int fr), .val (.int to), .val (.int ((fr.toUInt32 >>> ((6 : Int32) &&& 31).toUInt32).toInt32)), .val (.int (((to - (1 : Int32)).toUInt32 >>> ((6 : Int32) &&& 31).toUInt32).toInt32)), .val (.int (((((to - (1 : Int32)).toUInt32 >>> ((6 : Int32) &&& 31).toUInt32).toInt32) - ((fr.toUInt32 >>> ((6 : Int32) &&& 31).toUInt32).toInt32)) + (1 : Int32))), .val (.int w), .val (.int bit), .val (.long r), .second, .val (.int got), .unset, .unset, .unset] [(.long ((w.toInt64) <<< ((6 : Int32) &&& 0x3f).toInt64))])) _
                refine XS.iload Xj110.here hx rfl (hb hby at_118) rfl ?_
                show Steps p.tables e below (Tj110.setTop (mkF m 120 #[.val (.int p1), .val (.int p2), .val (.int p3), .val (.int p4), .val (.int (p1 &&& (2147483647 : Int32))), .val (.int (p2 &&& (2147483647 : Int32))), .val (.int fr), .val (.int to), .val (.int ((fr.toUInt32 >>> ((6 : Int32) &&& 31).toUInt32).toInt32)), .val (.int (((to - (1 : Int32)).toUInt32 >>> ((6 : Int32) &&& 31).toUInt32).toInt32)), .val (.int (((((to - (1 : Int32)).toUInt32 >>> ((6 : Int32) &&& 31).toUInt32).toInt32) - ((fr.toUInt32 >>> ((6 : Int32) &&& 31).toUInt32).toInt32)) + (1 : Int32))), .val (.int w), .val (.int bit), .val (.long r), .second, .val (.int got), .unset, .unset, .unset] [(.int bit), (.long ((w.toInt64) <<< ((6 : Int32) &&& 0x3f).toInt64))])) _
                refine XS.i2l Xj110.here hx rfl (hb hby at_120) rfl ?_
                show Steps p.tables e below (Tj110.setTop (mkF m 121 #[.val (.int p1), .val (.int p2), .val (.int p3), .val (.int p4), .val (.int (p1 &&& (2147483647 : Int32))), .val (.int (p2 &&& (2147483647 : Int32))), .val (.int fr), .val (.int to), .val (.int ((fr.toUInt32 >>> ((6 : Int32) &&& 31).toUInt32).toInt32)), .val (.int (((to - (1 : Int32)).toUInt32 >>> ((6 : Int32) &&& 31).toUInt32).toInt32)), .val (.int (((((to - (1 : Int32)).toUInt32 >>> ((6 : Int32) &&& 31).toUInt32).toInt32) - ((fr.toUInt32 >>> ((6 : Int32) &&& 31).toUInt32).toInt32)) + (1 : Int32))), .val (.int w), .val (.int bit), .val (.long r), .second, .val (.int got), .unset, .unset, .unset] [(.long (bit.toInt64)), (.long ((w.toInt64) <<< ((6 : Int32) &&& 0x3f).toInt64))])) _
                refine XS.ladd Xj110.here hx rfl (hb hby at_121) rfl ?_
                show Steps p.tables e below (Tj110.setTop (mkF m 122 #[.val (.int p1), .val (.int p2), .val (.int p3), .val (.int p4), .val (.int (p1 &&& (2147483647 : Int32))), .val (.int (p2 &&& (2147483647 : Int32))), .val (.int fr), .val (.int to), .val (.int ((fr.toUInt32 >>> ((6 : Int32) &&& 31).toUInt32).toInt32)), .val (.int (((to - (1 : Int32)).toUInt32 >>> ((6 : Int32) &&& 31).toUInt32).toInt32)), .val (.int (((((to - (1 : Int32)).toUInt32 >>> ((6 : Int32) &&& 31).toUInt32).toInt32) - ((fr.toUInt32 >>> ((6 : Int32) &&& 31).toUInt32).toInt32)) + (1 : Int32))), .val (.int w), .val (.int bit), .val (.long r), .second, .val (.int got), .unset, .unset, .unset] [(.long (((w.toInt64) <<< ((6 : Int32) &&& 0x3f).toInt64) + (bit.toInt64)))])) _
                refine XS.lstore Xj110.here hx rfl (hb hby at_122) rfl (l' := #[.val (.int p1), .val (.int p2), .val (.int p3), .val (.int p4), .val (.int (p1 &&& (2147483647 : Int32))), .val (.int (p2 &&& (2147483647 : Int32))), .val (.int fr), .val (.int to), .val (.int ((fr.toUInt32 >>> ((6 : Int32) &&& 31).toUInt32).toInt32)), .val (.int (((to - (1 : Int32)).toUInt32 >>> ((6 : Int32) &&& 31).toUInt32).toInt32)), .val (.int (((((to - (1 : Int32)).toUInt32 >>> ((6 : Int32) &&& 31).toUInt32).toInt32) - ((fr.toUInt32 >>> ((6 : Int32) &&& 31).toUInt32).toInt32)) + (1 : Int32))), .val (.int w), .val (.int bit), .val (.long r), .second, .val (.int got), .val (.long (((w.toInt64) <<< ((6 : Int32) &&& 0x3f).toInt64) + (bit.toInt64))), .second, .unset]) rfl ?_
                exact kt
              show own_End p e below s (Tj110.setTop (mkF m 124 #[.val (.int p1), .val (.int p2), .val (.int p3), .val (.int p4), .val (.int (p1 &&& (2147483647 : Int32))), .val (.int (p2 &&& (2147483647 : Int32))), .val (.int fr), .val (.int to), .val (.int ((fr.toUInt32 >>> ((6 : Int32) &&& 31).toUInt32).toInt32)), .val (.int (((to - (1 : Int32)).toUInt32 >>> ((6 : Int32) &&& 31).toUInt32).toInt32)), .val (.int (((((to - (1 : Int32)).toUInt32 >>> ((6 : Int32) &&& 31).toUInt32).toInt32) - ((fr.toUInt32 >>> ((6 : Int32) &&& 31).toUInt32).toInt32)) + (1 : Int32))), .val (.int w), .val (.int bit), .val (.long r), .second, .val (.int got), .val (.long (((w.toInt64) <<< ((6 : Int32) &&& 0x3f).toInt64) + (bit.toInt64))), .second, .unset] [])) (Q0 Z p1 p2 p3 p4 h0 n0) room_1.cells room_1.slots
              have j124 : ∀ (Tj124 : State) (Lj124 : List Loc) (Xj124 : Stand p l e room_1 s m #[(.int p1), (.int p2), (.int p3), (.int p4)] below meth c Tj124 Lj124 0 0) (ej124 : Tj124.heap = h0) (Nj124 : Fr n0 Lj124) (pos : Int64) , own_law p1 p2 p3 p4 = own_law_124 p1 p2 p3 p4 fr to w bit r got pos → own_End p e below s (Tj124.setTop (mkF m 124 #[.val (.int p1), .val (.int p2), .val (.int p3), .val (.int p4), .val (.int (p1 &&& (2147483647 : Int32))), .val (.int (p2 &&& (2147483647 : Int32))), .val (.int fr), .val (.int to), .val (.int ((fr.toUInt32 >>> ((6 : Int32) &&& 31).toUInt32).toInt32)), .val (.int (((to - (1 : Int32)).toUInt32 >>> ((6 : Int32) &&& 31).toUInt32).toInt32)), .val (.int (((((to - (1 : Int32)).toUInt32 >>> ((6 : Int32) &&& 31).toUInt32).toInt32) - ((fr.toUInt32 >>> ((6 : Int32) &&& 31).toUInt32).toInt32)) + (1 : Int32))), .val (.int w), .val (.int bit), .val (.long r), .second, .val (.int got), .val (.long pos), .second, .unset] [])) (Q0 Z p1 p2 p3 p4 h0 n0) room_1.cells room_1.slots := by
                intro Tj124 Lj124 Xj124 ej124 Nj124 pos  hj
                refine own_pre (A := Tj124.setTop (mkF m 130 #[.val (.int p1), .val (.int p2), .val (.int p3), .val (.int p4), .val (.int (p1 &&& (2147483647 : Int32))), .val (.int (p2 &&& (2147483647 : Int32))), .val (.int fr), .val (.int to), .val (.int ((fr.toUInt32 >>> ((6 : Int32) &&& 31).toUInt32).toInt32)), .val (.int (((to - (1 : Int32)).toUInt32 >>> ((6 : Int32) &&& 31).toUInt32).toInt32)), .val (.int (((((to - (1 : Int32)).toUInt32 >>> ((6 : Int32) &&& 31).toUInt32).toInt32) - ((fr.toUInt32 >>> ((6 : Int32) &&& 31).toUInt32).toInt32)) + (1 : Int32))), .val (.int w), .val (.int bit), .val (.long r), .second, .val (.int got), .val (.long pos), .second, .unset] [(.int (lcmpW pos (fr.toInt64)))])) (fun tt kt => ?_) ?_
                · show Steps p.tables e below (Tj124.setTop (mkF m 124 #[.val (.int p1), .val (.int p2), .val (.int p3), .val (.int p4), .val (.int (p1 &&& (2147483647 : Int32))), .val (.int (p2 &&& (2147483647 : Int32))), .val (.int fr), .val (.int to), .val (.int ((fr.toUInt32 >>> ((6 : Int32) &&& 31).toUInt32).toInt32)), .val (.int (((to - (1 : Int32)).toUInt32 >>> ((6 : Int32) &&& 31).toUInt32).toInt32)), .val (.int (((((to - (1 : Int32)).toUInt32 >>> ((6 : Int32) &&& 31).toUInt32).toInt32) - ((fr.toUInt32 >>> ((6 : Int32) &&& 31).toUInt32).toInt32)) + (1 : Int32))), .val (.int w), .val (.int bit), .val (.long r), .second, .val (.int got), .val (.long pos), .second, .unset] [])) _
                  refine XS.lload Xj124.here hx rfl (hb hby at_124) rfl ?_
                  show Steps p.tables e below (Tj124.setTop (mkF m 126 #[.val (.int p1), .val (.int p2), .val (.int p3), .val (.int p4), .val (.int (p1 &&& (2147483647 : Int32))), .val (.int (p2 &&& (2147483647 : Int32))), .val (.int fr), .val (.int to), .val (.int ((fr.toUInt32 >>> ((6 : Int32) &&& 31).toUInt32).toInt32)), .val (.int (((to - (1 : Int32)).toUInt32 >>> ((6 : Int32) &&& 31).toUInt32).toInt32)), .val (.int (((((to - (1 : Int32)).toUInt32 >>> ((6 : Int32) &&& 31).toUInt32).toInt32) - ((fr.toUInt32 >>> ((6 : Int32) &&& 31).toUInt32).toInt32)) + (1 : Int32))), .val (.int w), .val (.int bit), .val (.long r), .second, .val (.int got), .val (.long pos), .second, .unset] [(.long pos)])) _
                  refine XS.iload Xj124.here hx rfl (hb hby at_126) rfl ?_
                  show Steps p.tables e below (Tj124.setTop (mkF m 128 #[.val (.int p1), .val (.int p2), .val (.int p3), .val (.int p4), .val (.int (p1 &&& (2147483647 : Int32))), .val (.int (p2 &&& (2147483647 : Int32))), .val (.int fr), .val (.int to), .val (.int ((fr.toUInt32 >>> ((6 : Int32) &&& 31).toUInt32).toInt32)), .val (.int (((to - (1 : Int32)).toUInt32 >>> ((6 : Int32) &&& 31).toUInt32).toInt32)), .val (.int (((((to - (1 : Int32)).toUInt32 >>> ((6 : Int32) &&& 31).toUInt32).toInt32) - ((fr.toUInt32 >>> ((6 : Int32) &&& 31).toUInt32).toInt32)) + (1 : Int32))), .val (.int w), .val (.int bit), .val (.long r), .second, .val (.int got), .val (.long pos), .second, .unset] [(.int fr), (.long pos)])) _
                  refine XS.i2l Xj124.here hx rfl (hb hby at_128) rfl ?_
                  show Steps p.tables e below (Tj124.setTop (mkF m 129 #[.val (.int p1), .val (.int p2), .val (.int p3), .val (.int p4), .val (.int (p1 &&& (2147483647 : Int32))), .val (.int (p2 &&& (2147483647 : Int32))), .val (.int fr), .val (.int to), .val (.int ((fr.toUInt32 >>> ((6 : Int32) &&& 31).toUInt32).toInt32)), .val (.int (((to - (1 : Int32)).toUInt32 >>> ((6 : Int32) &&& 31).toUInt32).toInt32)), .val (.int (((((to - (1 : Int32)).toUInt32 >>> ((6 : Int32) &&& 31).toUInt32).toInt32) - ((fr.toUInt32 >>> ((6 : Int32) &&& 31).toUInt32).toInt32)) + (1 : Int32))), .val (.int w), .val (.int bit), .val (.long r), .second, .val (.int got), .val (.long pos), .second, .unset] [(.long (fr.toInt64)), (.long pos)])) _
                  refine XS.lcmp Xj124.here hx rfl (hb hby at_129) rfl ?_
                  exact kt
                show own_End p e below s (Tj124.setTop (mkF m 130 #[.val (.int p1), .val (.int p2), .val (.int p3), .val (.int p4), .val (.int (p1 &&& (2147483647 : Int32))), .val (.int (p2 &&& (2147483647 : Int32))), .val (.int fr), .val (.int to), .val (.int ((fr.toUInt32 >>> ((6 : Int32) &&& 31).toUInt32).toInt32)), .val (.int (((to - (1 : Int32)).toUInt32 >>> ((6 : Int32) &&& 31).toUInt32).toInt32)), .val (.int (((((to - (1 : Int32)).toUInt32 >>> ((6 : Int32) &&& 31).toUInt32).toInt32) - ((fr.toUInt32 >>> ((6 : Int32) &&& 31).toUInt32).toInt32)) + (1 : Int32))), .val (.int w), .val (.int bit), .val (.long r), .second, .val (.int got), .val (.long pos), .second, .unset] [(.int (lcmpW pos (fr.toInt64)))])) (Q0 Z p1 p2 p3 p4 h0 n0) room_1.cells room_1.slots
                by_cases hc130_5 : pos < (fr.toInt64)
                · refine own_pre (A := Tj124.setTop (mkF m 153 #[.val (.int p1), .val (.int p2), .val (.int p3), .val (.int p4), .val (.int (p1 &&& (2147483647 : Int32))), .val (.int (p2 &&& (2147483647 : Int32))), .val (.int fr), .val (.int to), .val (.int ((fr.toUInt32 >>> ((6 : Int32) &&& 31).toUInt32).toInt32)), .val (.int (((to - (1 : Int32)).toUInt32 >>> ((6 : Int32) &&& 31).toUInt32).toInt32)), .val (.int (((((to - (1 : Int32)).toUInt32 >>> ((6 : Int32) &&& 31).toUInt32).toInt32) - ((fr.toUInt32 >>> ((6 : Int32) &&& 31).toUInt32).toInt32)) + (1 : Int32))), .val (.int w), .val (.int bit), .val (.long r), .second, .val (.int got), .val (.long pos), .second, .val (.int (0 : Int32))] [(.int (0 : Int32)), (.int got)])) (fun tt kt => ?_) ?_
                  · show Steps p.tables e below (Tj124.setTop (mkF m 130 #[.val (.int p1), .val (.int p2), .val (.int p3), .val (.int p4), .val (.int (p1 &&& (2147483647 : Int32))), .val (.int (p2 &&& (2147483647 : Int32))), .val (.int fr), .val (.int to), .val (.int ((fr.toUInt32 >>> ((6 : Int32) &&& 31).toUInt32).toInt32)), .val (.int (((to - (1 : Int32)).toUInt32 >>> ((6 : Int32) &&& 31).toUInt32).toInt32)), .val (.int (((((to - (1 : Int32)).toUInt32 >>> ((6 : Int32) &&& 31).toUInt32).toInt32) - ((fr.toUInt32 >>> ((6 : Int32) &&& 31).toUInt32).toInt32)) + (1 : Int32))), .val (.int w), .val (.int bit), .val (.long r), .second, .val (.int got), .val (.long pos), .second, .unset] [(.int (lcmpW pos (fr.toInt64)))])) _
                    refine XS.ifYes Xj124.here hx rfl (pc0 := 130) (pc' := 146) rfl (hb hby at_130) rfl ((if0 _ _).trans (tlt ((lw_lt pos (fr.toInt64)).mpr hc130_5)).1) (by decide) (by decide) ?_
                    show Steps p.tables e below (Tj124.setTop (mkF m 146 #[.val (.int p1), .val (.int p2), .val (.int p3), .val (.int p4), .val (.int (p1 &&& (2147483647 : Int32))), .val (.int (p2 &&& (2147483647 : Int32))), .val (.int fr), .val (.int to), .val (.int ((fr.toUInt32 >>> ((6 : Int32) &&& 31).toUInt32).toInt32)), .val (.int (((to - (1 : Int32)).toUInt32 >>> ((6 : Int32) &&& 31).toUInt32).toInt32)), .val (.int (((((to - (1 : Int32)).toUInt32 >>> ((6 : Int32) &&& 31).toUInt32).toInt32) - ((fr.toUInt32 >>> ((6 : Int32) &&& 31).toUInt32).toInt32)) + (1 : Int32))), .val (.int w), .val (.int bit), .val (.long r), .second, .val (.int got), .val (.long pos), .second, .unset] [])) _
                    refine XS.iconst Xj124.here hx rfl (hb hby at_146) ?_
                    show Steps p.tables e below (Tj124.setTop (mkF m 147 #[.val (.int p1), .val (.int p2), .val (.int p3), .val (.int p4), .val (.int (p1 &&& (2147483647 : Int32))), .val (.int (p2 &&& (2147483647 : Int32))), .val (.int fr), .val (.int to), .val (.int ((fr.toUInt32 >>> ((6 : Int32) &&& 31).toUInt32).toInt32)), .val (.int (((to - (1 : Int32)).toUInt32 >>> ((6 : Int32) &&& 31).toUInt32).toInt32)), .val (.int (((((to - (1 : Int32)).toUInt32 >>> ((6 : Int32) &&& 31).toUInt32).toInt32) - ((fr.toUInt32 >>> ((6 : Int32) &&& 31).toUInt32).toInt32)) + (1 : Int32))), .val (.int w), .val (.int bit), .val (.long r), .second, .val (.int got), .val (.long pos), .second, .unset] [(.int (0 : Int32))])) _
                    refine XS.istore Xj124.here hx rfl (hb hby at_147) rfl (l' := #[.val (.int p1), .val (.int p2), .val (.int p3), .val (.int p4), .val (.int (p1 &&& (2147483647 : Int32))), .val (.int (p2 &&& (2147483647 : Int32))), .val (.int fr), .val (.int to), .val (.int ((fr.toUInt32 >>> ((6 : Int32) &&& 31).toUInt32).toInt32)), .val (.int (((to - (1 : Int32)).toUInt32 >>> ((6 : Int32) &&& 31).toUInt32).toInt32)), .val (.int (((((to - (1 : Int32)).toUInt32 >>> ((6 : Int32) &&& 31).toUInt32).toInt32) - ((fr.toUInt32 >>> ((6 : Int32) &&& 31).toUInt32).toInt32)) + (1 : Int32))), .val (.int w), .val (.int bit), .val (.long r), .second, .val (.int got), .val (.long pos), .second, .val (.int (0 : Int32))]) rfl ?_
                    show Steps p.tables e below (Tj124.setTop (mkF m 149 #[.val (.int p1), .val (.int p2), .val (.int p3), .val (.int p4), .val (.int (p1 &&& (2147483647 : Int32))), .val (.int (p2 &&& (2147483647 : Int32))), .val (.int fr), .val (.int to), .val (.int ((fr.toUInt32 >>> ((6 : Int32) &&& 31).toUInt32).toInt32)), .val (.int (((to - (1 : Int32)).toUInt32 >>> ((6 : Int32) &&& 31).toUInt32).toInt32)), .val (.int (((((to - (1 : Int32)).toUInt32 >>> ((6 : Int32) &&& 31).toUInt32).toInt32) - ((fr.toUInt32 >>> ((6 : Int32) &&& 31).toUInt32).toInt32)) + (1 : Int32))), .val (.int w), .val (.int bit), .val (.long r), .second, .val (.int got), .val (.long pos), .second, .val (.int (0 : Int32))] [])) _
                    refine XS.iload Xj124.here hx rfl (hb hby at_149) rfl ?_
                    show Steps p.tables e below (Tj124.setTop (mkF m 151 #[.val (.int p1), .val (.int p2), .val (.int p3), .val (.int p4), .val (.int (p1 &&& (2147483647 : Int32))), .val (.int (p2 &&& (2147483647 : Int32))), .val (.int fr), .val (.int to), .val (.int ((fr.toUInt32 >>> ((6 : Int32) &&& 31).toUInt32).toInt32)), .val (.int (((to - (1 : Int32)).toUInt32 >>> ((6 : Int32) &&& 31).toUInt32).toInt32)), .val (.int (((((to - (1 : Int32)).toUInt32 >>> ((6 : Int32) &&& 31).toUInt32).toInt32) - ((fr.toUInt32 >>> ((6 : Int32) &&& 31).toUInt32).toInt32)) + (1 : Int32))), .val (.int w), .val (.int bit), .val (.long r), .second, .val (.int got), .val (.long pos), .second, .val (.int (0 : Int32))] [(.int got)])) _
                    refine XS.iload Xj124.here hx rfl (hb hby at_151) rfl ?_
                    exact kt
                  show own_End p e below s (Tj124.setTop (mkF m 153 #[.val (.int p1), .val (.int p2), .val (.int p3), .val (.int p4), .val (.int (p1 &&& (2147483647 : Int32))), .val (.int (p2 &&& (2147483647 : Int32))), .val (.int fr), .val (.int to), .val (.int ((fr.toUInt32 >>> ((6 : Int32) &&& 31).toUInt32).toInt32)), .val (.int (((to - (1 : Int32)).toUInt32 >>> ((6 : Int32) &&& 31).toUInt32).toInt32)), .val (.int (((((to - (1 : Int32)).toUInt32 >>> ((6 : Int32) &&& 31).toUInt32).toInt32) - ((fr.toUInt32 >>> ((6 : Int32) &&& 31).toUInt32).toInt32)) + (1 : Int32))), .val (.int w), .val (.int bit), .val (.long r), .second, .val (.int got), .val (.long pos), .second, .val (.int (0 : Int32))] [(.int (0 : Int32)), (.int got)])) (Q0 Z p1 p2 p3 p4 h0 n0) room_1.cells room_1.slots
                  by_cases hc153_6 : got = (0 : Int32)
                  · refine own_pre (A := Tj124.setTop (mkF m 161 #[.val (.int p1), .val (.int p2), .val (.int p3), .val (.int p4), .val (.int (p1 &&& (2147483647 : Int32))), .val (.int (p2 &&& (2147483647 : Int32))), .val (.int fr), .val (.int to), .val (.int ((fr.toUInt32 >>> ((6 : Int32) &&& 31).toUInt32).toInt32)), .val (.int (((to - (1 : Int32)).toUInt32 >>> ((6 : Int32) &&& 31).toUInt32).toInt32)), .val (.int (((((to - (1 : Int32)).toUInt32 >>> ((6 : Int32) &&& 31).toUInt32).toInt32) - ((fr.toUInt32 >>> ((6 : Int32) &&& 31).toUInt32).toInt32)) + (1 : Int32))), .val (.int w), .val (.int bit), .val (.long r), .second, .val (.int got), .val (.long pos), .second, .val (.int (0 : Int32))] [(.int (1 : Int32))])) (fun tt kt => ?_) ?_
                    · show Steps p.tables e below (Tj124.setTop (mkF m 153 #[.val (.int p1), .val (.int p2), .val (.int p3), .val (.int p4), .val (.int (p1 &&& (2147483647 : Int32))), .val (.int (p2 &&& (2147483647 : Int32))), .val (.int fr), .val (.int to), .val (.int ((fr.toUInt32 >>> ((6 : Int32) &&& 31).toUInt32).toInt32)), .val (.int (((to - (1 : Int32)).toUInt32 >>> ((6 : Int32) &&& 31).toUInt32).toInt32)), .val (.int (((((to - (1 : Int32)).toUInt32 >>> ((6 : Int32) &&& 31).toUInt32).toInt32) - ((fr.toUInt32 >>> ((6 : Int32) &&& 31).toUInt32).toInt32)) + (1 : Int32))), .val (.int w), .val (.int bit), .val (.long r), .second, .val (.int got), .val (.long pos), .second, .val (.int (0 : Int32))] [(.int (0 : Int32)), (.int got)])) _
                      refine XS.icmpNo Xj124.here hx rfl (hb hby at_153) rfl (teq hc153_6).2 ?_
                      show Steps p.tables e below (Tj124.setTop (mkF m 156 #[.val (.int p1), .val (.int p2), .val (.int p3), .val (.int p4), .val (.int (p1 &&& (2147483647 : Int32))), .val (.int (p2 &&& (2147483647 : Int32))), .val (.int fr), .val (.int to), .val (.int ((fr.toUInt32 >>> ((6 : Int32) &&& 31).toUInt32).toInt32)), .val (.int (((to - (1 : Int32)).toUInt32 >>> ((6 : Int32) &&& 31).toUInt32).toInt32)), .val (.int (((((to - (1 : Int32)).toUInt32 >>> ((6 : Int32) &&& 31).toUInt32).toInt32) - ((fr.toUInt32 >>> ((6 : Int32) &&& 31).toUInt32).toInt32)) + (1 : Int32))), .val (.int w), .val (.int bit), .val (.long r), .second, .val (.int got), .val (.long pos), .second, .val (.int (0 : Int32))] [])) _
                      refine XS.iconst Xj124.here hx rfl (hb hby at_156) ?_
                      show Steps p.tables e below (Tj124.setTop (mkF m 157 #[.val (.int p1), .val (.int p2), .val (.int p3), .val (.int p4), .val (.int (p1 &&& (2147483647 : Int32))), .val (.int (p2 &&& (2147483647 : Int32))), .val (.int fr), .val (.int to), .val (.int ((fr.toUInt32 >>> ((6 : Int32) &&& 31).toUInt32).toInt32)), .val (.int (((to - (1 : Int32)).toUInt32 >>> ((6 : Int32) &&& 31).toUInt32).toInt32)), .val (.int (((((to - (1 : Int32)).toUInt32 >>> ((6 : Int32) &&& 31).toUInt32).toInt32) - ((fr.toUInt32 >>> ((6 : Int32) &&& 31).toUInt32).toInt32)) + (1 : Int32))), .val (.int w), .val (.int bit), .val (.long r), .second, .val (.int got), .val (.long pos), .second, .val (.int (0 : Int32))] [(.int (1 : Int32))])) _
                      refine XS.goto Xj124.here hx rfl (pc0 := 157) (pc' := 161) rfl (hb hby at_157) (by decide) (by decide) ?_
                      exact kt
                    show own_End p e below s (Tj124.setTop (mkF m 161 #[.val (.int p1), .val (.int p2), .val (.int p3), .val (.int p4), .val (.int (p1 &&& (2147483647 : Int32))), .val (.int (p2 &&& (2147483647 : Int32))), .val (.int fr), .val (.int to), .val (.int ((fr.toUInt32 >>> ((6 : Int32) &&& 31).toUInt32).toInt32)), .val (.int (((to - (1 : Int32)).toUInt32 >>> ((6 : Int32) &&& 31).toUInt32).toInt32)), .val (.int (((((to - (1 : Int32)).toUInt32 >>> ((6 : Int32) &&& 31).toUInt32).toInt32) - ((fr.toUInt32 >>> ((6 : Int32) &&& 31).toUInt32).toInt32)) + (1 : Int32))), .val (.int w), .val (.int bit), .val (.long r), .second, .val (.int got), .val (.long pos), .second, .val (.int (0 : Int32))] [(.int (1 : Int32))])) (Q0 Z p1 p2 p3 p4 h0 n0) room_1.cells room_1.slots
                    have hv : (own_law p1 p2 p3 p4) = (1 : Int32) := hj.trans (by simp only [own_law_124, if_pos hc130_5, if_pos hc153_6])
                    obtain ⟨fs, hr, hrun, hended, hW, hsame⟩ := Xj124.leave (v := some (.int (1 : Int32))) (fun h => by rw [Bd.returns] at h; cases h)
                    refine ⟨_, _, ?_, hrun, hended, _, _, rfl, ?_, ⟨_, rfl⟩, hW, hsame.mono (by decide) (by decide)⟩
                    · exact retN Xj124 hx (t := .boolean) Bd.returns (by simp) (hb hby at_161) hr
                    · show Q0 Z p1 p2 p3 p4 h0 n0 _ Tj124.heap _
                      rw [ej124]
                      exact ⟨(congrArg (fun z => some (Value.int z)) hv.symm), Nj124⟩
                  · refine own_pre (A := Tj124.setTop (mkF m 161 #[.val (.int p1), .val (.int p2), .val (.int p3), .val (.int p4), .val (.int (p1 &&& (2147483647 : Int32))), .val (.int (p2 &&& (2147483647 : Int32))), .val (.int fr), .val (.int to), .val (.int ((fr.toUInt32 >>> ((6 : Int32) &&& 31).toUInt32).toInt32)), .val (.int (((to - (1 : Int32)).toUInt32 >>> ((6 : Int32) &&& 31).toUInt32).toInt32)), .val (.int (((((to - (1 : Int32)).toUInt32 >>> ((6 : Int32) &&& 31).toUInt32).toInt32) - ((fr.toUInt32 >>> ((6 : Int32) &&& 31).toUInt32).toInt32)) + (1 : Int32))), .val (.int w), .val (.int bit), .val (.long r), .second, .val (.int got), .val (.long pos), .second, .val (.int (0 : Int32))] [(.int (0 : Int32))])) (fun tt kt => ?_) ?_
                    · show Steps p.tables e below (Tj124.setTop (mkF m 153 #[.val (.int p1), .val (.int p2), .val (.int p3), .val (.int p4), .val (.int (p1 &&& (2147483647 : Int32))), .val (.int (p2 &&& (2147483647 : Int32))), .val (.int fr), .val (.int to), .val (.int ((fr.toUInt32 >>> ((6 : Int32) &&& 31).toUInt32).toInt32)), .val (.int (((to - (1 : Int32)).toUInt32 >>> ((6 : Int32) &&& 31).toUInt32).toInt32)), .val (.int (((((to - (1 : Int32)).toUInt32 >>> ((6 : Int32) &&& 31).toUInt32).toInt32) - ((fr.toUInt32 >>> ((6 : Int32) &&& 31).toUInt32).toInt32)) + (1 : Int32))), .val (.int w), .val (.int bit), .val (.long r), .second, .val (.int got), .val (.long pos), .second, .val (.int (0 : Int32))] [(.int (0 : Int32)), (.int got)])) _
                      refine XS.icmpYes Xj124.here hx rfl (pc0 := 153) (pc' := 160) rfl (hb hby at_153) rfl (feq hc153_6).2 (by decide) (by decide) ?_
                      show Steps p.tables e below (Tj124.setTop (mkF m 160 #[.val (.int p1), .val (.int p2), .val (.int p3), .val (.int p4), .val (.int (p1 &&& (2147483647 : Int32))), .val (.int (p2 &&& (2147483647 : Int32))), .val (.int fr), .val (.int to), .val (.int ((fr.toUInt32 >>> ((6 : Int32) &&& 31).toUInt32).toInt32)), .val (.int (((to - (1 : Int32)).toUInt32 >>> ((6 : Int32) &&& 31).toUInt32).toInt32)), .val (.int (((((to - (1 : Int32)).toUInt32 >>> ((6 : Int32) &&& 31).toUInt32).toInt32) - ((fr.toUInt32 >>> ((6 : Int32) &&& 31).toUInt32).toInt32)) + (1 : Int32))), .val (.int w), .val (.int bit), .val (.long r), .second, .val (.int got), .val (.long pos), .second, .val (.int (0 : Int32))] [])) _
                      refine XS.iconst Xj124.here hx rfl (hb hby at_160) ?_
                      exact kt
                    show own_End p e below s (Tj124.setTop (mkF m 161 #[.val (.int p1), .val (.int p2), .val (.int p3), .val (.int p4), .val (.int (p1 &&& (2147483647 : Int32))), .val (.int (p2 &&& (2147483647 : Int32))), .val (.int fr), .val (.int to), .val (.int ((fr.toUInt32 >>> ((6 : Int32) &&& 31).toUInt32).toInt32)), .val (.int (((to - (1 : Int32)).toUInt32 >>> ((6 : Int32) &&& 31).toUInt32).toInt32)), .val (.int (((((to - (1 : Int32)).toUInt32 >>> ((6 : Int32) &&& 31).toUInt32).toInt32) - ((fr.toUInt32 >>> ((6 : Int32) &&& 31).toUInt32).toInt32)) + (1 : Int32))), .val (.int w), .val (.int bit), .val (.long r), .second, .val (.int got), .val (.long pos), .second, .val (.int (0 : Int32))] [(.int (0 : Int32))])) (Q0 Z p1 p2 p3 p4 h0 n0) room_1.cells room_1.slots
                    have hv : (own_law p1 p2 p3 p4) = (0 : Int32) := hj.trans (by simp only [own_law_124, if_pos hc130_5, if_neg hc153_6])
                    obtain ⟨fs, hr, hrun, hended, hW, hsame⟩ := Xj124.leave (v := some (.int (0 : Int32))) (fun h => by rw [Bd.returns] at h; cases h)
                    refine ⟨_, _, ?_, hrun, hended, _, _, rfl, ?_, ⟨_, rfl⟩, hW, hsame.mono (by decide) (by decide)⟩
                    · exact retN Xj124 hx (t := .boolean) Bd.returns (by simp) (hb hby at_161) hr
                    · show Q0 Z p1 p2 p3 p4 h0 n0 _ Tj124.heap _
                      rw [ej124]
                      exact ⟨(congrArg (fun z => some (Value.int z)) hv.symm), Nj124⟩
                · refine own_pre (A := Tj124.setTop (mkF m 139 #[.val (.int p1), .val (.int p2), .val (.int p3), .val (.int p4), .val (.int (p1 &&& (2147483647 : Int32))), .val (.int (p2 &&& (2147483647 : Int32))), .val (.int fr), .val (.int to), .val (.int ((fr.toUInt32 >>> ((6 : Int32) &&& 31).toUInt32).toInt32)), .val (.int (((to - (1 : Int32)).toUInt32 >>> ((6 : Int32) &&& 31).toUInt32).toInt32)), .val (.int (((((to - (1 : Int32)).toUInt32 >>> ((6 : Int32) &&& 31).toUInt32).toInt32) - ((fr.toUInt32 >>> ((6 : Int32) &&& 31).toUInt32).toInt32)) + (1 : Int32))), .val (.int w), .val (.int bit), .val (.long r), .second, .val (.int got), .val (.long pos), .second, .unset] [(.int (lcmpW pos (to.toInt64)))])) (fun tt kt => ?_) ?_
                  · show Steps p.tables e below (Tj124.setTop (mkF m 130 #[.val (.int p1), .val (.int p2), .val (.int p3), .val (.int p4), .val (.int (p1 &&& (2147483647 : Int32))), .val (.int (p2 &&& (2147483647 : Int32))), .val (.int fr), .val (.int to), .val (.int ((fr.toUInt32 >>> ((6 : Int32) &&& 31).toUInt32).toInt32)), .val (.int (((to - (1 : Int32)).toUInt32 >>> ((6 : Int32) &&& 31).toUInt32).toInt32)), .val (.int (((((to - (1 : Int32)).toUInt32 >>> ((6 : Int32) &&& 31).toUInt32).toInt32) - ((fr.toUInt32 >>> ((6 : Int32) &&& 31).toUInt32).toInt32)) + (1 : Int32))), .val (.int w), .val (.int bit), .val (.long r), .second, .val (.int got), .val (.long pos), .second, .unset] [(.int (lcmpW pos (fr.toInt64)))])) _
                    refine XS.ifNo Xj124.here hx rfl (hb hby at_130) rfl ((if0 _ _).trans (flt (fun q => hc130_5 ((lw_lt pos (fr.toInt64)).mp q))).1) ?_
                    show Steps p.tables e below (Tj124.setTop (mkF m 133 #[.val (.int p1), .val (.int p2), .val (.int p3), .val (.int p4), .val (.int (p1 &&& (2147483647 : Int32))), .val (.int (p2 &&& (2147483647 : Int32))), .val (.int fr), .val (.int to), .val (.int ((fr.toUInt32 >>> ((6 : Int32) &&& 31).toUInt32).toInt32)), .val (.int (((to - (1 : Int32)).toUInt32 >>> ((6 : Int32) &&& 31).toUInt32).toInt32)), .val (.int (((((to - (1 : Int32)).toUInt32 >>> ((6 : Int32) &&& 31).toUInt32).toInt32) - ((fr.toUInt32 >>> ((6 : Int32) &&& 31).toUInt32).toInt32)) + (1 : Int32))), .val (.int w), .val (.int bit), .val (.long r), .second, .val (.int got), .val (.long pos), .second, .unset] [])) _
                    refine XS.lload Xj124.here hx rfl (hb hby at_133) rfl ?_
                    show Steps p.tables e below (Tj124.setTop (mkF m 135 #[.val (.int p1), .val (.int p2), .val (.int p3), .val (.int p4), .val (.int (p1 &&& (2147483647 : Int32))), .val (.int (p2 &&& (2147483647 : Int32))), .val (.int fr), .val (.int to), .val (.int ((fr.toUInt32 >>> ((6 : Int32) &&& 31).toUInt32).toInt32)), .val (.int (((to - (1 : Int32)).toUInt32 >>> ((6 : Int32) &&& 31).toUInt32).toInt32)), .val (.int (((((to - (1 : Int32)).toUInt32 >>> ((6 : Int32) &&& 31).toUInt32).toInt32) - ((fr.toUInt32 >>> ((6 : Int32) &&& 31).toUInt32).toInt32)) + (1 : Int32))), .val (.int w), .val (.int bit), .val (.long r), .second, .val (.int got), .val (.long pos), .second, .unset] [(.long pos)])) _
                    refine XS.iload Xj124.here hx rfl (hb hby at_135) rfl ?_
                    show Steps p.tables e below (Tj124.setTop (mkF m 137 #[.val (.int p1), .val (.int p2), .val (.int p3), .val (.int p4), .val (.int (p1 &&& (2147483647 : Int32))), .val (.int (p2 &&& (2147483647 : Int32))), .val (.int fr), .val (.int to), .val (.int ((fr.toUInt32 >>> ((6 : Int32) &&& 31).toUInt32).toInt32)), .val (.int (((to - (1 : Int32)).toUInt32 >>> ((6 : Int32) &&& 31).toUInt32).toInt32)), .val (.int (((((to - (1 : Int32)).toUInt32 >>> ((6 : Int32) &&& 31).toUInt32).toInt32) - ((fr.toUInt32 >>> ((6 : Int32) &&& 31).toUInt32).toInt32)) + (1 : Int32))), .val (.int w), .val (.int bit), .val (.long r), .second, .val (.int got), .val (.long pos), .second, .unset] [(.int to), (.long pos)])) _
                    refine XS.i2l Xj124.here hx rfl (hb hby at_137) rfl ?_
                    show Steps p.tables e below (Tj124.setTop (mkF m 138 #[.val (.int p1), .val (.int p2), .val (.int p3), .val (.int p4), .val (.int (p1 &&& (2147483647 : Int32))), .val (.int (p2 &&& (2147483647 : Int32))), .val (.int fr), .val (.int to), .val (.int ((fr.toUInt32 >>> ((6 : Int32) &&& 31).toUInt32).toInt32)), .val (.int (((to - (1 : Int32)).toUInt32 >>> ((6 : Int32) &&& 31).toUInt32).toInt32)), .val (.int (((((to - (1 : Int32)).toUInt32 >>> ((6 : Int32) &&& 31).toUInt32).toInt32) - ((fr.toUInt32 >>> ((6 : Int32) &&& 31).toUInt32).toInt32)) + (1 : Int32))), .val (.int w), .val (.int bit), .val (.long r), .second, .val (.int got), .val (.long pos), .second, .unset] [(.long (to.toInt64)), (.long pos)])) _
                    refine XS.lcmp Xj124.here hx rfl (hb hby at_138) rfl ?_
                    exact kt
                  show own_End p e below s (Tj124.setTop (mkF m 139 #[.val (.int p1), .val (.int p2), .val (.int p3), .val (.int p4), .val (.int (p1 &&& (2147483647 : Int32))), .val (.int (p2 &&& (2147483647 : Int32))), .val (.int fr), .val (.int to), .val (.int ((fr.toUInt32 >>> ((6 : Int32) &&& 31).toUInt32).toInt32)), .val (.int (((to - (1 : Int32)).toUInt32 >>> ((6 : Int32) &&& 31).toUInt32).toInt32)), .val (.int (((((to - (1 : Int32)).toUInt32 >>> ((6 : Int32) &&& 31).toUInt32).toInt32) - ((fr.toUInt32 >>> ((6 : Int32) &&& 31).toUInt32).toInt32)) + (1 : Int32))), .val (.int w), .val (.int bit), .val (.long r), .second, .val (.int got), .val (.long pos), .second, .unset] [(.int (lcmpW pos (to.toInt64)))])) (Q0 Z p1 p2 p3 p4 h0 n0) room_1.cells room_1.slots
                  by_cases hc139_7 : pos < (to.toInt64)
                  · refine own_pre (A := Tj124.setTop (mkF m 153 #[.val (.int p1), .val (.int p2), .val (.int p3), .val (.int p4), .val (.int (p1 &&& (2147483647 : Int32))), .val (.int (p2 &&& (2147483647 : Int32))), .val (.int fr), .val (.int to), .val (.int ((fr.toUInt32 >>> ((6 : Int32) &&& 31).toUInt32).toInt32)), .val (.int (((to - (1 : Int32)).toUInt32 >>> ((6 : Int32) &&& 31).toUInt32).toInt32)), .val (.int (((((to - (1 : Int32)).toUInt32 >>> ((6 : Int32) &&& 31).toUInt32).toInt32) - ((fr.toUInt32 >>> ((6 : Int32) &&& 31).toUInt32).toInt32)) + (1 : Int32))), .val (.int w), .val (.int bit), .val (.long r), .second, .val (.int got), .val (.long pos), .second, .val (.int (1 : Int32))] [(.int (1 : Int32)), (.int got)])) (fun tt kt => ?_) ?_
                    · show Steps p.tables e below (Tj124.setTop (mkF m 139 #[.val (.int p1), .val (.int p2), .val (.int p3), .val (.int p4), .val (.int (p1 &&& (2147483647 : Int32))), .val (.int (p2 &&& (2147483647 : Int32))), .val (.int fr), .val (.int to), .val (.int ((fr.toUInt32 >>> ((6 : Int32) &&& 31).toUInt32).toInt32)), .val (.int (((to - (1 : Int32)).toUInt32 >>> ((6 : Int32) &&& 31).toUInt32).toInt32)), .val (.int (((((to - (1 : Int32)).toUInt32 >>> ((6 : Int32) &&& 31).toUInt32).toInt32) - ((fr.toUInt32 >>> ((6 : Int32) &&& 31).toUInt32).toInt32)) + (1 : Int32))), .val (.int w), .val (.int bit), .val (.long r), .second, .val (.int got), .val (.long pos), .second, .unset] [(.int (lcmpW pos (to.toInt64)))])) _
                      refine XS.ifNo Xj124.here hx rfl (hb hby at_139) rfl ((if0 _ _).trans (tlt ((lw_lt pos (to.toInt64)).mpr hc139_7)).2.1) ?_
                      show Steps p.tables e below (Tj124.setTop (mkF m 142 #[.val (.int p1), .val (.int p2), .val (.int p3), .val (.int p4), .val (.int (p1 &&& (2147483647 : Int32))), .val (.int (p2 &&& (2147483647 : Int32))), .val (.int fr), .val (.int to), .val (.int ((fr.toUInt32 >>> ((6 : Int32) &&& 31).toUInt32).toInt32)), .val (.int (((to - (1 : Int32)).toUInt32 >>> ((6 : Int32) &&& 31).toUInt32).toInt32)), .val (.int (((((to - (1 : Int32)).toUInt32 >>> ((6 : Int32) &&& 31).toUInt32).toInt32) - ((fr.toUInt32 >>> ((6 : Int32) &&& 31).toUInt32).toInt32)) + (1 : Int32))), .val (.int w), .val (.int bit), .val (.long r), .second, .val (.int got), .val (.long pos), .second, .unset] [])) _
                      refine XS.iconst Xj124.here hx rfl (hb hby at_142) ?_
                      show Steps p.tables e below (Tj124.setTop (mkF m 143 #[.val (.int p1), .val (.int p2), .val (.int p3), .val (.int p4), .val (.int (p1 &&& (2147483647 : Int32))), .val (.int (p2 &&& (2147483647 : Int32))), .val (.int fr), .val (.int to), .val (.int ((fr.toUInt32 >>> ((6 : Int32) &&& 31).toUInt32).toInt32)), .val (.int (((to - (1 : Int32)).toUInt32 >>> ((6 : Int32) &&& 31).toUInt32).toInt32)), .val (.int (((((to - (1 : Int32)).toUInt32 >>> ((6 : Int32) &&& 31).toUInt32).toInt32) - ((fr.toUInt32 >>> ((6 : Int32) &&& 31).toUInt32).toInt32)) + (1 : Int32))), .val (.int w), .val (.int bit), .val (.long r), .second, .val (.int got), .val (.long pos), .second, .unset] [(.int (1 : Int32))])) _
                      refine XS.goto Xj124.here hx rfl (pc0 := 143) (pc' := 147) rfl (hb hby at_143) (by decide) (by decide) ?_
                      show Steps p.tables e below (Tj124.setTop (mkF m 147 #[.val (.int p1), .val (.int p2), .val (.int p3), .val (.int p4), .val (.int (p1 &&& (2147483647 : Int32))), .val (.int (p2 &&& (2147483647 : Int32))), .val (.int fr), .val (.int to), .val (.int ((fr.toUInt32 >>> ((6 : Int32) &&& 31).toUInt32).toInt32)), .val (.int (((to - (1 : Int32)).toUInt32 >>> ((6 : Int32) &&& 31).toUInt32).toInt32)), .val (.int (((((to - (1 : Int32)).toUInt32 >>> ((6 : Int32) &&& 31).toUInt32).toInt32) - ((fr.toUInt32 >>> ((6 : Int32) &&& 31).toUInt32).toInt32)) + (1 : Int32))), .val (.int w), .val (.int bit), .val (.long r), .second, .val (.int got), .val (.long pos), .second, .unset] [(.int (1 : Int32))])) _
                      refine XS.istore Xj124.here hx rfl (hb hby at_147) rfl (l' := #[.val (.int p1), .val (.int p2), .val (.int p3), .val (.int p4), .val (.int (p1 &&& (2147483647 : Int32))), .val (.int (p2 &&& (2147483647 : Int32))), .val (.int fr), .val (.int to), .val (.int ((fr.toUInt32 >>> ((6 : Int32) &&& 31).toUInt32).toInt32)), .val (.int (((to - (1 : Int32)).toUInt32 >>> ((6 : Int32) &&& 31).toUInt32).toInt32)), .val (.int (((((to - (1 : Int32)).toUInt32 >>> ((6 : Int32) &&& 31).toUInt32).toInt32) - ((fr.toUInt32 >>> ((6 : Int32) &&& 31).toUInt32).toInt32)) + (1 : Int32))), .val (.int w), .val (.int bit), .val (.long r), .second, .val (.int got), .val (.long pos), .second, .val (.int (1 : Int32))]) rfl ?_
                      show Steps p.tables e below (Tj124.setTop (mkF m 149 #[.val (.int p1), .val (.int p2), .val (.int p3), .val (.int p4), .val (.int (p1 &&& (2147483647 : Int32))), .val (.int (p2 &&& (2147483647 : Int32))), .val (.int fr), .val (.int to), .val (.int ((fr.toUInt32 >>> ((6 : Int32) &&& 31).toUInt32).toInt32)), .val (.int (((to - (1 : Int32)).toUInt32 >>> ((6 : Int32) &&& 31).toUInt32).toInt32)), .val (.int (((((to - (1 : Int32)).toUInt32 >>> ((6 : Int32) &&& 31).toUInt32).toInt32) - ((fr.toUInt32 >>> ((6 : Int32) &&& 31).toUInt32).toInt32)) + (1 : Int32))), .val (.int w), .val (.int bit), .val (.long r), .second, .val (.int got), .val (.long pos), .second, .val (.int (1 : Int32))] [])) _
                      refine XS.iload Xj124.here hx rfl (hb hby at_149) rfl ?_
                      show Steps p.tables e below (Tj124.setTop (mkF m 151 #[.val (.int p1), .val (.int p2), .val (.int p3), .val (.int p4), .val (.int (p1 &&& (2147483647 : Int32))), .val (.int (p2 &&& (2147483647 : Int32))), .val (.int fr), .val (.int to), .val (.int ((fr.toUInt32 >>> ((6 : Int32) &&& 31).toUInt32).toInt32)), .val (.int (((to - (1 : Int32)).toUInt32 >>> ((6 : Int32) &&& 31).toUInt32).toInt32)), .val (.int (((((to - (1 : Int32)).toUInt32 >>> ((6 : Int32) &&& 31).toUInt32).toInt32) - ((fr.toUInt32 >>> ((6 : Int32) &&& 31).toUInt32).toInt32)) + (1 : Int32))), .val (.int w), .val (.int bit), .val (.long r), .second, .val (.int got), .val (.long pos), .second, .val (.int (1 : Int32))] [(.int got)])) _
                      refine XS.iload Xj124.here hx rfl (hb hby at_151) rfl ?_
                      exact kt
                    show own_End p e below s (Tj124.setTop (mkF m 153 #[.val (.int p1), .val (.int p2), .val (.int p3), .val (.int p4), .val (.int (p1 &&& (2147483647 : Int32))), .val (.int (p2 &&& (2147483647 : Int32))), .val (.int fr), .val (.int to), .val (.int ((fr.toUInt32 >>> ((6 : Int32) &&& 31).toUInt32).toInt32)), .val (.int (((to - (1 : Int32)).toUInt32 >>> ((6 : Int32) &&& 31).toUInt32).toInt32)), .val (.int (((((to - (1 : Int32)).toUInt32 >>> ((6 : Int32) &&& 31).toUInt32).toInt32) - ((fr.toUInt32 >>> ((6 : Int32) &&& 31).toUInt32).toInt32)) + (1 : Int32))), .val (.int w), .val (.int bit), .val (.long r), .second, .val (.int got), .val (.long pos), .second, .val (.int (1 : Int32))] [(.int (1 : Int32)), (.int got)])) (Q0 Z p1 p2 p3 p4 h0 n0) room_1.cells room_1.slots
                    by_cases hc153_8 : got = (1 : Int32)
                    · refine own_pre (A := Tj124.setTop (mkF m 161 #[.val (.int p1), .val (.int p2), .val (.int p3), .val (.int p4), .val (.int (p1 &&& (2147483647 : Int32))), .val (.int (p2 &&& (2147483647 : Int32))), .val (.int fr), .val (.int to), .val (.int ((fr.toUInt32 >>> ((6 : Int32) &&& 31).toUInt32).toInt32)), .val (.int (((to - (1 : Int32)).toUInt32 >>> ((6 : Int32) &&& 31).toUInt32).toInt32)), .val (.int (((((to - (1 : Int32)).toUInt32 >>> ((6 : Int32) &&& 31).toUInt32).toInt32) - ((fr.toUInt32 >>> ((6 : Int32) &&& 31).toUInt32).toInt32)) + (1 : Int32))), .val (.int w), .val (.int bit), .val (.long r), .second, .val (.int got), .val (.long pos), .second, .val (.int (1 : Int32))] [(.int (1 : Int32))])) (fun tt kt => ?_) ?_
                      · show Steps p.tables e below (Tj124.setTop (mkF m 153 #[.val (.int p1), .val (.int p2), .val (.int p3), .val (.int p4), .val (.int (p1 &&& (2147483647 : Int32))), .val (.int (p2 &&& (2147483647 : Int32))), .val (.int fr), .val (.int to), .val (.int ((fr.toUInt32 >>> ((6 : Int32) &&& 31).toUInt32).toInt32)), .val (.int (((to - (1 : Int32)).toUInt32 >>> ((6 : Int32) &&& 31).toUInt32).toInt32)), .val (.int (((((to - (1 : Int32)).toUInt32 >>> ((6 : Int32) &&& 31).toUInt32).toInt32) - ((fr.toUInt32 >>> ((6 : Int32) &&& 31).toUInt32).toInt32)) + (1 : Int32))), .val (.int w), .val (.int bit), .val (.long r), .second, .val (.int got), .val (.long pos), .second, .val (.int (1 : Int32))] [(.int (1 : Int32)), (.int got)])) _
                        refine XS.icmpNo Xj124.here hx rfl (hb hby at_153) rfl (teq hc153_8).2 ?_
                        show Steps p.tables e below (Tj124.setTop (mkF m 156 #[.val (.int p1), .val (.int p2), .val (.int p3), .val (.int p4), .val (.int (p1 &&& (2147483647 : Int32))), .val (.int (p2 &&& (2147483647 : Int32))), .val (.int fr), .val (.int to), .val (.int ((fr.toUInt32 >>> ((6 : Int32) &&& 31).toUInt32).toInt32)), .val (.int (((to - (1 : Int32)).toUInt32 >>> ((6 : Int32) &&& 31).toUInt32).toInt32)), .val (.int (((((to - (1 : Int32)).toUInt32 >>> ((6 : Int32) &&& 31).toUInt32).toInt32) - ((fr.toUInt32 >>> ((6 : Int32) &&& 31).toUInt32).toInt32)) + (1 : Int32))), .val (.int w), .val (.int bit), .val (.long r), .second, .val (.int got), .val (.long pos), .second, .val (.int (1 : Int32))] [])) _
                        refine XS.iconst Xj124.here hx rfl (hb hby at_156) ?_
                        show Steps p.tables e below (Tj124.setTop (mkF m 157 #[.val (.int p1), .val (.int p2), .val (.int p3), .val (.int p4), .val (.int (p1 &&& (2147483647 : Int32))), .val (.int (p2 &&& (2147483647 : Int32))), .val (.int fr), .val (.int to), .val (.int ((fr.toUInt32 >>> ((6 : Int32) &&& 31).toUInt32).toInt32)), .val (.int (((to - (1 : Int32)).toUInt32 >>> ((6 : Int32) &&& 31).toUInt32).toInt32)), .val (.int (((((to - (1 : Int32)).toUInt32 >>> ((6 : Int32) &&& 31).toUInt32).toInt32) - ((fr.toUInt32 >>> ((6 : Int32) &&& 31).toUInt32).toInt32)) + (1 : Int32))), .val (.int w), .val (.int bit), .val (.long r), .second, .val (.int got), .val (.long pos), .second, .val (.int (1 : Int32))] [(.int (1 : Int32))])) _
                        refine XS.goto Xj124.here hx rfl (pc0 := 157) (pc' := 161) rfl (hb hby at_157) (by decide) (by decide) ?_
                        exact kt
                      show own_End p e below s (Tj124.setTop (mkF m 161 #[.val (.int p1), .val (.int p2), .val (.int p3), .val (.int p4), .val (.int (p1 &&& (2147483647 : Int32))), .val (.int (p2 &&& (2147483647 : Int32))), .val (.int fr), .val (.int to), .val (.int ((fr.toUInt32 >>> ((6 : Int32) &&& 31).toUInt32).toInt32)), .val (.int (((to - (1 : Int32)).toUInt32 >>> ((6 : Int32) &&& 31).toUInt32).toInt32)), .val (.int (((((to - (1 : Int32)).toUInt32 >>> ((6 : Int32) &&& 31).toUInt32).toInt32) - ((fr.toUInt32 >>> ((6 : Int32) &&& 31).toUInt32).toInt32)) + (1 : Int32))), .val (.int w), .val (.int bit), .val (.long r), .second, .val (.int got), .val (.long pos), .second, .val (.int (1 : Int32))] [(.int (1 : Int32))])) (Q0 Z p1 p2 p3 p4 h0 n0) room_1.cells room_1.slots
                      have hv : (own_law p1 p2 p3 p4) = (1 : Int32) := hj.trans (by simp only [own_law_124, if_neg hc130_5, if_pos hc139_7, if_pos hc153_8])
                      obtain ⟨fs, hr, hrun, hended, hW, hsame⟩ := Xj124.leave (v := some (.int (1 : Int32))) (fun h => by rw [Bd.returns] at h; cases h)
                      refine ⟨_, _, ?_, hrun, hended, _, _, rfl, ?_, ⟨_, rfl⟩, hW, hsame.mono (by decide) (by decide)⟩
                      · exact retN Xj124 hx (t := .boolean) Bd.returns (by simp) (hb hby at_161) hr
                      · show Q0 Z p1 p2 p3 p4 h0 n0 _ Tj124.heap _
                        rw [ej124]
                        exact ⟨(congrArg (fun z => some (Value.int z)) hv.symm), Nj124⟩
                    · refine own_pre (A := Tj124.setTop (mkF m 161 #[.val (.int p1), .val (.int p2), .val (.int p3), .val (.int p4), .val (.int (p1 &&& (2147483647 : Int32))), .val (.int (p2 &&& (2147483647 : Int32))), .val (.int fr), .val (.int to), .val (.int ((fr.toUInt32 >>> ((6 : Int32) &&& 31).toUInt32).toInt32)), .val (.int (((to - (1 : Int32)).toUInt32 >>> ((6 : Int32) &&& 31).toUInt32).toInt32)), .val (.int (((((to - (1 : Int32)).toUInt32 >>> ((6 : Int32) &&& 31).toUInt32).toInt32) - ((fr.toUInt32 >>> ((6 : Int32) &&& 31).toUInt32).toInt32)) + (1 : Int32))), .val (.int w), .val (.int bit), .val (.long r), .second, .val (.int got), .val (.long pos), .second, .val (.int (1 : Int32))] [(.int (0 : Int32))])) (fun tt kt => ?_) ?_
                      · show Steps p.tables e below (Tj124.setTop (mkF m 153 #[.val (.int p1), .val (.int p2), .val (.int p3), .val (.int p4), .val (.int (p1 &&& (2147483647 : Int32))), .val (.int (p2 &&& (2147483647 : Int32))), .val (.int fr), .val (.int to), .val (.int ((fr.toUInt32 >>> ((6 : Int32) &&& 31).toUInt32).toInt32)), .val (.int (((to - (1 : Int32)).toUInt32 >>> ((6 : Int32) &&& 31).toUInt32).toInt32)), .val (.int (((((to - (1 : Int32)).toUInt32 >>> ((6 : Int32) &&& 31).toUInt32).toInt32) - ((fr.toUInt32 >>> ((6 : Int32) &&& 31).toUInt32).toInt32)) + (1 : Int32))), .val (.int w), .val (.int bit), .val (.long r), .second, .val (.int got), .val (.long pos), .second, .val (.int (1 : Int32))] [(.int (1 : Int32)), (.int got)])) _
                        refine XS.icmpYes Xj124.here hx rfl (pc0 := 153) (pc' := 160) rfl (hb hby at_153) rfl (feq hc153_8).2 (by decide) (by decide) ?_
                        show Steps p.tables e below (Tj124.setTop (mkF m 160 #[.val (.int p1), .val (.int p2), .val (.int p3), .val (.int p4), .val (.int (p1 &&& (2147483647 : Int32))), .val (.int (p2 &&& (2147483647 : Int32))), .val (.int fr), .val (.int to), .val (.int ((fr.toUInt32 >>> ((6 : Int32) &&& 31).toUInt32).toInt32)), .val (.int (((to - (1 : Int32)).toUInt32 >>> ((6 : Int32) &&& 31).toUInt32).toInt32)), .val (.int (((((to - (1 : Int32)).toUInt32 >>> ((6 : Int32) &&& 31).toUInt32).toInt32) - ((fr.toUInt32 >>> ((6 : Int32) &&& 31).toUInt32).toInt32)) + (1 : Int32))), .val (.int w), .val (.int bit), .val (.long r), .second, .val (.int got), .val (.long pos), .second, .val (.int (1 : Int32))] [])) _
                        refine XS.iconst Xj124.here hx rfl (hb hby at_160) ?_
                        exact kt
                      show own_End p e below s (Tj124.setTop (mkF m 161 #[.val (.int p1), .val (.int p2), .val (.int p3), .val (.int p4), .val (.int (p1 &&& (2147483647 : Int32))), .val (.int (p2 &&& (2147483647 : Int32))), .val (.int fr), .val (.int to), .val (.int ((fr.toUInt32 >>> ((6 : Int32) &&& 31).toUInt32).toInt32)), .val (.int (((to - (1 : Int32)).toUInt32 >>> ((6 : Int32) &&& 31).toUInt32).toInt32)), .val (.int (((((to - (1 : Int32)).toUInt32 >>> ((6 : Int32) &&& 31).toUInt32).toInt32) - ((fr.toUInt32 >>> ((6 : Int32) &&& 31).toUInt32).toInt32)) + (1 : Int32))), .val (.int w), .val (.int bit), .val (.long r), .second, .val (.int got), .val (.long pos), .second, .val (.int (1 : Int32))] [(.int (0 : Int32))])) (Q0 Z p1 p2 p3 p4 h0 n0) room_1.cells room_1.slots
                      have hv : (own_law p1 p2 p3 p4) = (0 : Int32) := hj.trans (by simp only [own_law_124, if_neg hc130_5, if_pos hc139_7, if_neg hc153_8])
                      obtain ⟨fs, hr, hrun, hended, hW, hsame⟩ := Xj124.leave (v := some (.int (0 : Int32))) (fun h => by rw [Bd.returns] at h; cases h)
                      refine ⟨_, _, ?_, hrun, hended, _, _, rfl, ?_, ⟨_, rfl⟩, hW, hsame.mono (by decide) (by decide)⟩
                      · exact retN Xj124 hx (t := .boolean) Bd.returns (by simp) (hb hby at_161) hr
                      · show Q0 Z p1 p2 p3 p4 h0 n0 _ Tj124.heap _
                        rw [ej124]
                        exact ⟨(congrArg (fun z => some (Value.int z)) hv.symm), Nj124⟩
                  · refine own_pre (A := Tj124.setTop (mkF m 153 #[.val (.int p1), .val (.int p2), .val (.int p3), .val (.int p4), .val (.int (p1 &&& (2147483647 : Int32))), .val (.int (p2 &&& (2147483647 : Int32))), .val (.int fr), .val (.int to), .val (.int ((fr.toUInt32 >>> ((6 : Int32) &&& 31).toUInt32).toInt32)), .val (.int (((to - (1 : Int32)).toUInt32 >>> ((6 : Int32) &&& 31).toUInt32).toInt32)), .val (.int (((((to - (1 : Int32)).toUInt32 >>> ((6 : Int32) &&& 31).toUInt32).toInt32) - ((fr.toUInt32 >>> ((6 : Int32) &&& 31).toUInt32).toInt32)) + (1 : Int32))), .val (.int w), .val (.int bit), .val (.long r), .second, .val (.int got), .val (.long pos), .second, .val (.int (0 : Int32))] [(.int (0 : Int32)), (.int got)])) (fun tt kt => ?_) ?_
                    · show Steps p.tables e below (Tj124.setTop (mkF m 139 #[.val (.int p1), .val (.int p2), .val (.int p3), .val (.int p4), .val (.int (p1 &&& (2147483647 : Int32))), .val (.int (p2 &&& (2147483647 : Int32))), .val (.int fr), .val (.int to), .val (.int ((fr.toUInt32 >>> ((6 : Int32) &&& 31).toUInt32).toInt32)), .val (.int (((to - (1 : Int32)).toUInt32 >>> ((6 : Int32) &&& 31).toUInt32).toInt32)), .val (.int (((((to - (1 : Int32)).toUInt32 >>> ((6 : Int32) &&& 31).toUInt32).toInt32) - ((fr.toUInt32 >>> ((6 : Int32) &&& 31).toUInt32).toInt32)) + (1 : Int32))), .val (.int w), .val (.int bit), .val (.long r), .second, .val (.int got), .val (.long pos), .second, .unset] [(.int (lcmpW pos (to.toInt64)))])) _
                      refine XS.ifYes Xj124.here hx rfl (pc0 := 139) (pc' := 146) rfl (hb hby at_139) rfl ((if0 _ _).trans (flt (fun q => hc139_7 ((lw_lt pos (to.toInt64)).mp q))).2.1) (by decide) (by decide) ?_
                      show Steps p.tables e below (Tj124.setTop (mkF m 146 #[.val (.int p1), .val (.int p2), .val (.int p3), .val (.int p4), .val (.int (p1 &&& (2147483647 : Int32))), .val (.int (p2 &&& (2147483647 : Int32))), .val (.int fr), .val (.int to), .val (.int ((fr.toUInt32 >>> ((6 : Int32) &&& 31).toUInt32).toInt32)), .val (.int (((to - (1 : Int32)).toUInt32 >>> ((6 : Int32) &&& 31).toUInt32).toInt32)), .val (.int (((((to - (1 : Int32)).toUInt32 >>> ((6 : Int32) &&& 31).toUInt32).toInt32) - ((fr.toUInt32 >>> ((6 : Int32) &&& 31).toUInt32).toInt32)) + (1 : Int32))), .val (.int w), .val (.int bit), .val (.long r), .second, .val (.int got), .val (.long pos), .second, .unset] [])) _
                      refine XS.iconst Xj124.here hx rfl (hb hby at_146) ?_
                      show Steps p.tables e below (Tj124.setTop (mkF m 147 #[.val (.int p1), .val (.int p2), .val (.int p3), .val (.int p4), .val (.int (p1 &&& (2147483647 : Int32))), .val (.int (p2 &&& (2147483647 : Int32))), .val (.int fr), .val (.int to), .val (.int ((fr.toUInt32 >>> ((6 : Int32) &&& 31).toUInt32).toInt32)), .val (.int (((to - (1 : Int32)).toUInt32 >>> ((6 : Int32) &&& 31).toUInt32).toInt32)), .val (.int (((((to - (1 : Int32)).toUInt32 >>> ((6 : Int32) &&& 31).toUInt32).toInt32) - ((fr.toUInt32 >>> ((6 : Int32) &&& 31).toUInt32).toInt32)) + (1 : Int32))), .val (.int w), .val (.int bit), .val (.long r), .second, .val (.int got), .val (.long pos), .second, .unset] [(.int (0 : Int32))])) _
                      refine XS.istore Xj124.here hx rfl (hb hby at_147) rfl (l' := #[.val (.int p1), .val (.int p2), .val (.int p3), .val (.int p4), .val (.int (p1 &&& (2147483647 : Int32))), .val (.int (p2 &&& (2147483647 : Int32))), .val (.int fr), .val (.int to), .val (.int ((fr.toUInt32 >>> ((6 : Int32) &&& 31).toUInt32).toInt32)), .val (.int (((to - (1 : Int32)).toUInt32 >>> ((6 : Int32) &&& 31).toUInt32).toInt32)), .val (.int (((((to - (1 : Int32)).toUInt32 >>> ((6 : Int32) &&& 31).toUInt32).toInt32) - ((fr.toUInt32 >>> ((6 : Int32) &&& 31).toUInt32).toInt32)) + (1 : Int32))), .val (.int w), .val (.int bit), .val (.long r), .second, .val (.int got), .val (.long pos), .second, .val (.int (0 : Int32))]) rfl ?_
                      show Steps p.tables e below (Tj124.setTop (mkF m 149 #[.val (.int p1), .val (.int p2), .val (.int p3), .val (.int p4), .val (.int (p1 &&& (2147483647 : Int32))), .val (.int (p2 &&& (2147483647 : Int32))), .val (.int fr), .val (.int to), .val (.int ((fr.toUInt32 >>> ((6 : Int32) &&& 31).toUInt32).toInt32)), .val (.int (((to - (1 : Int32)).toUInt32 >>> ((6 : Int32) &&& 31).toUInt32).toInt32)), .val (.int (((((to - (1 : Int32)).toUInt32 >>> ((6 : Int32) &&& 31).toUInt32).toInt32) - ((fr.toUInt32 >>> ((6 : Int32) &&& 31).toUInt32).toInt32)) + (1 : Int32))), .val (.int w), .val (.int bit), .val (.long r), .second, .val (.int got), .val (.long pos), .second, .val (.int (0 : Int32))] [])) _
                      refine XS.iload Xj124.here hx rfl (hb hby at_149) rfl ?_
                      show Steps p.tables e below (Tj124.setTop (mkF m 151 #[.val (.int p1), .val (.int p2), .val (.int p3), .val (.int p4), .val (.int (p1 &&& (2147483647 : Int32))), .val (.int (p2 &&& (2147483647 : Int32))), .val (.int fr), .val (.int to), .val (.int ((fr.toUInt32 >>> ((6 : Int32) &&& 31).toUInt32).toInt32)), .val (.int (((to - (1 : Int32)).toUInt32 >>> ((6 : Int32) &&& 31).toUInt32).toInt32)), .val (.int (((((to - (1 : Int32)).toUInt32 >>> ((6 : Int32) &&& 31).toUInt32).toInt32) - ((fr.toUInt32 >>> ((6 : Int32) &&& 31).toUInt32).toInt32)) + (1 : Int32))), .val (.int w), .val (.int bit), .val (.long r), .second, .val (.int got), .val (.long pos), .second, .val (.int (0 : Int32))] [(.int got)])) _
                      refine XS.iload Xj124.here hx rfl (hb hby at_151) rfl ?_
                      exact kt
                    show own_End p e below s (Tj124.setTop (mkF m 153 #[.val (.int p1), .val (.int p2), .val (.int p3), .val (.int p4), .val (.int (p1 &&& (2147483647 : Int32))), .val (.int (p2 &&& (2147483647 : Int32))), .val (.int fr), .val (.int to), .val (.int ((fr.toUInt32 >>> ((6 : Int32) &&& 31).toUInt32).toInt32)), .val (.int (((to - (1 : Int32)).toUInt32 >>> ((6 : Int32) &&& 31).toUInt32).toInt32)), .val (.int (((((to - (1 : Int32)).toUInt32 >>> ((6 : Int32) &&& 31).toUInt32).toInt32) - ((fr.toUInt32 >>> ((6 : Int32) &&& 31).toUInt32).toInt32)) + (1 : Int32))), .val (.int w), .val (.int bit), .val (.long r), .second, .val (.int got), .val (.long pos), .second, .val (.int (0 : Int32))] [(.int (0 : Int32)), (.int got)])) (Q0 Z p1 p2 p3 p4 h0 n0) room_1.cells room_1.slots
                    by_cases hc153_9 : got = (0 : Int32)
                    · refine own_pre (A := Tj124.setTop (mkF m 161 #[.val (.int p1), .val (.int p2), .val (.int p3), .val (.int p4), .val (.int (p1 &&& (2147483647 : Int32))), .val (.int (p2 &&& (2147483647 : Int32))), .val (.int fr), .val (.int to), .val (.int ((fr.toUInt32 >>> ((6 : Int32) &&& 31).toUInt32).toInt32)), .val (.int (((to - (1 : Int32)).toUInt32 >>> ((6 : Int32) &&& 31).toUInt32).toInt32)), .val (.int (((((to - (1 : Int32)).toUInt32 >>> ((6 : Int32) &&& 31).toUInt32).toInt32) - ((fr.toUInt32 >>> ((6 : Int32) &&& 31).toUInt32).toInt32)) + (1 : Int32))), .val (.int w), .val (.int bit), .val (.long r), .second, .val (.int got), .val (.long pos), .second, .val (.int (0 : Int32))] [(.int (1 : Int32))])) (fun tt kt => ?_) ?_
                      · show Steps p.tables e below (Tj124.setTop (mkF m 153 #[.val (.int p1), .val (.int p2), .val (.int p3), .val (.int p4), .val (.int (p1 &&& (2147483647 : Int32))), .val (.int (p2 &&& (2147483647 : Int32))), .val (.int fr), .val (.int to), .val (.int ((fr.toUInt32 >>> ((6 : Int32) &&& 31).toUInt32).toInt32)), .val (.int (((to - (1 : Int32)).toUInt32 >>> ((6 : Int32) &&& 31).toUInt32).toInt32)), .val (.int (((((to - (1 : Int32)).toUInt32 >>> ((6 : Int32) &&& 31).toUInt32).toInt32) - ((fr.toUInt32 >>> ((6 : Int32) &&& 31).toUInt32).toInt32)) + (1 : Int32))), .val (.int w), .val (.int bit), .val (.long r), .second, .val (.int got), .val (.long pos), .second, .val (.int (0 : Int32))] [(.int (0 : Int32)), (.int got)])) _
                        refine XS.icmpNo Xj124.here hx rfl (hb hby at_153) rfl (teq hc153_9).2 ?_
                        show Steps p.tables e below (Tj124.setTop (mkF m 156 #[.val (.int p1), .val (.int p2), .val (.int p3), .val (.int p4), .val (.int (p1 &&& (2147483647 : Int32))), .val (.int (p2 &&& (2147483647 : Int32))), .val (.int fr), .val (.int to), .val (.int ((fr.toUInt32 >>> ((6 : Int32) &&& 31).toUInt32).toInt32)), .val (.int (((to - (1 : Int32)).toUInt32 >>> ((6 : Int32) &&& 31).toUInt32).toInt32)), .val (.int (((((to - (1 : Int32)).toUInt32 >>> ((6 : Int32) &&& 31).toUInt32).toInt32) - ((fr.toUInt32 >>> ((6 : Int32) &&& 31).toUInt32).toInt32)) + (1 : Int32))), .val (.int w), .val (.int bit), .val (.long r), .second, .val (.int got), .val (.long pos), .second, .val (.int (0 : Int32))] [])) _
                        refine XS.iconst Xj124.here hx rfl (hb hby at_156) ?_
                        show Steps p.tables e below (Tj124.setTop (mkF m 157 #[.val (.int p1), .val (.int p2), .val (.int p3), .val (.int p4), .val (.int (p1 &&& (2147483647 : Int32))), .val (.int (p2 &&& (2147483647 : Int32))), .val (.int fr), .val (.int to), .val (.int ((fr.toUInt32 >>> ((6 : Int32) &&& 31).toUInt32).toInt32)), .val (.int (((to - (1 : Int32)).toUInt32 >>> ((6 : Int32) &&& 31).toUInt32).toInt32)), .val (.int (((((to - (1 : Int32)).toUInt32 >>> ((6 : Int32) &&& 31).toUInt32).toInt32) - ((fr.toUInt32 >>> ((6 : Int32) &&& 31).toUInt32).toInt32)) + (1 : Int32))), .val (.int w), .val (.int bit), .val (.long r), .second, .val (.int got), .val (.long pos), .second, .val (.int (0 : Int32))] [(.int (1 : Int32))])) _
                        refine XS.goto Xj124.here hx rfl (pc0 := 157) (pc' := 161) rfl (hb hby at_157) (by decide) (by decide) ?_
                        exact kt
                      show own_End p e below s (Tj124.setTop (mkF m 161 #[.val (.int p1), .val (.int p2), .val (.int p3), .val (.int p4), .val (.int (p1 &&& (2147483647 : Int32))), .val (.int (p2 &&& (2147483647 : Int32))), .val (.int fr), .val (.int to), .val (.int ((fr.toUInt32 >>> ((6 : Int32) &&& 31).toUInt32).toInt32)), .val (.int (((to - (1 : Int32)).toUInt32 >>> ((6 : Int32) &&& 31).toUInt32).toInt32)), .val (.int (((((to - (1 : Int32)).toUInt32 >>> ((6 : Int32) &&& 31).toUInt32).toInt32) - ((fr.toUInt32 >>> ((6 : Int32) &&& 31).toUInt32).toInt32)) + (1 : Int32))), .val (.int w), .val (.int bit), .val (.long r), .second, .val (.int got), .val (.long pos), .second, .val (.int (0 : Int32))] [(.int (1 : Int32))])) (Q0 Z p1 p2 p3 p4 h0 n0) room_1.cells room_1.slots
                      have hv : (own_law p1 p2 p3 p4) = (1 : Int32) := hj.trans (by simp only [own_law_124, if_neg hc130_5, if_neg hc139_7, if_pos hc153_9])
                      obtain ⟨fs, hr, hrun, hended, hW, hsame⟩ := Xj124.leave (v := some (.int (1 : Int32))) (fun h => by rw [Bd.returns] at h; cases h)
                      refine ⟨_, _, ?_, hrun, hended, _, _, rfl, ?_, ⟨_, rfl⟩, hW, hsame.mono (by decide) (by decide)⟩
                      · exact retN Xj124 hx (t := .boolean) Bd.returns (by simp) (hb hby at_161) hr
                      · show Q0 Z p1 p2 p3 p4 h0 n0 _ Tj124.heap _
                        rw [ej124]
                        exact ⟨(congrArg (fun z => some (Value.int z)) hv.symm), Nj124⟩
                    · refine own_pre (A := Tj124.setTop (mkF m 161 #[.val (.int p1), .val (.int p2), .val (.int p3), .val (.int p4), .val (.int (p1 &&& (2147483647 : Int32))), .val (.int (p2 &&& (2147483647 : Int32))), .val (.int fr), .val (.int to), .val (.int ((fr.toUInt32 >>> ((6 : Int32) &&& 31).toUInt32).toInt32)), .val (.int (((to - (1 : Int32)).toUInt32 >>> ((6 : Int32) &&& 31).toUInt32).toInt32)), .val (.int (((((to - (1 : Int32)).toUInt32 >>> ((6 : Int32) &&& 31).toUInt32).toInt32) - ((fr.toUInt32 >>> ((6 : Int32) &&& 31).toUInt32).toInt32)) + (1 : Int32))), .val (.int w), .val (.int bit), .val (.long r), .second, .val (.int got), .val (.long pos), .second, .val (.int (0 : Int32))] [(.int (0 : Int32))])) (fun tt kt => ?_) ?_
                      · show Steps p.tables e below (Tj124.setTop (mkF m 153 #[.val (.int p1), .val (.int p2), .val (.int p3), .val (.int p4), .val (.int (p1 &&& (2147483647 : Int32))), .val (.int (p2 &&& (2147483647 : Int32))), .val (.int fr), .val (.int to), .val (.int ((fr.toUInt32 >>> ((6 : Int32) &&& 31).toUInt32).toInt32)), .val (.int (((to - (1 : Int32)).toUInt32 >>> ((6 : Int32) &&& 31).toUInt32).toInt32)), .val (.int (((((to - (1 : Int32)).toUInt32 >>> ((6 : Int32) &&& 31).toUInt32).toInt32) - ((fr.toUInt32 >>> ((6 : Int32) &&& 31).toUInt32).toInt32)) + (1 : Int32))), .val (.int w), .val (.int bit), .val (.long r), .second, .val (.int got), .val (.long pos), .second, .val (.int (0 : Int32))] [(.int (0 : Int32)), (.int got)])) _
                        refine XS.icmpYes Xj124.here hx rfl (pc0 := 153) (pc' := 160) rfl (hb hby at_153) rfl (feq hc153_9).2 (by decide) (by decide) ?_
                        show Steps p.tables e below (Tj124.setTop (mkF m 160 #[.val (.int p1), .val (.int p2), .val (.int p3), .val (.int p4), .val (.int (p1 &&& (2147483647 : Int32))), .val (.int (p2 &&& (2147483647 : Int32))), .val (.int fr), .val (.int to), .val (.int ((fr.toUInt32 >>> ((6 : Int32) &&& 31).toUInt32).toInt32)), .val (.int (((to - (1 : Int32)).toUInt32 >>> ((6 : Int32) &&& 31).toUInt32).toInt32)), .val (.int (((((to - (1 : Int32)).toUInt32 >>> ((6 : Int32) &&& 31).toUInt32).toInt32) - ((fr.toUInt32 >>> ((6 : Int32) &&& 31).toUInt32).toInt32)) + (1 : Int32))), .val (.int w), .val (.int bit), .val (.long r), .second, .val (.int got), .val (.long pos), .second, .val (.int (0 : Int32))] [])) _
                        refine XS.iconst Xj124.here hx rfl (hb hby at_160) ?_
                        exact kt
                      show own_End p e below s (Tj124.setTop (mkF m 161 #[.val (.int p1), .val (.int p2), .val (.int p3), .val (.int p4), .val (.int (p1 &&& (2147483647 : Int32))), .val (.int (p2 &&& (2147483647 : Int32))), .val (.int fr), .val (.int to), .val (.int ((fr.toUInt32 >>> ((6 : Int32) &&& 31).toUInt32).toInt32)), .val (.int (((to - (1 : Int32)).toUInt32 >>> ((6 : Int32) &&& 31).toUInt32).toInt32)), .val (.int (((((to - (1 : Int32)).toUInt32 >>> ((6 : Int32) &&& 31).toUInt32).toInt32) - ((fr.toUInt32 >>> ((6 : Int32) &&& 31).toUInt32).toInt32)) + (1 : Int32))), .val (.int w), .val (.int bit), .val (.long r), .second, .val (.int got), .val (.long pos), .second, .val (.int (0 : Int32))] [(.int (0 : Int32))])) (Q0 Z p1 p2 p3 p4 h0 n0) room_1.cells room_1.slots
                      have hv : (own_law p1 p2 p3 p4) = (0 : Int32) := hj.trans (by simp only [own_law_124, if_neg hc130_5, if_neg hc139_7, if_neg hc153_9])
                      obtain ⟨fs, hr, hrun, hended, hW, hsame⟩ := Xj124.leave (v := some (.int (0 : Int32))) (fun h => by rw [Bd.returns] at h; cases h)
                      refine ⟨_, _, ?_, hrun, hended, _, _, rfl, ?_, ⟨_, rfl⟩, hW, hsame.mono (by decide) (by decide)⟩
                      · exact retN Xj124 hx (t := .boolean) Bd.returns (by simp) (hb hby at_161) hr
                      · show Q0 Z p1 p2 p3 p4 h0 n0 _ Tj124.heap _
                        rw [ej124]
                        exact ⟨(congrArg (fun z => some (Value.int z)) hv.symm), Nj124⟩
              exact j124 _ _ Xj110 ej110 Nj110 (((w.toInt64) <<< ((6 : Int32) &&& 0x3f).toInt64) + (bit.toInt64))  (hj.trans (by simp only [own_law_110]))
            by_cases hc102_10 : (((r.toUInt64 >>> (bit &&& 0x3f).toInt64.toUInt64).toInt64) &&& (1 : Int64)) = (0 : Int64)
            · refine own_pre (A := Tj93.setTop (mkF m 110 #[.val (.int p1), .val (.int p2), .val (.int p3), .val (.int p4), .val (.int (p1 &&& (2147483647 : Int32))), .val (.int (p2 &&& (2147483647 : Int32))), .val (.int fr), .val (.int to), .val (.int ((fr.toUInt32 >>> ((6 : Int32) &&& 31).toUInt32).toInt32)), .val (.int (((to - (1 : Int32)).toUInt32 >>> ((6 : Int32) &&& 31).toUInt32).toInt32)), .val (.int (((((to - (1 : Int32)).toUInt32 >>> ((6 : Int32) &&& 31).toUInt32).toInt32) - ((fr.toUInt32 >>> ((6 : Int32) &&& 31).toUInt32).toInt32)) + (1 : Int32))), .val (.int w), .val (.int bit), .val (.long r), .second, .unset, .unset, .unset, .unset] [(.int (0 : Int32))])) (fun tt kt => ?_) ?_
              · show Steps p.tables e below (Tj93.setTop (mkF m 102 #[.val (.int p1), .val (.int p2), .val (.int p3), .val (.int p4), .val (.int (p1 &&& (2147483647 : Int32))), .val (.int (p2 &&& (2147483647 : Int32))), .val (.int fr), .val (.int to), .val (.int ((fr.toUInt32 >>> ((6 : Int32) &&& 31).toUInt32).toInt32)), .val (.int (((to - (1 : Int32)).toUInt32 >>> ((6 : Int32) &&& 31).toUInt32).toInt32)), .val (.int (((((to - (1 : Int32)).toUInt32 >>> ((6 : Int32) &&& 31).toUInt32).toInt32) - ((fr.toUInt32 >>> ((6 : Int32) &&& 31).toUInt32).toInt32)) + (1 : Int32))), .val (.int w), .val (.int bit), .val (.long r), .second, .unset, .unset, .unset, .unset] [(.int (lcmpW (((r.toUInt64 >>> (bit &&& 0x3f).toInt64.toUInt64).toInt64) &&& (1 : Int64)) (0 : Int64)))])) _
                refine XS.ifYes Xj93.here hx rfl (pc0 := 102) (pc' := 109) rfl (hb hby at_102) rfl ((if0 _ _).trans (teq ((lw_eq (((r.toUInt64 >>> (bit &&& 0x3f).toInt64.toUInt64).toInt64) &&& (1 : Int64)) (0 : Int64)).mpr hc102_10)).1) (by decide) (by decide) ?_
                show Steps p.tables e below (Tj93.setTop (mkF m 109 #[.val (.int p1), .val (.int p2), .val (.int p3), .val (.int p4), .val (.int (p1 &&& (2147483647 : Int32))), .val (.int (p2 &&& (2147483647 : Int32))), .val (.int fr), .val (.int to), .val (.int ((fr.toUInt32 >>> ((6 : Int32) &&& 31).toUInt32).toInt32)), .val (.int (((to - (1 : Int32)).toUInt32 >>> ((6 : Int32) &&& 31).toUInt32).toInt32)), .val (.int (((((to - (1 : Int32)).toUInt32 >>> ((6 : Int32) &&& 31).toUInt32).toInt32) - ((fr.toUInt32 >>> ((6 : Int32) &&& 31).toUInt32).toInt32)) + (1 : Int32))), .val (.int w), .val (.int bit), .val (.long r), .second, .unset, .unset, .unset, .unset] [])) _
                refine XS.iconst Xj93.here hx rfl (hb hby at_109) ?_
                exact kt
              show own_End p e below s (Tj93.setTop (mkF m 110 #[.val (.int p1), .val (.int p2), .val (.int p3), .val (.int p4), .val (.int (p1 &&& (2147483647 : Int32))), .val (.int (p2 &&& (2147483647 : Int32))), .val (.int fr), .val (.int to), .val (.int ((fr.toUInt32 >>> ((6 : Int32) &&& 31).toUInt32).toInt32)), .val (.int (((to - (1 : Int32)).toUInt32 >>> ((6 : Int32) &&& 31).toUInt32).toInt32)), .val (.int (((((to - (1 : Int32)).toUInt32 >>> ((6 : Int32) &&& 31).toUInt32).toInt32) - ((fr.toUInt32 >>> ((6 : Int32) &&& 31).toUInt32).toInt32)) + (1 : Int32))), .val (.int w), .val (.int bit), .val (.long r), .second, .unset, .unset, .unset, .unset] [(.int (0 : Int32))])) (Q0 Z p1 p2 p3 p4 h0 n0) room_1.cells room_1.slots
              exact j110 _ _ Xj93 ej93 Nj93 (0 : Int32)  (hj.trans (by simp only [own_law_93, if_pos hc102_10]))
            · refine own_pre (A := Tj93.setTop (mkF m 110 #[.val (.int p1), .val (.int p2), .val (.int p3), .val (.int p4), .val (.int (p1 &&& (2147483647 : Int32))), .val (.int (p2 &&& (2147483647 : Int32))), .val (.int fr), .val (.int to), .val (.int ((fr.toUInt32 >>> ((6 : Int32) &&& 31).toUInt32).toInt32)), .val (.int (((to - (1 : Int32)).toUInt32 >>> ((6 : Int32) &&& 31).toUInt32).toInt32)), .val (.int (((((to - (1 : Int32)).toUInt32 >>> ((6 : Int32) &&& 31).toUInt32).toInt32) - ((fr.toUInt32 >>> ((6 : Int32) &&& 31).toUInt32).toInt32)) + (1 : Int32))), .val (.int w), .val (.int bit), .val (.long r), .second, .unset, .unset, .unset, .unset] [(.int (1 : Int32))])) (fun tt kt => ?_) ?_
              · show Steps p.tables e below (Tj93.setTop (mkF m 102 #[.val (.int p1), .val (.int p2), .val (.int p3), .val (.int p4), .val (.int (p1 &&& (2147483647 : Int32))), .val (.int (p2 &&& (2147483647 : Int32))), .val (.int fr), .val (.int to), .val (.int ((fr.toUInt32 >>> ((6 : Int32) &&& 31).toUInt32).toInt32)), .val (.int (((to - (1 : Int32)).toUInt32 >>> ((6 : Int32) &&& 31).toUInt32).toInt32)), .val (.int (((((to - (1 : Int32)).toUInt32 >>> ((6 : Int32) &&& 31).toUInt32).toInt32) - ((fr.toUInt32 >>> ((6 : Int32) &&& 31).toUInt32).toInt32)) + (1 : Int32))), .val (.int w), .val (.int bit), .val (.long r), .second, .unset, .unset, .unset, .unset] [(.int (lcmpW (((r.toUInt64 >>> (bit &&& 0x3f).toInt64.toUInt64).toInt64) &&& (1 : Int64)) (0 : Int64)))])) _
                refine XS.ifNo Xj93.here hx rfl (hb hby at_102) rfl ((if0 _ _).trans (feq (fun q => hc102_10 ((lw_eq (((r.toUInt64 >>> (bit &&& 0x3f).toInt64.toUInt64).toInt64) &&& (1 : Int64)) (0 : Int64)).mp q))).1) ?_
                show Steps p.tables e below (Tj93.setTop (mkF m 105 #[.val (.int p1), .val (.int p2), .val (.int p3), .val (.int p4), .val (.int (p1 &&& (2147483647 : Int32))), .val (.int (p2 &&& (2147483647 : Int32))), .val (.int fr), .val (.int to), .val (.int ((fr.toUInt32 >>> ((6 : Int32) &&& 31).toUInt32).toInt32)), .val (.int (((to - (1 : Int32)).toUInt32 >>> ((6 : Int32) &&& 31).toUInt32).toInt32)), .val (.int (((((to - (1 : Int32)).toUInt32 >>> ((6 : Int32) &&& 31).toUInt32).toInt32) - ((fr.toUInt32 >>> ((6 : Int32) &&& 31).toUInt32).toInt32)) + (1 : Int32))), .val (.int w), .val (.int bit), .val (.long r), .second, .unset, .unset, .unset, .unset] [])) _
                refine XS.iconst Xj93.here hx rfl (hb hby at_105) ?_
                show Steps p.tables e below (Tj93.setTop (mkF m 106 #[.val (.int p1), .val (.int p2), .val (.int p3), .val (.int p4), .val (.int (p1 &&& (2147483647 : Int32))), .val (.int (p2 &&& (2147483647 : Int32))), .val (.int fr), .val (.int to), .val (.int ((fr.toUInt32 >>> ((6 : Int32) &&& 31).toUInt32).toInt32)), .val (.int (((to - (1 : Int32)).toUInt32 >>> ((6 : Int32) &&& 31).toUInt32).toInt32)), .val (.int (((((to - (1 : Int32)).toUInt32 >>> ((6 : Int32) &&& 31).toUInt32).toInt32) - ((fr.toUInt32 >>> ((6 : Int32) &&& 31).toUInt32).toInt32)) + (1 : Int32))), .val (.int w), .val (.int bit), .val (.long r), .second, .unset, .unset, .unset, .unset] [(.int (1 : Int32))])) _
                refine XS.goto Xj93.here hx rfl (pc0 := 106) (pc' := 110) rfl (hb hby at_106) (by decide) (by decide) ?_
                exact kt
              show own_End p e below s (Tj93.setTop (mkF m 110 #[.val (.int p1), .val (.int p2), .val (.int p3), .val (.int p4), .val (.int (p1 &&& (2147483647 : Int32))), .val (.int (p2 &&& (2147483647 : Int32))), .val (.int fr), .val (.int to), .val (.int ((fr.toUInt32 >>> ((6 : Int32) &&& 31).toUInt32).toInt32)), .val (.int (((to - (1 : Int32)).toUInt32 >>> ((6 : Int32) &&& 31).toUInt32).toInt32)), .val (.int (((((to - (1 : Int32)).toUInt32 >>> ((6 : Int32) &&& 31).toUInt32).toInt32) - ((fr.toUInt32 >>> ((6 : Int32) &&& 31).toUInt32).toInt32)) + (1 : Int32))), .val (.int w), .val (.int bit), .val (.long r), .second, .unset, .unset, .unset, .unset] [(.int (1 : Int32))])) (Q0 Z p1 p2 p3 p4 h0 n0) room_1.cells room_1.slots
              exact j110 _ _ Xj93 ej93 Nj93 (1 : Int32)  (hj.trans (by simp only [own_law_93, if_neg hc102_10]))
          exact j93 _ _ X4 e4 N4 (own_bits w fr to)  (hj.trans (by simp only [own_law_82]))
        exact j82 _ _ Xj76 ej76 Nj76 (p4 &&& (63 : Int32))  (hj.trans (by simp only [own_law_76]))
      exact j76 _ _ Xj39 ej39 Nj39 (((fr.toUInt32 >>> ((6 : Int32) &&& 31).toUInt32).toInt32) + ((p3 &&& (2147483647 : Int32)) % (((((to - (1 : Int32)).toUInt32 >>> ((6 : Int32) &&& 31).toUInt32).toInt32) - ((fr.toUInt32 >>> ((6 : Int32) &&& 31).toUInt32).toInt32)) + (1 : Int32))))  (hj.trans (by simp only [own_law_39]))
    exact j39 _ _ X2 e2 N2 (own_min (p1 &&& (2147483647 : Int32)) (p2 &&& (2147483647 : Int32))) (own_max (p1 &&& (2147483647 : Int32)) (p2 &&& (2147483647 : Int32))) (own_nz p1 p2 hc34_3) (hj.trans (by simp only [own_law, if_neg hc34_3]))
theorem own_k (x : Int32) : ∃ k : Fin 64, (x &&& (63 : Int32)) = Int32.ofInt (k.1 : Int) ∧ (k.1 : Int) = x.toInt % 64 := by
  have e : (x &&& (63 : Int32)).toInt = x.toInt % (2 ^ 6 : Nat) := c_mask x 63 6 (by decide) (by decide)
  refine ⟨⟨(x.toInt % 64).toNat, by omega⟩, ?_, by show (((x.toInt % 64).toNat : Nat) : Int) = _; omega⟩
  apply Int32.toInt_inj.mp
  have e2 : (((x.toInt % 64).toNat : Nat) : Int) = (x &&& (63 : Int32)).toInt := by rw [e]; omega
  show _ = (Int32.ofInt (((x.toInt % 64).toNat : Nat) : Int)).toInt
  rw [e2, Int32.ofInt_toInt]
def own_low (r : Int64) (b : Int32) : Bool := decide ((((r.toUInt64 >>> (b &&& 0x3f).toInt64.toUInt64).toInt64) &&& (1 : Int64)) = (0 : Int64))
theorem own_m1 : ∀ s b : Fin 64, own_low ((-1 : Int64) <<< (Int32.ofInt (s.1 : Int)).toInt64) (Int32.ofInt (b.1 : Int)) = decide (b.1 < s.1) := by decide +kernel
theorem own_m2 : ∀ s b : Fin 64, own_low (((-1 : Int64).toUInt64 >>> (((63 : Int32) - Int32.ofInt (s.1 : Int)) &&& 0x3f).toInt64.toUInt64).toInt64) (Int32.ofInt (b.1 : Int)) = decide (s.1 < b.1) := by decide +kernel
theorem own_m3 : ∀ b : Fin 64, own_low (-1 : Int64) (Int32.ofInt (b.1 : Int)) = false := by decide +kernel
theorem own_and (x y : Int64) (b : Int32) : own_low (x &&& y) b = (own_low x b || own_low y b) := by
  have one : ∀ z : UInt64, z &&& 1 = 0 ∨ z &&& 1 = 1 := fun z => by
    have h : ∀ b : BitVec 64, b &&& 1#64 = 0#64 ∨ b &&& 1#64 = 1#64 := fun b => by
      rw [BitVec.and_one_eq_setWidth_ofBool_getLsbD]
      cases b.getLsbD 0
      · left; decide
      · right; decide
    rcases h z.toBitVec with h | h
    · left; exact UInt64.toBitVec_inj.mp h
    · right; exact UInt64.toBitVec_inj.mp h
  have back : ∀ z : UInt64, ((z.toInt64 &&& (1 : Int64)) = (0 : Int64)) ↔ (z &&& 1 = 0) := fun z => by
    constructor
    · intro h
      have := congrArg Int64.toUInt64 h
      exact this
    · intro h
      have := congrArg UInt64.toInt64 h
      exact this
  unfold own_low
  rw [← Bool.decide_or]
  apply decide_eq_decide.mpr
  rw [back, back, back]
  generalize (b &&& 0x3f).toInt64.toUInt64 = k
  have e : (x &&& y).toUInt64 >>> k = (x.toUInt64 >>> k) &&& (y.toUInt64 >>> k) := by
    show (x.toUInt64 &&& y.toUInt64) >>> k = _
    apply UInt64.toBitVec_inj.mp
    simp [BitVec.ushiftRight_and_distrib]
  rw [e]
  generalize x.toUInt64 >>> k = u
  generalize y.toUInt64 >>> k = w
  have e2 : (u &&& w) &&& 1 = (u &&& 1) &&& (w &&& 1) := by
    apply UInt64.toBitVec_inj.mp
    show (u.toBitVec &&& w.toBitVec) &&& 1#64 = (u.toBitVec &&& 1#64) &&& (w.toBitVec &&& 1#64)
    ext i hi
    simp only [BitVec.getElem_and]
    cases u.toBitVec[i] <;> cases w.toBitVec[i] <;> cases (1#64)[i] <;> rfl
  rw [e2]
  rcases one u with hu | hu <;> rcases one w with hw | hw <;> rw [hu, hw] <;> decide
theorem own_93 (p1 p2 p3 p4 fr to w bit : Int32) (k : Fin 64) (hb : bit = Int32.ofInt (k.1 : Int)) (h0 : 0 ≤ fr.toInt) (h1 : fr.toInt < to.toInt) (h2 : fr.toInt / 64 ≤ w.toInt) (h3 : w.toInt ≤ (to.toInt - 1) / 64) : own_law_93 p1 p2 p3 p4 fr to w bit (own_bits w fr to) = 1 := by
  have k1 : (1 : Int32).toInt = 1 := by decide
  have z1 : ¬ ((1 : Int32) = 0) := by decide
  have z2 : ¬ ((0 : Int32) = 1) := by decide
  have a1 := c_isub to 1
  have b0 := rng32 to
  have b1 := rng32 (to - 1)
  have b2 := rng32 fr
  have s1 := own_six (to - 1)
  have s2 := own_six fr
  have kb : k.1 < 64 := k.2
  have eb : bit.toInt = (k.1 : Int) := by subst hb; exact Int32.toInt_ofInt_of_le (by omega) (by omega)
  -- the masked bit
  have low : own_low (own_bits w fr to) bit = decide (¬ (fr.toInt ≤ w.toInt * 64 + k.1 ∧ w.toInt * 64 + k.1 < to.toInt)) := by
    obtain ⟨s, es, ks⟩ := own_k fr
    obtain ⟨u, eu, ku⟩ := own_k (to - 1)
    have e1 : own_low ((-1 : Int64) <<< (fr &&& 0x3f).toInt64) bit = decide (k.1 < s.1) := by
      rw [hb, show (fr &&& 0x3f : Int32) = Int32.ofInt (s.1 : Int) from es]; exact own_m1 s k
    have e2 : own_low (((-1 : Int64).toUInt64 >>> (((63 : Int32) - ((to - (1 : Int32)) &&& (63 : Int32))) &&& 0x3f).toInt64.toUInt64).toInt64) bit = decide (u.1 < k.1) := by
      rw [hb, eu]; exact own_m2 u k
    have e3 : own_low (-1 : Int64) bit = false := by rw [hb]; exact own_m3 k
    unfold own_bits
    by_cases q1 : w = ((fr.toUInt32 >>> ((6 : Int32) &&& 31).toUInt32).toInt32)
    · have q1' : w.toInt = fr.toInt / 64 := by rw [q1, s2]; omega
      rw [if_pos q1]
      by_cases q2 : w = (((to - (1 : Int32)).toUInt32 >>> ((6 : Int32) &&& 31).toUInt32).toInt32)
      · have q2' : w.toInt = (to.toInt - 1) / 64 := by rw [q2, s1]; omega
        rw [if_pos q2, own_and, e1, e2, ← Bool.decide_or]
        apply decide_eq_decide.mpr; omega
      · have q2' : w.toInt ≠ (to.toInt - 1) / 64 := fun q => q2 (Int32.toInt_inj.mp (by rw [s1, q]; omega))
        rw [if_neg q2, own_and, e1, e3, Bool.or_false]
        apply decide_eq_decide.mpr; omega
    · have q1' : w.toInt ≠ fr.toInt / 64 := fun q => q1 (Int32.toInt_inj.mp (by rw [s2, q]; omega))
      rw [if_neg q1]
      by_cases q2 : w = (((to - (1 : Int32)).toUInt32 >>> ((6 : Int32) &&& 31).toUInt32).toInt32)
      · have q2' : w.toInt = (to.toInt - 1) / 64 := by rw [q2, s1]; omega
        rw [if_pos q2, own_and, e3, e2, Bool.false_or]
        apply decide_eq_decide.mpr; omega
      · have q2' : w.toInt ≠ (to.toInt - 1) / 64 := fun q => q2 (Int32.toInt_inj.mp (by rw [s1, q]; omega))
        rw [if_neg q2, own_and, e3, Bool.or_false]
        apply Eq.symm; apply decide_eq_false; omega
  have l1 := c_i2l w
  have l2 := c_i2l bit
  have l3 := c_i2l fr
  have l4 := c_i2l to
  have sh : (((w.toInt64) <<< ((6 : Int32) &&& 0x3f).toInt64).toInt - w.toInt64.toInt * (2 ^ 6 : Nat)) % 18446744073709551616 = 0 := c_lshl w.toInt64 6 6 (by decide)
  have r1 := rng64 ((w.toInt64) <<< ((6 : Int32) &&& 0x3f).toInt64)
  have ad := c_ladd ((w.toInt64) <<< ((6 : Int32) &&& 0x3f).toInt64) (bit.toInt64)
  have r2 := rng64 (((w.toInt64) <<< ((6 : Int32) &&& 0x3f).toInt64) + bit.toInt64)
  have pos : (((w.toInt64) <<< ((6 : Int32) &&& 0x3f).toInt64) + bit.toInt64).toInt = w.toInt * 64 + k.1 := by omega
  have fin : ∀ g : Int32, own_law_110 p1 p2 p3 p4 fr to w bit (own_bits w fr to) g = if g = (if fr.toInt ≤ w.toInt * 64 + k.1 ∧ w.toInt * 64 + k.1 < to.toInt then 1 else 0) then 1 else 0 := fun g => by
    unfold own_law_110 own_law_124
    generalize (((w.toInt64) <<< ((6 : Int32) &&& 0x3f).toInt64) + bit.toInt64) = P at *
    by_cases q1 : P < fr.toInt64
    · have q1' := Int64.lt_iff_toInt_lt.mp q1
      rw [if_pos q1, if_neg (by omega : ¬ (fr.toInt ≤ w.toInt * 64 + k.1 ∧ w.toInt * 64 + k.1 < to.toInt))]
    · have q1' : ¬ P.toInt < fr.toInt64.toInt := fun q => q1 (Int64.lt_iff_toInt_lt.mpr q)
      rw [if_neg q1]
      by_cases q2 : P < to.toInt64
      · have q2' := Int64.lt_iff_toInt_lt.mp q2
        rw [if_pos q2, if_pos (by omega : fr.toInt ≤ w.toInt * 64 + k.1 ∧ w.toInt * 64 + k.1 < to.toInt)]
      · have q2' : ¬ P.toInt < to.toInt64.toInt := fun q => q2 (Int64.lt_iff_toInt_lt.mpr q)
        rw [if_neg q2, if_neg (by omega : ¬ (fr.toInt ≤ w.toInt * 64 + k.1 ∧ w.toInt * 64 + k.1 < to.toInt))]
  unfold own_law_93
  by_cases q : fr.toInt ≤ w.toInt * 64 + k.1 ∧ w.toInt * 64 + k.1 < to.toInt
  · rw [decide_eq_false (fun n => n q)] at low
    have low' := of_decide_eq_false low
    rw [if_neg low', fin, if_pos q, if_pos rfl]
  · rw [decide_eq_true q] at low
    have low' := of_decide_eq_true low
    rw [if_pos low', fin, if_neg q, if_pos rfl]
theorem own_true (p1 p2 p3 p4 : Int32) : own_law p1 p2 p3 p4 = 1 := by
  unfold own_law
  by_cases q : (own_min (p1 &&& (2147483647 : Int32)) (p2 &&& (2147483647 : Int32))) = (own_max (p1 &&& (2147483647 : Int32)) (p2 &&& (2147483647 : Int32)))
  · rw [if_pos q]
  rw [if_neg q]
  obtain ⟨h0, h1⟩ := own_ord p1 p2 q
  generalize (own_min (p1 &&& (2147483647 : Int32)) (p2 &&& (2147483647 : Int32))) = fr at *
  generalize (own_max (p1 &&& (2147483647 : Int32)) (p2 &&& (2147483647 : Int32))) = to at *
  have sp := own_span fr to h0 h1
  have s2 := own_six fr
  have b2 := rng32 fr
  have bt := rng32 to
  have e3 : (p3 &&& (2147483647 : Int32)).toInt = p3.toInt % (2 ^ 31 : Nat) := c_mask p3 2147483647 31 (by decide) (by decide)
  unfold own_law_39 own_law_76 own_law_82
  generalize (((((to - (1 : Int32)).toUInt32 >>> ((6 : Int32) &&& 31).toUInt32).toInt32) - ((fr.toUInt32 >>> ((6 : Int32) &&& 31).toUInt32).toInt32)) + (1 : Int32)) = sn at *
  generalize (p3 &&& (2147483647 : Int32)) = c at *
  have cr := (c_iremV c sn).1 (by omega) (by omega)
  generalize ((fr.toUInt32 >>> ((6 : Int32) &&& 31).toUInt32).toInt32) = F at *
  have ad := c_iadd F (c % sn)
  have r2 := rng32 (F + c % sn)
  obtain ⟨k, ek, -⟩ := own_k p4
  exact own_93 p1 p2 p3 p4 fr to _ _ k ek h0 h1 (by omega) (by omega)
set_option maxRecDepth 65536 in
set_option maxHeartbeats 40000000 in
theorem comes_1 {Post : Tables → Env → Array Value → State → Outcome → State → Prop} (hpost : ∀ tb e args s v u, (limb_1_1.after args s (.returned v) u = true ∧ limb_1_2.after args s (.returned v) u = true ∧ True) → FrameEnd s (.returned v) u (Jvm.fieldLocs frame_1_writes args s ++ Jvm.arrayLocs frame_1_arrays args s ++ Jvm.staticLocs frame_1_statics s) 0 0 → Post tb e args s (.returned v) u) :
    ArmFor flags0 classFile x code maxLocals ret World_1 tables_1 room_1 Calls_1 rest_1 Pre_1 Post := by
  intro l hfl _ _ p e ha hc hk s m args below hf hA hF happ hP
  obtain ⟨hcalls, hrest, hpre⟩ := hP
  obtain ⟨-, -, -, hnamed, -, -, -, hat⟩ := (Spec.applies_iff hf).mp happ
  obtain ⟨hg, hn⟩ := and_e (Cond.before_iff.mp (show (Jvm.Cond.and given_1 narrow_1).before args s = true from hpre))
  obtain ⟨g1, g2⟩ := and_e hg
  obtain ⟨g3, g4⟩ := and_e g2
  obtain ⟨g5, g6⟩ := and_e g4
  obtain ⟨g7, g8⟩ := and_e g6
  obtain ⟨w0, w1, w2, w3, rfl⟩ : ∃ w0 w1 w2 w3 : Value, args = #[w0, w1, w2, w3] := by
    have hs : args.size = 4 := by simpa [Cond.value, given_1] using g1
    obtain ⟨L⟩ := args
    match L, hs with
    | [w0, w1, w2, w3], _ => exact ⟨w0, w1, w2, w3, rfl⟩
  have hw := fun d (hd : d ∈ tables_1) => atoms_spec (ws := Jvm.Cond.code x code maxLocals ret :: tables_1) hat d (List.mem_cons_of_mem _ hd)
  have hfit : Fit s := fun {y c} hc i hi => by
    obtain ⟨ha, rfl⟩ := Array.getElem?_eq_some_iff.mp hc
    have q := List.all_eq_true.mp ((Array.all_eq_true_iff_forall_mem.mp hF) _ (Array.getElem_mem ha)) i (List.mem_range.mpr hi)
    simpa [Array.getElem?_eq_getElem hi] using q
  obtain ⟨i0, ei0⟩ := is_v g3
  obtain rfl : w0 = (.int i0) := Option.some.inj ei0
  obtain ⟨i1, ei1⟩ := is_v g5
  obtain rfl : w1 = (.int i1) := Option.some.inj ei1
  obtain ⟨i2, ei2⟩ := is_v g7
  obtain rfl : w2 = (.int i2) := Option.some.inj ei2
  obtain ⟨i3, ei3⟩ := is_v g8
  obtain rfl : w3 = (.int i3) := Option.some.inj ei3
  obtain ⟨n, o, h1, h2, h3, _, L, rfl, ⟨rfl, N⟩, hq⟩ := rm0 l s _ hw tables_1 i0 i1 i2 i3 s.heap s.heap.size (Nat.le_refl _)  p e ha hc hk s m _ below hf ((Spec.applies_iff_loose hf).mp happ).1 ⟨rfl, State.Warmed39.refl s, rfl⟩ trivial
  refine ⟨n, _, h1, h2, h3, hpost _ _ _ _ _ _ ⟨Cond.after_iff.mpr rfl, Cond.after_iff.mpr (eq_i res_at (Term.int_eval (1)) (congrArg Value.int (own_true i0 i1 i2 i3))), trivial⟩ ⟨hq.1, hq.2.1, (hq.2.2.sift fun y hy => Or.inr (N y hy)).mono (by decide) (by decide)⟩⟩
theorem main_1_1 : Claimed_1_1 := comes_1 fun _ _ _ _ _ _ h hF => ⟨h.1, hF⟩
theorem main_1_2 : Claimed_1_2 := comes_1 fun _ _ _ _ _ _ h hF => ⟨h.2.1, hF⟩
end Jvm.Pilot.@@N@@
namespace Jvm.Pilot.@@N@@
open Jvm Jvm.ClassFile Sem Op Lib Jvm.Free Jvm.Stand Jvm.Pilot.@@N@@.Jvm.D
/-! MADE BY PROGRAM (witnessworld.py) out of the Statement's table words and the real class files: 10 classes; the members and pool entries that the words name. The judged class is class 1, her method 1. -/
namespace start1
open Jvm.ClassFile
def u (s : String) : CpInfo := .utf8 (stringToUtf16 s)
/-- a pool by its gaps: so many unusable entries, then the entry; so many at the end -/
def gap : Nat → List CpInfo → List CpInfo
  | 0, r => r
  | n + 1, r => .unusable :: gap n r
def poolList (es : List (Nat × CpInfo)) (last : Nat) : List CpInfo := es.foldr (fun e r => gap e.1 (e.2 :: r)) (gap last [])
def pool (es : List (Nat × CpInfo)) (last : Nat) : Array CpInfo := ⟨poolList es last⟩
def fileOf (pool : Array CpInfo) (this : Nat) (attrs : Array Attribute := #[]) (ms : Array MethodInfo := #[]) (fl : Nat := 33) (sup : Nat := 0) (ifs : Array Nat := #[]) (fds : Array FieldInfo := #[]) : ClassFile where
  minorVersion := 0
  majorVersion := 65
  constantPool := pool
  accessFlags := fl
  thisClass := this
  superClass := sup
  interfaces := ifs
  fields := fds
  methods := ms
  attributes := attrs
def plain (name : String) (sup : Option ClassId) : Class where
  name := name
  kind := .ordinary
  loader := none
  accessFlags := 33
  super := sup
  interfaces := #[]
  cf := none
  fields := #[]
  methods := #[]
  instanceTypes := #[]
  staticTypes := #[]
  resolved := #[]
  callSites := []
  init := .initialized
  statics := none
  mirror := none

def pool0 : Array CpInfo := pool [(5, u "<init>"), (0, u "()V"), (1, .class_ 10), (1, u "java/lang/Object")] 113

def k0m0 : Method := { name := "<init>", desc := "()V", sig := { parameters := [], returnType := none }, accessFlags := 1, code := none }
/-- java/lang/Object -/
def k0 : Class := { plain "java/lang/Object" none with
  accessFlags := 33
  interfaces := #[]
  cf := some (fileOf pool0 8 #[] #[{ accessFlags := 1, nameIndex := 5, descriptorIndex := 6, attributes := #[] }] 33 0 #[] #[])
  fields := #[]
  methods := #[k0m0]
  instanceTypes := #[]
  staticTypes := #[]
  resolved := Array.replicate 124 none
  statics := none }

def pool1 : Array CpInfo := pool [(2, .class_ 4), (1, u "java/lang/Object"), (0, u "<init>"), (0, u "()V"), (0, .integer 2147483647), (0, .methodref 9 10), (0, .class_ 11), (0, .nameAndType 12 13), (0, u "java/lang/Math"), (0, u "min"), (0, u "(II)I"), (0, .methodref 9 15), (0, .nameAndType 16 13), (0, u "max"), (0, .methodref 18 19), (0, .class_ 20), (0, .nameAndType 21 22), (0, u "com/example/libfacet/libfacet/regex/WalkTables"), (0, u "bitsWithin"), (0, u "(III)J"), (0, .class_ 24), (0, u "com/example/libfacet/libfacet/regex/WalkTablesBitsWithinPinLaw"), (2, u "law"), (0, u "(IIII)Z")] 3

def k1m0 : Method := { name := "<init>", desc := "()V", sig := { parameters := [], returnType := none }, accessFlags := 1, code := none }
def k1c1 : Code := { maxStack := 4, maxLocals := 19, code := code, exceptionTable := #[], attributes := #[] }
def k1m1 : Method := { name := "law", desc := "(IIII)Z", sig := { parameters := [.int, .int, .int, .int], returnType := some .boolean }, accessFlags := 9, code := some k1c1 }
/-- com/example/libfacet/libfacet/regex/WalkTablesBitsWithinPinLaw -/
def k1 : Class := { plain "com/example/libfacet/libfacet/regex/WalkTablesBitsWithinPinLaw" (some 0) with
  accessFlags := 49
  interfaces := #[]
  cf := some (fileOf pool1 23 #[] #[{ accessFlags := 1, nameIndex := 5, descriptorIndex := 6, attributes := #[] }, { accessFlags := 9, nameIndex := 27, descriptorIndex := 28, attributes := #[] }] 49 2 #[] #[])
  fields := #[]
  methods := #[k1m0, k1m1]
  instanceTypes := #[]
  staticTypes := #[]
  resolved := Array.replicate 32 none
  statics := none }

def pool2 : Array CpInfo := pool [(1, .class_ 2), (0, u "java/lang/Math"), (1, .class_ 6), (1, u "java/lang/Object"), (0, u "<init>"), (0, u "()V"), (89, .class_ 100), (1, u "java/lang/Math$RandomNumberGeneratorHolder"), (71, u "negativeZeroFloatBits"), (0, u "J"), (2, u "negativeZeroDoubleBits"), (21, u "max"), (2, u "min"), (43, u "$assertionsDisabled"), (0, u "Z"), (88, u "(II)I"), (2, u "twoToTheDoubleScaleDown"), (0, u "D"), (4, u "twoToTheDoubleScaleUp"), (9, u "E"), (3, u "PI"), (2, u "TAU"), (2, u "DEGREES_TO_RADIANS"), (0, u "RADIANS_TO_DEGREES")] 94

def k2m0 : Method := { name := "<init>", desc := "()V", sig := { parameters := [], returnType := none }, accessFlags := 2, code := none }
def k2c1 : Code := { maxStack := 2, maxLocals := 2, code := jdk_29_method_65_code, exceptionTable := #[], attributes := #[] }
def k2m1 : Method := { name := "max", desc := "(II)I", sig := { parameters := [.int, .int], returnType := some .int }, accessFlags := 9, code := some k2c1 }
def k2c2 : Code := { maxStack := 2, maxLocals := 2, code := jdk_29_method_69_code, exceptionTable := #[], attributes := #[] }
def k2m2 : Method := { name := "min", desc := "(II)I", sig := { parameters := [.int, .int], returnType := some .int }, accessFlags := 9, code := some k2c2 }
/-- java/lang/Math -/
def k2 : Class := { plain "java/lang/Math" (some 0) with
  accessFlags := 49
  interfaces := #[]
  cf := some (fileOf pool2 1 #[.nestMembers #[98]] #[{ accessFlags := 2, nameIndex := 7, descriptorIndex := 8, attributes := #[] }, { accessFlags := 9, nameIndex := 198, descriptorIndex := 335, attributes := #[] }, { accessFlags := 9, nameIndex := 201, descriptorIndex := 335, attributes := #[] }] 49 4 #[] #[{ accessFlags := 25, nameIndex := 354, descriptorIndex := 339, attributes := #[] }, { accessFlags := 25, nameIndex := 358, descriptorIndex := 339, attributes := #[] }, { accessFlags := 25, nameIndex := 361, descriptorIndex := 339, attributes := #[] }, { accessFlags := 26, nameIndex := 364, descriptorIndex := 339, attributes := #[] }, { accessFlags := 26, nameIndex := 365, descriptorIndex := 339, attributes := #[] }, { accessFlags := 26, nameIndex := 172, descriptorIndex := 173, attributes := #[] }, { accessFlags := 26, nameIndex := 176, descriptorIndex := 173, attributes := #[] }, { accessFlags := 8, nameIndex := 344, descriptorIndex := 339, attributes := #[] }, { accessFlags := 8, nameIndex := 338, descriptorIndex := 339, attributes := #[] }, { accessFlags := 4120, nameIndex := 245, descriptorIndex := 246, attributes := #[] }])
  fields := #[{ name := "E", type := .double, accessFlags := 25, slot := 0, constantValue := 0 }, { name := "PI", type := .double, accessFlags := 25, slot := 1, constantValue := 0 }, { name := "TAU", type := .double, accessFlags := 25, slot := 2, constantValue := 0 }, { name := "DEGREES_TO_RADIANS", type := .double, accessFlags := 26, slot := 3, constantValue := 0 }, { name := "RADIANS_TO_DEGREES", type := .double, accessFlags := 26, slot := 4, constantValue := 0 }, { name := "negativeZeroFloatBits", type := .long, accessFlags := 26, slot := 5, constantValue := 0 }, { name := "negativeZeroDoubleBits", type := .long, accessFlags := 26, slot := 6, constantValue := 0 }, { name := "twoToTheDoubleScaleUp", type := .double, accessFlags := 8, slot := 7, constantValue := 0 }, { name := "twoToTheDoubleScaleDown", type := .double, accessFlags := 8, slot := 8, constantValue := 0 }, { name := "$assertionsDisabled", type := .boolean, accessFlags := 4120, slot := 9, constantValue := 0 }]
  methods := #[k2m0, k2m1, k2m2]
  instanceTypes := #[]
  staticTypes := #[.double, .double, .double, .double, .double, .long, .long, .double, .double, .boolean]
  resolved := Array.replicate 460 none
  statics := none }

def pool3 : Array CpInfo := pool [(4, .class_ 6), (1, u "java/lang/Object"), (6, .class_ 15), (1, u "com/example/libfacet/libfacet/regex/WalkTables"), (0, u "takersKept"), (0, u "Ljava/util/concurrent/atomic/AtomicInteger;"), (2, u "closuresKept"), (0, .class_ 22), (0, u "com/example/libfacet/libfacet/regex/WalkTables$Shape"), (2, u "shapes"), (0, u "[Lcom/example/libfacet/libfacet/regex/WalkTables$Shape;"), (2, u "program"), (0, u "Lcom/example/libfacet/libfacet/regex/Program;"), (2, u "alphabet"), (0, u "Lcom/example/libfacet/libfacet/regex/Alphabet;"), (8, u "words"), (3, u "I"), (2, u "keptWords"), (5, u "consuming"), (0, u "[J"), (2, u "counts"), (2, u "landing"), (0, u "[I"), (2, u "landedFrom"), (9, u "countWords"), (2, u "countGroups"), (2, u "countIndex"), (2, u "openCounts"), (13, u "landed"), (8, u "runs"), (3, u "Lcom/example/libfacet/libfacet/regex/Runs;"), (2, u "stops"), (13, u "copyRows"), (0, u "Lcom/example/libfacet/libfacet/regex/CopyRows;"), (13, u "bitsWithin"), (0, u "(III)J"), (0, .long 18446744073709551615), (4, .class_ 153), (0, u "com/example/libfacet/libfacet/regex/WalkTables$Takers"), (2, u "takers"), (0, u "[Lcom/example/libfacet/libfacet/regex/WalkTables$Takers;"), (0, .class_ 159), (0, u "com/example/libfacet/libfacet/regex/WalkTables$Closure"), (2, u "closures"), (0, u "[Lcom/example/libfacet/libfacet/regex/WalkTables$Closure;"), (2, u "shapeOf"), (0, u "[B"), (129, u "shapeCount"), (45, u "runBits"), (0, u "Lcom/example/libfacet/libfacet/regex/WalkTables$RunBits;"), (4, .class_ 350), (0, u "com/example/libfacet/libfacet/regex/WalkTables$RunBits"), (42, u "KEPT_WORDS"), (1, u "KEPT_PER_WORD"), (1, u "MOST_SHAPES"), (0, u "SHAPE_BITS"), (1, u "SHAPE_REACH"), (1, u "UNSHAPED"), (0, u "B"), (1, u "SHAPELESS"), (1, u "CLOSURE_BYTES"), (0, u "J"), (0, u "MEMBER"), (1, u "ENTERED"), (1, u "TABLES_BYTES")] 29

def k3c0 : Code := { maxStack := 5, maxLocals := 7, code := prog_100_method_40_code, exceptionTable := #[], attributes := #[] }
def k3m0 : Method := { name := "bitsWithin", desc := "(III)J", sig := { parameters := [.int, .int, .int], returnType := some .long }, accessFlags := 8, code := some k3c0 }
/-- com/example/libfacet/libfacet/regex/WalkTables -/
def k3 : Class := { plain "com/example/libfacet/libfacet/regex/WalkTables" (some 0) with
  accessFlags := 48
  interfaces := #[]
  cf := some (fileOf pool3 13 #[.nestMembers #[21, 349, 152, 158]] #[{ accessFlags := 8, nameIndex := 145, descriptorIndex := 146, attributes := #[] }] 48 4 #[] #[{ accessFlags := 26, nameIndex := 393, descriptorIndex := 47, attributes := #[] }, { accessFlags := 26, nameIndex := 395, descriptorIndex := 47, attributes := #[] }, { accessFlags := 26, nameIndex := 397, descriptorIndex := 47, attributes := #[] }, { accessFlags := 26, nameIndex := 398, descriptorIndex := 47, attributes := #[] }, { accessFlags := 26, nameIndex := 400, descriptorIndex := 47, attributes := #[] }, { accessFlags := 24, nameIndex := 402, descriptorIndex := 403, attributes := #[] }, { accessFlags := 26, nameIndex := 405, descriptorIndex := 403, attributes := #[] }, { accessFlags := 26, nameIndex := 407, descriptorIndex := 408, attributes := #[] }, { accessFlags := 26, nameIndex := 409, descriptorIndex := 47, attributes := #[] }, { accessFlags := 26, nameIndex := 411, descriptorIndex := 47, attributes := #[] }, { accessFlags := 26, nameIndex := 413, descriptorIndex := 408, attributes := #[] }, { accessFlags := 18, nameIndex := 29, descriptorIndex := 30, attributes := #[] }, { accessFlags := 18, nameIndex := 33, descriptorIndex := 34, attributes := #[] }, { accessFlags := 18, nameIndex := 43, descriptorIndex := 47, attributes := #[] }, { accessFlags := 18, nameIndex := 50, descriptorIndex := 47, attributes := #[] }, { accessFlags := 18, nameIndex := 56, descriptorIndex := 57, attributes := #[] }, { accessFlags := 18, nameIndex := 60, descriptorIndex := 57, attributes := #[] }, { accessFlags := 18, nameIndex := 77, descriptorIndex := 64, attributes := #[] }, { accessFlags := 18, nameIndex := 86, descriptorIndex := 57, attributes := #[] }, { accessFlags := 18, nameIndex := 80, descriptorIndex := 57, attributes := #[] }, { accessFlags := 18, nameIndex := 83, descriptorIndex := 64, attributes := #[] }, { accessFlags := 18, nameIndex := 63, descriptorIndex := 64, attributes := #[] }, { accessFlags := 18, nameIndex := 67, descriptorIndex := 64, attributes := #[] }, { accessFlags := 18, nameIndex := 100, descriptorIndex := 64, attributes := #[] }, { accessFlags := 18, nameIndex := 156, descriptorIndex := 157, attributes := #[] }, { accessFlags := 18, nameIndex := 16, descriptorIndex := 17, attributes := #[] }, { accessFlags := 18, nameIndex := 109, descriptorIndex := 113, attributes := #[] }, { accessFlags := 18, nameIndex := 116, descriptorIndex := 57, attributes := #[] }, { accessFlags := 18, nameIndex := 130, descriptorIndex := 131, attributes := #[] }, { accessFlags := 66, nameIndex := 343, descriptorIndex := 344, attributes := #[] }, { accessFlags := 18, nameIndex := 162, descriptorIndex := 163, attributes := #[] }, { accessFlags := 18, nameIndex := 20, descriptorIndex := 17, attributes := #[] }, { accessFlags := 18, nameIndex := 166, descriptorIndex := 167, attributes := #[] }, { accessFlags := 18, nameIndex := 25, descriptorIndex := 26, attributes := #[] }, { accessFlags := 66, nameIndex := 297, descriptorIndex := 47, attributes := #[] }])
  fields := #[{ name := "KEPT_WORDS", type := .int, accessFlags := 26, slot := 0, constantValue := 0 }, { name := "KEPT_PER_WORD", type := .int, accessFlags := 26, slot := 1, constantValue := 0 }, { name := "MOST_SHAPES", type := .int, accessFlags := 26, slot := 2, constantValue := 0 }, { name := "SHAPE_BITS", type := .int, accessFlags := 26, slot := 3, constantValue := 0 }, { name := "SHAPE_REACH", type := .int, accessFlags := 26, slot := 4, constantValue := 0 }, { name := "UNSHAPED", type := .byte, accessFlags := 24, slot := 5, constantValue := 0 }, { name := "SHAPELESS", type := .byte, accessFlags := 26, slot := 6, constantValue := 0 }, { name := "CLOSURE_BYTES", type := .long, accessFlags := 26, slot := 7, constantValue := 0 }, { name := "MEMBER", type := .int, accessFlags := 26, slot := 8, constantValue := 0 }, { name := "ENTERED", type := .int, accessFlags := 26, slot := 9, constantValue := 0 }, { name := "TABLES_BYTES", type := .long, accessFlags := 26, slot := 10, constantValue := 0 }, { name := "program", type := (.object "com/example/libfacet/libfacet/regex/Program"), accessFlags := 18, slot := 0, constantValue := 0 }, { name := "alphabet", type := (.object "com/example/libfacet/libfacet/regex/Alphabet"), accessFlags := 18, slot := 1, constantValue := 0 }, { name := "words", type := .int, accessFlags := 18, slot := 2, constantValue := 0 }, { name := "keptWords", type := .int, accessFlags := 18, slot := 3, constantValue := 0 }, { name := "consuming", type := (.array .long), accessFlags := 18, slot := 4, constantValue := 0 }, { name := "counts", type := (.array .long), accessFlags := 18, slot := 5, constantValue := 0 }, { name := "countWords", type := (.array .int), accessFlags := 18, slot := 6, constantValue := 0 }, { name := "openCounts", type := (.array .long), accessFlags := 18, slot := 7, constantValue := 0 }, { name := "countGroups", type := (.array .long), accessFlags := 18, slot := 8, constantValue := 0 }, { name := "countIndex", type := (.array .int), accessFlags := 18, slot := 9, constantValue := 0 }, { name := "landing", type := (.array .int), accessFlags := 18, slot := 10, constantValue := 0 }, { name := "landedFrom", type := (.array .int), accessFlags := 18, slot := 11, constantValue := 0 }, { name := "landed", type := (.array .int), accessFlags := 18, slot := 12, constantValue := 0 }, { name := "takers", type := (.array (.object "com/example/libfacet/libfacet/regex/WalkTables$Takers")), accessFlags := 18, slot := 13, constantValue := 0 }, { name := "takersKept", type := (.object "java/util/concurrent/atomic/AtomicInteger"), accessFlags := 18, slot := 14, constantValue := 0 }, { name := "runs", type := (.object "com/example/libfacet/libfacet/regex/Runs"), accessFlags := 18, slot := 15, constantValue := 0 }, { name := "stops", type := (.array .long), accessFlags := 18, slot := 16, constantValue := 0 }, { name := "copyRows", type := (.object "com/example/libfacet/libfacet/regex/CopyRows"), accessFlags := 18, slot := 17, constantValue := 0 }, { name := "runBits", type := (.object "com/example/libfacet/libfacet/regex/WalkTables$RunBits"), accessFlags := 66, slot := 18, constantValue := 0 }, { name := "closures", type := (.array (.object "com/example/libfacet/libfacet/regex/WalkTables$Closure")), accessFlags := 18, slot := 19, constantValue := 0 }, { name := "closuresKept", type := (.object "java/util/concurrent/atomic/AtomicInteger"), accessFlags := 18, slot := 20, constantValue := 0 }, { name := "shapeOf", type := (.array .byte), accessFlags := 18, slot := 21, constantValue := 0 }, { name := "shapes", type := (.array (.object "com/example/libfacet/libfacet/regex/WalkTables$Shape")), accessFlags := 18, slot := 22, constantValue := 0 }, { name := "shapeCount", type := .int, accessFlags := 66, slot := 23, constantValue := 0 }]
  methods := #[k3m0]
  instanceTypes := #[(.object "com/example/libfacet/libfacet/regex/Program"), (.object "com/example/libfacet/libfacet/regex/Alphabet"), .int, .int, (.array .long), (.array .long), (.array .int), (.array .long), (.array .long), (.array .int), (.array .int), (.array .int), (.array .int), (.array (.object "com/example/libfacet/libfacet/regex/WalkTables$Takers")), (.object "java/util/concurrent/atomic/AtomicInteger"), (.object "com/example/libfacet/libfacet/regex/Runs"), (.array .long), (.object "com/example/libfacet/libfacet/regex/CopyRows"), (.object "com/example/libfacet/libfacet/regex/WalkTables$RunBits"), (.array (.object "com/example/libfacet/libfacet/regex/WalkTables$Closure")), (.object "java/util/concurrent/atomic/AtomicInteger"), (.array .byte), (.array (.object "com/example/libfacet/libfacet/regex/WalkTables$Shape")), .int]
  staticTypes := #[.int, .int, .int, .int, .int, .byte, .byte, .long, .int, .int, .long]
  resolved := Array.replicate 443 none
  statics := none }

def pool4 : Array CpInfo := pool [(1, u "java/lang/Cloneable"), (0, .class_ 1), (0, u "java/lang/Object"), (0, .class_ 3)] 3

/-- java/lang/Cloneable -/
def k4 : Class := { plain "java/lang/Cloneable" (some 0) with
  accessFlags := 1537
  interfaces := #[]
  cf := some (fileOf pool4 2 #[] #[] 1537 4 #[] #[])
  fields := #[]
  methods := #[]
  instanceTypes := #[]
  staticTypes := #[]
  resolved := Array.replicate 8 none
  statics := none }

def pool5 : Array CpInfo := pool [(1, u "java/io/Serializable"), (0, .class_ 1), (0, u "java/lang/Object"), (0, .class_ 3)] 3

/-- java/io/Serializable -/
def k5 : Class := { plain "java/io/Serializable" (some 0) with
  accessFlags := 1537
  interfaces := #[]
  cf := some (fileOf pool5 2 #[] #[] 1537 4 #[] #[])
  fields := #[]
  methods := #[]
  instanceTypes := #[]
  staticTypes := #[]
  resolved := Array.replicate 8 none
  statics := none }

/-- the primitive byte -/
def k6 : Class := { plain "byte" none with kind := .primitive 'B', accessFlags := 0x411 }
/-- [B -/
def k7 : Class := { plain "[B" (some 0) with kind := .array 6 .byte, interfaces := #[4, 5], accessFlags := 1041 }

/-- the primitive int -/
def k8 : Class := { plain "int" none with kind := .primitive 'I', accessFlags := 0x411 }
/-- [I -/
def k9 : Class := { plain "[I" (some 0) with kind := .array 8 .int, interfaces := #[4, 5], accessFlags := 1041 }

def heap : Heap := #[]
def classes : Array Class := #[k0, k1, k2, k3, k4, k5, k6, k7, k8, k9]
def interned : List (Array UInt16 × Addr) := []
def slotsUsed : Nat := 0
def theMethod : MethodId := ⟨1, 1⟩
def args0 : Array Value := #[.int 5, .int 9, .int 3, .int 4]
def aboutOver (below : List Frame) : State where
  vm := { classes := classes, interned := interned.toArray }
  heap := heap
  slotsUsed := slotsUsed
  threads := #[{ frames := .invoking theMethod args0 :: below }]
def below0 : List Frame := [.native { method := ⟨0, 0⟩, args := #[] }]
def about1 : State := aboutOver below0
def p0 : Program := .bare "" "" ""
def e0 : Env := launch0.env 0 0 0
theorem w_frames : about1.frames = Frame.invoking theMethod args0 :: below0 := rfl
set_option maxRecDepth 65536 in
theorem w_args : argsFit about1.vm theMethod args0 = true := by decide +kernel
set_option maxRecDepth 65536 in
theorem w_heap : heapFits about1 = true := by decide +kernel
set_option maxRecDepth 65536 in
theorem w_runnable : about1.curStatus? = some .runnable := by decide +kernel
set_option maxRecDepth 65536 in
theorem w_alone : about1.alone = true := by decide +kernel
set_option maxRecDepth 65536 in
theorem w_named : about1.methodNamed? x = some theMethod := by decide +kernel
set_option maxRecDepth 65536 in
theorem w_hears : about1.hears theMethod below0 = true := by decide +kernel
set_option maxRecDepth 65536 in
theorem w_ripe : about1.ripe theMethod args0 below0 = true := by decide +kernel
theorem w_running : about1.status = .running := rfl
set_option maxRecDepth 65536 in
theorem w_room : about1.hasRoom e0.platform room_1 = true :=
  launch0.hasRoom_least _ room_1 (by decide +kernel) (by decide +kernel) (by decide +kernel) (by decide +kernel) (by decide +kernel) (by decide +kernel)
theorem allAtoms_all (ts : List Jvm.Cond) (a : Array Jvm.Value) (st : Jvm.State) : (allAtoms ts).before a st = ts.all (fun c => c.before a st) := by
  induction ts with
  | nil => rfl
  | cons c t ih =>
    show (Jvm.Cond.and c (allAtoms t)).before a st = _
    rw [Jvm.Cond.before_and, ih, List.all_cons]
def words1 : List Jvm.Cond := Jvm.Cond.code x code maxLocals ret :: tables_1
/-- a 'code' word, met by the world's own term for the bytes: nothing is compared byte by byte -/
theorem code_word {y : MethodName} {bytes : ByteArray} {mx : Nat} {rt : Option FieldType} {a : Array Value} {s : State} {m : MethodId} {meth : Method} {c : Code} (h1 : s.methodNamed? y = some m) (h2 : s.vm.method? m = some meth) (h3 : meth.code = some c) (h4 : c.code = bytes)
    (h5 : (c.maxLocals == mx && c.exceptionTable.isEmpty && decide (c.maxStack ≤ mostOperands) && decide (meth.sig.returnType = rt) && !meth.locks && decide (parseMethodDescriptor y.desc = some meth.sig)) = true) : (Jvm.Cond.code y bytes mx rt).before a s = true := by
  simp only [Bool.and_eq_true, beq_iff_eq, Bool.not_eq_true', decide_eq_true_eq] at h5
  obtain ⟨⟨⟨⟨⟨g1, g2⟩, g3⟩, g4⟩, g5⟩, g6⟩ := h5
  simp [Cond.before, Cond.holds, Cond.value, h1, h2, h3, h4, g1, g2, g3, g4, g5, g6]
def isCode : Jvm.Cond → Bool
  | .code _ _ _ _ => true
  | _ => false
theorem all_split {L : List Jvm.Cond} {P : Jvm.Cond → Bool} (h1 : L.all (fun c => isCode c || P c) = true) (h2 : ∀ c ∈ L.filter isCode, P c = true) : L.all P = true := by
  refine List.all_eq_true.mpr fun c hc => ?_
  have h := List.all_eq_true.mp h1 c hc
  rcases Bool.eq_false_or_eq_true (isCode c) with hi | hi
  · exact h2 c (List.mem_filter.mpr ⟨hc, hi⟩)
  · simpa [hi] using h
set_option maxRecDepth 65536 in
theorem w_c0 : (Jvm.Cond.code x code maxLocals ret).before args0 about1 = true := code_word (m := ⟨1, 1⟩) (meth := k1m1) (c := k1c1) (by decide +kernel) rfl rfl rfl (by decide +kernel)
set_option maxRecDepth 65536 in
theorem w_c1 : (Jvm.Cond.code ({ cls := "java/lang/Math", name := "min", desc := "(II)I" } : Jvm.MethodName) jdk_29_method_69_code (2 : Nat) (Option.some Jvm.ClassFile.FieldType.int)).before args0 about1 = true := code_word (m := ⟨2, 2⟩) (meth := k2m2) (c := k2c2) (by decide +kernel) rfl rfl rfl (by decide +kernel)
set_option maxRecDepth 65536 in
theorem w_c2 : (Jvm.Cond.code ({ cls := "java/lang/Math", name := "max", desc := "(II)I" } : Jvm.MethodName) jdk_29_method_65_code (2 : Nat) (Option.some Jvm.ClassFile.FieldType.int)).before args0 about1 = true := code_word (m := ⟨2, 1⟩) (meth := k2m1) (c := k2c1) (by decide +kernel) rfl rfl rfl (by decide +kernel)
set_option maxRecDepth 65536 in
theorem w_c3 : (Jvm.Cond.code ({ cls := "com/example/libfacet/libfacet/regex/WalkTables", name := "bitsWithin", desc := "(III)J" } : Jvm.MethodName) prog_100_method_40_code (7 : Nat) (Option.some Jvm.ClassFile.FieldType.long)).before args0 about1 = true := code_word (m := ⟨3, 0⟩) (meth := k3m0) (c := k3c0) (by decide +kernel) rfl rfl rfl (by decide +kernel)
def codes1 : List Jvm.Cond := [Jvm.Cond.code x code maxLocals ret, Jvm.Cond.code ({ cls := "java/lang/Math", name := "min", desc := "(II)I" } : Jvm.MethodName) jdk_29_method_69_code (2 : Nat) (Option.some Jvm.ClassFile.FieldType.int), Jvm.Cond.code ({ cls := "java/lang/Math", name := "max", desc := "(II)I" } : Jvm.MethodName) jdk_29_method_65_code (2 : Nat) (Option.some Jvm.ClassFile.FieldType.int), Jvm.Cond.code ({ cls := "com/example/libfacet/libfacet/regex/WalkTables", name := "bitsWithin", desc := "(III)J" } : Jvm.MethodName) prog_100_method_40_code (7 : Nat) (Option.some Jvm.ClassFile.FieldType.long)]
set_option maxRecDepth 65536 in
theorem codes_eq : words1.filter isCode = codes1 := rfl
theorem w_codes : ∀ c ∈ words1.filter isCode, c.before args0 about1 = true := by
  rw [codes_eq]
  intro c hc
  simp only [codes1, List.mem_cons, List.not_mem_nil, or_false] at hc
  rcases hc with rfl | rfl | rfl | rfl
  · exact w_c0
  · exact w_c1
  · exact w_c2
  · exact w_c3
set_option maxRecDepth 65536 in
theorem w_t1 : words1.all (fun c => isCode c || c.before args0 about1) = true := by decide +kernel
theorem w_tables : (allAtoms (Jvm.Cond.code x code maxLocals ret :: tables_1)).before args0 about1 = true := by
  rw [allAtoms_all]
  show words1.all (fun c => c.before args0 about1) = true
  refine all_split ?_ w_codes
  rw [w_t1]
set_option maxRecDepth 65536 in
theorem w_case : (Jvm.Cond.and given_1 narrow_1).before args0 about1 = true := by decide +kernel
theorem w_applies : (headSpec (Jvm.Cond.code x code maxLocals ret :: tables_1) room_1).applies x e0.platform about1 = true :=
  (Spec.applies_iff w_frames).mpr ⟨w_running, w_runnable, w_alone, w_named, w_hears, w_ripe, w_room, w_tables⟩
theorem atStart : AtStart classFile x code maxLocals ret World_1 tables_1 room_1 Calls_1 rest_1 Pre_1 launch0 p0 e0 about1 theMethod args0 below0 :=
  ⟨lists_1, trivial, launch0.admits_env _ _ _, launch0.least_env, fairChoices_fair.cas, fairChoices_fair.clock, w_frames, w_args, w_heap, w_applies, trivial, trivial, w_case⟩
end start1
theorem witness_1 : WitnessClaimed_1 := ⟨start1.p0, start1.e0, start1.about1, start1.theMethod, start1.args0, start1.below0, start1.atStart⟩
end Jvm.Pilot.@@N@@
