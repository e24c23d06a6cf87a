import JvmDerived
import JvmDerived.Pilot.@@N@@Statement
import JvmDerived.Pilot.@@N@@Code
set_option linter.unusedVariables false
set_option linter.unusedSimpArgs false
namespace Jvm.RoadKit
open Sem ClassFile Op Lib Jvm.Stand Jvm.Free Jvm.LawKit
section New
variable {p : Program} {l : Launch} {e : Env} {R : Room} {s : State} {m : MethodId} {args : Array Value} {below : List Frame} {meth : Method} {c : Code} {T : State} {locs : List Loc} {cells slots : Nat}
theorem retI (X : Stand p l e R s m args below meth c T locs cells slots) (hx : p.tables.exec = Jvm.exec) {pc : Nat} {Ls : Array Slot} {z : Int32} {rest : List Value} (hret : meth.sig.returnType = some .int) (hd : decode c.code pc = .ok (.ireturn, 1)) {fs : List Frame}
    (hl : ∀ (f : JFrame) (acts : List Action), f.method = m → f.locked = none → f.entered = [] → (doReturn e (T.setTop f) acts (some (.int z))).1 = T.setFrames fs) : Steps p.tables e below (T.setTop (mkF m pc Ls (.int z :: rest))) (T.setFrames fs) := by
  have hm' : T.vm.method? m = some meth := X.method'
  have hn : narrow .int (.int z) = .int z := rfl
  show Steps p.tables e below (T.setTop { method := m, pc := pc, locals := Ls, stack := _ :: rest, locked := none }) _
  jvm_step X.here [X.here.top, hx, hd, hm', hret, hn]
  first | (intro acts; rw [hl _ acts rfl rfl rfl]) | rw [hl _ _ rfl rfl rfl]
  exact Steps.refl _
end New
/-- the run from the state A ends as asked: what is left of the goal while one walks -/
def own_End (p : Program) (e : Env) (below : List Frame) (s A : State) (W : Option Value → Heap → List Loc → Prop) (k n : Nat) : Prop :=
  ∃ s₂ o, Steps p.tables e below A s₂ ∧ s₂.status = .running ∧ Ended s₂ below o ∧ ∃ v L, o = .returned v ∧ W v s₂.heap L ∧ FrameEnd s o s₂ L k n
theorem own_pre {p : Program} {e : Env} {below : List Frame} {s A B : State} {W : Option Value → Heap → List Loc → Prop} {k n : Nat} (f : ∀ t, Steps p.tables e below A t → Steps p.tables e below B t) (h : own_End p e below s A W k n) : own_End p e below s B W k n := by
  obtain ⟨s₂, o, h1, h2⟩ := h; exact ⟨s₂, o, f _ h1, h2⟩
end Jvm.RoadKit
namespace Jvm.Pilot.@@N@@
open Jvm Jvm.ClassFile Sem Op Lib Jvm.Free Jvm.Stand Jvm.LawKit Jvm.RoadKit Bundle Jvm.Pilot.@@N@@.Jvm.D
def own_rwl (q1 : Int64) (q2 : Int64) : Int32 := (if (q1 - (q1 / (1000000 : Int64)) * (1000000 : Int64)) = (0 : Int64) then (if q2 < ((q1 / (1000000 : Int64)) + ((0 : Int32).toInt64)) then (0 : Int32) else (1 : Int32)) else (if q2 < ((q1 / (1000000 : Int64)) + ((1 : Int32).toInt64)) then (0 : Int32) else (1 : Int32)))
theorem d1_0 : decode prog_79_method_6_code 0 = .ok (.lload_n 0, 1) := by decide +kernel
theorem d1_1 : decode prog_79_method_6_code 1 = .ok (.ldc2_w 286, 3) := by decide +kernel
theorem d1_4 : decode prog_79_method_6_code 4 = .ok (.ldiv, 1) := by decide +kernel
theorem d1_5 : decode prog_79_method_6_code 5 = .ok (.lload_n 0, 1) := by decide +kernel
theorem d1_6 : decode prog_79_method_6_code 6 = .ok (.ldc2_w 286, 3) := by decide +kernel
theorem d1_9 : decode prog_79_method_6_code 9 = .ok (.lrem, 1) := by decide +kernel
theorem d1_10 : decode prog_79_method_6_code 10 = .ok (.lconst 0, 1) := by decide +kernel
theorem d1_11 : decode prog_79_method_6_code 11 = .ok (.lcmp, 1) := by decide +kernel
theorem d1_12 : decode prog_79_method_6_code 12 = .ok (.ifCond .ne 7, 3) := by decide +kernel
theorem d1_15 : decode prog_79_method_6_code 15 = .ok (.iconst 0, 1) := by decide +kernel
theorem d1_16 : decode prog_79_method_6_code 16 = .ok (.goto 4, 3) := by decide +kernel
theorem d1_19 : decode prog_79_method_6_code 19 = .ok (.iconst 1, 1) := by decide +kernel
theorem d1_20 : decode prog_79_method_6_code 20 = .ok (.i2l, 1) := by decide +kernel
theorem d1_21 : decode prog_79_method_6_code 21 = .ok (.ladd, 1) := by decide +kernel
theorem d1_22 : decode prog_79_method_6_code 22 = .ok (.lstore 4, 2) := by decide +kernel
theorem d1_24 : decode prog_79_method_6_code 24 = .ok (.lload_n 2, 1) := by decide +kernel
theorem d1_25 : decode prog_79_method_6_code 25 = .ok (.lload 4, 2) := by decide +kernel
theorem d1_27 : decode prog_79_method_6_code 27 = .ok (.lcmp, 1) := by decide +kernel
theorem d1_28 : decode prog_79_method_6_code 28 = .ok (.ifCond .lt 7, 3) := by decide +kernel
theorem d1_31 : decode prog_79_method_6_code 31 = .ok (.iconst 1, 1) := by decide +kernel
theorem d1_32 : decode prog_79_method_6_code 32 = .ok (.goto 4, 3) := by decide +kernel
theorem d1_35 : decode prog_79_method_6_code 35 = .ok (.iconst 0, 1) := by decide +kernel
theorem d1_36 : decode prog_79_method_6_code 36 = .ok (.ireturn, 1) := by decide +kernel
theorem pn_1 : plainName "com/example/atoll/atoll/sim/Scenario" = true := by first | (simp [plainName, overriddenIn]; done) | decide +kernel
theorem ef_1 (m : MethodId) (x0 : Int64) (x1 : Int64) : entryFrame m #[(.long x0), (.long x1)] 6 = mkF m 0 #[.val (.long x0), .second, .val (.long x1), .second, .unset, .unset] [] := by first | (simp [entryFrame, mkF, argsToLocals, Value.category]; done) | rfl
def Q1 (Z : State) (q1 : Int64) (q2 : Int64) (h0 : Heap) (n0 : Nat) (v : Option Value) (h : Heap) (L : List Loc) : Prop := v = some (.int (own_rwl q1 q2)) ∧ Fr n0 L ∧ h = h0
set_option maxRecDepth 65536 in
set_option maxHeartbeats 40000000 in
theorem rm1 (l : Launch) (Z : State) (a0 : Array Value) (hw : ∀ d ∈ tables_1, d.before a0 Z = true) (ws : List Jvm.Cond) (q1 : Int64) (q2 : Int64) (h0 : Heap) (n0 : Nat) (Z0 : n0 ≤ h0.size) :
    MetFree l (⟨"com/example/atoll/atoll/sim/Scenario", "roundsWithinLimit", "(JJ)Z"⟩ : MethodName) (head1 (Jvm.Cond.code (⟨"com/example/atoll/atoll/sim/Scenario", "roundsWithinLimit", "(JJ)Z"⟩ : MethodName) prog_79_method_6_code 6 (some .boolean) :: ws) ({ frames := 0, cells := 0, slots := 0, locals := 0 } : Room)) (fun a U => a = #[(.long q1), (.long q2)] ∧ Z.Warmed39 U.vm ∧ U.heap = h0) (fun _ _ _ _ _ => True) (fun _ U o U' => ∃ v L, o = .returned v ∧ Q1 Z q1 q2 h0 n0 v U'.heap L ∧ FrameEnd U o U' L ({ frames := 0, cells := 0, slots := 0, locals := 0 } : Room).cells ({ frames := 0, cells := 0, slots := 0, locals := 0 } : Room).slots) := by
  refine MetFree.of_bodySF (plainFor_of_name pn_1) hisR ?_
  intro p e s m args below meth c s₁ Bd hml0 hP hK
  obtain ⟨rfl, hZ, hh⟩ := hP
  have hx := Bd.exec
  have hby := Bd.bytes
  have hml : c.maxLocals = 6 := hml0
  have hown : s.vm.findClass "com/example/atoll/atoll/sim/Scenario" = some m.cls := findClass_of_methodNamed Bd.named
  have hnm := (name_of_methodNamed Bd.named Bd.method).1
  have X0 : Stand p l e ({ frames := 0, cells := 0, slots := 0, locals := 0 } : Room) s m #[(.long q1), (.long q2)] below meth c s₁ [] 0 0 := Stand.of_body Bd
  have e0 : s₁.heap = h0 := by rw [← hh, Bd.state]; rfl
  have N0 := Fr.nil n0
  show own_End p e below s (s₁.setTop (entryFrame m #[(.long q1), (.long q2)] 6)) (Q1 Z q1 q2 h0 n0) ({ frames := 0, cells := 0, slots := 0, locals := 0 } : Room).cells ({ frames := 0, cells := 0, slots := 0, locals := 0 } : Room).slots
  refine own_pre (A := s₁.setTop (mkF m 0 #[.val (.long q1), .second, .val (.long q2), .second, .unset, .unset] [])) (fun tt kt => castTop (ef_1 m q1 q2) kt) ?_
  show own_End p e below s (s₁.setTop (mkF m 0 #[.val (.long q1), .second, .val (.long q2), .second, .unset, .unset] [])) (Q1 Z q1 q2 h0 n0) ({ frames := 0, cells := 0, slots := 0, locals := 0 } : Room).cells ({ frames := 0, cells := 0, slots := 0, locals := 0 } : Room).slots
  have hj : own_rwl q1 q2 = own_rwl q1 q2 := rfl
  refine own_pre (A := s₁.setTop (mkF m 12 #[.val (.long q1), .second, .val (.long q2), .second, .unset, .unset] [(.int (lcmpW (q1 - (q1 / (1000000 : Int64)) * (1000000 : Int64)) (0 : Int64))), (.long (q1 / (1000000 : Int64)))])) (fun tt kt => ?_) ?_
  · show Steps p.tables e below (s₁.setTop (mkF m 0 #[.val (.long q1), .second, .val (.long q2), .second, .unset, .unset] [])) _
    refine XS.lloadN X0.here hx rfl (hb hby d1_0) rfl ?_
    show Steps p.tables e below (s₁.setTop (mkF m 1 #[.val (.long q1), .second, .val (.long q2), .second, .unset, .unset] [(.long q1)])) _
    refine X0.ldc2Long hx hown (mvT hZ (hw _ (List.mem_of_getElem? (i := 7) rfl))) (g := (mkF m 1 #[.val (.long q1), .second, .val (.long q2), .second, .unset, .unset] [(.long q1)])) rfl (hb hby d1_1) _ ?_
    show Steps p.tables e below (s₁.setTop (mkF m 4 #[.val (.long q1), .second, .val (.long q2), .second, .unset, .unset] [(.long (1000000 : Int64)), (.long q1)])) _
    refine XS.ldiv X0.here hx rfl (hb hby d1_4) rfl (by decide : ¬ ((1000000 : Int64) = (0 : Int64))) ?_
    show Steps p.tables e below (s₁.setTop (mkF m 5 #[.val (.long q1), .second, .val (.long q2), .second, .unset, .unset] [(.long (q1 / (1000000 : Int64)))])) _
    refine XS.lloadN X0.here hx rfl (hb hby d1_5) rfl ?_
    show Steps p.tables e below (s₁.setTop (mkF m 6 #[.val (.long q1), .second, .val (.long q2), .second, .unset, .unset] [(.long q1), (.long (q1 / (1000000 : Int64)))])) _
    refine X0.ldc2Long hx hown (mvT hZ (hw _ (List.mem_of_getElem? (i := 7) rfl))) (g := (mkF m 6 #[.val (.long q1), .second, .val (.long q2), .second, .unset, .unset] [(.long q1), (.long (q1 / (1000000 : Int64)))])) rfl (hb hby d1_6) _ ?_
    show Steps p.tables e below (s₁.setTop (mkF m 9 #[.val (.long q1), .second, .val (.long q2), .second, .unset, .unset] [(.long (1000000 : Int64)), (.long q1), (.long (q1 / (1000000 : Int64)))])) _
    refine XS.lrem X0.here hx rfl (hb hby d1_9) rfl (by decide : ¬ ((1000000 : Int64) = (0 : Int64))) ?_
    show Steps p.tables e below (s₁.setTop (mkF m 10 #[.val (.long q1), .second, .val (.long q2), .second, .unset, .unset] [(.long (q1 - (q1 / (1000000 : Int64)) * (1000000 : Int64))), (.long (q1 / (1000000 : Int64)))])) _
    refine XS.lconst X0.here hx rfl (hb hby d1_10) ?_
    show Steps p.tables e below (s₁.setTop (mkF m 11 #[.val (.long q1), .second, .val (.long q2), .second, .unset, .unset] [(.long (0 : Int64)), (.long (q1 - (q1 / (1000000 : Int64)) * (1000000 : Int64))), (.long (q1 / (1000000 : Int64)))])) _
    refine XS.lcmp X0.here hx rfl (hb hby d1_11) rfl ?_
    exact kt
  show own_End p e below s (s₁.setTop (mkF m 12 #[.val (.long q1), .second, .val (.long q2), .second, .unset, .unset] [(.int (lcmpW (q1 - (q1 / (1000000 : Int64)) * (1000000 : Int64)) (0 : Int64))), (.long (q1 / (1000000 : Int64)))])) (Q1 Z q1 q2 h0 n0) ({ frames := 0, cells := 0, slots := 0, locals := 0 } : Room).cells ({ frames := 0, cells := 0, slots := 0, locals := 0 } : Room).slots
  by_cases hc12_1 : (q1 - (q1 / (1000000 : Int64)) * (1000000 : Int64)) = (0 : Int64)
  · refine own_pre (A := s₁.setTop (mkF m 28 #[.val (.long q1), .second, .val (.long q2), .second, .val (.long ((q1 / (1000000 : Int64)) + ((0 : Int32).toInt64))), .second] [(.int (lcmpW q2 ((q1 / (1000000 : Int64)) + ((0 : Int32).toInt64))))])) (fun tt kt => ?_) ?_
    · show Steps p.tables e below (s₁.setTop (mkF m 12 #[.val (.long q1), .second, .val (.long q2), .second, .unset, .unset] [(.int (lcmpW (q1 - (q1 / (1000000 : Int64)) * (1000000 : Int64)) (0 : Int64))), (.long (q1 / (1000000 : Int64)))])) _
      refine XS.ifNo X0.here hx rfl (hb hby d1_12) rfl ((if0 _ _).trans (teq ((lw_eq (q1 - (q1 / (1000000 : Int64)) * (1000000 : Int64)) (0 : Int64)).mpr hc12_1)).2) ?_
      show Steps p.tables e below (s₁.setTop (mkF m 15 #[.val (.long q1), .second, .val (.long q2), .second, .unset, .unset] [(.long (q1 / (1000000 : Int64)))])) _
      refine XS.iconst X0.here hx rfl (hb hby d1_15) ?_
      show Steps p.tables e below (s₁.setTop (mkF m 16 #[.val (.long q1), .second, .val (.long q2), .second, .unset, .unset] [(.int (0 : Int32)), (.long (q1 / (1000000 : Int64)))])) _
      refine XS.goto X0.here hx rfl (pc0 := 16) (pc' := 20) rfl (hb hby d1_16) (by decide) (by decide) ?_
      show Steps p.tables e below (s₁.setTop (mkF m 20 #[.val (.long q1), .second, .val (.long q2), .second, .unset, .unset] [(.int (0 : Int32)), (.long (q1 / (1000000 : Int64)))])) _
      refine XS.i2l X0.here hx rfl (hb hby d1_20) rfl ?_
      show Steps p.tables e below (s₁.setTop (mkF m 21 #[.val (.long q1), .second, .val (.long q2), .second, .unset, .unset] [(.long ((0 : Int32).toInt64)), (.long (q1 / (1000000 : Int64)))])) _
      refine XS.ladd X0.here hx rfl (hb hby d1_21) rfl ?_
      show Steps p.tables e below (s₁.setTop (mkF m 22 #[.val (.long q1), .second, .val (.long q2), .second, .unset, .unset] [(.long ((q1 / (1000000 : Int64)) + ((0 : Int32).toInt64)))])) _
      refine XS.lstore X0.here hx rfl (hb hby d1_22) rfl (l' := #[.val (.long q1), .second, .val (.long q2), .second, .val (.long ((q1 / (1000000 : Int64)) + ((0 : Int32).toInt64))), .second]) rfl ?_
      show Steps p.tables e below (s₁.setTop (mkF m 24 #[.val (.long q1), .second, .val (.long q2), .second, .val (.long ((q1 / (1000000 : Int64)) + ((0 : Int32).toInt64))), .second] [])) _
      refine XS.lloadN X0.here hx rfl (hb hby d1_24) rfl ?_
      show Steps p.tables e below (s₁.setTop (mkF m 25 #[.val (.long q1), .second, .val (.long q2), .second, .val (.long ((q1 / (1000000 : Int64)) + ((0 : Int32).toInt64))), .second] [(.long q2)])) _
      refine XS.lload X0.here hx rfl (hb hby d1_25) rfl ?_
      show Steps p.tables e below (s₁.setTop (mkF m 27 #[.val (.long q1), .second, .val (.long q2), .second, .val (.long ((q1 / (1000000 : Int64)) + ((0 : Int32).toInt64))), .second] [(.long ((q1 / (1000000 : Int64)) + ((0 : Int32).toInt64))), (.long q2)])) _
      refine XS.lcmp X0.here hx rfl (hb hby d1_27) rfl ?_
      exact kt
    show own_End p e below s (s₁.setTop (mkF m 28 #[.val (.long q1), .second, .val (.long q2), .second, .val (.long ((q1 / (1000000 : Int64)) + ((0 : Int32).toInt64))), .second] [(.int (lcmpW q2 ((q1 / (1000000 : Int64)) + ((0 : Int32).toInt64))))])) (Q1 Z q1 q2 h0 n0) ({ frames := 0, cells := 0, slots := 0, locals := 0 } : Room).cells ({ frames := 0, cells := 0, slots := 0, locals := 0 } : Room).slots
    by_cases hc28_2 : q2 < ((q1 / (1000000 : Int64)) + ((0 : Int32).toInt64))
    · refine own_pre (A := s₁.setTop (mkF m 36 #[.val (.long q1), .second, .val (.long q2), .second, .val (.long ((q1 / (1000000 : Int64)) + ((0 : Int32).toInt64))), .second] [(.int (0 : Int32))])) (fun tt kt => ?_) ?_
      · show Steps p.tables e below (s₁.setTop (mkF m 28 #[.val (.long q1), .second, .val (.long q2), .second, .val (.long ((q1 / (1000000 : Int64)) + ((0 : Int32).toInt64))), .second] [(.int (lcmpW q2 ((q1 / (1000000 : Int64)) + ((0 : Int32).toInt64))))])) _
        refine XS.ifYes X0.here hx rfl (pc0 := 28) (pc' := 35) rfl (hb hby d1_28) rfl ((if0 _ _).trans (tlt ((lw_lt q2 ((q1 / (1000000 : Int64)) + ((0 : Int32).toInt64))).mpr hc28_2)).1) (by decide) (by decide) ?_
        show Steps p.tables e below (s₁.setTop (mkF m 35 #[.val (.long q1), .second, .val (.long q2), .second, .val (.long ((q1 / (1000000 : Int64)) + ((0 : Int32).toInt64))), .second] [])) _
        refine XS.iconst X0.here hx rfl (hb hby d1_35) ?_
        exact kt
      show own_End p e below s (s₁.setTop (mkF m 36 #[.val (.long q1), .second, .val (.long q2), .second, .val (.long ((q1 / (1000000 : Int64)) + ((0 : Int32).toInt64))), .second] [(.int (0 : Int32))])) (Q1 Z q1 q2 h0 n0) ({ frames := 0, cells := 0, slots := 0, locals := 0 } : Room).cells ({ frames := 0, cells := 0, slots := 0, locals := 0 } : Room).slots
      have hv : (own_rwl q1 q2) = (0 : Int32) := hj.trans (by simp only [own_rwl, if_pos hc12_1, if_pos hc28_2])
      obtain ⟨fs, hr, hrun, hended, hW, hsame⟩ := X0.leave (v := some (.int (0 : Int32))) (fun h => by rw [Bd.returns] at h; cases h)
      refine ⟨_, _, ?_, hrun, hended, _, _, rfl, ?_, ⟨_, rfl⟩, hW, hsame.mono (by decide) (by decide)⟩
      · exact retN X0 hx (t := .boolean) Bd.returns (by simp) (hb hby d1_36) hr
      · show Q1 Z q1 q2 h0 n0 _ s₁.heap _
        rw [e0]
        exact ⟨(congrArg (fun z => some (Value.int z)) hv.symm), N0, rfl⟩
    · refine own_pre (A := s₁.setTop (mkF m 36 #[.val (.long q1), .second, .val (.long q2), .second, .val (.long ((q1 / (1000000 : Int64)) + ((0 : Int32).toInt64))), .second] [(.int (1 : Int32))])) (fun tt kt => ?_) ?_
      · show Steps p.tables e below (s₁.setTop (mkF m 28 #[.val (.long q1), .second, .val (.long q2), .second, .val (.long ((q1 / (1000000 : Int64)) + ((0 : Int32).toInt64))), .second] [(.int (lcmpW q2 ((q1 / (1000000 : Int64)) + ((0 : Int32).toInt64))))])) _
        refine XS.ifNo X0.here hx rfl (hb hby d1_28) rfl ((if0 _ _).trans (flt (fun q => hc28_2 ((lw_lt q2 ((q1 / (1000000 : Int64)) + ((0 : Int32).toInt64))).mp q))).1) ?_
        show Steps p.tables e below (s₁.setTop (mkF m 31 #[.val (.long q1), .second, .val (.long q2), .second, .val (.long ((q1 / (1000000 : Int64)) + ((0 : Int32).toInt64))), .second] [])) _
        refine XS.iconst X0.here hx rfl (hb hby d1_31) ?_
        show Steps p.tables e below (s₁.setTop (mkF m 32 #[.val (.long q1), .second, .val (.long q2), .second, .val (.long ((q1 / (1000000 : Int64)) + ((0 : Int32).toInt64))), .second] [(.int (1 : Int32))])) _
        refine XS.goto X0.here hx rfl (pc0 := 32) (pc' := 36) rfl (hb hby d1_32) (by decide) (by decide) ?_
        exact kt
      show own_End p e below s (s₁.setTop (mkF m 36 #[.val (.long q1), .second, .val (.long q2), .second, .val (.long ((q1 / (1000000 : Int64)) + ((0 : Int32).toInt64))), .second] [(.int (1 : Int32))])) (Q1 Z q1 q2 h0 n0) ({ frames := 0, cells := 0, slots := 0, locals := 0 } : Room).cells ({ frames := 0, cells := 0, slots := 0, locals := 0 } : Room).slots
      have hv : (own_rwl q1 q2) = (1 : Int32) := hj.trans (by simp only [own_rwl, if_pos hc12_1, if_neg hc28_2])
      obtain ⟨fs, hr, hrun, hended, hW, hsame⟩ := X0.leave (v := some (.int (1 : Int32))) (fun h => by rw [Bd.returns] at h; cases h)
      refine ⟨_, _, ?_, hrun, hended, _, _, rfl, ?_, ⟨_, rfl⟩, hW, hsame.mono (by decide) (by decide)⟩
      · exact retN X0 hx (t := .boolean) Bd.returns (by simp) (hb hby d1_36) hr
      · show Q1 Z q1 q2 h0 n0 _ s₁.heap _
        rw [e0]
        exact ⟨(congrArg (fun z => some (Value.int z)) hv.symm), N0, rfl⟩
  · refine own_pre (A := s₁.setTop (mkF m 28 #[.val (.long q1), .second, .val (.long q2), .second, .val (.long ((q1 / (1000000 : Int64)) + ((1 : Int32).toInt64))), .second] [(.int (lcmpW q2 ((q1 / (1000000 : Int64)) + ((1 : Int32).toInt64))))])) (fun tt kt => ?_) ?_
    · show Steps p.tables e below (s₁.setTop (mkF m 12 #[.val (.long q1), .second, .val (.long q2), .second, .unset, .unset] [(.int (lcmpW (q1 - (q1 / (1000000 : Int64)) * (1000000 : Int64)) (0 : Int64))), (.long (q1 / (1000000 : Int64)))])) _
      refine XS.ifYes X0.here hx rfl (pc0 := 12) (pc' := 19) rfl (hb hby d1_12) rfl ((if0 _ _).trans (feq (fun q => hc12_1 ((lw_eq (q1 - (q1 / (1000000 : Int64)) * (1000000 : Int64)) (0 : Int64)).mp q))).2) (by decide) (by decide) ?_
      show Steps p.tables e below (s₁.setTop (mkF m 19 #[.val (.long q1), .second, .val (.long q2), .second, .unset, .unset] [(.long (q1 / (1000000 : Int64)))])) _
      refine XS.iconst X0.here hx rfl (hb hby d1_19) ?_
      show Steps p.tables e below (s₁.setTop (mkF m 20 #[.val (.long q1), .second, .val (.long q2), .second, .unset, .unset] [(.int (1 : Int32)), (.long (q1 / (1000000 : Int64)))])) _
      refine XS.i2l X0.here hx rfl (hb hby d1_20) rfl ?_
      show Steps p.tables e below (s₁.setTop (mkF m 21 #[.val (.long q1), .second, .val (.long q2), .second, .unset, .unset] [(.long ((1 : Int32).toInt64)), (.long (q1 / (1000000 : Int64)))])) _
      refine XS.ladd X0.here hx rfl (hb hby d1_21) rfl ?_
      show Steps p.tables e below (s₁.setTop (mkF m 22 #[.val (.long q1), .second, .val (.long q2), .second, .unset, .unset] [(.long ((q1 / (1000000 : Int64)) + ((1 : Int32).toInt64)))])) _
      refine XS.lstore X0.here hx rfl (hb hby d1_22) rfl (l' := #[.val (.long q1), .second, .val (.long q2), .second, .val (.long ((q1 / (1000000 : Int64)) + ((1 : Int32).toInt64))), .second]) rfl ?_
      show Steps p.tables e below (s₁.setTop (mkF m 24 #[.val (.long q1), .second, .val (.long q2), .second, .val (.long ((q1 / (1000000 : Int64)) + ((1 : Int32).toInt64))), .second] [])) _
      refine XS.lloadN X0.here hx rfl (hb hby d1_24) rfl ?_
      show Steps p.tables e below (s₁.setTop (mkF m 25 #[.val (.long q1), .second, .val (.long q2), .second, .val (.long ((q1 / (1000000 : Int64)) + ((1 : Int32).toInt64))), .second] [(.long q2)])) _
      refine XS.lload X0.here hx rfl (hb hby d1_25) rfl ?_
      show Steps p.tables e below (s₁.setTop (mkF m 27 #[.val (.long q1), .second, .val (.long q2), .second, .val (.long ((q1 / (1000000 : Int64)) + ((1 : Int32).toInt64))), .second] [(.long ((q1 / (1000000 : Int64)) + ((1 : Int32).toInt64))), (.long q2)])) _
      refine XS.lcmp X0.here hx rfl (hb hby d1_27) rfl ?_
      exact kt
    show own_End p e below s (s₁.setTop (mkF m 28 #[.val (.long q1), .second, .val (.long q2), .second, .val (.long ((q1 / (1000000 : Int64)) + ((1 : Int32).toInt64))), .second] [(.int (lcmpW q2 ((q1 / (1000000 : Int64)) + ((1 : Int32).toInt64))))])) (Q1 Z q1 q2 h0 n0) ({ frames := 0, cells := 0, slots := 0, locals := 0 } : Room).cells ({ frames := 0, cells := 0, slots := 0, locals := 0 } : Room).slots
    by_cases hc28_3 : q2 < ((q1 / (1000000 : Int64)) + ((1 : Int32).toInt64))
    · refine own_pre (A := s₁.setTop (mkF m 36 #[.val (.long q1), .second, .val (.long q2), .second, .val (.long ((q1 / (1000000 : Int64)) + ((1 : Int32).toInt64))), .second] [(.int (0 : Int32))])) (fun tt kt => ?_) ?_
      · show Steps p.tables e below (s₁.setTop (mkF m 28 #[.val (.long q1), .second, .val (.long q2), .second, .val (.long ((q1 / (1000000 : Int64)) + ((1 : Int32).toInt64))), .second] [(.int (lcmpW q2 ((q1 / (1000000 : Int64)) + ((1 : Int32).toInt64))))])) _
        refine XS.ifYes X0.here hx rfl (pc0 := 28) (pc' := 35) rfl (hb hby d1_28) rfl ((if0 _ _).trans (tlt ((lw_lt q2 ((q1 / (1000000 : Int64)) + ((1 : Int32).toInt64))).mpr hc28_3)).1) (by decide) (by decide) ?_
        show Steps p.tables e below (s₁.setTop (mkF m 35 #[.val (.long q1), .second, .val (.long q2), .second, .val (.long ((q1 / (1000000 : Int64)) + ((1 : Int32).toInt64))), .second] [])) _
        refine XS.iconst X0.here hx rfl (hb hby d1_35) ?_
        exact kt
      show own_End p e below s (s₁.setTop (mkF m 36 #[.val (.long q1), .second, .val (.long q2), .second, .val (.long ((q1 / (1000000 : Int64)) + ((1 : Int32).toInt64))), .second] [(.int (0 : Int32))])) (Q1 Z q1 q2 h0 n0) ({ frames := 0, cells := 0, slots := 0, locals := 0 } : Room).cells ({ frames := 0, cells := 0, slots := 0, locals := 0 } : Room).slots
      have hv : (own_rwl q1 q2) = (0 : Int32) := hj.trans (by simp only [own_rwl, if_neg hc12_1, if_pos hc28_3])
      obtain ⟨fs, hr, hrun, hended, hW, hsame⟩ := X0.leave (v := some (.int (0 : Int32))) (fun h => by rw [Bd.returns] at h; cases h)
      refine ⟨_, _, ?_, hrun, hended, _, _, rfl, ?_, ⟨_, rfl⟩, hW, hsame.mono (by decide) (by decide)⟩
      · exact retN X0 hx (t := .boolean) Bd.returns (by simp) (hb hby d1_36) hr
      · show Q1 Z q1 q2 h0 n0 _ s₁.heap _
        rw [e0]
        exact ⟨(congrArg (fun z => some (Value.int z)) hv.symm), N0, rfl⟩
    · refine own_pre (A := s₁.setTop (mkF m 36 #[.val (.long q1), .second, .val (.long q2), .second, .val (.long ((q1 / (1000000 : Int64)) + ((1 : Int32).toInt64))), .second] [(.int (1 : Int32))])) (fun tt kt => ?_) ?_
      · show Steps p.tables e below (s₁.setTop (mkF m 28 #[.val (.long q1), .second, .val (.long q2), .second, .val (.long ((q1 / (1000000 : Int64)) + ((1 : Int32).toInt64))), .second] [(.int (lcmpW q2 ((q1 / (1000000 : Int64)) + ((1 : Int32).toInt64))))])) _
        refine XS.ifNo X0.here hx rfl (hb hby d1_28) rfl ((if0 _ _).trans (flt (fun q => hc28_3 ((lw_lt q2 ((q1 / (1000000 : Int64)) + ((1 : Int32).toInt64))).mp q))).1) ?_
        show Steps p.tables e below (s₁.setTop (mkF m 31 #[.val (.long q1), .second, .val (.long q2), .second, .val (.long ((q1 / (1000000 : Int64)) + ((1 : Int32).toInt64))), .second] [])) _
        refine XS.iconst X0.here hx rfl (hb hby d1_31) ?_
        show Steps p.tables e below (s₁.setTop (mkF m 32 #[.val (.long q1), .second, .val (.long q2), .second, .val (.long ((q1 / (1000000 : Int64)) + ((1 : Int32).toInt64))), .second] [(.int (1 : Int32))])) _
        refine XS.goto X0.here hx rfl (pc0 := 32) (pc' := 36) rfl (hb hby d1_32) (by decide) (by decide) ?_
        exact kt
      show own_End p e below s (s₁.setTop (mkF m 36 #[.val (.long q1), .second, .val (.long q2), .second, .val (.long ((q1 / (1000000 : Int64)) + ((1 : Int32).toInt64))), .second] [(.int (1 : Int32))])) (Q1 Z q1 q2 h0 n0) ({ frames := 0, cells := 0, slots := 0, locals := 0 } : Room).cells ({ frames := 0, cells := 0, slots := 0, locals := 0 } : Room).slots
      have hv : (own_rwl q1 q2) = (1 : Int32) := hj.trans (by simp only [own_rwl, if_neg hc12_1, if_neg hc28_3])
      obtain ⟨fs, hr, hrun, hended, hW, hsame⟩ := X0.leave (v := some (.int (1 : Int32))) (fun h => by rw [Bd.returns] at h; cases h)
      refine ⟨_, _, ?_, hrun, hended, _, _, rfl, ?_, ⟨_, rfl⟩, hW, hsame.mono (by decide) (by decide)⟩
      · exact retN X0 hx (t := .boolean) Bd.returns (by simp) (hb hby d1_36) hr
      · show Q1 Z q1 q2 h0 n0 _ s₁.heap _
        rw [e0]
        exact ⟨(congrArg (fun z => some (Value.int z)) hv.symm), N0, rfl⟩
def own_law_61 (q1 : Int64) (q2 : Int64) (p3 : Int32) (d : Int64) : Int32 := (if (9223372036854 : Int64) < (q2 &&& (9223372036854775807 : Int64)) then (if (own_rwl d (q2 &&& (9223372036854775807 : Int64))) = (1 : Int32) then (1 : Int32) else (0 : Int32)) else (if ((q2 &&& (9223372036854775807 : Int64)) * (1000000 : Int64)) < d then (if (own_rwl d (q2 &&& (9223372036854775807 : Int64))) = (0 : Int32) then (1 : Int32) else (0 : Int32)) else (if (own_rwl d (q2 &&& (9223372036854775807 : Int64))) = (1 : Int32) then (1 : Int32) else (0 : Int32))))
def own_law (q1 : Int64) (q2 : Int64) (p3 : Int32) : Int32 := (if (q2 &&& (9223372036854775807 : Int64)) = (0 : Int64) then (1 : Int32) else (if (p3 &&& (1 : Int32)) = (0 : Int32) then (own_law_61 q1 q2 p3 (q1 &&& (9223372036854775807 : Int64))) else (if (9223372036854 : Int64) < (q2 &&& (9223372036854775807 : Int64)) then (own_law_61 q1 q2 p3 (q1 &&& (9223372036854775807 : Int64))) else (own_law_61 q1 q2 p3 ((((q2 &&& (9223372036854775807 : Int64)) * (1000000 : Int64)) + ((((p3.toUInt32 >>> ((1 : Int32) &&& 31).toUInt32).toInt32) % (3 : Int32)).toInt64)) - (1 : Int64))))))
theorem pn_0 : plainName "com/example/atoll/atoll/sim/ScenarioRoundsWithinLimitPinLaw" = true := by first | (simp [plainName, overriddenIn]; done) | decide +kernel
theorem pd_0_0 : parseMethodDescriptor "(JJ)Z" = some ⟨[.long, .long], some .boolean⟩ := by decide +kernel
theorem ef_0 (m : MethodId) (x0 : Int64) (x1 : Int64) (x2 : Int32) : entryFrame m #[(.long x0), (.long x1), (.int x2)] maxLocals = mkF m 0 #[.val (.long x0), .second, .val (.long x1), .second, .val (.int x2), .unset, .unset, .unset, .unset, .unset, .unset, .unset] [] := by first | (simp [entryFrame, mkF, argsToLocals, Value.category, maxLocals]; done) | rfl
def Q0 (Z : State) (q1 : Int64) (q2 : Int64) (p3 : Int32) (h0 : Heap) (n0 : Nat) (v : Option Value) (h : Heap) (L : List Loc) : Prop := v = some (.int (own_law q1 q2 p3)) ∧ Fr n0 L
set_option maxRecDepth 65536 in
set_option maxHeartbeats 40000000 in
theorem rm0 (l : Launch) (Z : State) (a0 : Array Value) (hw : ∀ d ∈ tables_1, d.before a0 Z = true) (ws : List Jvm.Cond) (q1 : Int64) (q2 : Int64) (p3 : Int32) (h0 : Heap) (n0 : Nat) (Z0 : n0 ≤ h0.size) :
    MetFree l x (head1 (Jvm.Cond.code x code maxLocals ret :: ws) room_1) (fun a U => a = #[(.long q1), (.long q2), (.int p3)] ∧ Z.Warmed39 U.vm ∧ U.heap = h0) (fun _ _ _ _ _ => True) (fun _ U o U' => ∃ v L, o = .returned v ∧ Q0 Z q1 q2 p3 h0 n0 v U'.heap L ∧ FrameEnd U o U' L room_1.cells room_1.slots) := by
  refine MetFree.of_bodySF (plainFor_of_name pn_0) hisR ?_
  intro p e s m args below meth c s₁ Bd hml0 hP hK
  obtain ⟨rfl, hZ, hh⟩ := hP
  have hx := Bd.exec
  have hby := Bd.bytes
  have hml : c.maxLocals = 12 := hml0
  have hown : s.vm.findClass "com/example/atoll/atoll/sim/ScenarioRoundsWithinLimitPinLaw" = some m.cls := findClass_of_methodNamed Bd.named
  have hnm := (name_of_methodNamed Bd.named Bd.method).1
  have X0 : Stand p l e room_1 s m #[(.long q1), (.long q2), (.int p3)] below meth c s₁ [] 0 0 := Stand.of_body Bd
  have e0 : s₁.heap = h0 := by rw [← hh, Bd.state]; rfl
  have N0 := Fr.nil n0
  show own_End p e below s (s₁.setTop (entryFrame m #[(.long q1), (.long q2), (.int p3)] maxLocals)) (Q0 Z q1 q2 p3 h0 n0) room_1.cells room_1.slots
  refine own_pre (A := s₁.setTop (mkF m 0 #[.val (.long q1), .second, .val (.long q2), .second, .val (.int p3), .unset, .unset, .unset, .unset, .unset, .unset, .unset] [])) (fun tt kt => castTop (ef_0 m q1 q2 p3) kt) ?_
  show own_End p e below s (s₁.setTop (mkF m 0 #[.val (.long q1), .second, .val (.long q2), .second, .val (.int p3), .unset, .unset, .unset, .unset, .unset, .unset, .unset] [])) (Q0 Z q1 q2 p3 h0 n0) room_1.cells room_1.slots
  have hj : own_law q1 q2 p3 = own_law q1 q2 p3 := rfl
  have j61 : ∀ (Tj61 : State) (Lj61 : List Loc) (Xj61 : Stand p l e room_1 s m #[(.long q1), (.long q2), (.int p3)] below meth c Tj61 Lj61 0 0) (ej61 : Tj61.heap = h0) (Nj61 : Fr n0 Lj61) (d : Int64) , own_law q1 q2 p3 = own_law_61 q1 q2 p3 d → own_End p e below s (Tj61.setTop (mkF m 61 #[.val (.long q1), .second, .val (.long q2), .second, .val (.int p3), .val (.long (q2 &&& (9223372036854775807 : Int64))), .second, .val (.long (9223372036854 : Int64)), .second, .val (.long d), .second, .unset] [])) (Q0 Z q1 q2 p3 h0 n0) room_1.cells room_1.slots := by
    intro Tj61 Lj61 Xj61 ej61 Nj61 d  hj
    refine own_pre (A := Tj61.setTop (mkF m 66 #[.val (.long q1), .second, .val (.long q2), .second, .val (.int p3), .val (.long (q2 &&& (9223372036854775807 : Int64))), .second, .val (.long (9223372036854 : Int64)), .second, .val (.long d), .second, .unset] [(.int (lcmpW (q2 &&& (9223372036854775807 : Int64)) (9223372036854 : Int64)))])) (fun tt kt => ?_) ?_
    · show Steps p.tables e below (Tj61.setTop (mkF m 61 #[.val (.long q1), .second, .val (.long q2), .second, .val (.int p3), .val (.long (q2 &&& (9223372036854775807 : Int64))), .second, .val (.long (9223372036854 : Int64)), .second, .val (.long d), .second, .unset] [])) _
      refine XS.lload Xj61.here hx rfl (hb hby at_61) rfl ?_
      show Steps p.tables e below (Tj61.setTop (mkF m 63 #[.val (.long q1), .second, .val (.long q2), .second, .val (.int p3), .val (.long (q2 &&& (9223372036854775807 : Int64))), .second, .val (.long (9223372036854 : Int64)), .second, .val (.long d), .second, .unset] [(.long (q2 &&& (9223372036854775807 : Int64)))])) _
      refine XS.lload Xj61.here hx rfl (hb hby at_63) rfl ?_
      show Steps p.tables e below (Tj61.setTop (mkF m 65 #[.val (.long q1), .second, .val (.long q2), .second, .val (.int p3), .val (.long (q2 &&& (9223372036854775807 : Int64))), .second, .val (.long (9223372036854 : Int64)), .second, .val (.long d), .second, .unset] [(.long (9223372036854 : Int64)), (.long (q2 &&& (9223372036854775807 : Int64)))])) _
      refine XS.lcmp Xj61.here hx rfl (hb hby at_65) rfl ?_
      exact kt
    show own_End p e below s (Tj61.setTop (mkF m 66 #[.val (.long q1), .second, .val (.long q2), .second, .val (.int p3), .val (.long (q2 &&& (9223372036854775807 : Int64))), .second, .val (.long (9223372036854 : Int64)), .second, .val (.long d), .second, .unset] [(.int (lcmpW (q2 &&& (9223372036854775807 : Int64)) (9223372036854 : Int64)))])) (Q0 Z q1 q2 p3 h0 n0) room_1.cells room_1.slots
    by_cases hc66_1 : (9223372036854 : Int64) < (q2 &&& (9223372036854775807 : Int64))
    · obtain ⟨_, _, ⟨T2, L2, k2, n2⟩, -, X2, ⟨Lc2, hQ2, l2, y2, z2⟩, st2⟩ := Jvm.LawKit.callS Xj61 hx (y := (⟨"com/example/atoll/atoll/sim/Scenario", "roundsWithinLimit", "(JJ)Z"⟩ : MethodName)) hown (mvT hZ (hw _ (List.mem_of_getElem? (i := 3) rfl))) (mvT hZ (hw _ (List.mem_of_getElem? (i := 4) rfl))) (mvT hZ (hw _ (List.mem_of_getElem? (i := 5) rfl))) (mvT hZ (hw _ (List.mem_of_getElem? (i := 6) rfl))) (by decide) (backOf (W := 0) (rm1 l Z a0 hw [] d (q2 &&& (9223372036854775807 : Int64))  h0 n0 Z0 ) hZ (hw _ (List.mem_of_getElem? (i := 6) rfl)) (hw _ (List.mem_of_getElem? (i := 5) rfl)) (by decide) (by decide)) (g := (mkF m 98 #[.val (.long q1), .second, .val (.long q2), .second, .val (.int p3), .val (.long (q2 &&& (9223372036854775807 : Int64))), .second, .val (.long (9223372036854 : Int64)), .second, .val (.long d), .second, .val (.int (1 : Int32))] [(.long (q2 &&& (9223372036854775807 : Int64))), (.long d)])) rfl (by rw [hml]; rfl) (argsL := [(.long d), (.long (q2 &&& (9223372036854775807 : Int64)))]) (rest := []) (lenOf pd_0_0 rfl) rfl (by show 2 * 0 + _ ≤ _; exact Nat.le_of_eq rfl) (hb hby at_98) (fun _ _ => ⟨rfl, ej61, (by decide : 0 + 0 ≤ _), (by decide : 0 + 0 ≤ _)⟩)
      dsimp only [Pt.U, Pt.locs, Pt.cells, Pt.slots] at X2 l2 y2 z2 st2 hQ2
      subst l2 y2 z2
      obtain ⟨rfl, N2q, e2⟩ := hQ2
      have N2 := Fr.app Nj61 N2q
      refine own_pre (A := T2.setTop (mkF m 103 #[.val (.long q1), .second, .val (.long q2), .second, .val (.int p3), .val (.long (q2 &&& (9223372036854775807 : Int64))), .second, .val (.long (9223372036854 : Int64)), .second, .val (.long d), .second, .val (.int (1 : Int32))] [(.int (1 : Int32)), (.int (own_rwl d (q2 &&& (9223372036854775807 : Int64))))])) (fun tt kt => ?_) ?_
      · show Steps p.tables e below (Tj61.setTop (mkF m 66 #[.val (.long q1), .second, .val (.long q2), .second, .val (.int p3), .val (.long (q2 &&& (9223372036854775807 : Int64))), .second, .val (.long (9223372036854 : Int64)), .second, .val (.long d), .second, .unset] [(.int (lcmpW (q2 &&& (9223372036854775807 : Int64)) (9223372036854 : Int64)))])) _
        refine XS.ifNo Xj61.here hx rfl (hb hby at_66) rfl ((if0 _ _).trans (tlt ((lw_gt (q2 &&& (9223372036854775807 : Int64)) (9223372036854 : Int64)).mpr hc66_1)).2.2.2) ?_
        show Steps p.tables e below (Tj61.setTop (mkF m 69 #[.val (.long q1), .second, .val (.long q2), .second, .val (.int p3), .val (.long (q2 &&& (9223372036854775807 : Int64))), .second, .val (.long (9223372036854 : Int64)), .second, .val (.long d), .second, .unset] [])) _
        refine XS.iconst Xj61.here hx rfl (hb hby at_69) ?_
        show Steps p.tables e below (Tj61.setTop (mkF m 70 #[.val (.long q1), .second, .val (.long q2), .second, .val (.int p3), .val (.long (q2 &&& (9223372036854775807 : Int64))), .second, .val (.long (9223372036854 : Int64)), .second, .val (.long d), .second, .unset] [(.int (1 : Int32))])) _
        refine XS.istore Xj61.here hx rfl (hb hby at_70) rfl (l' := #[.val (.long q1), .second, .val (.long q2), .second, .val (.int p3), .val (.long (q2 &&& (9223372036854775807 : Int64))), .second, .val (.long (9223372036854 : Int64)), .second, .val (.long d), .second, .val (.int (1 : Int32))]) rfl ?_
        show Steps p.tables e below (Tj61.setTop (mkF m 72 #[.val (.long q1), .second, .val (.long q2), .second, .val (.int p3), .val (.long (q2 &&& (9223372036854775807 : Int64))), .second, .val (.long (9223372036854 : Int64)), .second, .val (.long d), .second, .val (.int (1 : Int32))] [])) _
        refine XS.goto Xj61.here hx rfl (pc0 := 72) (pc' := 94) rfl (hb hby at_72) (by decide) (by decide) ?_
        show Steps p.tables e below (Tj61.setTop (mkF m 94 #[.val (.long q1), .second, .val (.long q2), .second, .val (.int p3), .val (.long (q2 &&& (9223372036854775807 : Int64))), .second, .val (.long (9223372036854 : Int64)), .second, .val (.long d), .second, .val (.int (1 : Int32))] [])) _
        refine XS.lload Xj61.here hx rfl (hb hby at_94) rfl ?_
        show Steps p.tables e below (Tj61.setTop (mkF m 96 #[.val (.long q1), .second, .val (.long q2), .second, .val (.int p3), .val (.long (q2 &&& (9223372036854775807 : Int64))), .second, .val (.long (9223372036854 : Int64)), .second, .val (.long d), .second, .val (.int (1 : Int32))] [(.long d)])) _
        refine XS.lload Xj61.here hx rfl (hb hby at_96) rfl ?_
        show Steps p.tables e below (Tj61.setTop (mkF m 98 #[.val (.long q1), .second, .val (.long q2), .second, .val (.int p3), .val (.long (q2 &&& (9223372036854775807 : Int64))), .second, .val (.long (9223372036854 : Int64)), .second, .val (.long d), .second, .val (.int (1 : Int32))] [(.long (q2 &&& (9223372036854775807 : Int64))), (.long d)])) _
        refine st2 _ ?_
        show Steps p.tables e below (T2.setTop (mkF m 101 #[.val (.long q1), .second, .val (.long q2), .second, .val (.int p3), .val (.long (q2 &&& (9223372036854775807 : Int64))), .second, .val (.long (9223372036854 : Int64)), .second, .val (.long d), .second, .val (.int (1 : Int32))] [(.int (own_rwl d (q2 &&& (9223372036854775807 : Int64))))])) _
        refine XS.iload X2.here hx rfl (hb hby at_101) rfl ?_
        exact kt
      show own_End p e below s (T2.setTop (mkF m 103 #[.val (.long q1), .second, .val (.long q2), .second, .val (.int p3), .val (.long (q2 &&& (9223372036854775807 : Int64))), .second, .val (.long (9223372036854 : Int64)), .second, .val (.long d), .second, .val (.int (1 : Int32))] [(.int (1 : Int32)), (.int (own_rwl d (q2 &&& (9223372036854775807 : Int64))))])) (Q0 Z q1 q2 p3 h0 n0) room_1.cells room_1.slots
      by_cases hc103_3 : (own_rwl d (q2 &&& (9223372036854775807 : Int64))) = (1 : Int32)
      · refine own_pre (A := T2.setTop (mkF m 111 #[.val (.long q1), .second, .val (.long q2), .second, .val (.int p3), .val (.long (q2 &&& (9223372036854775807 : Int64))), .second, .val (.long (9223372036854 : Int64)), .second, .val (.long d), .second, .val (.int (1 : Int32))] [(.int (1 : Int32))])) (fun tt kt => ?_) ?_
        · show Steps p.tables e below (T2.setTop (mkF m 103 #[.val (.long q1), .second, .val (.long q2), .second, .val (.int p3), .val (.long (q2 &&& (9223372036854775807 : Int64))), .second, .val (.long (9223372036854 : Int64)), .second, .val (.long d), .second, .val (.int (1 : Int32))] [(.int (1 : Int32)), (.int (own_rwl d (q2 &&& (9223372036854775807 : Int64))))])) _
          refine XS.icmpNo X2.here hx rfl (hb hby at_103) rfl (teq hc103_3).2 ?_
          show Steps p.tables e below (T2.setTop (mkF m 106 #[.val (.long q1), .second, .val (.long q2), .second, .val (.int p3), .val (.long (q2 &&& (9223372036854775807 : Int64))), .second, .val (.long (9223372036854 : Int64)), .second, .val (.long d), .second, .val (.int (1 : Int32))] [])) _
          refine XS.iconst X2.here hx rfl (hb hby at_106) ?_
          show Steps p.tables e below (T2.setTop (mkF m 107 #[.val (.long q1), .second, .val (.long q2), .second, .val (.int p3), .val (.long (q2 &&& (9223372036854775807 : Int64))), .second, .val (.long (9223372036854 : Int64)), .second, .val (.long d), .second, .val (.int (1 : Int32))] [(.int (1 : Int32))])) _
          refine XS.goto X2.here hx rfl (pc0 := 107) (pc' := 111) rfl (hb hby at_107) (by decide) (by decide) ?_
          exact kt
        show own_End p e below s (T2.setTop (mkF m 111 #[.val (.long q1), .second, .val (.long q2), .second, .val (.int p3), .val (.long (q2 &&& (9223372036854775807 : Int64))), .second, .val (.long (9223372036854 : Int64)), .second, .val (.long d), .second, .val (.int (1 : Int32))] [(.int (1 : Int32))])) (Q0 Z q1 q2 p3 h0 n0) room_1.cells room_1.slots
        have hv : (own_law q1 q2 p3) = (1 : Int32) := hj.trans (by simp only [own_law_61, if_pos hc66_1, if_pos hc103_3])
        obtain ⟨fs, hr, hrun, hended, hW, hsame⟩ := X2.leave (v := some (.int (1 : Int32))) (fun h => by rw [Bd.returns] at h; cases h)
        refine ⟨_, _, ?_, hrun, hended, _, _, rfl, ?_, ⟨_, rfl⟩, hW, hsame.mono (by decide) (by decide)⟩
        · exact retN X2 hx (t := .boolean) Bd.returns (by simp) (hb hby at_111) hr
        · show Q0 Z q1 q2 p3 h0 n0 _ T2.heap _
          rw [e2]
          exact ⟨(congrArg (fun z => some (Value.int z)) hv.symm), N2⟩
      · refine own_pre (A := T2.setTop (mkF m 111 #[.val (.long q1), .second, .val (.long q2), .second, .val (.int p3), .val (.long (q2 &&& (9223372036854775807 : Int64))), .second, .val (.long (9223372036854 : Int64)), .second, .val (.long d), .second, .val (.int (1 : Int32))] [(.int (0 : Int32))])) (fun tt kt => ?_) ?_
        · show Steps p.tables e below (T2.setTop (mkF m 103 #[.val (.long q1), .second, .val (.long q2), .second, .val (.int p3), .val (.long (q2 &&& (9223372036854775807 : Int64))), .second, .val (.long (9223372036854 : Int64)), .second, .val (.long d), .second, .val (.int (1 : Int32))] [(.int (1 : Int32)), (.int (own_rwl d (q2 &&& (9223372036854775807 : Int64))))])) _
          refine XS.icmpYes X2.here hx rfl (pc0 := 103) (pc' := 110) rfl (hb hby at_103) rfl (feq hc103_3).2 (by decide) (by decide) ?_
          show Steps p.tables e below (T2.setTop (mkF m 110 #[.val (.long q1), .second, .val (.long q2), .second, .val (.int p3), .val (.long (q2 &&& (9223372036854775807 : Int64))), .second, .val (.long (9223372036854 : Int64)), .second, .val (.long d), .second, .val (.int (1 : Int32))] [])) _
          refine XS.iconst X2.here hx rfl (hb hby at_110) ?_
          exact kt
        show own_End p e below s (T2.setTop (mkF m 111 #[.val (.long q1), .second, .val (.long q2), .second, .val (.int p3), .val (.long (q2 &&& (9223372036854775807 : Int64))), .second, .val (.long (9223372036854 : Int64)), .second, .val (.long d), .second, .val (.int (1 : Int32))] [(.int (0 : Int32))])) (Q0 Z q1 q2 p3 h0 n0) room_1.cells room_1.slots
        have hv : (own_law q1 q2 p3) = (0 : Int32) := hj.trans (by simp only [own_law_61, if_pos hc66_1, if_neg hc103_3])
        obtain ⟨fs, hr, hrun, hended, hW, hsame⟩ := X2.leave (v := some (.int (0 : Int32))) (fun h => by rw [Bd.returns] at h; cases h)
        refine ⟨_, _, ?_, hrun, hended, _, _, rfl, ?_, ⟨_, rfl⟩, hW, hsame.mono (by decide) (by decide)⟩
        · exact retN X2 hx (t := .boolean) Bd.returns (by simp) (hb hby at_111) hr
        · show Q0 Z q1 q2 p3 h0 n0 _ T2.heap _
          rw [e2]
          exact ⟨(congrArg (fun z => some (Value.int z)) hv.symm), N2⟩
    · refine own_pre (A := Tj61.setTop (mkF m 84 #[.val (.long q1), .second, .val (.long q2), .second, .val (.int p3), .val (.long (q2 &&& (9223372036854775807 : Int64))), .second, .val (.long (9223372036854 : Int64)), .second, .val (.long d), .second, .unset] [(.int (lcmpW d ((q2 &&& (9223372036854775807 : Int64)) * (1000000 : Int64))))])) (fun tt kt => ?_) ?_
      · show Steps p.tables e below (Tj61.setTop (mkF m 66 #[.val (.long q1), .second, .val (.long q2), .second, .val (.int p3), .val (.long (q2 &&& (9223372036854775807 : Int64))), .second, .val (.long (9223372036854 : Int64)), .second, .val (.long d), .second, .unset] [(.int (lcmpW (q2 &&& (9223372036854775807 : Int64)) (9223372036854 : Int64)))])) _
        refine XS.ifYes Xj61.here hx rfl (pc0 := 66) (pc' := 75) rfl (hb hby at_66) rfl ((if0 _ _).trans (flt (fun q => hc66_1 ((lw_gt (q2 &&& (9223372036854775807 : Int64)) (9223372036854 : Int64)).mp q))).2.2.2) (by decide) (by decide) ?_
        show Steps p.tables e below (Tj61.setTop (mkF m 75 #[.val (.long q1), .second, .val (.long q2), .second, .val (.int p3), .val (.long (q2 &&& (9223372036854775807 : Int64))), .second, .val (.long (9223372036854 : Int64)), .second, .val (.long d), .second, .unset] [])) _
        refine XS.lload Xj61.here hx rfl (hb hby at_75) rfl ?_
        show Steps p.tables e below (Tj61.setTop (mkF m 77 #[.val (.long q1), .second, .val (.long q2), .second, .val (.int p3), .val (.long (q2 &&& (9223372036854775807 : Int64))), .second, .val (.long (9223372036854 : Int64)), .second, .val (.long d), .second, .unset] [(.long d)])) _
        refine XS.lload Xj61.here hx rfl (hb hby at_77) rfl ?_
        show Steps p.tables e below (Tj61.setTop (mkF m 79 #[.val (.long q1), .second, .val (.long q2), .second, .val (.int p3), .val (.long (q2 &&& (9223372036854775807 : Int64))), .second, .val (.long (9223372036854 : Int64)), .second, .val (.long d), .second, .unset] [(.long (q2 &&& (9223372036854775807 : Int64))), (.long d)])) _
        refine Xj61.ldc2Long hx hown (mvT hZ (hw _ (List.mem_of_getElem? (i := 2) rfl))) (g := (mkF m 79 #[.val (.long q1), .second, .val (.long q2), .second, .val (.int p3), .val (.long (q2 &&& (9223372036854775807 : Int64))), .second, .val (.long (9223372036854 : Int64)), .second, .val (.long d), .second, .unset] [(.long (q2 &&& (9223372036854775807 : Int64))), (.long d)])) rfl (hb hby at_79) _ ?_
        show Steps p.tables e below (Tj61.setTop (mkF m 82 #[.val (.long q1), .second, .val (.long q2), .second, .val (.int p3), .val (.long (q2 &&& (9223372036854775807 : Int64))), .second, .val (.long (9223372036854 : Int64)), .second, .val (.long d), .second, .unset] [(.long (1000000 : Int64)), (.long (q2 &&& (9223372036854775807 : Int64))), (.long d)])) _
        refine XS.lmul Xj61.here hx rfl (hb hby at_82) rfl ?_
        show Steps p.tables e below (Tj61.setTop (mkF m 83 #[.val (.long q1), .second, .val (.long q2), .second, .val (.int p3), .val (.long (q2 &&& (9223372036854775807 : Int64))), .second, .val (.long (9223372036854 : Int64)), .second, .val (.long d), .second, .unset] [(.long ((q2 &&& (9223372036854775807 : Int64)) * (1000000 : Int64))), (.long d)])) _
        refine XS.lcmp Xj61.here hx rfl (hb hby at_83) rfl ?_
        exact kt
      show own_End p e below s (Tj61.setTop (mkF m 84 #[.val (.long q1), .second, .val (.long q2), .second, .val (.int p3), .val (.long (q2 &&& (9223372036854775807 : Int64))), .second, .val (.long (9223372036854 : Int64)), .second, .val (.long d), .second, .unset] [(.int (lcmpW d ((q2 &&& (9223372036854775807 : Int64)) * (1000000 : Int64))))])) (Q0 Z q1 q2 p3 h0 n0) room_1.cells room_1.slots
      by_cases hc84_4 : ((q2 &&& (9223372036854775807 : Int64)) * (1000000 : Int64)) < d
      · obtain ⟨_, _, ⟨T5, L5, k5, n5⟩, -, X5, ⟨Lc5, hQ5, l5, y5, z5⟩, st5⟩ := Jvm.LawKit.callS Xj61 hx (y := (⟨"com/example/atoll/atoll/sim/Scenario", "roundsWithinLimit", "(JJ)Z"⟩ : MethodName)) hown (mvT hZ (hw _ (List.mem_of_getElem? (i := 3) rfl))) (mvT hZ (hw _ (List.mem_of_getElem? (i := 4) rfl))) (mvT hZ (hw _ (List.mem_of_getElem? (i := 5) rfl))) (mvT hZ (hw _ (List.mem_of_getElem? (i := 6) rfl))) (by decide) (backOf (W := 0) (rm1 l Z a0 hw [] d (q2 &&& (9223372036854775807 : Int64))  h0 n0 Z0 ) hZ (hw _ (List.mem_of_getElem? (i := 6) rfl)) (hw _ (List.mem_of_getElem? (i := 5) rfl)) (by decide) (by decide)) (g := (mkF m 98 #[.val (.long q1), .second, .val (.long q2), .second, .val (.int p3), .val (.long (q2 &&& (9223372036854775807 : Int64))), .second, .val (.long (9223372036854 : Int64)), .second, .val (.long d), .second, .val (.int (0 : Int32))] [(.long (q2 &&& (9223372036854775807 : Int64))), (.long d)])) rfl (by rw [hml]; rfl) (argsL := [(.long d), (.long (q2 &&& (9223372036854775807 : Int64)))]) (rest := []) (lenOf pd_0_0 rfl) rfl (by show 2 * 0 + _ ≤ _; exact Nat.le_of_eq rfl) (hb hby at_98) (fun _ _ => ⟨rfl, ej61, (by decide : 0 + 0 ≤ _), (by decide : 0 + 0 ≤ _)⟩)
        dsimp only [Pt.U, Pt.locs, Pt.cells, Pt.slots] at X5 l5 y5 z5 st5 hQ5
        subst l5 y5 z5
        obtain ⟨rfl, N5q, e5⟩ := hQ5
        have N5 := Fr.app Nj61 N5q
        refine own_pre (A := T5.setTop (mkF m 103 #[.val (.long q1), .second, .val (.long q2), .second, .val (.int p3), .val (.long (q2 &&& (9223372036854775807 : Int64))), .second, .val (.long (9223372036854 : Int64)), .second, .val (.long d), .second, .val (.int (0 : Int32))] [(.int (0 : Int32)), (.int (own_rwl d (q2 &&& (9223372036854775807 : Int64))))])) (fun tt kt => ?_) ?_
        · show Steps p.tables e below (Tj61.setTop (mkF m 84 #[.val (.long q1), .second, .val (.long q2), .second, .val (.int p3), .val (.long (q2 &&& (9223372036854775807 : Int64))), .second, .val (.long (9223372036854 : Int64)), .second, .val (.long d), .second, .unset] [(.int (lcmpW d ((q2 &&& (9223372036854775807 : Int64)) * (1000000 : Int64))))])) _
          refine XS.ifYes Xj61.here hx rfl (pc0 := 84) (pc' := 91) rfl (hb hby at_84) rfl ((if0 _ _).trans (tlt ((lw_gt d ((q2 &&& (9223372036854775807 : Int64)) * (1000000 : Int64))).mpr hc84_4)).2.2.1) (by decide) (by decide) ?_
          show Steps p.tables e below (Tj61.setTop (mkF m 91 #[.val (.long q1), .second, .val (.long q2), .second, .val (.int p3), .val (.long (q2 &&& (9223372036854775807 : Int64))), .second, .val (.long (9223372036854 : Int64)), .second, .val (.long d), .second, .unset] [])) _
          refine XS.iconst Xj61.here hx rfl (hb hby at_91) ?_
          show Steps p.tables e below (Tj61.setTop (mkF m 92 #[.val (.long q1), .second, .val (.long q2), .second, .val (.int p3), .val (.long (q2 &&& (9223372036854775807 : Int64))), .second, .val (.long (9223372036854 : Int64)), .second, .val (.long d), .second, .unset] [(.int (0 : Int32))])) _
          refine XS.istore Xj61.here hx rfl (hb hby at_92) rfl (l' := #[.val (.long q1), .second, .val (.long q2), .second, .val (.int p3), .val (.long (q2 &&& (9223372036854775807 : Int64))), .second, .val (.long (9223372036854 : Int64)), .second, .val (.long d), .second, .val (.int (0 : Int32))]) rfl ?_
          show Steps p.tables e below (Tj61.setTop (mkF m 94 #[.val (.long q1), .second, .val (.long q2), .second, .val (.int p3), .val (.long (q2 &&& (9223372036854775807 : Int64))), .second, .val (.long (9223372036854 : Int64)), .second, .val (.long d), .second, .val (.int (0 : Int32))] [])) _
          refine XS.lload Xj61.here hx rfl (hb hby at_94) rfl ?_
          show Steps p.tables e below (Tj61.setTop (mkF m 96 #[.val (.long q1), .second, .val (.long q2), .second, .val (.int p3), .val (.long (q2 &&& (9223372036854775807 : Int64))), .second, .val (.long (9223372036854 : Int64)), .second, .val (.long d), .second, .val (.int (0 : Int32))] [(.long d)])) _
          refine XS.lload Xj61.here hx rfl (hb hby at_96) rfl ?_
          show Steps p.tables e below (Tj61.setTop (mkF m 98 #[.val (.long q1), .second, .val (.long q2), .second, .val (.int p3), .val (.long (q2 &&& (9223372036854775807 : Int64))), .second, .val (.long (9223372036854 : Int64)), .second, .val (.long d), .second, .val (.int (0 : Int32))] [(.long (q2 &&& (9223372036854775807 : Int64))), (.long d)])) _
          refine st5 _ ?_
          show Steps p.tables e below (T5.setTop (mkF m 101 #[.val (.long q1), .second, .val (.long q2), .second, .val (.int p3), .val (.long (q2 &&& (9223372036854775807 : Int64))), .second, .val (.long (9223372036854 : Int64)), .second, .val (.long d), .second, .val (.int (0 : Int32))] [(.int (own_rwl d (q2 &&& (9223372036854775807 : Int64))))])) _
          refine XS.iload X5.here hx rfl (hb hby at_101) rfl ?_
          exact kt
        show own_End p e below s (T5.setTop (mkF m 103 #[.val (.long q1), .second, .val (.long q2), .second, .val (.int p3), .val (.long (q2 &&& (9223372036854775807 : Int64))), .second, .val (.long (9223372036854 : Int64)), .second, .val (.long d), .second, .val (.int (0 : Int32))] [(.int (0 : Int32)), (.int (own_rwl d (q2 &&& (9223372036854775807 : Int64))))])) (Q0 Z q1 q2 p3 h0 n0) room_1.cells room_1.slots
        by_cases hc103_6 : (own_rwl d (q2 &&& (9223372036854775807 : Int64))) = (0 : Int32)
        · refine own_pre (A := T5.setTop (mkF m 111 #[.val (.long q1), .second, .val (.long q2), .second, .val (.int p3), .val (.long (q2 &&& (9223372036854775807 : Int64))), .second, .val (.long (9223372036854 : Int64)), .second, .val (.long d), .second, .val (.int (0 : Int32))] [(.int (1 : Int32))])) (fun tt kt => ?_) ?_
          · show Steps p.tables e below (T5.setTop (mkF m 103 #[.val (.long q1), .second, .val (.long q2), .second, .val (.int p3), .val (.long (q2 &&& (9223372036854775807 : Int64))), .second, .val (.long (9223372036854 : Int64)), .second, .val (.long d), .second, .val (.int (0 : Int32))] [(.int (0 : Int32)), (.int (own_rwl d (q2 &&& (9223372036854775807 : Int64))))])) _
            refine XS.icmpNo X5.here hx rfl (hb hby at_103) rfl (teq hc103_6).2 ?_
            show Steps p.tables e below (T5.setTop (mkF m 106 #[.val (.long q1), .second, .val (.long q2), .second, .val (.int p3), .val (.long (q2 &&& (9223372036854775807 : Int64))), .second, .val (.long (9223372036854 : Int64)), .second, .val (.long d), .second, .val (.int (0 : Int32))] [])) _
            refine XS.iconst X5.here hx rfl (hb hby at_106) ?_
            show Steps p.tables e below (T5.setTop (mkF m 107 #[.val (.long q1), .second, .val (.long q2), .second, .val (.int p3), .val (.long (q2 &&& (9223372036854775807 : Int64))), .second, .val (.long (9223372036854 : Int64)), .second, .val (.long d), .second, .val (.int (0 : Int32))] [(.int (1 : Int32))])) _
            refine XS.goto X5.here hx rfl (pc0 := 107) (pc' := 111) rfl (hb hby at_107) (by decide) (by decide) ?_
            exact kt
          show own_End p e below s (T5.setTop (mkF m 111 #[.val (.long q1), .second, .val (.long q2), .second, .val (.int p3), .val (.long (q2 &&& (9223372036854775807 : Int64))), .second, .val (.long (9223372036854 : Int64)), .second, .val (.long d), .second, .val (.int (0 : Int32))] [(.int (1 : Int32))])) (Q0 Z q1 q2 p3 h0 n0) room_1.cells room_1.slots
          have hv : (own_law q1 q2 p3) = (1 : Int32) := hj.trans (by simp only [own_law_61, if_neg hc66_1, if_pos hc84_4, if_pos hc103_6])
          obtain ⟨fs, hr, hrun, hended, hW, hsame⟩ := X5.leave (v := some (.int (1 : Int32))) (fun h => by rw [Bd.returns] at h; cases h)
          refine ⟨_, _, ?_, hrun, hended, _, _, rfl, ?_, ⟨_, rfl⟩, hW, hsame.mono (by decide) (by decide)⟩
          · exact retN X5 hx (t := .boolean) Bd.returns (by simp) (hb hby at_111) hr
          · show Q0 Z q1 q2 p3 h0 n0 _ T5.heap _
            rw [e5]
            exact ⟨(congrArg (fun z => some (Value.int z)) hv.symm), N5⟩
        · refine own_pre (A := T5.setTop (mkF m 111 #[.val (.long q1), .second, .val (.long q2), .second, .val (.int p3), .val (.long (q2 &&& (9223372036854775807 : Int64))), .second, .val (.long (9223372036854 : Int64)), .second, .val (.long d), .second, .val (.int (0 : Int32))] [(.int (0 : Int32))])) (fun tt kt => ?_) ?_
          · show Steps p.tables e below (T5.setTop (mkF m 103 #[.val (.long q1), .second, .val (.long q2), .second, .val (.int p3), .val (.long (q2 &&& (9223372036854775807 : Int64))), .second, .val (.long (9223372036854 : Int64)), .second, .val (.long d), .second, .val (.int (0 : Int32))] [(.int (0 : Int32)), (.int (own_rwl d (q2 &&& (9223372036854775807 : Int64))))])) _
            refine XS.icmpYes X5.here hx rfl (pc0 := 103) (pc' := 110) rfl (hb hby at_103) rfl (feq hc103_6).2 (by decide) (by decide) ?_
            show Steps p.tables e below (T5.setTop (mkF m 110 #[.val (.long q1), .second, .val (.long q2), .second, .val (.int p3), .val (.long (q2 &&& (9223372036854775807 : Int64))), .second, .val (.long (9223372036854 : Int64)), .second, .val (.long d), .second, .val (.int (0 : Int32))] [])) _
            refine XS.iconst X5.here hx rfl (hb hby at_110) ?_
            exact kt
          show own_End p e below s (T5.setTop (mkF m 111 #[.val (.long q1), .second, .val (.long q2), .second, .val (.int p3), .val (.long (q2 &&& (9223372036854775807 : Int64))), .second, .val (.long (9223372036854 : Int64)), .second, .val (.long d), .second, .val (.int (0 : Int32))] [(.int (0 : Int32))])) (Q0 Z q1 q2 p3 h0 n0) room_1.cells room_1.slots
          have hv : (own_law q1 q2 p3) = (0 : Int32) := hj.trans (by simp only [own_law_61, if_neg hc66_1, if_pos hc84_4, if_neg hc103_6])
          obtain ⟨fs, hr, hrun, hended, hW, hsame⟩ := X5.leave (v := some (.int (0 : Int32))) (fun h => by rw [Bd.returns] at h; cases h)
          refine ⟨_, _, ?_, hrun, hended, _, _, rfl, ?_, ⟨_, rfl⟩, hW, hsame.mono (by decide) (by decide)⟩
          · exact retN X5 hx (t := .boolean) Bd.returns (by simp) (hb hby at_111) hr
          · show Q0 Z q1 q2 p3 h0 n0 _ T5.heap _
            rw [e5]
            exact ⟨(congrArg (fun z => some (Value.int z)) hv.symm), N5⟩
      · obtain ⟨_, _, ⟨T7, L7, k7, n7⟩, -, X7, ⟨Lc7, hQ7, l7, y7, z7⟩, st7⟩ := Jvm.LawKit.callS Xj61 hx (y := (⟨"com/example/atoll/atoll/sim/Scenario", "roundsWithinLimit", "(JJ)Z"⟩ : MethodName)) hown (mvT hZ (hw _ (List.mem_of_getElem? (i := 3) rfl))) (mvT hZ (hw _ (List.mem_of_getElem? (i := 4) rfl))) (mvT hZ (hw _ (List.mem_of_getElem? (i := 5) rfl))) (mvT hZ (hw _ (List.mem_of_getElem? (i := 6) rfl))) (by decide) (backOf (W := 0) (rm1 l Z a0 hw [] d (q2 &&& (9223372036854775807 : Int64))  h0 n0 Z0 ) hZ (hw _ (List.mem_of_getElem? (i := 6) rfl)) (hw _ (List.mem_of_getElem? (i := 5) rfl)) (by decide) (by decide)) (g := (mkF m 98 #[.val (.long q1), .second, .val (.long q2), .second, .val (.int p3), .val (.long (q2 &&& (9223372036854775807 : Int64))), .second, .val (.long (9223372036854 : Int64)), .second, .val (.long d), .second, .val (.int (1 : Int32))] [(.long (q2 &&& (9223372036854775807 : Int64))), (.long d)])) rfl (by rw [hml]; rfl) (argsL := [(.long d), (.long (q2 &&& (9223372036854775807 : Int64)))]) (rest := []) (lenOf pd_0_0 rfl) rfl (by show 2 * 0 + _ ≤ _; exact Nat.le_of_eq rfl) (hb hby at_98) (fun _ _ => ⟨rfl, ej61, (by decide : 0 + 0 ≤ _), (by decide : 0 + 0 ≤ _)⟩)
        dsimp only [Pt.U, Pt.locs, Pt.cells, Pt.slots] at X7 l7 y7 z7 st7 hQ7
        subst l7 y7 z7
        obtain ⟨rfl, N7q, e7⟩ := hQ7
        have N7 := Fr.app Nj61 N7q
        refine own_pre (A := T7.setTop (mkF m 103 #[.val (.long q1), .second, .val (.long q2), .second, .val (.int p3), .val (.long (q2 &&& (9223372036854775807 : Int64))), .second, .val (.long (9223372036854 : Int64)), .second, .val (.long d), .second, .val (.int (1 : Int32))] [(.int (1 : Int32)), (.int (own_rwl d (q2 &&& (9223372036854775807 : Int64))))])) (fun tt kt => ?_) ?_
        · show Steps p.tables e below (Tj61.setTop (mkF m 84 #[.val (.long q1), .second, .val (.long q2), .second, .val (.int p3), .val (.long (q2 &&& (9223372036854775807 : Int64))), .second, .val (.long (9223372036854 : Int64)), .second, .val (.long d), .second, .unset] [(.int (lcmpW d ((q2 &&& (9223372036854775807 : Int64)) * (1000000 : Int64))))])) _
          refine XS.ifNo Xj61.here hx rfl (hb hby at_84) rfl ((if0 _ _).trans (flt (fun q => hc84_4 ((lw_gt d ((q2 &&& (9223372036854775807 : Int64)) * (1000000 : Int64))).mp q))).2.2.1) ?_
          show Steps p.tables e below (Tj61.setTop (mkF m 87 #[.val (.long q1), .second, .val (.long q2), .second, .val (.int p3), .val (.long (q2 &&& (9223372036854775807 : Int64))), .second, .val (.long (9223372036854 : Int64)), .second, .val (.long d), .second, .unset] [])) _
          refine XS.iconst Xj61.here hx rfl (hb hby at_87) ?_
          show Steps p.tables e below (Tj61.setTop (mkF m 88 #[.val (.long q1), .second, .val (.long q2), .second, .val (.int p3), .val (.long (q2 &&& (9223372036854775807 : Int64))), .second, .val (.long (9223372036854 : Int64)), .second, .val (.long d), .second, .unset] [(.int (1 : Int32))])) _
          refine XS.goto Xj61.here hx rfl (pc0 := 88) (pc' := 92) rfl (hb hby at_88) (by decide) (by decide) ?_
          show Steps p.tables e below (Tj61.setTop (mkF m 92 #[.val (.long q1), .second, .val (.long q2), .second, .val (.int p3), .val (.long (q2 &&& (9223372036854775807 : Int64))), .second, .val (.long (9223372036854 : Int64)), .second, .val (.long d), .second, .unset] [(.int (1 : Int32))])) _
          refine XS.istore Xj61.here hx rfl (hb hby at_92) rfl (l' := #[.val (.long q1), .second, .val (.long q2), .second, .val (.int p3), .val (.long (q2 &&& (9223372036854775807 : Int64))), .second, .val (.long (9223372036854 : Int64)), .second, .val (.long d), .second, .val (.int (1 : Int32))]) rfl ?_
          show Steps p.tables e below (Tj61.setTop (mkF m 94 #[.val (.long q1), .second, .val (.long q2), .second, .val (.int p3), .val (.long (q2 &&& (9223372036854775807 : Int64))), .second, .val (.long (9223372036854 : Int64)), .second, .val (.long d), .second, .val (.int (1 : Int32))] [])) _
          refine XS.lload Xj61.here hx rfl (hb hby at_94) rfl ?_
          show Steps p.tables e below (Tj61.setTop (mkF m 96 #[.val (.long q1), .second, .val (.long q2), .second, .val (.int p3), .val (.long (q2 &&& (9223372036854775807 : Int64))), .second, .val (.long (9223372036854 : Int64)), .second, .val (.long d), .second, .val (.int (1 : Int32))] [(.long d)])) _
          refine XS.lload Xj61.here hx rfl (hb hby at_96) rfl ?_
          show Steps p.tables e below (Tj61.setTop (mkF m 98 #[.val (.long q1), .second, .val (.long q2), .second, .val (.int p3), .val (.long (q2 &&& (9223372036854775807 : Int64))), .second, .val (.long (9223372036854 : Int64)), .second, .val (.long d), .second, .val (.int (1 : Int32))] [(.long (q2 &&& (9223372036854775807 : Int64))), (.long d)])) _
          refine st7 _ ?_
          show Steps p.tables e below (T7.setTop (mkF m 101 #[.val (.long q1), .second, .val (.long q2), .second, .val (.int p3), .val (.long (q2 &&& (9223372036854775807 : Int64))), .second, .val (.long (9223372036854 : Int64)), .second, .val (.long d), .second, .val (.int (1 : Int32))] [(.int (own_rwl d (q2 &&& (9223372036854775807 : Int64))))])) _
          refine XS.iload X7.here hx rfl (hb hby at_101) rfl ?_
          exact kt
        show own_End p e below s (T7.setTop (mkF m 103 #[.val (.long q1), .second, .val (.long q2), .second, .val (.int p3), .val (.long (q2 &&& (9223372036854775807 : Int64))), .second, .val (.long (9223372036854 : Int64)), .second, .val (.long d), .second, .val (.int (1 : Int32))] [(.int (1 : Int32)), (.int (own_rwl d (q2 &&& (9223372036854775807 : Int64))))])) (Q0 Z q1 q2 p3 h0 n0) room_1.cells room_1.slots
        by_cases hc103_8 : (own_rwl d (q2 &&& (9223372036854775807 : Int64))) = (1 : Int32)
        · refine own_pre (A := T7.setTop (mkF m 111 #[.val (.long q1), .second, .val (.long q2), .second, .val (.int p3), .val (.long (q2 &&& (9223372036854775807 : Int64))), .second, .val (.long (9223372036854 : Int64)), .second, .val (.long d), .second, .val (.int (1 : Int32))] [(.int (1 : Int32))])) (fun tt kt => ?_) ?_
          · show Steps p.tables e below (T7.setTop (mkF m 103 #[.val (.long q1), .second, .val (.long q2), .second, .val (.int p3), .val (.long (q2 &&& (9223372036854775807 : Int64))), .second, .val (.long (9223372036854 : Int64)), .second, .val (.long d), .second, .val (.int (1 : Int32))] [(.int (1 : Int32)), (.int (own_rwl d (q2 &&& (9223372036854775807 : Int64))))])) _
            refine XS.icmpNo X7.here hx rfl (hb hby at_103) rfl (teq hc103_8).2 ?_
            show Steps p.tables e below (T7.setTop (mkF m 106 #[.val (.long q1), .second, .val (.long q2), .second, .val (.int p3), .val (.long (q2 &&& (9223372036854775807 : Int64))), .second, .val (.long (9223372036854 : Int64)), .second, .val (.long d), .second, .val (.int (1 : Int32))] [])) _
            refine XS.iconst X7.here hx rfl (hb hby at_106) ?_
            show Steps p.tables e below (T7.setTop (mkF m 107 #[.val (.long q1), .second, .val (.long q2), .second, .val (.int p3), .val (.long (q2 &&& (9223372036854775807 : Int64))), .second, .val (.long (9223372036854 : Int64)), .second, .val (.long d), .second, .val (.int (1 : Int32))] [(.int (1 : Int32))])) _
            refine XS.goto X7.here hx rfl (pc0 := 107) (pc' := 111) rfl (hb hby at_107) (by decide) (by decide) ?_
            exact kt
          show own_End p e below s (T7.setTop (mkF m 111 #[.val (.long q1), .second, .val (.long q2), .second, .val (.int p3), .val (.long (q2 &&& (9223372036854775807 : Int64))), .second, .val (.long (9223372036854 : Int64)), .second, .val (.long d), .second, .val (.int (1 : Int32))] [(.int (1 : Int32))])) (Q0 Z q1 q2 p3 h0 n0) room_1.cells room_1.slots
          have hv : (own_law q1 q2 p3) = (1 : Int32) := hj.trans (by simp only [own_law_61, if_neg hc66_1, if_neg hc84_4, if_pos hc103_8])
          obtain ⟨fs, hr, hrun, hended, hW, hsame⟩ := X7.leave (v := some (.int (1 : Int32))) (fun h => by rw [Bd.returns] at h; cases h)
          refine ⟨_, _, ?_, hrun, hended, _, _, rfl, ?_, ⟨_, rfl⟩, hW, hsame.mono (by decide) (by decide)⟩
          · exact retN X7 hx (t := .boolean) Bd.returns (by simp) (hb hby at_111) hr
          · show Q0 Z q1 q2 p3 h0 n0 _ T7.heap _
            rw [e7]
            exact ⟨(congrArg (fun z => some (Value.int z)) hv.symm), N7⟩
        · refine own_pre (A := T7.setTop (mkF m 111 #[.val (.long q1), .second, .val (.long q2), .second, .val (.int p3), .val (.long (q2 &&& (9223372036854775807 : Int64))), .second, .val (.long (9223372036854 : Int64)), .second, .val (.long d), .second, .val (.int (1 : Int32))] [(.int (0 : Int32))])) (fun tt kt => ?_) ?_
          · show Steps p.tables e below (T7.setTop (mkF m 103 #[.val (.long q1), .second, .val (.long q2), .second, .val (.int p3), .val (.long (q2 &&& (9223372036854775807 : Int64))), .second, .val (.long (9223372036854 : Int64)), .second, .val (.long d), .second, .val (.int (1 : Int32))] [(.int (1 : Int32)), (.int (own_rwl d (q2 &&& (9223372036854775807 : Int64))))])) _
            refine XS.icmpYes X7.here hx rfl (pc0 := 103) (pc' := 110) rfl (hb hby at_103) rfl (feq hc103_8).2 (by decide) (by decide) ?_
            show Steps p.tables e below (T7.setTop (mkF m 110 #[.val (.long q1), .second, .val (.long q2), .second, .val (.int p3), .val (.long (q2 &&& (9223372036854775807 : Int64))), .second, .val (.long (9223372036854 : Int64)), .second, .val (.long d), .second, .val (.int (1 : Int32))] [])) _
            refine XS.iconst X7.here hx rfl (hb hby at_110) ?_
            exact kt
          show own_End p e below s (T7.setTop (mkF m 111 #[.val (.long q1), .second, .val (.long q2), .second, .val (.int p3), .val (.long (q2 &&& (9223372036854775807 : Int64))), .second, .val (.long (9223372036854 : Int64)), .second, .val (.long d), .second, .val (.int (1 : Int32))] [(.int (0 : Int32))])) (Q0 Z q1 q2 p3 h0 n0) room_1.cells room_1.slots
          have hv : (own_law q1 q2 p3) = (0 : Int32) := hj.trans (by simp only [own_law_61, if_neg hc66_1, if_neg hc84_4, if_neg hc103_8])
          obtain ⟨fs, hr, hrun, hended, hW, hsame⟩ := X7.leave (v := some (.int (0 : Int32))) (fun h => by rw [Bd.returns] at h; cases h)
          refine ⟨_, _, ?_, hrun, hended, _, _, rfl, ?_, ⟨_, rfl⟩, hW, hsame.mono (by decide) (by decide)⟩
          · exact retN X7 hx (t := .boolean) Bd.returns (by simp) (hb hby at_111) hr
          · show Q0 Z q1 q2 p3 h0 n0 _ T7.heap _
            rw [e7]
            exact ⟨(congrArg (fun z => some (Value.int z)) hv.symm), N7⟩
  refine own_pre (A := s₁.setTop (mkF m 11 #[.val (.long q1), .second, .val (.long q2), .second, .val (.int p3), .val (.long (q2 &&& (9223372036854775807 : Int64))), .second, .unset, .unset, .unset, .unset, .unset] [(.int (lcmpW (q2 &&& (9223372036854775807 : Int64)) (0 : Int64)))])) (fun tt kt => ?_) ?_
  · show Steps p.tables e below (s₁.setTop (mkF m 0 #[.val (.long q1), .second, .val (.long q2), .second, .val (.int p3), .unset, .unset, .unset, .unset, .unset, .unset, .unset] [])) _
    refine XS.lloadN X0.here hx rfl (hb hby at_0) rfl ?_
    show Steps p.tables e below (s₁.setTop (mkF m 1 #[.val (.long q1), .second, .val (.long q2), .second, .val (.int p3), .unset, .unset, .unset, .unset, .unset, .unset, .unset] [(.long q2)])) _
    refine X0.ldc2Long hx hown (mvT hZ (hw _ (List.mem_of_getElem? (i := 0) rfl))) (g := (mkF m 1 #[.val (.long q1), .second, .val (.long q2), .second, .val (.int p3), .unset, .unset, .unset, .unset, .unset, .unset, .unset] [(.long q2)])) rfl (hb hby at_1) _ ?_
    show Steps p.tables e below (s₁.setTop (mkF m 4 #[.val (.long q1), .second, .val (.long q2), .second, .val (.int p3), .unset, .unset, .unset, .unset, .unset, .unset, .unset] [(.long (9223372036854775807 : Int64)), (.long q2)])) _
    refine XS.land X0.here hx rfl (hb hby at_4) rfl ?_
    show Steps p.tables e below (s₁.setTop (mkF m 5 #[.val (.long q1), .second, .val (.long q2), .second, .val (.int p3), .unset, .unset, .unset, .unset, .unset, .unset, .unset] [(.long (q2 &&& (9223372036854775807 : Int64)))])) _
    refine XS.lstore X0.here hx rfl (hb hby at_5) rfl (l' := #[.val (.long q1), .second, .val (.long q2), .second, .val (.int p3), .val (.long (q2 &&& (9223372036854775807 : Int64))), .second, .unset, .unset, .unset, .unset, .unset]) rfl ?_
    show Steps p.tables e below (s₁.setTop (mkF m 7 #[.val (.long q1), .second, .val (.long q2), .second, .val (.int p3), .val (.long (q2 &&& (9223372036854775807 : Int64))), .second, .unset, .unset, .unset, .unset, .unset] [])) _
    refine XS.lload X0.here hx rfl (hb hby at_7) rfl ?_
    show Steps p.tables e below (s₁.setTop (mkF m 9 #[.val (.long q1), .second, .val (.long q2), .second, .val (.int p3), .val (.long (q2 &&& (9223372036854775807 : Int64))), .second, .unset, .unset, .unset, .unset, .unset] [(.long (q2 &&& (9223372036854775807 : Int64)))])) _
    refine XS.lconst X0.here hx rfl (hb hby at_9) ?_
    show Steps p.tables e below (s₁.setTop (mkF m 10 #[.val (.long q1), .second, .val (.long q2), .second, .val (.int p3), .val (.long (q2 &&& (9223372036854775807 : Int64))), .second, .unset, .unset, .unset, .unset, .unset] [(.long (0 : Int64)), (.long (q2 &&& (9223372036854775807 : Int64)))])) _
    refine XS.lcmp X0.here hx rfl (hb hby at_10) rfl ?_
    exact kt
  show own_End p e below s (s₁.setTop (mkF m 11 #[.val (.long q1), .second, .val (.long q2), .second, .val (.int p3), .val (.long (q2 &&& (9223372036854775807 : Int64))), .second, .unset, .unset, .unset, .unset, .unset] [(.int (lcmpW (q2 &&& (9223372036854775807 : Int64)) (0 : Int64)))])) (Q0 Z q1 q2 p3 h0 n0) room_1.cells room_1.slots
  by_cases hc11_9 : (q2 &&& (9223372036854775807 : Int64)) = (0 : Int64)
  · refine own_pre (A := s₁.setTop (mkF m 15 #[.val (.long q1), .second, .val (.long q2), .second, .val (.int p3), .val (.long (q2 &&& (9223372036854775807 : Int64))), .second, .unset, .unset, .unset, .unset, .unset] [(.int (1 : Int32))])) (fun tt kt => ?_) ?_
    · show Steps p.tables e below (s₁.setTop (mkF m 11 #[.val (.long q1), .second, .val (.long q2), .second, .val (.int p3), .val (.long (q2 &&& (9223372036854775807 : Int64))), .second, .unset, .unset, .unset, .unset, .unset] [(.int (lcmpW (q2 &&& (9223372036854775807 : Int64)) (0 : Int64)))])) _
      refine XS.ifNo X0.here hx rfl (hb hby at_11) rfl ((if0 _ _).trans (teq ((lw_eq (q2 &&& (9223372036854775807 : Int64)) (0 : Int64)).mpr hc11_9)).2) ?_
      show Steps p.tables e below (s₁.setTop (mkF m 14 #[.val (.long q1), .second, .val (.long q2), .second, .val (.int p3), .val (.long (q2 &&& (9223372036854775807 : Int64))), .second, .unset, .unset, .unset, .unset, .unset] [])) _
      refine XS.iconst X0.here hx rfl (hb hby at_14) ?_
      exact kt
    show own_End p e below s (s₁.setTop (mkF m 15 #[.val (.long q1), .second, .val (.long q2), .second, .val (.int p3), .val (.long (q2 &&& (9223372036854775807 : Int64))), .second, .unset, .unset, .unset, .unset, .unset] [(.int (1 : Int32))])) (Q0 Z q1 q2 p3 h0 n0) room_1.cells room_1.slots
    have hv : (own_law q1 q2 p3) = (1 : Int32) := hj.trans (by simp only [own_law, if_pos hc11_9])
    obtain ⟨fs, hr, hrun, hended, hW, hsame⟩ := X0.leave (v := some (.int (1 : Int32))) (fun h => by rw [Bd.returns] at h; cases h)
    refine ⟨_, _, ?_, hrun, hended, _, _, rfl, ?_, ⟨_, rfl⟩, hW, hsame.mono (by decide) (by decide)⟩
    · exact retN X0 hx (t := .boolean) Bd.returns (by simp) (hb hby at_15) hr
    · show Q0 Z q1 q2 p3 h0 n0 _ s₁.heap _
      rw [e0]
      exact ⟨(congrArg (fun z => some (Value.int z)) hv.symm), N0⟩
  · refine own_pre (A := s₁.setTop (mkF m 32 #[.val (.long q1), .second, .val (.long q2), .second, .val (.int p3), .val (.long (q2 &&& (9223372036854775807 : Int64))), .second, .val (.long (9223372036854 : Int64)), .second, .val (.long (q1 &&& (9223372036854775807 : Int64))), .second, .unset] [(.int (p3 &&& (1 : Int32)))])) (fun tt kt => ?_) ?_
    · show Steps p.tables e below (s₁.setTop (mkF m 11 #[.val (.long q1), .second, .val (.long q2), .second, .val (.int p3), .val (.long (q2 &&& (9223372036854775807 : Int64))), .second, .unset, .unset, .unset, .unset, .unset] [(.int (lcmpW (q2 &&& (9223372036854775807 : Int64)) (0 : Int64)))])) _
      refine XS.ifYes X0.here hx rfl (pc0 := 11) (pc' := 16) rfl (hb hby at_11) rfl ((if0 _ _).trans (feq (fun q => hc11_9 ((lw_eq (q2 &&& (9223372036854775807 : Int64)) (0 : Int64)).mp q))).2) (by decide) (by decide) ?_
      show Steps p.tables e below (s₁.setTop (mkF m 16 #[.val (.long q1), .second, .val (.long q2), .second, .val (.int p3), .val (.long (q2 &&& (9223372036854775807 : Int64))), .second, .unset, .unset, .unset, .unset, .unset] [])) _
      refine X0.ldc2Long hx hown (mvT hZ (hw _ (List.mem_of_getElem? (i := 1) rfl))) (g := (mkF m 16 #[.val (.long q1), .second, .val (.long q2), .second, .val (.int p3), .val (.long (q2 &&& (9223372036854775807 : Int64))), .second, .unset, .unset, .unset, .unset, .unset] [])) rfl (hb hby at_16) _ ?_
      show Steps p.tables e below (s₁.setTop (mkF m 19 #[.val (.long q1), .second, .val (.long q2), .second, .val (.int p3), .val (.long (q2 &&& (9223372036854775807 : Int64))), .second, .unset, .unset, .unset, .unset, .unset] [(.long (9223372036854 : Int64))])) _
      refine XS.lstore X0.here hx rfl (hb hby at_19) rfl (l' := #[.val (.long q1), .second, .val (.long q2), .second, .val (.int p3), .val (.long (q2 &&& (9223372036854775807 : Int64))), .second, .val (.long (9223372036854 : Int64)), .second, .unset, .unset, .unset]) rfl ?_
      show Steps p.tables e below (s₁.setTop (mkF m 21 #[.val (.long q1), .second, .val (.long q2), .second, .val (.int p3), .val (.long (q2 &&& (9223372036854775807 : Int64))), .second, .val (.long (9223372036854 : Int64)), .second, .unset, .unset, .unset] [])) _
      refine XS.lloadN X0.here hx rfl (hb hby at_21) rfl ?_
      show Steps p.tables e below (s₁.setTop (mkF m 22 #[.val (.long q1), .second, .val (.long q2), .second, .val (.int p3), .val (.long (q2 &&& (9223372036854775807 : Int64))), .second, .val (.long (9223372036854 : Int64)), .second, .unset, .unset, .unset] [(.long q1)])) _
      refine X0.ldc2Long hx hown (mvT hZ (hw _ (List.mem_of_getElem? (i := 0) rfl))) (g := (mkF m 22 #[.val (.long q1), .second, .val (.long q2), .second, .val (.int p3), .val (.long (q2 &&& (9223372036854775807 : Int64))), .second, .val (.long (9223372036854 : Int64)), .second, .unset, .unset, .unset] [(.long q1)])) rfl (hb hby at_22) _ ?_
      show Steps p.tables e below (s₁.setTop (mkF m 25 #[.val (.long q1), .second, .val (.long q2), .second, .val (.int p3), .val (.long (q2 &&& (9223372036854775807 : Int64))), .second, .val (.long (9223372036854 : Int64)), .second, .unset, .unset, .unset] [(.long (9223372036854775807 : Int64)), (.long q1)])) _
      refine XS.land X0.here hx rfl (hb hby at_25) rfl ?_
      show Steps p.tables e below (s₁.setTop (mkF m 26 #[.val (.long q1), .second, .val (.long q2), .second, .val (.int p3), .val (.long (q2 &&& (9223372036854775807 : Int64))), .second, .val (.long (9223372036854 : Int64)), .second, .unset, .unset, .unset] [(.long (q1 &&& (9223372036854775807 : Int64)))])) _
      refine XS.lstore X0.here hx rfl (hb hby at_26) rfl (l' := #[.val (.long q1), .second, .val (.long q2), .second, .val (.int p3), .val (.long (q2 &&& (9223372036854775807 : Int64))), .second, .val (.long (9223372036854 : Int64)), .second, .val (.long (q1 &&& (9223372036854775807 : Int64))), .second, .unset]) rfl ?_
      show Steps p.tables e below (s₁.setTop (mkF m 28 #[.val (.long q1), .second, .val (.long q2), .second, .val (.int p3), .val (.long (q2 &&& (9223372036854775807 : Int64))), .second, .val (.long (9223372036854 : Int64)), .second, .val (.long (q1 &&& (9223372036854775807 : Int64))), .second, .unset] [])) _
      refine XS.iload X0.here hx rfl (hb hby at_28) rfl ?_
      show Steps p.tables e below (s₁.setTop (mkF m 30 #[.val (.long q1), .second, .val (.long q2), .second, .val (.int p3), .val (.long (q2 &&& (9223372036854775807 : Int64))), .second, .val (.long (9223372036854 : Int64)), .second, .val (.long (q1 &&& (9223372036854775807 : Int64))), .second, .unset] [(.int p3)])) _
      refine XS.iconst X0.here hx rfl (hb hby at_30) ?_
      show Steps p.tables e below (s₁.setTop (mkF m 31 #[.val (.long q1), .second, .val (.long q2), .second, .val (.int p3), .val (.long (q2 &&& (9223372036854775807 : Int64))), .second, .val (.long (9223372036854 : Int64)), .second, .val (.long (q1 &&& (9223372036854775807 : Int64))), .second, .unset] [(.int (1 : Int32)), (.int p3)])) _
      refine XS.iand X0.here hx rfl (hb hby at_31) rfl ?_
      exact kt
    show own_End p e below s (s₁.setTop (mkF m 32 #[.val (.long q1), .second, .val (.long q2), .second, .val (.int p3), .val (.long (q2 &&& (9223372036854775807 : Int64))), .second, .val (.long (9223372036854 : Int64)), .second, .val (.long (q1 &&& (9223372036854775807 : Int64))), .second, .unset] [(.int (p3 &&& (1 : Int32)))])) (Q0 Z q1 q2 p3 h0 n0) room_1.cells room_1.slots
    by_cases hc32_10 : (p3 &&& (1 : Int32)) = (0 : Int32)
    · refine own_pre (A := s₁.setTop (mkF m 61 #[.val (.long q1), .second, .val (.long q2), .second, .val (.int p3), .val (.long (q2 &&& (9223372036854775807 : Int64))), .second, .val (.long (9223372036854 : Int64)), .second, .val (.long (q1 &&& (9223372036854775807 : Int64))), .second, .unset] [])) (fun tt kt => ?_) ?_
      · show Steps p.tables e below (s₁.setTop (mkF m 32 #[.val (.long q1), .second, .val (.long q2), .second, .val (.int p3), .val (.long (q2 &&& (9223372036854775807 : Int64))), .second, .val (.long (9223372036854 : Int64)), .second, .val (.long (q1 &&& (9223372036854775807 : Int64))), .second, .unset] [(.int (p3 &&& (1 : Int32)))])) _
        refine XS.ifYes X0.here hx rfl (pc0 := 32) (pc' := 61) rfl (hb hby at_32) rfl ((if0 _ _).trans (teq hc32_10).1) (by decide) (by decide) ?_
        exact kt
      show own_End p e below s (s₁.setTop (mkF m 61 #[.val (.long q1), .second, .val (.long q2), .second, .val (.int p3), .val (.long (q2 &&& (9223372036854775807 : Int64))), .second, .val (.long (9223372036854 : Int64)), .second, .val (.long (q1 &&& (9223372036854775807 : Int64))), .second, .unset] [])) (Q0 Z q1 q2 p3 h0 n0) room_1.cells room_1.slots
      exact j61 _ _ X0 e0 N0 (q1 &&& (9223372036854775807 : Int64))  (hj.trans (by simp only [own_law, if_neg hc11_9, if_pos hc32_10]))
    · refine own_pre (A := s₁.setTop (mkF m 40 #[.val (.long q1), .second, .val (.long q2), .second, .val (.int p3), .val (.long (q2 &&& (9223372036854775807 : Int64))), .second, .val (.long (9223372036854 : Int64)), .second, .val (.long (q1 &&& (9223372036854775807 : Int64))), .second, .unset] [(.int (lcmpW (q2 &&& (9223372036854775807 : Int64)) (9223372036854 : Int64)))])) (fun tt kt => ?_) ?_
      · show Steps p.tables e below (s₁.setTop (mkF m 32 #[.val (.long q1), .second, .val (.long q2), .second, .val (.int p3), .val (.long (q2 &&& (9223372036854775807 : Int64))), .second, .val (.long (9223372036854 : Int64)), .second, .val (.long (q1 &&& (9223372036854775807 : Int64))), .second, .unset] [(.int (p3 &&& (1 : Int32)))])) _
        refine XS.ifNo X0.here hx rfl (hb hby at_32) rfl ((if0 _ _).trans (feq hc32_10).1) ?_
        show Steps p.tables e below (s₁.setTop (mkF m 35 #[.val (.long q1), .second, .val (.long q2), .second, .val (.int p3), .val (.long (q2 &&& (9223372036854775807 : Int64))), .second, .val (.long (9223372036854 : Int64)), .second, .val (.long (q1 &&& (9223372036854775807 : Int64))), .second, .unset] [])) _
        refine XS.lload X0.here hx rfl (hb hby at_35) rfl ?_
        show Steps p.tables e below (s₁.setTop (mkF m 37 #[.val (.long q1), .second, .val (.long q2), .second, .val (.int p3), .val (.long (q2 &&& (9223372036854775807 : Int64))), .second, .val (.long (9223372036854 : Int64)), .second, .val (.long (q1 &&& (9223372036854775807 : Int64))), .second, .unset] [(.long (q2 &&& (9223372036854775807 : Int64)))])) _
        refine XS.lload X0.here hx rfl (hb hby at_37) rfl ?_
        show Steps p.tables e below (s₁.setTop (mkF m 39 #[.val (.long q1), .second, .val (.long q2), .second, .val (.int p3), .val (.long (q2 &&& (9223372036854775807 : Int64))), .second, .val (.long (9223372036854 : Int64)), .second, .val (.long (q1 &&& (9223372036854775807 : Int64))), .second, .unset] [(.long (9223372036854 : Int64)), (.long (q2 &&& (9223372036854775807 : Int64)))])) _
        refine XS.lcmp X0.here hx rfl (hb hby at_39) rfl ?_
        exact kt
      show own_End p e below s (s₁.setTop (mkF m 40 #[.val (.long q1), .second, .val (.long q2), .second, .val (.int p3), .val (.long (q2 &&& (9223372036854775807 : Int64))), .second, .val (.long (9223372036854 : Int64)), .second, .val (.long (q1 &&& (9223372036854775807 : Int64))), .second, .unset] [(.int (lcmpW (q2 &&& (9223372036854775807 : Int64)) (9223372036854 : Int64)))])) (Q0 Z q1 q2 p3 h0 n0) room_1.cells room_1.slots
      by_cases hc40_11 : (9223372036854 : Int64) < (q2 &&& (9223372036854775807 : Int64))
      · refine own_pre (A := s₁.setTop (mkF m 61 #[.val (.long q1), .second, .val (.long q2), .second, .val (.int p3), .val (.long (q2 &&& (9223372036854775807 : Int64))), .second, .val (.long (9223372036854 : Int64)), .second, .val (.long (q1 &&& (9223372036854775807 : Int64))), .second, .unset] [])) (fun tt kt => ?_) ?_
        · show Steps p.tables e below (s₁.setTop (mkF m 40 #[.val (.long q1), .second, .val (.long q2), .second, .val (.int p3), .val (.long (q2 &&& (9223372036854775807 : Int64))), .second, .val (.long (9223372036854 : Int64)), .second, .val (.long (q1 &&& (9223372036854775807 : Int64))), .second, .unset] [(.int (lcmpW (q2 &&& (9223372036854775807 : Int64)) (9223372036854 : Int64)))])) _
          refine XS.ifYes X0.here hx rfl (pc0 := 40) (pc' := 61) rfl (hb hby at_40) rfl ((if0 _ _).trans (tlt ((lw_gt (q2 &&& (9223372036854775807 : Int64)) (9223372036854 : Int64)).mpr hc40_11)).2.2.1) (by decide) (by decide) ?_
          exact kt
        show own_End p e below s (s₁.setTop (mkF m 61 #[.val (.long q1), .second, .val (.long q2), .second, .val (.int p3), .val (.long (q2 &&& (9223372036854775807 : Int64))), .second, .val (.long (9223372036854 : Int64)), .second, .val (.long (q1 &&& (9223372036854775807 : Int64))), .second, .unset] [])) (Q0 Z q1 q2 p3 h0 n0) room_1.cells room_1.slots
        exact j61 _ _ X0 e0 N0 (q1 &&& (9223372036854775807 : Int64))  (hj.trans (by simp only [own_law, if_neg hc11_9, if_neg hc32_10, if_pos hc40_11]))
      · refine own_pre (A := s₁.setTop (mkF m 61 #[.val (.long q1), .second, .val (.long q2), .second, .val (.int p3), .val (.long (q2 &&& (9223372036854775807 : Int64))), .second, .val (.long (9223372036854 : Int64)), .second, .val (.long ((((q2 &&& (9223372036854775807 : Int64)) * (1000000 : Int64)) + ((((p3.toUInt32 >>> ((1 : Int32) &&& 31).toUInt32).toInt32) % (3 : Int32)).toInt64)) - (1 : Int64))), .second, .unset] [])) (fun tt kt => ?_) ?_
        · show Steps p.tables e below (s₁.setTop (mkF m 40 #[.val (.long q1), .second, .val (.long q2), .second, .val (.int p3), .val (.long (q2 &&& (9223372036854775807 : Int64))), .second, .val (.long (9223372036854 : Int64)), .second, .val (.long (q1 &&& (9223372036854775807 : Int64))), .second, .unset] [(.int (lcmpW (q2 &&& (9223372036854775807 : Int64)) (9223372036854 : Int64)))])) _
          refine XS.ifNo X0.here hx rfl (hb hby at_40) rfl ((if0 _ _).trans (flt (fun q => hc40_11 ((lw_gt (q2 &&& (9223372036854775807 : Int64)) (9223372036854 : Int64)).mp q))).2.2.1) ?_
          show Steps p.tables e below (s₁.setTop (mkF m 43 #[.val (.long q1), .second, .val (.long q2), .second, .val (.int p3), .val (.long (q2 &&& (9223372036854775807 : Int64))), .second, .val (.long (9223372036854 : Int64)), .second, .val (.long (q1 &&& (9223372036854775807 : Int64))), .second, .unset] [])) _
          refine XS.lload X0.here hx rfl (hb hby at_43) rfl ?_
          show Steps p.tables e below (s₁.setTop (mkF m 45 #[.val (.long q1), .second, .val (.long q2), .second, .val (.int p3), .val (.long (q2 &&& (9223372036854775807 : Int64))), .second, .val (.long (9223372036854 : Int64)), .second, .val (.long (q1 &&& (9223372036854775807 : Int64))), .second, .unset] [(.long (q2 &&& (9223372036854775807 : Int64)))])) _
          refine X0.ldc2Long hx hown (mvT hZ (hw _ (List.mem_of_getElem? (i := 2) rfl))) (g := (mkF m 45 #[.val (.long q1), .second, .val (.long q2), .second, .val (.int p3), .val (.long (q2 &&& (9223372036854775807 : Int64))), .second, .val (.long (9223372036854 : Int64)), .second, .val (.long (q1 &&& (9223372036854775807 : Int64))), .second, .unset] [(.long (q2 &&& (9223372036854775807 : Int64)))])) rfl (hb hby at_45) _ ?_
          show Steps p.tables e below (s₁.setTop (mkF m 48 #[.val (.long q1), .second, .val (.long q2), .second, .val (.int p3), .val (.long (q2 &&& (9223372036854775807 : Int64))), .second, .val (.long (9223372036854 : Int64)), .second, .val (.long (q1 &&& (9223372036854775807 : Int64))), .second, .unset] [(.long (1000000 : Int64)), (.long (q2 &&& (9223372036854775807 : Int64)))])) _
          refine XS.lmul X0.here hx rfl (hb hby at_48) rfl ?_
          show Steps p.tables e below (s₁.setTop (mkF m 49 #[.val (.long q1), .second, .val (.long q2), .second, .val (.int p3), .val (.long (q2 &&& (9223372036854775807 : Int64))), .second, .val (.long (9223372036854 : Int64)), .second, .val (.long (q1 &&& (9223372036854775807 : Int64))), .second, .unset] [(.long ((q2 &&& (9223372036854775807 : Int64)) * (1000000 : Int64)))])) _
          refine XS.iload X0.here hx rfl (hb hby at_49) rfl ?_
          show Steps p.tables e below (s₁.setTop (mkF m 51 #[.val (.long q1), .second, .val (.long q2), .second, .val (.int p3), .val (.long (q2 &&& (9223372036854775807 : Int64))), .second, .val (.long (9223372036854 : Int64)), .second, .val (.long (q1 &&& (9223372036854775807 : Int64))), .second, .unset] [(.int p3), (.long ((q2 &&& (9223372036854775807 : Int64)) * (1000000 : Int64)))])) _
          refine XS.iconst X0.here hx rfl (hb hby at_51) ?_
          show Steps p.tables e below (s₁.setTop (mkF m 52 #[.val (.long q1), .second, .val (.long q2), .second, .val (.int p3), .val (.long (q2 &&& (9223372036854775807 : Int64))), .second, .val (.long (9223372036854 : Int64)), .second, .val (.long (q1 &&& (9223372036854775807 : Int64))), .second, .unset] [(.int (1 : Int32)), (.int p3), (.long ((q2 &&& (9223372036854775807 : Int64)) * (1000000 : Int64)))])) _
          refine XS.iushr X0.here hx rfl (hb hby at_52) rfl ?_
          show Steps p.tables e below (s₁.setTop (mkF m 53 #[.val (.long q1), .second, .val (.long q2), .second, .val (.int p3), .val (.long (q2 &&& (9223372036854775807 : Int64))), .second, .val (.long (9223372036854 : Int64)), .second, .val (.long (q1 &&& (9223372036854775807 : Int64))), .second, .unset] [(.int ((p3.toUInt32 >>> ((1 : Int32) &&& 31).toUInt32).toInt32)), (.long ((q2 &&& (9223372036854775807 : Int64)) * (1000000 : Int64)))])) _
          refine XS.iconst X0.here hx rfl (hb hby at_53) ?_
          show Steps p.tables e below (s₁.setTop (mkF m 54 #[.val (.long q1), .second, .val (.long q2), .second, .val (.int p3), .val (.long (q2 &&& (9223372036854775807 : Int64))), .second, .val (.long (9223372036854 : Int64)), .second, .val (.long (q1 &&& (9223372036854775807 : Int64))), .second, .unset] [(.int (3 : Int32)), (.int ((p3.toUInt32 >>> ((1 : Int32) &&& 31).toUInt32).toInt32)), (.long ((q2 &&& (9223372036854775807 : Int64)) * (1000000 : Int64)))])) _
          refine iremM X0 hx rfl (hb hby at_54) rfl (by decide : ¬ ((3 : Int32) = (0 : Int32))) ?_
          show Steps p.tables e below (s₁.setTop (mkF m 55 #[.val (.long q1), .second, .val (.long q2), .second, .val (.int p3), .val (.long (q2 &&& (9223372036854775807 : Int64))), .second, .val (.long (9223372036854 : Int64)), .second, .val (.long (q1 &&& (9223372036854775807 : Int64))), .second, .unset] [(.int (((p3.toUInt32 >>> ((1 : Int32) &&& 31).toUInt32).toInt32) % (3 : Int32))), (.long ((q2 &&& (9223372036854775807 : Int64)) * (1000000 : Int64)))])) _
          refine XS.i2l X0.here hx rfl (hb hby at_55) rfl ?_
          show Steps p.tables e below (s₁.setTop (mkF m 56 #[.val (.long q1), .second, .val (.long q2), .second, .val (.int p3), .val (.long (q2 &&& (9223372036854775807 : Int64))), .second, .val (.long (9223372036854 : Int64)), .second, .val (.long (q1 &&& (9223372036854775807 : Int64))), .second, .unset] [(.long ((((p3.toUInt32 >>> ((1 : Int32) &&& 31).toUInt32).toInt32) % (3 : Int32)).toInt64)), (.long ((q2 &&& (9223372036854775807 : Int64)) * (1000000 : Int64)))])) _
          refine XS.ladd X0.here hx rfl (hb hby at_56) rfl ?_
          show Steps p.tables e below (s₁.setTop (mkF m 57 #[.val (.long q1), .second, .val (.long q2), .second, .val (.int p3), .val (.long (q2 &&& (9223372036854775807 : Int64))), .second, .val (.long (9223372036854 : Int64)), .second, .val (.long (q1 &&& (9223372036854775807 : Int64))), .second, .unset] [(.long (((q2 &&& (9223372036854775807 : Int64)) * (1000000 : Int64)) + ((((p3.toUInt32 >>> ((1 : Int32) &&& 31).toUInt32).toInt32) % (3 : Int32)).toInt64)))])) _
          refine XS.lconst X0.here hx rfl (hb hby at_57) ?_
          show Steps p.tables e below (s₁.setTop (mkF m 58 #[.val (.long q1), .second, .val (.long q2), .second, .val (.int p3), .val (.long (q2 &&& (9223372036854775807 : Int64))), .second, .val (.long (9223372036854 : Int64)), .second, .val (.long (q1 &&& (9223372036854775807 : Int64))), .second, .unset] [(.long (1 : Int64)), (.long (((q2 &&& (9223372036854775807 : Int64)) * (1000000 : Int64)) + ((((p3.toUInt32 >>> ((1 : Int32) &&& 31).toUInt32).toInt32) % (3 : Int32)).toInt64)))])) _
          refine XS.lsub X0.here hx rfl (hb hby at_58) rfl ?_
          show Steps p.tables e below (s₁.setTop (mkF m 59 #[.val (.long q1), .second, .val (.long q2), .second, .val (.int p3), .val (.long (q2 &&& (9223372036854775807 : Int64))), .second, .val (.long (9223372036854 : Int64)), .second, .val (.long (q1 &&& (9223372036854775807 : Int64))), .second, .unset] [(.long ((((q2 &&& (9223372036854775807 : Int64)) * (1000000 : Int64)) + ((((p3.toUInt32 >>> ((1 : Int32) &&& 31).toUInt32).toInt32) % (3 : Int32)).toInt64)) - (1 : Int64)))])) _
          refine XS.lstore X0.here hx rfl (hb hby at_59) rfl (l' := #[.val (.long q1), .second, .val (.long q2), .second, .val (.int p3), .val (.long (q2 &&& (9223372036854775807 : Int64))), .second, .val (.long (9223372036854 : Int64)), .second, .val (.long ((((q2 &&& (9223372036854775807 : Int64)) * (1000000 : Int64)) + ((((p3.toUInt32 >>> ((1 : Int32) &&& 31).toUInt32).toInt32) % (3 : Int32)).toInt64)) - (1 : Int64))), .second, .unset]) rfl ?_
          exact kt
        show own_End p e below s (s₁.setTop (mkF m 61 #[.val (.long q1), .second, .val (.long q2), .second, .val (.int p3), .val (.long (q2 &&& (9223372036854775807 : Int64))), .second, .val (.long (9223372036854 : Int64)), .second, .val (.long ((((q2 &&& (9223372036854775807 : Int64)) * (1000000 : Int64)) + ((((p3.toUInt32 >>> ((1 : Int32) &&& 31).toUInt32).toInt32) % (3 : Int32)).toInt64)) - (1 : Int64))), .second, .unset] [])) (Q0 Z q1 q2 p3 h0 n0) room_1.cells room_1.slots
        exact j61 _ _ X0 e0 N0 ((((q2 &&& (9223372036854775807 : Int64)) * (1000000 : Int64)) + ((((p3.toUInt32 >>> ((1 : Int32) &&& 31).toUInt32).toInt32) % (3 : Int32)).toInt64)) - (1 : Int64))  (hj.trans (by simp only [own_law, if_neg hc11_9, if_neg hc32_10, if_neg hc40_11]))
theorem own_rwl_eq (d r : Int64) (hd : 0 ≤ d.toInt) : own_rwl d r = if d.toInt ≤ r.toInt * 1000000 then 1 else 0 := by
  have k0 : (0 : Int64).toInt = 0 := by decide
  have km : (1000000 : Int64).toInt = 1000000 := by decide
  have kz : ((0 : Int32).toInt64).toInt = 0 := by decide
  have ko : ((1 : Int32).toInt64).toInt = 1 := by decide
  have e1 := (c_ldiv d 1000000 1000000 km (by decide)).1 hd
  have e2 := (c_lrem d 1000000 1000000 km).1 hd
  have b1 := rng64 d
  have b2 := rng64 r
  unfold own_rwl
  by_cases q1 : (d - (d / (1000000 : Int64)) * (1000000 : Int64)) = (0 : Int64)
  · rw [if_pos q1]
    rw [q1, k0] at e2
    have a1 := c_ladd (d / (1000000 : Int64)) ((0 : Int32).toInt64)
    have a2 := rng64 ((d / (1000000 : Int64)) + ((0 : Int32).toInt64))
    by_cases q2 : r < ((d / (1000000 : Int64)) + ((0 : Int32).toInt64))
    · have q3 := Int64.lt_iff_toInt_lt.mp q2
      rw [if_pos q2, if_neg (by omega)]
    · have q3 : ¬ r.toInt < _ := fun q => q2 (Int64.lt_iff_toInt_lt.mpr q)
      rw [if_neg q2, if_pos (by omega)]
  · rw [if_neg q1]
    have e3 : (d - (d / (1000000 : Int64)) * (1000000 : Int64)).toInt ≠ 0 := fun q => q1 (Int64.toInt_inj.mp (q.trans k0.symm))
    have a1 := c_ladd (d / (1000000 : Int64)) ((1 : Int32).toInt64)
    have a2 := rng64 ((d / (1000000 : Int64)) + ((1 : Int32).toInt64))
    by_cases q2 : r < ((d / (1000000 : Int64)) + ((1 : Int32).toInt64))
    · have q3 := Int64.lt_iff_toInt_lt.mp q2
      rw [if_pos q2, if_neg (by omega)]
    · have q3 : ¬ r.toInt < _ := fun q => q2 (Int64.lt_iff_toInt_lt.mpr q)
      rw [if_neg q2, if_pos (by omega)]
theorem own_wrap {x y : Int} (h : (x - y) % 18446744073709551616 = 0) (hx : -9223372036854775808 ≤ x ∧ x < 9223372036854775808) (hy : -9223372036854775808 ≤ y ∧ y < 9223372036854775808) : x = y := by omega
theorem own_fin4 {R X P S D : Int} (r0 : 1 ≤ R ∧ R ≤ 9223372036854) (x0 : 0 ≤ X ∧ X ≤ 2) (m : (P - R * 1000000) % 18446744073709551616 = 0) (b2 : -9223372036854775808 ≤ P ∧ P < 9223372036854775808) (n1 : (S - (P + X)) % 18446744073709551616 = 0) (b3 : -9223372036854775808 ≤ S ∧ S < 9223372036854775808) (n2 : (D - (S - 1)) % 18446744073709551616 = 0) (b4 : -9223372036854775808 ≤ D ∧ D < 9223372036854775808) : 0 ≤ D := by
  have m1 := own_wrap m b2 (by omega)
  have m2 := own_wrap n1 b3 (by omega)
  have m3 := own_wrap n2 b4 (by omega)
  omega
theorem own_tail (q1 q2 : Int64) (p3 : Int32) (d : Int64) (hd : 0 ≤ d.toInt) : own_law_61 q1 q2 p3 d = 1 := by
  have km : (1000000 : Int64).toInt = 1000000 := by decide
  have kl : (9223372036854 : Int64).toInt = 9223372036854 := by decide
  have z1 : ¬ ((0 : Int32) = 1) := by decide
  have hr : (q2 &&& (9223372036854775807 : Int64)).toInt = q2.toInt % (2 ^ 63 : Nat) := c_maskL q2 9223372036854775807 63 (by decide) (by decide)
  unfold own_law_61
  generalize (q2 &&& (9223372036854775807 : Int64)) = r at *
  have b0 := rng64 d
  have b1 := rng64 r
  have b2 := rng64 (r * (1000000 : Int64))
  have m := c_lmul r 1000000
  rw [km] at m
  rw [own_rwl_eq d r hd]
  by_cases q : (9223372036854 : Int64) < r
  · have q' := Int64.lt_iff_toInt_lt.mp q
    rw [if_pos q, if_pos (by omega : d.toInt ≤ r.toInt * 1000000), if_pos rfl]
  · have q' : ¬ (9223372036854 : Int64).toInt < r.toInt := fun u => q (Int64.lt_iff_toInt_lt.mpr u)
    rw [if_neg q]
    by_cases t : (r * (1000000 : Int64)) < d
    · have t' := Int64.lt_iff_toInt_lt.mp t
      rw [if_pos t, if_neg (by omega : ¬ d.toInt ≤ r.toInt * 1000000), if_pos rfl]
    · have t' : ¬ (r * (1000000 : Int64)).toInt < d.toInt := fun u => t (Int64.lt_iff_toInt_lt.mpr u)
      rw [if_neg t, if_pos (by omega : d.toInt ≤ r.toInt * 1000000), if_pos rfl]
theorem own_true (q1 q2 : Int64) (p3 : Int32) : own_law q1 q2 p3 = 1 := by
  have km : (1000000 : Int64).toInt = 1000000 := by decide
  have kl : (9223372036854 : Int64).toInt = 9223372036854 := by decide
  have k0 : (0 : Int64).toInt = 0 := by decide
  have k1 : (1 : Int64).toInt = 1 := by decide
  have k3 : (3 : Int32).toInt = 3 := by decide
  have hr : (q2 &&& (9223372036854775807 : Int64)).toInt = q2.toInt % (2 ^ 63 : Nat) := c_maskL q2 9223372036854775807 63 (by decide) (by decide)
  have hd : (q1 &&& (9223372036854775807 : Int64)).toInt = q1.toInt % (2 ^ 63 : Nat) := c_maskL q1 9223372036854775807 63 (by decide) (by decide)
  have g1 : own_law_61 q1 q2 p3 (q1 &&& (9223372036854775807 : Int64)) = 1 := own_tail _ _ _ _ (by omega)
  unfold own_law
  by_cases a : (q2 &&& (9223372036854775807 : Int64)) = (0 : Int64)
  · rw [if_pos a]
  rw [if_neg a]
  by_cases b : (p3 &&& (1 : Int32)) = (0 : Int32)
  · rw [if_pos b, g1]
  rw [if_neg b]
  by_cases c : (9223372036854 : Int64) < (q2 &&& (9223372036854775807 : Int64))
  · rw [if_pos c, g1]
  rw [if_neg c]
  apply own_tail
  have a' : (q2 &&& (9223372036854775807 : Int64)).toInt ≠ 0 := fun u => a (Int64.toInt_inj.mp (u.trans k0.symm))
  have c' : ¬ (9223372036854 : Int64).toInt < (q2 &&& (9223372036854775807 : Int64)).toInt := fun u => c (Int64.lt_iff_toInt_lt.mpr u)
  have s1 : ((p3.toUInt32 >>> ((1 : Int32) &&& 31).toUInt32).toInt32).toInt = (p3.toInt % 4294967296) / (2 ^ 1 : Nat) := c_iushr p3 1 1 (by decide) (by decide)
  have s2 := c_irem ((p3.toUInt32 >>> ((1 : Int32) &&& 31).toUInt32).toInt32) 3 3 k3
  have s3 := c_i2l (((p3.toUInt32 >>> ((1 : Int32) &&& 31).toUInt32).toInt32) % (3 : Int32))
  generalize ((p3.toUInt32 >>> ((1 : Int32) &&& 31).toUInt32).toInt32) = x at *
  generalize (q2 &&& (9223372036854775807 : Int64)) = r at *
  have m := c_lmul r 1000000
  rw [km] at m
  have n1 := c_ladd (r * (1000000 : Int64)) ((x % (3 : Int32)).toInt64)
  have n2 := c_lsub ((r * (1000000 : Int64)) + ((x % (3 : Int32)).toInt64)) 1
  have b1 := rng64 r
  have b2 := rng64 (r * (1000000 : Int64))
  have b3 := rng64 ((r * (1000000 : Int64)) + ((x % (3 : Int32)).toInt64))
  have b4 := rng64 (((r * (1000000 : Int64)) + ((x % (3 : Int32)).toInt64)) - 1)
  have s4 := s2.1 (by omega)
  have x0 : 0 ≤ ((x % (3 : Int32)).toInt64).toInt ∧ ((x % (3 : Int32)).toInt64).toInt ≤ 2 := by omega
  have r0 : 1 ≤ r.toInt ∧ r.toInt ≤ 9223372036854 := by omega
  rw [k1] at n2
  exact own_fin4 r0 x0 m b2 n1 b3 n2 b4
set_option maxRecDepth 65536 in
set_option maxHeartbeats 40000000 in
theorem comes_1 {Post : Tables → Env → Array Value → State → Outcome → State → Prop} (hpost : ∀ tb e args s v u, (limb_1_1.after args s (.returned v) u = true ∧ limb_1_2.after args s (.returned v) u = true ∧ True) → FrameEnd s (.returned v) u (Jvm.fieldLocs frame_1_writes args s ++ Jvm.arrayLocs frame_1_arrays args s ++ Jvm.staticLocs frame_1_statics s) 0 0 → Post tb e args s (.returned v) u) :
    ArmFor flags0 classFile x code maxLocals ret World_1 tables_1 room_1 Calls_1 rest_1 Pre_1 Post := by
  intro l hfl _ _ p e ha hc hk s m args below hf hA hF happ hP
  obtain ⟨hcalls, hrest, hpre⟩ := hP
  obtain ⟨-, -, -, hnamed, -, -, -, hat⟩ := (Spec.applies_iff hf).mp happ
  obtain ⟨hg, hn⟩ := and_e (Cond.before_iff.mp (show (Jvm.Cond.and given_1 narrow_1).before args s = true from hpre))
  obtain ⟨g1, g2⟩ := and_e hg
  obtain ⟨g3, g4⟩ := and_e g2
  obtain ⟨g5, g6⟩ := and_e g4
  obtain ⟨w0, w1, w2, rfl⟩ : ∃ w0 w1 w2 : Value, args = #[w0, w1, w2] := by
    have hs : args.size = 3 := by simpa [Cond.value, given_1] using g1
    obtain ⟨L⟩ := args
    match L, hs with
    | [w0, w1, w2], _ => exact ⟨w0, w1, w2, rfl⟩
  have hw := fun d (hd : d ∈ tables_1) => atoms_spec (ws := Jvm.Cond.code x code maxLocals ret :: tables_1) hat d (List.mem_cons_of_mem _ hd)
  have hfit : Fit s := fun {y c} hc i hi => by
    obtain ⟨ha, rfl⟩ := Array.getElem?_eq_some_iff.mp hc
    have q := List.all_eq_true.mp ((Array.all_eq_true_iff_forall_mem.mp hF) _ (Array.getElem_mem ha)) i (List.mem_range.mpr hi)
    simpa [Array.getElem?_eq_getElem hi] using q
  obtain ⟨i0, ei0⟩ := isL_v g3
  obtain rfl : w0 = (.long i0) := Option.some.inj ei0
  obtain ⟨i1, ei1⟩ := isL_v g5
  obtain rfl : w1 = (.long i1) := Option.some.inj ei1
  obtain ⟨i2, ei2⟩ := is_v g6
  obtain rfl : w2 = (.int i2) := Option.some.inj ei2
  obtain ⟨n, o, h1, h2, h3, _, L, rfl, ⟨rfl, N⟩, hq⟩ := rm0 l s _ hw tables_1 i0 i1 i2 s.heap s.heap.size (Nat.le_refl _)  p e ha hc hk s m _ below hf ((Spec.applies_iff_loose hf).mp happ).1 ⟨rfl, State.Warmed39.refl s, rfl⟩ trivial
  refine ⟨n, _, h1, h2, h3, hpost _ _ _ _ _ _ ⟨Cond.after_iff.mpr rfl, Cond.after_iff.mpr (eq_i res_at (Term.int_eval (1)) (congrArg Value.int (own_true i0 i1 i2))), trivial⟩ ⟨hq.1, hq.2.1, (hq.2.2.sift fun y hy => Or.inr (N y hy)).mono (by decide) (by decide)⟩⟩
theorem main_1_1 : Claimed_1_1 := comes_1 fun _ _ _ _ _ _ h hF => ⟨h.1, hF⟩
theorem main_1_2 : Claimed_1_2 := comes_1 fun _ _ _ _ _ _ h hF => ⟨h.2.1, hF⟩
end Jvm.Pilot.@@N@@
namespace Jvm.Pilot.@@N@@
open Jvm Jvm.ClassFile Sem Op Lib Jvm.Free Jvm.Stand Jvm.Pilot.@@N@@.Jvm.D
/-! MADE BY PROGRAM (witnessworld.py) out of the Statement's table words and the real class files: 10 classes; the members and pool entries that the words name. The judged class is class 1, her method 1. -/
namespace start1
open Jvm.ClassFile
def u (s : String) : CpInfo := .utf8 (stringToUtf16 s)
/-- a pool by its gaps: so many unusable entries, then the entry; so many at the end -/
def gap : Nat → List CpInfo → List CpInfo
  | 0, r => r
  | n + 1, r => .unusable :: gap n r
def poolList (es : List (Nat × CpInfo)) (last : Nat) : List CpInfo := es.foldr (fun e r => gap e.1 (e.2 :: r)) (gap last [])
def pool (es : List (Nat × CpInfo)) (last : Nat) : Array CpInfo := ⟨poolList es last⟩
def fileOf (pool : Array CpInfo) (this : Nat) (attrs : Array Attribute := #[]) (ms : Array MethodInfo := #[]) (fl : Nat := 33) (sup : Nat := 0) (ifs : Array Nat := #[]) (fds : Array FieldInfo := #[]) : ClassFile where
  minorVersion := 0
  majorVersion := 65
  constantPool := pool
  accessFlags := fl
  thisClass := this
  superClass := sup
  interfaces := ifs
  fields := fds
  methods := ms
  attributes := attrs
def plain (name : String) (sup : Option ClassId) : Class where
  name := name
  kind := .ordinary
  loader := none
  accessFlags := 33
  super := sup
  interfaces := #[]
  cf := none
  fields := #[]
  methods := #[]
  instanceTypes := #[]
  staticTypes := #[]
  resolved := #[]
  callSites := []
  init := .initialized
  statics := none
  mirror := none

def pool0 : Array CpInfo := pool [(5, u "<init>"), (0, u "()V"), (1, .class_ 10), (1, u "java/lang/Object")] 113

def k0m0 : Method := { name := "<init>", desc := "()V", sig := { parameters := [], returnType := none }, accessFlags := 1, code := none }
/-- java/lang/Object -/
def k0 : Class := { plain "java/lang/Object" none with
  accessFlags := 33
  interfaces := #[]
  cf := some (fileOf pool0 8 #[] #[{ accessFlags := 1, nameIndex := 5, descriptorIndex := 6, attributes := #[] }] 33 0 #[] #[])
  fields := #[]
  methods := #[k0m0]
  instanceTypes := #[]
  staticTypes := #[]
  resolved := Array.replicate 124 none
  statics := none }

def pool1 : Array CpInfo := pool [(2, .class_ 4), (1, u "java/lang/Object"), (0, u "<init>"), (0, u "()V"), (2, .long 9223372036854775807), (1, .long 9223372036854), (1, .long 1000000), (1, .methodref 16 17), (0, .class_ 18), (0, .nameAndType 19 20), (0, u "com/example/atoll/atoll/sim/Scenario"), (0, u "roundsWithinLimit"), (0, u "(JJ)Z"), (0, .class_ 22), (0, u "com/example/atoll/atoll/sim/ScenarioRoundsWithinLimitPinLaw"), (2, u "law"), (0, u "(JJI)Z")] 3

def k1m0 : Method := { name := "<init>", desc := "()V", sig := { parameters := [], returnType := none }, accessFlags := 1, code := none }
def k1c1 : Code := { maxStack := 6, maxLocals := 12, code := code, exceptionTable := #[], attributes := #[] }
def k1m1 : Method := { name := "law", desc := "(JJI)Z", sig := { parameters := [.long, .long, .int], returnType := some .boolean }, accessFlags := 9, code := some k1c1 }
/-- com/example/atoll/atoll/sim/ScenarioRoundsWithinLimitPinLaw -/
def k1 : Class := { plain "com/example/atoll/atoll/sim/ScenarioRoundsWithinLimitPinLaw" (some 0) with
  accessFlags := 49
  interfaces := #[]
  cf := some (fileOf pool1 21 #[] #[{ accessFlags := 1, nameIndex := 5, descriptorIndex := 6, attributes := #[] }, { accessFlags := 9, nameIndex := 25, descriptorIndex := 26, attributes := #[] }] 49 2 #[] #[])
  fields := #[]
  methods := #[k1m0, k1m1]
  instanceTypes := #[]
  staticTypes := #[]
  resolved := Array.replicate 30 none
  statics := none }

def pool2 : Array CpInfo := pool [(2, .class_ 4), (1, u "java/lang/Object"), (0, u "<init>"), (0, u "()V"), (0, .class_ 8), (0, u "java/lang/Record")] 13

def k2m0 : Method := { name := "<init>", desc := "()V", sig := { parameters := [], returnType := none }, accessFlags := 4, code := none }
/-- java/lang/Record -/
def k2 : Class := { plain "java/lang/Record" (some 0) with
  accessFlags := 1057
  interfaces := #[]
  cf := some (fileOf pool2 7 #[] #[{ accessFlags := 4, nameIndex := 5, descriptorIndex := 6, attributes := #[] }] 1057 2 #[] #[])
  fields := #[]
  methods := #[k2m0]
  instanceTypes := #[]
  staticTypes := #[]
  resolved := Array.replicate 22 none
  statics := none }

def pool3 : Array CpInfo := pool [(2, .class_ 4), (1, u "java/lang/Record"), (51, .class_ 58), (1, u "com/example/atoll/atoll/sim/Scenario$Detector"), (7, .class_ 68), (1, u "com/example/atoll/atoll/sim/Scenario"), (0, u "roundsWithinLimit"), (0, u "(JJ)Z"), (133, u "name"), (0, u "Ljava/lang/String;"), (2, u "durationNanos"), (0, u "J"), (2, u "delayNanos"), (2, u "links"), (0, u "Lcom/example/atoll/atoll/sim/Links;"), (2, u "detectors"), (0, u "Ljava/util/Set;"), (2, u "partition"), (0, u "Lcom/example/atoll/atoll/detect/PartitionDetector$Settings;"), (2, u "failure"), (0, u "Lcom/example/atoll/atoll/detect/FailureDetector$Settings;"), (2, u "crashes"), (0, u "Ljava/util/SortedMap;"), (2, u "leaves"), (2, u "loss"), (0, u "Ljava/util/Optional;"), (2, u "seed"), (43, .long 1000000), (30, u "MAX_ROUNDS"), (1, u "DEFAULT_SEED")] 103

def k3c0 : Code := { maxStack := 6, maxLocals := 6, code := prog_79_method_6_code, exceptionTable := #[], attributes := #[] }
def k3m0 : Method := { name := "roundsWithinLimit", desc := "(JJ)Z", sig := { parameters := [.long, .long], returnType := some .boolean }, accessFlags := 8, code := some k3c0 }
/-- com/example/atoll/atoll/sim/Scenario -/
def k3 : Class := { plain "com/example/atoll/atoll/sim/Scenario" (some 2) with
  accessFlags := 49
  interfaces := #[]
  cf := some (fileOf pool3 66 #[.nestMembers #[56]] #[{ accessFlags := 8, nameIndex := 69, descriptorIndex := 70, attributes := #[] }] 49 2 #[] #[{ accessFlags := 18, nameIndex := 204, descriptorIndex := 205, attributes := #[] }, { accessFlags := 18, nameIndex := 208, descriptorIndex := 209, attributes := #[] }, { accessFlags := 18, nameIndex := 212, descriptorIndex := 209, attributes := #[] }, { accessFlags := 18, nameIndex := 215, descriptorIndex := 216, attributes := #[] }, { accessFlags := 18, nameIndex := 219, descriptorIndex := 220, attributes := #[] }, { accessFlags := 18, nameIndex := 223, descriptorIndex := 224, attributes := #[] }, { accessFlags := 18, nameIndex := 227, descriptorIndex := 228, attributes := #[] }, { accessFlags := 18, nameIndex := 231, descriptorIndex := 232, attributes := #[] }, { accessFlags := 18, nameIndex := 235, descriptorIndex := 232, attributes := #[] }, { accessFlags := 18, nameIndex := 238, descriptorIndex := 239, attributes := #[] }, { accessFlags := 18, nameIndex := 242, descriptorIndex := 209, attributes := #[] }, { accessFlags := 24, nameIndex := 317, descriptorIndex := 209, attributes := #[] }, { accessFlags := 25, nameIndex := 319, descriptorIndex := 209, attributes := #[] }])
  fields := #[{ name := "name", type := (.object "java/lang/String"), accessFlags := 18, slot := 0, constantValue := 0 }, { name := "durationNanos", type := .long, accessFlags := 18, slot := 1, constantValue := 0 }, { name := "delayNanos", type := .long, accessFlags := 18, slot := 2, constantValue := 0 }, { name := "links", type := (.object "com/example/atoll/atoll/sim/Links"), accessFlags := 18, slot := 3, constantValue := 0 }, { name := "detectors", type := (.object "java/util/Set"), accessFlags := 18, slot := 4, constantValue := 0 }, { name := "partition", type := (.object "com/example/atoll/atoll/detect/PartitionDetector$Settings"), accessFlags := 18, slot := 5, constantValue := 0 }, { name := "failure", type := (.object "com/example/atoll/atoll/detect/FailureDetector$Settings"), accessFlags := 18, slot := 6, constantValue := 0 }, { name := "crashes", type := (.object "java/util/SortedMap"), accessFlags := 18, slot := 7, constantValue := 0 }, { name := "leaves", type := (.object "java/util/SortedMap"), accessFlags := 18, slot := 8, constantValue := 0 }, { name := "loss", type := (.object "java/util/Optional"), accessFlags := 18, slot := 9, constantValue := 0 }, { name := "seed", type := .long, accessFlags := 18, slot := 10, constantValue := 0 }, { name := "MAX_ROUNDS", type := .long, accessFlags := 24, slot := 0, constantValue := 0 }, { name := "DEFAULT_SEED", type := .long, accessFlags := 25, slot := 1, constantValue := 0 }]
  methods := #[k3m0]
  instanceTypes := #[(.object "java/lang/String"), .long, .long, (.object "com/example/atoll/atoll/sim/Links"), (.object "java/util/Set"), (.object "com/example/atoll/atoll/detect/PartitionDetector$Settings"), (.object "com/example/atoll/atoll/detect/FailureDetector$Settings"), (.object "java/util/SortedMap"), (.object "java/util/SortedMap"), (.object "java/util/Optional"), .long]
  staticTypes := #[.long, .long]
  resolved := Array.replicate 423 none
  statics := none }

def pool4 : Array CpInfo := pool [(1, u "java/lang/Cloneable"), (0, .class_ 1), (0, u "java/lang/Object"), (0, .class_ 3)] 3

/-- java/lang/Cloneable -/
def k4 : Class := { plain "java/lang/Cloneable" (some 0) with
  accessFlags := 1537
  interfaces := #[]
  cf := some (fileOf pool4 2 #[] #[] 1537 4 #[] #[])
  fields := #[]
  methods := #[]
  instanceTypes := #[]
  staticTypes := #[]
  resolved := Array.replicate 8 none
  statics := none }

def pool5 : Array CpInfo := pool [(1, u "java/io/Serializable"), (0, .class_ 1), (0, u "java/lang/Object"), (0, .class_ 3)] 3

/-- java/io/Serializable -/
def k5 : Class := { plain "java/io/Serializable" (some 0) with
  accessFlags := 1537
  interfaces := #[]
  cf := some (fileOf pool5 2 #[] #[] 1537 4 #[] #[])
  fields := #[]
  methods := #[]
  instanceTypes := #[]
  staticTypes := #[]
  resolved := Array.replicate 8 none
  statics := none }

/-- the primitive byte -/
def k6 : Class := { plain "byte" none with kind := .primitive 'B', accessFlags := 0x411 }
/-- [B -/
def k7 : Class := { plain "[B" (some 0) with kind := .array 6 .byte, interfaces := #[4, 5], accessFlags := 1041 }

/-- the primitive int -/
def k8 : Class := { plain "int" none with kind := .primitive 'I', accessFlags := 0x411 }
/-- [I -/
def k9 : Class := { plain "[I" (some 0) with kind := .array 8 .int, interfaces := #[4, 5], accessFlags := 1041 }

def heap : Heap := #[]
def classes : Array Class := #[k0, k1, k2, k3, k4, k5, k6, k7, k8, k9]
def interned : List (Array UInt16 × Addr) := []
def slotsUsed : Nat := 0
def theMethod : MethodId := ⟨1, 1⟩
def args0 : Array Value := #[.long 5, .long 9, .int 3]
def aboutOver (below : List Frame) : State where
  vm := { classes := classes, interned := interned.toArray }
  heap := heap
  slotsUsed := slotsUsed
  threads := #[{ frames := .invoking theMethod args0 :: below }]
def below0 : List Frame := [.native { method := ⟨0, 0⟩, args := #[] }]
def about1 : State := aboutOver below0
def p0 : Program := .bare "" "" ""
def e0 : Env := launch0.env 0 0 0
theorem w_frames : about1.frames = Frame.invoking theMethod args0 :: below0 := rfl
set_option maxRecDepth 65536 in
theorem w_args : argsFit about1.vm theMethod args0 = true := by decide +kernel
set_option maxRecDepth 65536 in
theorem w_heap : heapFits about1 = true := by decide +kernel
set_option maxRecDepth 65536 in
theorem w_runnable : about1.curStatus? = some .runnable := by decide +kernel
set_option maxRecDepth 65536 in
theorem w_alone : about1.alone = true := by decide +kernel
set_option maxRecDepth 65536 in
theorem w_named : about1.methodNamed? x = some theMethod := by decide +kernel
set_option maxRecDepth 65536 in
theorem w_hears : about1.hears theMethod below0 = true := by decide +kernel
set_option maxRecDepth 65536 in
theorem w_ripe : about1.ripe theMethod args0 below0 = true := by decide +kernel
theorem w_running : about1.status = .running := rfl
set_option maxRecDepth 65536 in
theorem w_room : about1.hasRoom e0.platform room_1 = true :=
  launch0.hasRoom_least _ room_1 (by decide +kernel) (by decide +kernel) (by decide +kernel) (by decide +kernel) (by decide +kernel) (by decide +kernel)
theorem allAtoms_all (ts : List Jvm.Cond) (a : Array Jvm.Value) (st : Jvm.State) : (allAtoms ts).before a st = ts.all (fun c => c.before a st) := by
  induction ts with
  | nil => rfl
  | cons c t ih =>
    show (Jvm.Cond.and c (allAtoms t)).before a st = _
    rw [Jvm.Cond.before_and, ih, List.all_cons]
def words1 : List Jvm.Cond := Jvm.Cond.code x code maxLocals ret :: tables_1
/-- a 'code' word, met by the world's own term for the bytes: nothing is compared byte by byte -/
theorem code_word {y : MethodName} {bytes : ByteArray} {mx : Nat} {rt : Option FieldType} {a : Array Value} {s : State} {m : MethodId} {meth : Method} {c : Code} (h1 : s.methodNamed? y = some m) (h2 : s.vm.method? m = some meth) (h3 : meth.code = some c) (h4 : c.code = bytes)
    (h5 : (c.maxLocals == mx && c.exceptionTable.isEmpty && decide (c.maxStack ≤ mostOperands) && decide (meth.sig.returnType = rt) && !meth.locks && decide (parseMethodDescriptor y.desc = some meth.sig)) = true) : (Jvm.Cond.code y bytes mx rt).before a s = true := by
  simp only [Bool.and_eq_true, beq_iff_eq, Bool.not_eq_true', decide_eq_true_eq] at h5
  obtain ⟨⟨⟨⟨⟨g1, g2⟩, g3⟩, g4⟩, g5⟩, g6⟩ := h5
  simp [Cond.before, Cond.holds, Cond.value, h1, h2, h3, h4, g1, g2, g3, g4, g5, g6]
def isCode : Jvm.Cond → Bool
  | .code _ _ _ _ => true
  | _ => false
theorem all_split {L : List Jvm.Cond} {P : Jvm.Cond → Bool} (h1 : L.all (fun c => isCode c || P c) = true) (h2 : ∀ c ∈ L.filter isCode, P c = true) : L.all P = true := by
  refine List.all_eq_true.mpr fun c hc => ?_
  have h := List.all_eq_true.mp h1 c hc
  rcases Bool.eq_false_or_eq_true (isCode c) with hi | hi
  · exact h2 c (List.mem_filter.mpr ⟨hc, hi⟩)
  · simpa [hi] using h
set_option maxRecDepth 65536 in
theorem w_c0 : (Jvm.Cond.code x code maxLocals ret).before args0 about1 = true := code_word (m := ⟨1, 1⟩) (meth := k1m1) (c := k1c1) (by decide +kernel) rfl rfl rfl (by decide +kernel)
set_option maxRecDepth 65536 in
theorem w_c1 : (Jvm.Cond.code ({ cls := "com/example/atoll/atoll/sim/Scenario", name := "roundsWithinLimit", desc := "(JJ)Z" } : Jvm.MethodName) prog_79_method_6_code (6 : Nat) (Option.some Jvm.ClassFile.FieldType.boolean)).before args0 about1 = true := code_word (m := ⟨3, 0⟩) (meth := k3m0) (c := k3c0) (by decide +kernel) rfl rfl rfl (by decide +kernel)
def codes1 : List Jvm.Cond := [Jvm.Cond.code x code maxLocals ret, Jvm.Cond.code ({ cls := "com/example/atoll/atoll/sim/Scenario", name := "roundsWithinLimit", desc := "(JJ)Z" } : Jvm.MethodName) prog_79_method_6_code (6 : Nat) (Option.some Jvm.ClassFile.FieldType.boolean)]
set_option maxRecDepth 65536 in
theorem codes_eq : words1.filter isCode = codes1 := rfl
theorem w_codes : ∀ c ∈ words1.filter isCode, c.before args0 about1 = true := by
  rw [codes_eq]
  intro c hc
  simp only [codes1, List.mem_cons, List.not_mem_nil, or_false] at hc
  rcases hc with rfl | rfl
  · exact w_c0
  · exact w_c1
set_option maxRecDepth 65536 in
theorem w_t1 : words1.all (fun c => isCode c || c.before args0 about1) = true := by decide +kernel
theorem w_tables : (allAtoms (Jvm.Cond.code x code maxLocals ret :: tables_1)).before args0 about1 = true := by
  rw [allAtoms_all]
  show words1.all (fun c => c.before args0 about1) = true
  refine all_split ?_ w_codes
  rw [w_t1]
set_option maxRecDepth 65536 in
theorem w_case : (Jvm.Cond.and given_1 narrow_1).before args0 about1 = true := by decide +kernel
theorem w_applies : (headSpec (Jvm.Cond.code x code maxLocals ret :: tables_1) room_1).applies x e0.platform about1 = true :=
  (Spec.applies_iff w_frames).mpr ⟨w_running, w_runnable, w_alone, w_named, w_hears, w_ripe, w_room, w_tables⟩
theorem atStart : AtStart classFile x code maxLocals ret World_1 tables_1 room_1 Calls_1 rest_1 Pre_1 launch0 p0 e0 about1 theMethod args0 below0 :=
  ⟨lists_1, trivial, launch0.admits_env _ _ _, launch0.least_env, fairChoices_fair.cas, fairChoices_fair.clock, w_frames, w_args, w_heap, w_applies, trivial, trivial, w_case⟩
end start1
theorem witness_1 : WitnessClaimed_1 := ⟨start1.p0, start1.e0, start1.about1, start1.theMethod, start1.args0, start1.below0, start1.atStart⟩
end Jvm.Pilot.@@N@@
