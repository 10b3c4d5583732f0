import JvmDerived
import JvmDerived.Pilot.@@N@@Statement
import JvmDerived.Pilot.@@N@@Code
set_option linter.unusedVariables false
set_option linter.unusedSimpArgs false
@@BLOCK:NumsL.lean.txt@@
namespace Jvm.RoadKit
open Sem ClassFile Op Lib Jvm.Stand Jvm.Free Jvm.LawKit
section New
variable {p : Program} {l : Launch} {e : Env} {R : Room} {s : State} {m : MethodId} {args : Array Value} {below : List Frame} {meth : Method} {c : Code} {T : State} {locs : List Loc} {cells slots : Nat}
theorem retI (X : Stand p l e R s m args below meth c T locs cells slots) (hx : p.tables.exec = Jvm.exec) {pc : Nat} {Ls : Array Slot} {z : Int32} {rest : List Value} (hret : meth.sig.returnType = some .int) (hd : decode c.code pc = .ok (.ireturn, 1)) {fs : List Frame}
    (hl : ∀ (f : JFrame) (acts : List Action), f.method = m → f.locked = none → f.entered = [] → (doReturn e (T.setTop f) acts (some (.int z))).1 = T.setFrames fs) : Steps p.tables e below (T.setTop (mkF m pc Ls (.int z :: rest))) (T.setFrames fs) := by
  have hm' : T.vm.method? m = some meth := X.method'
  have hn : narrow .int (.int z) = .int z := rfl
  show Steps p.tables e below (T.setTop { method := m, pc := pc, locals := Ls, stack := _ :: rest, locked := none }) _
  jvm_step X.here [X.here.top, hx, hd, hm', hret, hn]
  first | (intro acts; rw [hl _ acts rfl rfl rfl]) | rw [hl _ _ rfl rfl rfl]
  exact Steps.refl _
end New
end Jvm.RoadKit
namespace Jvm.Pilot.@@N@@
open Jvm Jvm.ClassFile Sem Op Lib Jvm.Free Jvm.Stand Jvm.LawKit Jvm.RoadKit Bundle Jvm.Pilot.@@N@@.Jvm.D
theorem d1_0 : decode prog_240_method_2_code 0 = .ok (.iload_n 0, 1) := by decide +kernel
theorem d1_1 : decode prog_240_method_2_code 1 = .ok (.ifCond .ne 18, 3) := by decide +kernel
theorem d1_4 : decode prog_240_method_2_code 4 = .ok (.iload_n 1, 1) := by decide +kernel
theorem d1_5 : decode prog_240_method_2_code 5 = .ok (.ldc 9, 2) := by decide +kernel
theorem d1_7 : decode prog_240_method_2_code 7 = .ok (.if_icmp .ne 7, 3) := by decide +kernel
theorem d1_10 : decode prog_240_method_2_code 10 = .ok (.iconst 1, 1) := by decide +kernel
theorem d1_11 : decode prog_240_method_2_code 11 = .ok (.goto 4, 3) := by decide +kernel
theorem d1_14 : decode prog_240_method_2_code 14 = .ok (.iconst 0, 1) := by decide +kernel
theorem d1_15 : decode prog_240_method_2_code 15 = .ok (.istore_n 2, 1) := by decide +kernel
theorem d1_16 : decode prog_240_method_2_code 16 = .ok (.goto 29, 3) := by decide +kernel
theorem d1_19 : decode prog_240_method_2_code 19 = .ok (.iload_n 0, 1) := by decide +kernel
theorem d1_20 : decode prog_240_method_2_code 20 = .ok (.iconst 1, 1) := by decide +kernel
theorem d1_21 : decode prog_240_method_2_code 21 = .ok (.if_icmp .ne 22, 3) := by decide +kernel
theorem d1_24 : decode prog_240_method_2_code 24 = .ok (.iload_n 1, 1) := by decide +kernel
theorem d1_25 : decode prog_240_method_2_code 25 = .ok (.ifCond .lt 13, 3) := by decide +kernel
theorem d1_28 : decode prog_240_method_2_code 28 = .ok (.iload_n 1, 1) := by decide +kernel
theorem d1_29 : decode prog_240_method_2_code 29 = .ok (.ldc 9, 2) := by decide +kernel
theorem d1_31 : decode prog_240_method_2_code 31 = .ok (.if_icmp .gt 7, 3) := by decide +kernel
theorem d1_34 : decode prog_240_method_2_code 34 = .ok (.iconst 1, 1) := by decide +kernel
theorem d1_35 : decode prog_240_method_2_code 35 = .ok (.goto 4, 3) := by decide +kernel
theorem d1_38 : decode prog_240_method_2_code 38 = .ok (.iconst 0, 1) := by decide +kernel
theorem d1_39 : decode prog_240_method_2_code 39 = .ok (.istore_n 2, 1) := by decide +kernel
theorem d1_40 : decode prog_240_method_2_code 40 = .ok (.goto 5, 3) := by decide +kernel
theorem d1_43 : decode prog_240_method_2_code 43 = .ok (.iconst 0, 1) := by decide +kernel
theorem d1_44 : decode prog_240_method_2_code 44 = .ok (.istore_n 2, 1) := by decide +kernel
theorem d1_45 : decode prog_240_method_2_code 45 = .ok (.iload_n 2, 1) := by decide +kernel
theorem d1_46 : decode prog_240_method_2_code 46 = .ok (.ireturn, 1) := by decide +kernel
theorem pn_1 : plainName "com/example/lodestone/lodestone/storage/LogFormat" = true := by first | (simp [plainName, overriddenIn]; done) | decide +kernel
theorem ef_1 (m : MethodId) (q1 : Int32) (q2 : Int32) : entryFrame m #[(.int q1), (.int q2)] 3 = mkF m 0 #[.val (.int q1), .val (.int q2), .unset] [] := by first | (simp [entryFrame, mkF, argsToLocals, Value.category]; done) | rfl
def hol_45 (q1 : Int32) (q2 : Int32) (z45_0 : Int32) : Int32 := z45_0
def hol_43 (q1 : Int32) (q2 : Int32) : Int32 := hol_45 q1 q2 (0 : Int32)
def hol_39 (q1 : Int32) (q2 : Int32) (z39_0 : Int32) : Int32 := hol_45 q1 q2 z39_0
def hol_38 (q1 : Int32) (q2 : Int32) : Int32 := hol_39 q1 q2 (0 : Int32)
def hol_19 (q1 : Int32) (q2 : Int32) : Int32 := if q1 = (1 : Int32) then (if q2 < (0 : Int32) then (hol_38 q1 q2) else (if (1048576 : Int32) < q2 then (hol_38 q1 q2) else (hol_39 q1 q2 (1 : Int32)))) else (hol_43 q1 q2)
def hol_15 (q1 : Int32) (q2 : Int32) (z15_0 : Int32) : Int32 := hol_45 q1 q2 z15_0
def hol_14 (q1 : Int32) (q2 : Int32) : Int32 := hol_15 q1 q2 (0 : Int32)
def hol_0 (q1 : Int32) (q2 : Int32) : Int32 := if q1 = (0 : Int32) then (if q2 = (1048576 : Int32) then (hol_15 q1 q2 (1 : Int32)) else (hol_14 q1 q2)) else (hol_19 q1 q2)
theorem hol_bool (a b : Int32) : hol_0 a b = 0 ∨ hol_0 a b = 1 := by
  simp only [hol_0, hol_14, hol_15, hol_19, hol_38, hol_39, hol_43, hol_45]
  repeat' split
  all_goals first | exact Or.inl rfl | exact Or.inr rfl
def Q1 (Z : State) (q1 : Int32) (q2 : Int32) (h0 : Heap) (n0 : Nat) (v : Option Value) (h : Heap) (L : List Loc) : Prop := v = some (.int (hol_0 q1 q2)) ∧ Fr n0 L ∧ h = h0
set_option maxRecDepth 65536 in
set_option maxHeartbeats 40000000 in
theorem rm1 (l : Launch) (Z : State) (a0 : Array Value) (hw : ∀ d ∈ tables_1, d.before a0 Z = true) (ws : List Jvm.Cond) (q1 : Int32) (q2 : Int32) (h0 : Heap) (n0 : Nat) (Z0 : n0 ≤ h0.size) :
    MetFree l (⟨"com/example/lodestone/lodestone/storage/LogFormat", "holds", "(BI)Z"⟩ : MethodName) (head1 (Jvm.Cond.code (⟨"com/example/lodestone/lodestone/storage/LogFormat", "holds", "(BI)Z"⟩ : MethodName) prog_240_method_2_code 3 (some .boolean) :: ws) ({ frames := 0, cells := 0, slots := 0, locals := 0 } : Room)) (fun a U => a = #[(.int q1), (.int q2)] ∧ Z.Warmed39 U.vm ∧ U.heap = h0) (fun _ _ _ _ _ => True) (fun _ U o U' => ∃ v L, o = .returned v ∧ Q1 Z q1 q2 h0 n0 v U'.heap L ∧ FrameEnd U o U' L ({ frames := 0, cells := 0, slots := 0, locals := 0 } : Room).cells ({ frames := 0, cells := 0, slots := 0, locals := 0 } : Room).slots) := by
  refine MetFree.of_bodySF (plainFor_of_name pn_1) hisR ?_
  intro p e s m args below meth c s₁ Bd hml0 hP hK
  obtain ⟨rfl, hZ, hh⟩ := hP
  have hx := Bd.exec
  have hby := Bd.bytes
  have hown : s.vm.findClass "com/example/lodestone/lodestone/storage/LogFormat" = some m.cls := findClass_of_methodNamed Bd.named
  have X0 : Stand p l e ({ frames := 0, cells := 0, slots := 0, locals := 0 } : Room) s m #[(.int q1), (.int q2)] below meth c s₁ [] 0 0 := Stand.of_body Bd
  have e0 : s₁.heap = h0 := by rw [← hh, Bd.state]; rfl
  have pre0 : ∀ t, Steps p.tables e below (s₁.setTop (mkF m 0 #[.val (.int q1), .val (.int q2), .unset] [])) t → Steps p.tables e below (s₁.setTop (entryFrame m #[(.int q1), (.int q2)] 3)) t := fun t k => castTop (ef_1 m q1 q2) k
  obtain ⟨r, hr0⟩ : ∃ r : Int32, hol_0 q1 q2 = r := ⟨_, rfl⟩
  have hnar : nar .boolean r = r := by rcases hol_bool q1 q2 with q | q <;> rw [hr0] at q <;> rw [q] <;> rfl
  obtain ⟨fs, hr, hrun, hended, hW, hsame⟩ := X0.leave (v := some (.int r)) (fun h => by rw [Bd.returns] at h; cases h)
  have kret : ∀ (pc : Nat) (Ls : Array Slot) (z : Int32), decode c.code pc = .ok (.ireturn, 1) → z = r → Steps p.tables e below (s₁.setTop (mkF m pc Ls [(.int z)])) (s₁.setFrames fs) := fun pc Ls z hd hz => retN X0 hx (t := .boolean) Bd.returns (by simp) hd (by rw [hz, hnar]; exact hr)
  have k45 : ∀ (z45_0 : Int32), hol_45 q1 q2 z45_0 = r → Steps p.tables e below (s₁.setTop (mkF m 45 #[.val (.int q1), .val (.int q2), .val (.int z45_0)] [])) (s₁.setFrames fs) := by
    intro z45_0 hh
    show Steps p.tables e below (s₁.setTop (mkF m 45 #[.val (.int q1), .val (.int q2), .val (.int z45_0)] [])) _
    refine XS.iloadN X0.here hx rfl (hb hby d1_45) rfl ?_
    show Steps p.tables e below (s₁.setTop (mkF m 46 #[.val (.int q1), .val (.int q2), .val (.int z45_0)] [(.int z45_0)])) _
    exact kret 46 _ _ (hb hby d1_46) hh
  have k43 : hol_43 q1 q2 = r → Steps p.tables e below (s₁.setTop (mkF m 43 #[.val (.int q1), .val (.int q2), .unset] [])) (s₁.setFrames fs) := by
    intro hh
    show Steps p.tables e below (s₁.setTop (mkF m 43 #[.val (.int q1), .val (.int q2), .unset] [])) _
    refine XS.iconst X0.here hx rfl (hb hby d1_43) ?_
    show Steps p.tables e below (s₁.setTop (mkF m 44 #[.val (.int q1), .val (.int q2), .unset] [(.int (0 : Int32))])) _
    refine XS.istoreN X0.here hx rfl (hb hby d1_44) rfl (l' := #[.val (.int q1), .val (.int q2), .val (.int (0 : Int32))]) rfl ?_
    show Steps p.tables e below (s₁.setTop (mkF m 45 #[.val (.int q1), .val (.int q2), .val (.int (0 : Int32))] [])) _
    exact k45 _ hh
  have k39 : ∀ (z39_0 : Int32), hol_39 q1 q2 z39_0 = r → Steps p.tables e below (s₁.setTop (mkF m 39 #[.val (.int q1), .val (.int q2), .unset] [(.int z39_0)])) (s₁.setFrames fs) := by
    intro z39_0 hh
    show Steps p.tables e below (s₁.setTop (mkF m 39 #[.val (.int q1), .val (.int q2), .unset] [(.int z39_0)])) _
    refine XS.istoreN X0.here hx rfl (hb hby d1_39) rfl (l' := #[.val (.int q1), .val (.int q2), .val (.int z39_0)]) rfl ?_
    show Steps p.tables e below (s₁.setTop (mkF m 40 #[.val (.int q1), .val (.int q2), .val (.int z39_0)] [])) _
    refine XS.goto X0.here hx rfl (pc0 := 40) (pc' := 45) rfl (hb hby d1_40) (by decide) (by decide) ?_
    show Steps p.tables e below (s₁.setTop (mkF m 45 #[.val (.int q1), .val (.int q2), .val (.int z39_0)] [])) _
    exact k45 _ hh
  have k38 : hol_38 q1 q2 = r → Steps p.tables e below (s₁.setTop (mkF m 38 #[.val (.int q1), .val (.int q2), .unset] [])) (s₁.setFrames fs) := by
    intro hh
    show Steps p.tables e below (s₁.setTop (mkF m 38 #[.val (.int q1), .val (.int q2), .unset] [])) _
    refine XS.iconst X0.here hx rfl (hb hby d1_38) ?_
    show Steps p.tables e below (s₁.setTop (mkF m 39 #[.val (.int q1), .val (.int q2), .unset] [(.int (0 : Int32))])) _
    exact k39 _ hh
  have k19 : hol_19 q1 q2 = r → Steps p.tables e below (s₁.setTop (mkF m 19 #[.val (.int q1), .val (.int q2), .unset] [])) (s₁.setFrames fs) := by
    intro hh
    show Steps p.tables e below (s₁.setTop (mkF m 19 #[.val (.int q1), .val (.int q2), .unset] [])) _
    refine XS.iloadN X0.here hx rfl (hb hby d1_19) rfl ?_
    show Steps p.tables e below (s₁.setTop (mkF m 20 #[.val (.int q1), .val (.int q2), .unset] [(.int q1)])) _
    refine XS.iconst X0.here hx rfl (hb hby d1_20) ?_
    have hh : (if q1 = (1 : Int32) then (if q2 < (0 : Int32) then (hol_38 q1 q2) else (if (1048576 : Int32) < q2 then (hol_38 q1 q2) else (hol_39 q1 q2 (1 : Int32)))) else (hol_43 q1 q2)) = r := hh
    by_cases c21 : q1 = (1 : Int32)
    · rw [if_pos c21] at hh
      show Steps p.tables e below (s₁.setTop (mkF m 21 #[.val (.int q1), .val (.int q2), .unset] [(.int (1 : Int32)), (.int q1)])) _
      refine XS.icmpNo X0.here hx rfl (hb hby d1_21) rfl (teq c21).2 ?_
      show Steps p.tables e below (s₁.setTop (mkF m 24 #[.val (.int q1), .val (.int q2), .unset] [])) _
      refine XS.iloadN X0.here hx rfl (hb hby d1_24) rfl ?_
      have hh : (if q2 < (0 : Int32) then (hol_38 q1 q2) else (if (1048576 : Int32) < q2 then (hol_38 q1 q2) else (hol_39 q1 q2 (1 : Int32)))) = r := hh
      by_cases c25 : q2 < (0 : Int32)
      · rw [if_pos c25] at hh
        show Steps p.tables e below (s₁.setTop (mkF m 25 #[.val (.int q1), .val (.int q2), .unset] [(.int q2)])) _
        refine XS.ifYes X0.here hx rfl (pc0 := 25) (pc' := 38) rfl (hb hby d1_25) rfl ((if0 _ _).trans (tlt c25).1) (by decide) (by decide) ?_
        show Steps p.tables e below (s₁.setTop (mkF m 38 #[.val (.int q1), .val (.int q2), .unset] [])) _
        exact k38 hh
      · rw [if_neg c25] at hh
        show Steps p.tables e below (s₁.setTop (mkF m 25 #[.val (.int q1), .val (.int q2), .unset] [(.int q2)])) _
        refine XS.ifNo X0.here hx rfl (hb hby d1_25) rfl ((if0 _ _).trans (flt c25).1) ?_
        show Steps p.tables e below (s₁.setTop (mkF m 28 #[.val (.int q1), .val (.int q2), .unset] [])) _
        refine XS.iloadN X0.here hx rfl (hb hby d1_28) rfl ?_
        show Steps p.tables e below (s₁.setTop (mkF m 29 #[.val (.int q1), .val (.int q2), .unset] [(.int q2)])) _
        refine X0.ldcInt hx hown (mvT hZ (hw _ (List.mem_of_getElem? (i := 4) rfl))) (g := (mkF m 29 #[.val (.int q1), .val (.int q2), .unset] [(.int q2)])) rfl (hb hby d1_29) _ ?_
        have hh : (if (1048576 : Int32) < q2 then (hol_38 q1 q2) else (hol_39 q1 q2 (1 : Int32))) = r := hh
        by_cases c31 : (1048576 : Int32) < q2
        · rw [if_pos c31] at hh
          show Steps p.tables e below (s₁.setTop (mkF m 31 #[.val (.int q1), .val (.int q2), .unset] [(.int (1048576 : Int32)), (.int q2)])) _
          refine XS.icmpYes X0.here hx rfl (pc0 := 31) (pc' := 38) rfl (hb hby d1_31) rfl (tlt c31).2.2.1 (by decide) (by decide) ?_
          show Steps p.tables e below (s₁.setTop (mkF m 38 #[.val (.int q1), .val (.int q2), .unset] [])) _
          exact k38 hh
        · rw [if_neg c31] at hh
          show Steps p.tables e below (s₁.setTop (mkF m 31 #[.val (.int q1), .val (.int q2), .unset] [(.int (1048576 : Int32)), (.int q2)])) _
          refine XS.icmpNo X0.here hx rfl (hb hby d1_31) rfl (flt c31).2.2.1 ?_
          show Steps p.tables e below (s₁.setTop (mkF m 34 #[.val (.int q1), .val (.int q2), .unset] [])) _
          refine XS.iconst X0.here hx rfl (hb hby d1_34) ?_
          show Steps p.tables e below (s₁.setTop (mkF m 35 #[.val (.int q1), .val (.int q2), .unset] [(.int (1 : Int32))])) _
          refine XS.goto X0.here hx rfl (pc0 := 35) (pc' := 39) rfl (hb hby d1_35) (by decide) (by decide) ?_
          show Steps p.tables e below (s₁.setTop (mkF m 39 #[.val (.int q1), .val (.int q2), .unset] [(.int (1 : Int32))])) _
          exact k39 _ hh
    · rw [if_neg c21] at hh
      show Steps p.tables e below (s₁.setTop (mkF m 21 #[.val (.int q1), .val (.int q2), .unset] [(.int (1 : Int32)), (.int q1)])) _
      refine XS.icmpYes X0.here hx rfl (pc0 := 21) (pc' := 43) rfl (hb hby d1_21) rfl (feq c21).2 (by decide) (by decide) ?_
      show Steps p.tables e below (s₁.setTop (mkF m 43 #[.val (.int q1), .val (.int q2), .unset] [])) _
      exact k43 hh
  have k15 : ∀ (z15_0 : Int32), hol_15 q1 q2 z15_0 = r → Steps p.tables e below (s₁.setTop (mkF m 15 #[.val (.int q1), .val (.int q2), .unset] [(.int z15_0)])) (s₁.setFrames fs) := by
    intro z15_0 hh
    show Steps p.tables e below (s₁.setTop (mkF m 15 #[.val (.int q1), .val (.int q2), .unset] [(.int z15_0)])) _
    refine XS.istoreN X0.here hx rfl (hb hby d1_15) rfl (l' := #[.val (.int q1), .val (.int q2), .val (.int z15_0)]) rfl ?_
    show Steps p.tables e below (s₁.setTop (mkF m 16 #[.val (.int q1), .val (.int q2), .val (.int z15_0)] [])) _
    refine XS.goto X0.here hx rfl (pc0 := 16) (pc' := 45) rfl (hb hby d1_16) (by decide) (by decide) ?_
    show Steps p.tables e below (s₁.setTop (mkF m 45 #[.val (.int q1), .val (.int q2), .val (.int z15_0)] [])) _
    exact k45 _ hh
  have k14 : hol_14 q1 q2 = r → Steps p.tables e below (s₁.setTop (mkF m 14 #[.val (.int q1), .val (.int q2), .unset] [])) (s₁.setFrames fs) := by
    intro hh
    show Steps p.tables e below (s₁.setTop (mkF m 14 #[.val (.int q1), .val (.int q2), .unset] [])) _
    refine XS.iconst X0.here hx rfl (hb hby d1_14) ?_
    show Steps p.tables e below (s₁.setTop (mkF m 15 #[.val (.int q1), .val (.int q2), .unset] [(.int (0 : Int32))])) _
    exact k15 _ hh
  have k0 : hol_0 q1 q2 = r → Steps p.tables e below (s₁.setTop (mkF m 0 #[.val (.int q1), .val (.int q2), .unset] [])) (s₁.setFrames fs) := by
    intro hh
    show Steps p.tables e below (s₁.setTop (mkF m 0 #[.val (.int q1), .val (.int q2), .unset] [])) _
    refine XS.iloadN X0.here hx rfl (hb hby d1_0) rfl ?_
    have hh : (if q1 = (0 : Int32) then (if q2 = (1048576 : Int32) then (hol_15 q1 q2 (1 : Int32)) else (hol_14 q1 q2)) else (hol_19 q1 q2)) = r := hh
    by_cases c1 : q1 = (0 : Int32)
    · rw [if_pos c1] at hh
      show Steps p.tables e below (s₁.setTop (mkF m 1 #[.val (.int q1), .val (.int q2), .unset] [(.int q1)])) _
      refine XS.ifNo X0.here hx rfl (hb hby d1_1) rfl ((if0 _ _).trans (teq c1).2) ?_
      show Steps p.tables e below (s₁.setTop (mkF m 4 #[.val (.int q1), .val (.int q2), .unset] [])) _
      refine XS.iloadN X0.here hx rfl (hb hby d1_4) rfl ?_
      show Steps p.tables e below (s₁.setTop (mkF m 5 #[.val (.int q1), .val (.int q2), .unset] [(.int q2)])) _
      refine X0.ldcInt hx hown (mvT hZ (hw _ (List.mem_of_getElem? (i := 4) rfl))) (g := (mkF m 5 #[.val (.int q1), .val (.int q2), .unset] [(.int q2)])) rfl (hb hby d1_5) _ ?_
      have hh : (if q2 = (1048576 : Int32) then (hol_15 q1 q2 (1 : Int32)) else (hol_14 q1 q2)) = r := hh
      by_cases c7 : q2 = (1048576 : Int32)
      · rw [if_pos c7] at hh
        show Steps p.tables e below (s₁.setTop (mkF m 7 #[.val (.int q1), .val (.int q2), .unset] [(.int (1048576 : Int32)), (.int q2)])) _
        refine XS.icmpNo X0.here hx rfl (hb hby d1_7) rfl (teq c7).2 ?_
        show Steps p.tables e below (s₁.setTop (mkF m 10 #[.val (.int q1), .val (.int q2), .unset] [])) _
        refine XS.iconst X0.here hx rfl (hb hby d1_10) ?_
        show Steps p.tables e below (s₁.setTop (mkF m 11 #[.val (.int q1), .val (.int q2), .unset] [(.int (1 : Int32))])) _
        refine XS.goto X0.here hx rfl (pc0 := 11) (pc' := 15) rfl (hb hby d1_11) (by decide) (by decide) ?_
        show Steps p.tables e below (s₁.setTop (mkF m 15 #[.val (.int q1), .val (.int q2), .unset] [(.int (1 : Int32))])) _
        exact k15 _ hh
      · rw [if_neg c7] at hh
        show Steps p.tables e below (s₁.setTop (mkF m 7 #[.val (.int q1), .val (.int q2), .unset] [(.int (1048576 : Int32)), (.int q2)])) _
        refine XS.icmpYes X0.here hx rfl (pc0 := 7) (pc' := 14) rfl (hb hby d1_7) rfl (feq c7).2 (by decide) (by decide) ?_
        show Steps p.tables e below (s₁.setTop (mkF m 14 #[.val (.int q1), .val (.int q2), .unset] [])) _
        exact k14 hh
    · rw [if_neg c1] at hh
      show Steps p.tables e below (s₁.setTop (mkF m 1 #[.val (.int q1), .val (.int q2), .unset] [(.int q1)])) _
      refine XS.ifYes X0.here hx rfl (pc0 := 1) (pc' := 19) rfl (hb hby d1_1) rfl ((if0 _ _).trans (feq c1).2) (by decide) (by decide) ?_
      show Steps p.tables e below (s₁.setTop (mkF m 19 #[.val (.int q1), .val (.int q2), .unset] [])) _
      exact k19 hh
  refine ⟨_, _, pre0 _ (k0 hr0), hrun, hended, _, _, rfl, ?_, ⟨_, rfl⟩, hW, hsame.mono (by decide) (by decide)⟩
  show Q1 Z q1 q2 h0 n0 _ s₁.heap _
  rw [e0]
  exact ⟨by rw [hr0], Fr.nil n0, rfl⟩
def low_129 (kk : Int32) (n : Int32) (z129_0 : Int32) (z117_0 : Int32) : Int32 := z129_0
def low_128 (kk : Int32) (n : Int32) (z117_0 : Int32) : Int32 := low_129 kk n (0 : Int32) z117_0
def low_117 (kk : Int32) (n : Int32) (z117_0 : Int32) : Int32 := if (hol_0 kk n) = z117_0 then (low_129 kk n (1 : Int32) z117_0) else (low_128 kk n z117_0)
def low_114 (kk : Int32) (n : Int32) : Int32 := low_117 kk n (0 : Int32)
def low_109 (kk : Int32) (n : Int32) (z109_0 : Int32) : Int32 := low_117 kk n z109_0
def low_108 (kk : Int32) (n : Int32) : Int32 := low_109 kk n (0 : Int32)
def low_90 (kk : Int32) (n : Int32) : Int32 := if kk = (1 : Int32) then (if (0 : Int32) < (lcmpW ((n.toInt64) &&& (4294967295 : Int64)) (1048576 : Int64)) then (low_108 kk n) else (low_109 kk n (1 : Int32))) else (low_114 kk n)
def low_85 (kk : Int32) (n : Int32) (z85_0 : Int32) : Int32 := low_117 kk n z85_0
def low_84 (kk : Int32) (n : Int32) : Int32 := low_85 kk n (0 : Int32)
def low_56 (kk : Int32) (n : Int32) : Int32 := if kk = (0 : Int32) then (if (lcmpW ((n.toInt64) &&& (4294967295 : Int64)) (1048576 : Int64)) = (0 : Int32) then (low_85 kk n (1 : Int32)) else (low_84 kk n)) else (low_90 kk n)
theorem own_u (n : Int32) : ((n.toInt64) &&& (4294967295 : Int64)).toInt = n.toInt % 4294967296 := by
  rw [Jvm.Kit.i64_mask n.toInt64 4294967295 (k := 32) (by decide) (by decide), Jvm.Kit.i64_of_i32]
  rfl
theorem own_eq (n : Int32) : lcmpW ((n.toInt64) &&& (4294967295 : Int64)) (1048576 : Int64) = (0 : Int32) ↔ n = (1048576 : Int32) := by
  have h1 := n.toInt_lt
  have h2 := n.le_toInt
  have a : (1048576 : Int64).toInt = 1048576 := rfl
  have b : (1048576 : Int32).toInt = 1048576 := rfl
  rw [lw_eq, ← Int64.toInt_inj, ← Int32.toInt_inj, own_u, a, b]
  omega
theorem own_gt (n : Int32) : (0 : Int32) < lcmpW ((n.toInt64) &&& (4294967295 : Int64)) (1048576 : Int64) ↔ (n < (0 : Int32) ∨ (1048576 : Int32) < n) := by
  have h1 := n.toInt_lt
  have h2 := n.le_toInt
  have a : (1048576 : Int64).toInt = 1048576 := rfl
  have b : (1048576 : Int32).toInt = 1048576 := rfl
  have c : (0 : Int32).toInt = 0 := rfl
  rw [lw_gt, Int64.lt_iff_toInt_lt, Int32.lt_iff_toInt_lt, Int32.lt_iff_toInt_lt, own_u, a, b, c]
  omega
theorem own_hol (kk n : Int32) : hol_0 kk n = if kk = (0 : Int32) then (if n = (1048576 : Int32) then 1 else 0) else (if kk = (1 : Int32) then (if n < (0 : Int32) then 0 else (if (1048576 : Int32) < n then 0 else 1)) else 0) := rfl
theorem own_low (kk n : Int32) : low_56 kk n = if kk = (0 : Int32) then (if lcmpW ((n.toInt64) &&& (4294967295 : Int64)) (1048576 : Int64) = (0 : Int32) then (if hol_0 kk n = 1 then 1 else 0) else (if hol_0 kk n = 0 then 1 else 0)) else (if kk = (1 : Int32) then (if (0 : Int32) < lcmpW ((n.toInt64) &&& (4294967295 : Int64)) (1048576 : Int64) then (if hol_0 kk n = 0 then 1 else 0) else (if hol_0 kk n = 1 then 1 else 0)) else (if hol_0 kk n = 0 then 1 else 0)) := rfl
theorem own_law (kk n : Int32) : low_56 kk n = 1 := by
  rw [own_low]
  by_cases h0 : kk = (0 : Int32)
  · rw [if_pos h0]
    by_cases h1 : n = (1048576 : Int32)
    · rw [if_pos ((own_eq n).mpr h1), own_hol, if_pos h0, if_pos h1]; rfl
    · rw [if_neg fun q => h1 ((own_eq n).mp q), own_hol, if_pos h0, if_neg h1]; rfl
  · rw [if_neg h0]
    by_cases h1 : kk = (1 : Int32)
    · rw [if_pos h1]
      by_cases h2 : n < (0 : Int32)
      · rw [if_pos ((own_gt n).mpr (Or.inl h2)), own_hol, if_neg h0, if_pos h1, if_pos h2]; rfl
      · by_cases h3 : (1048576 : Int32) < n
        · rw [if_pos ((own_gt n).mpr (Or.inr h3)), own_hol, if_neg h0, if_pos h1, if_neg h2, if_pos h3]; rfl
        · rw [if_neg fun q => ((own_gt n).mp q).elim h2 h3, own_hol, if_neg h0, if_pos h1, if_neg h2, if_neg h3]; rfl
    · rw [if_neg h1, own_hol, if_neg h0, if_neg h1]; rfl
theorem pn_0 : plainName "com/example/lodestone/lodestone/storage/LogFormatHoldsPinLaw" = true := by first | (simp [plainName, overriddenIn]; done) | decide +kernel
theorem ef_0 (m : MethodId) (p1 : Int32) (p2 : Int32) (p3 : Int32) : entryFrame m #[(.int p1), (.int p2), (.int p3)] maxLocals = mkF m 0 #[.val (.int p1), .val (.int p2), .val (.int p3), .unset, .unset, .unset, .unset, .unset, .unset, .unset] [] := by first | (simp [entryFrame, mkF, argsToLocals, Value.category, maxLocals]; done) | rfl
theorem pd_0_0 : parseMethodDescriptor "(BI)Z" = some ⟨[.byte, .int], some .boolean⟩ := by decide +kernel
def Q0 (Z : State) (h0 : Heap) (n0 : Nat) (v : Option Value) (h : Heap) (L : List Loc) : Prop := v = some (.int (1 : Int32)) ∧ Fr n0 L
set_option maxRecDepth 65536 in
set_option maxHeartbeats 40000000 in
theorem rm0 (l : Launch) (Z : State) (a0 : Array Value) (hw : ∀ d ∈ tables_1, d.before a0 Z = true) (ws : List Jvm.Cond) (p1 : Int32) (p2 : Int32) (p3 : Int32) (h0 : Heap) (n0 : Nat) (Z0 : n0 ≤ h0.size) :
    MetFree l x (head1 (Jvm.Cond.code x code maxLocals ret :: ws) room_1) (fun a U => a = #[(.int p1), (.int p2), (.int p3)] ∧ Z.Warmed39 U.vm ∧ U.heap = h0) (fun _ _ _ _ _ => True) (fun _ U o U' => ∃ v L, o = .returned v ∧ Q0 Z h0 n0 v U'.heap L ∧ FrameEnd U o U' L room_1.cells room_1.slots) := by
  refine MetFree.of_bodySF (plainFor_of_name pn_0) hisR ?_
  intro p e s m args below meth c s₁ Bd hml0 hP hK
  obtain ⟨rfl, hZ, hh⟩ := hP
  have hx := Bd.exec
  have hby := Bd.bytes
  have hml : c.maxLocals = 10 := hml0
  have hown : s.vm.findClass "com/example/lodestone/lodestone/storage/LogFormatHoldsPinLaw" = some m.cls := findClass_of_methodNamed Bd.named
  have X0 : Stand p l e room_1 s m #[(.int p1), (.int p2), (.int p3)] below meth c s₁ [] 0 0 := Stand.of_body Bd
  have e0 : s₁.heap = h0 := by rw [← hh, Bd.state]; rfl
  have pre0 : ∀ t, Steps p.tables e below (s₁.setTop (mkF m 0 #[.val (.int p1), .val (.int p2), .val (.int p3), .unset, .unset, .unset, .unset, .unset, .unset, .unset] [])) t → Steps p.tables e below (s₁.setTop (entryFrame m #[(.int p1), (.int p2), (.int p3)] maxLocals)) t := fun t k => castTop (ef_0 m p1 p2 p3) k
  have A : ∃ kk : Int32, ∀ t, Steps p.tables e below (s₁.setTop (mkF m 14 #[.val (.int p1), .val (.int p2), .val (.int p3), .val (.int kk), .unset, .unset, .unset, .unset, .unset, .unset] [])) t → Steps p.tables e below (s₁.setTop (mkF m 0 #[.val (.int p1), .val (.int p2), .val (.int p3), .unset, .unset, .unset, .unset, .unset, .unset, .unset] [])) t := by
    by_cases c6 : (p3 &&& (4 : Int32)) = (0 : Int32)
    · refine ⟨(p1.toInt8.toInt32), fun t k => ?_⟩
      show Steps p.tables e below (s₁.setTop (mkF m 0 #[.val (.int p1), .val (.int p2), .val (.int p3), .unset, .unset, .unset, .unset, .unset, .unset, .unset] [])) _
      refine XS.iloadN X0.here hx rfl (hb hby at_0) rfl ?_
      show Steps p.tables e below (s₁.setTop (mkF m 1 #[.val (.int p1), .val (.int p2), .val (.int p3), .unset, .unset, .unset, .unset, .unset, .unset, .unset] [(.int p1)])) _
      refine XS.i2b X0.here hx rfl (hb hby at_1) rfl ?_
      show Steps p.tables e below (s₁.setTop (mkF m 2 #[.val (.int p1), .val (.int p2), .val (.int p3), .unset, .unset, .unset, .unset, .unset, .unset, .unset] [(.int (p1.toInt8.toInt32))])) _
      refine XS.istoreN X0.here hx rfl (hb hby at_2) rfl (l' := #[.val (.int p1), .val (.int p2), .val (.int p3), .val (.int (p1.toInt8.toInt32)), .unset, .unset, .unset, .unset, .unset, .unset]) rfl ?_
      show Steps p.tables e below (s₁.setTop (mkF m 3 #[.val (.int p1), .val (.int p2), .val (.int p3), .val (.int (p1.toInt8.toInt32)), .unset, .unset, .unset, .unset, .unset, .unset] [])) _
      refine XS.iloadN X0.here hx rfl (hb hby at_3) rfl ?_
      show Steps p.tables e below (s₁.setTop (mkF m 4 #[.val (.int p1), .val (.int p2), .val (.int p3), .val (.int (p1.toInt8.toInt32)), .unset, .unset, .unset, .unset, .unset, .unset] [(.int p3)])) _
      refine XS.iconst X0.here hx rfl (hb hby at_4) ?_
      show Steps p.tables e below (s₁.setTop (mkF m 5 #[.val (.int p1), .val (.int p2), .val (.int p3), .val (.int (p1.toInt8.toInt32)), .unset, .unset, .unset, .unset, .unset, .unset] [(.int (4 : Int32)), (.int p3)])) _
      refine XS.iand X0.here hx rfl (hb hby at_5) rfl ?_
      show Steps p.tables e below (s₁.setTop (mkF m 6 #[.val (.int p1), .val (.int p2), .val (.int p3), .val (.int (p1.toInt8.toInt32)), .unset, .unset, .unset, .unset, .unset, .unset] [(.int (p3 &&& (4 : Int32)))])) _
      refine XS.ifYes X0.here hx rfl (pc0 := 6) (pc' := 14) rfl (hb hby at_6) rfl ((if0 _ _).trans (teq c6).1) (by decide) (by decide) ?_
      show Steps p.tables e below (s₁.setTop (mkF m 14 #[.val (.int p1), .val (.int p2), .val (.int p3), .val (.int (p1.toInt8.toInt32)), .unset, .unset, .unset, .unset, .unset, .unset] [])) _
      exact k
    · refine ⟨((p1 &&& (3 : Int32)).toInt8.toInt32), fun t k => ?_⟩
      show Steps p.tables e below (s₁.setTop (mkF m 0 #[.val (.int p1), .val (.int p2), .val (.int p3), .unset, .unset, .unset, .unset, .unset, .unset, .unset] [])) _
      refine XS.iloadN X0.here hx rfl (hb hby at_0) rfl ?_
      show Steps p.tables e below (s₁.setTop (mkF m 1 #[.val (.int p1), .val (.int p2), .val (.int p3), .unset, .unset, .unset, .unset, .unset, .unset, .unset] [(.int p1)])) _
      refine XS.i2b X0.here hx rfl (hb hby at_1) rfl ?_
      show Steps p.tables e below (s₁.setTop (mkF m 2 #[.val (.int p1), .val (.int p2), .val (.int p3), .unset, .unset, .unset, .unset, .unset, .unset, .unset] [(.int (p1.toInt8.toInt32))])) _
      refine XS.istoreN X0.here hx rfl (hb hby at_2) rfl (l' := #[.val (.int p1), .val (.int p2), .val (.int p3), .val (.int (p1.toInt8.toInt32)), .unset, .unset, .unset, .unset, .unset, .unset]) rfl ?_
      show Steps p.tables e below (s₁.setTop (mkF m 3 #[.val (.int p1), .val (.int p2), .val (.int p3), .val (.int (p1.toInt8.toInt32)), .unset, .unset, .unset, .unset, .unset, .unset] [])) _
      refine XS.iloadN X0.here hx rfl (hb hby at_3) rfl ?_
      show Steps p.tables e below (s₁.setTop (mkF m 4 #[.val (.int p1), .val (.int p2), .val (.int p3), .val (.int (p1.toInt8.toInt32)), .unset, .unset, .unset, .unset, .unset, .unset] [(.int p3)])) _
      refine XS.iconst X0.here hx rfl (hb hby at_4) ?_
      show Steps p.tables e below (s₁.setTop (mkF m 5 #[.val (.int p1), .val (.int p2), .val (.int p3), .val (.int (p1.toInt8.toInt32)), .unset, .unset, .unset, .unset, .unset, .unset] [(.int (4 : Int32)), (.int p3)])) _
      refine XS.iand X0.here hx rfl (hb hby at_5) rfl ?_
      show Steps p.tables e below (s₁.setTop (mkF m 6 #[.val (.int p1), .val (.int p2), .val (.int p3), .val (.int (p1.toInt8.toInt32)), .unset, .unset, .unset, .unset, .unset, .unset] [(.int (p3 &&& (4 : Int32)))])) _
      refine XS.ifNo X0.here hx rfl (hb hby at_6) rfl ((if0 _ _).trans (feq c6).1) ?_
      show Steps p.tables e below (s₁.setTop (mkF m 9 #[.val (.int p1), .val (.int p2), .val (.int p3), .val (.int (p1.toInt8.toInt32)), .unset, .unset, .unset, .unset, .unset, .unset] [])) _
      refine XS.iloadN X0.here hx rfl (hb hby at_9) rfl ?_
      show Steps p.tables e below (s₁.setTop (mkF m 10 #[.val (.int p1), .val (.int p2), .val (.int p3), .val (.int (p1.toInt8.toInt32)), .unset, .unset, .unset, .unset, .unset, .unset] [(.int p1)])) _
      refine XS.iconst X0.here hx rfl (hb hby at_10) ?_
      show Steps p.tables e below (s₁.setTop (mkF m 11 #[.val (.int p1), .val (.int p2), .val (.int p3), .val (.int (p1.toInt8.toInt32)), .unset, .unset, .unset, .unset, .unset, .unset] [(.int (3 : Int32)), (.int p1)])) _
      refine XS.iand X0.here hx rfl (hb hby at_11) rfl ?_
      show Steps p.tables e below (s₁.setTop (mkF m 12 #[.val (.int p1), .val (.int p2), .val (.int p3), .val (.int (p1.toInt8.toInt32)), .unset, .unset, .unset, .unset, .unset, .unset] [(.int (p1 &&& (3 : Int32)))])) _
      refine XS.i2b X0.here hx rfl (hb hby at_12) rfl ?_
      show Steps p.tables e below (s₁.setTop (mkF m 13 #[.val (.int p1), .val (.int p2), .val (.int p3), .val (.int (p1.toInt8.toInt32)), .unset, .unset, .unset, .unset, .unset, .unset] [(.int ((p1 &&& (3 : Int32)).toInt8.toInt32))])) _
      refine XS.istoreN X0.here hx rfl (hb hby at_13) rfl (l' := #[.val (.int p1), .val (.int p2), .val (.int p3), .val (.int ((p1 &&& (3 : Int32)).toInt8.toInt32)), .unset, .unset, .unset, .unset, .unset, .unset]) rfl ?_
      show Steps p.tables e below (s₁.setTop (mkF m 14 #[.val (.int p1), .val (.int p2), .val (.int p3), .val (.int ((p1 &&& (3 : Int32)).toInt8.toInt32)), .unset, .unset, .unset, .unset, .unset, .unset] [])) _
      exact k
  obtain ⟨kk, A⟩ := A
  have B : ∃ n : Int32, ∀ t, Steps p.tables e below (s₁.setTop (mkF m 50 #[.val (.int p1), .val (.int p2), .val (.int p3), .val (.int kk), .val (.int n), .val (.int (p3 &&& (3 : Int32))), .unset, .unset, .unset, .unset] [])) t → Steps p.tables e below (s₁.setTop (mkF m 14 #[.val (.int p1), .val (.int p2), .val (.int p3), .val (.int kk), .unset, .unset, .unset, .unset, .unset, .unset] [])) t := by
    by_cases c25 : (p3 &&& (3 : Int32)) = (1 : Int32)
    · refine ⟨((1048576 : Int32) + (p2 % (4 : Int32))), fun t k => ?_⟩
      show Steps p.tables e below (s₁.setTop (mkF m 14 #[.val (.int p1), .val (.int p2), .val (.int p3), .val (.int kk), .unset, .unset, .unset, .unset, .unset, .unset] [])) _
      refine XS.iloadN X0.here hx rfl (hb hby at_14) rfl ?_
      show Steps p.tables e below (s₁.setTop (mkF m 15 #[.val (.int p1), .val (.int p2), .val (.int p3), .val (.int kk), .unset, .unset, .unset, .unset, .unset, .unset] [(.int p2)])) _
      refine XS.istore X0.here hx rfl (hb hby at_15) rfl (l' := #[.val (.int p1), .val (.int p2), .val (.int p3), .val (.int kk), .val (.int p2), .unset, .unset, .unset, .unset, .unset]) rfl ?_
      show Steps p.tables e below (s₁.setTop (mkF m 17 #[.val (.int p1), .val (.int p2), .val (.int p3), .val (.int kk), .val (.int p2), .unset, .unset, .unset, .unset, .unset] [])) _
      refine XS.iloadN X0.here hx rfl (hb hby at_17) rfl ?_
      show Steps p.tables e below (s₁.setTop (mkF m 18 #[.val (.int p1), .val (.int p2), .val (.int p3), .val (.int kk), .val (.int p2), .unset, .unset, .unset, .unset, .unset] [(.int p3)])) _
      refine XS.iconst X0.here hx rfl (hb hby at_18) ?_
      show Steps p.tables e below (s₁.setTop (mkF m 19 #[.val (.int p1), .val (.int p2), .val (.int p3), .val (.int kk), .val (.int p2), .unset, .unset, .unset, .unset, .unset] [(.int (3 : Int32)), (.int p3)])) _
      refine XS.iand X0.here hx rfl (hb hby at_19) rfl ?_
      show Steps p.tables e below (s₁.setTop (mkF m 20 #[.val (.int p1), .val (.int p2), .val (.int p3), .val (.int kk), .val (.int p2), .unset, .unset, .unset, .unset, .unset] [(.int (p3 &&& (3 : Int32)))])) _
      refine XS.istore X0.here hx rfl (hb hby at_20) rfl (l' := #[.val (.int p1), .val (.int p2), .val (.int p3), .val (.int kk), .val (.int p2), .val (.int (p3 &&& (3 : Int32))), .unset, .unset, .unset, .unset]) rfl ?_
      show Steps p.tables e below (s₁.setTop (mkF m 22 #[.val (.int p1), .val (.int p2), .val (.int p3), .val (.int kk), .val (.int p2), .val (.int (p3 &&& (3 : Int32))), .unset, .unset, .unset, .unset] [])) _
      refine XS.iload X0.here hx rfl (hb hby at_22) rfl ?_
      show Steps p.tables e below (s₁.setTop (mkF m 24 #[.val (.int p1), .val (.int p2), .val (.int p3), .val (.int kk), .val (.int p2), .val (.int (p3 &&& (3 : Int32))), .unset, .unset, .unset, .unset] [(.int (p3 &&& (3 : Int32)))])) _
      refine XS.iconst X0.here hx rfl (hb hby at_24) ?_
      show Steps p.tables e below (s₁.setTop (mkF m 25 #[.val (.int p1), .val (.int p2), .val (.int p3), .val (.int kk), .val (.int p2), .val (.int (p3 &&& (3 : Int32))), .unset, .unset, .unset, .unset] [(.int (1 : Int32)), (.int (p3 &&& (3 : Int32)))])) _
      refine XS.icmpNo X0.here hx rfl (hb hby at_25) rfl (teq c25).2 ?_
      show Steps p.tables e below (s₁.setTop (mkF m 28 #[.val (.int p1), .val (.int p2), .val (.int p3), .val (.int kk), .val (.int p2), .val (.int (p3 &&& (3 : Int32))), .unset, .unset, .unset, .unset] [])) _
      refine X0.ldcInt hx hown (mvT hZ (hw _ (List.mem_of_getElem? (i := 7) rfl))) (g := (mkF m 28 #[.val (.int p1), .val (.int p2), .val (.int p3), .val (.int kk), .val (.int p2), .val (.int (p3 &&& (3 : Int32))), .unset, .unset, .unset, .unset] [])) rfl (hb hby at_28) _ ?_
      show Steps p.tables e below (s₁.setTop (mkF m 30 #[.val (.int p1), .val (.int p2), .val (.int p3), .val (.int kk), .val (.int p2), .val (.int (p3 &&& (3 : Int32))), .unset, .unset, .unset, .unset] [(.int (1048576 : Int32))])) _
      refine XS.iloadN X0.here hx rfl (hb hby at_30) rfl ?_
      show Steps p.tables e below (s₁.setTop (mkF m 31 #[.val (.int p1), .val (.int p2), .val (.int p3), .val (.int kk), .val (.int p2), .val (.int (p3 &&& (3 : Int32))), .unset, .unset, .unset, .unset] [(.int p2), (.int (1048576 : Int32))])) _
      refine XS.iconst X0.here hx rfl (hb hby at_31) ?_
      show Steps p.tables e below (s₁.setTop (mkF m 32 #[.val (.int p1), .val (.int p2), .val (.int p3), .val (.int kk), .val (.int p2), .val (.int (p3 &&& (3 : Int32))), .unset, .unset, .unset, .unset] [(.int (4 : Int32)), (.int p2), (.int (1048576 : Int32))])) _
      refine iremM X0 hx rfl (hb hby at_32) rfl (by decide) ?_
      show Steps p.tables e below (s₁.setTop (mkF m 33 #[.val (.int p1), .val (.int p2), .val (.int p3), .val (.int kk), .val (.int p2), .val (.int (p3 &&& (3 : Int32))), .unset, .unset, .unset, .unset] [(.int (p2 % (4 : Int32))), (.int (1048576 : Int32))])) _
      refine XS.iadd X0.here hx rfl (hb hby at_33) rfl ?_
      show Steps p.tables e below (s₁.setTop (mkF m 34 #[.val (.int p1), .val (.int p2), .val (.int p3), .val (.int kk), .val (.int p2), .val (.int (p3 &&& (3 : Int32))), .unset, .unset, .unset, .unset] [(.int ((1048576 : Int32) + (p2 % (4 : Int32))))])) _
      refine XS.istore X0.here hx rfl (hb hby at_34) rfl (l' := #[.val (.int p1), .val (.int p2), .val (.int p3), .val (.int kk), .val (.int ((1048576 : Int32) + (p2 % (4 : Int32)))), .val (.int (p3 &&& (3 : Int32))), .unset, .unset, .unset, .unset]) rfl ?_
      show Steps p.tables e below (s₁.setTop (mkF m 36 #[.val (.int p1), .val (.int p2), .val (.int p3), .val (.int kk), .val (.int ((1048576 : Int32) + (p2 % (4 : Int32)))), .val (.int (p3 &&& (3 : Int32))), .unset, .unset, .unset, .unset] [])) _
      refine XS.goto X0.here hx rfl (pc0 := 36) (pc' := 50) rfl (hb hby at_36) (by decide) (by decide) ?_
      show Steps p.tables e below (s₁.setTop (mkF m 50 #[.val (.int p1), .val (.int p2), .val (.int p3), .val (.int kk), .val (.int ((1048576 : Int32) + (p2 % (4 : Int32)))), .val (.int (p3 &&& (3 : Int32))), .unset, .unset, .unset, .unset] [])) _
      exact k
    · by_cases c42 : (p3 &&& (3 : Int32)) = (2 : Int32)
      · refine ⟨(p2 % (4 : Int32)), fun t k => ?_⟩
        show Steps p.tables e below (s₁.setTop (mkF m 14 #[.val (.int p1), .val (.int p2), .val (.int p3), .val (.int kk), .unset, .unset, .unset, .unset, .unset, .unset] [])) _
        refine XS.iloadN X0.here hx rfl (hb hby at_14) rfl ?_
        show Steps p.tables e below (s₁.setTop (mkF m 15 #[.val (.int p1), .val (.int p2), .val (.int p3), .val (.int kk), .unset, .unset, .unset, .unset, .unset, .unset] [(.int p2)])) _
        refine XS.istore X0.here hx rfl (hb hby at_15) rfl (l' := #[.val (.int p1), .val (.int p2), .val (.int p3), .val (.int kk), .val (.int p2), .unset, .unset, .unset, .unset, .unset]) rfl ?_
        show Steps p.tables e below (s₁.setTop (mkF m 17 #[.val (.int p1), .val (.int p2), .val (.int p3), .val (.int kk), .val (.int p2), .unset, .unset, .unset, .unset, .unset] [])) _
        refine XS.iloadN X0.here hx rfl (hb hby at_17) rfl ?_
        show Steps p.tables e below (s₁.setTop (mkF m 18 #[.val (.int p1), .val (.int p2), .val (.int p3), .val (.int kk), .val (.int p2), .unset, .unset, .unset, .unset, .unset] [(.int p3)])) _
        refine XS.iconst X0.here hx rfl (hb hby at_18) ?_
        show Steps p.tables e below (s₁.setTop (mkF m 19 #[.val (.int p1), .val (.int p2), .val (.int p3), .val (.int kk), .val (.int p2), .unset, .unset, .unset, .unset, .unset] [(.int (3 : Int32)), (.int p3)])) _
        refine XS.iand X0.here hx rfl (hb hby at_19) rfl ?_
        show Steps p.tables e below (s₁.setTop (mkF m 20 #[.val (.int p1), .val (.int p2), .val (.int p3), .val (.int kk), .val (.int p2), .unset, .unset, .unset, .unset, .unset] [(.int (p3 &&& (3 : Int32)))])) _
        refine XS.istore X0.here hx rfl (hb hby at_20) rfl (l' := #[.val (.int p1), .val (.int p2), .val (.int p3), .val (.int kk), .val (.int p2), .val (.int (p3 &&& (3 : Int32))), .unset, .unset, .unset, .unset]) rfl ?_
        show Steps p.tables e below (s₁.setTop (mkF m 22 #[.val (.int p1), .val (.int p2), .val (.int p3), .val (.int kk), .val (.int p2), .val (.int (p3 &&& (3 : Int32))), .unset, .unset, .unset, .unset] [])) _
        refine XS.iload X0.here hx rfl (hb hby at_22) rfl ?_
        show Steps p.tables e below (s₁.setTop (mkF m 24 #[.val (.int p1), .val (.int p2), .val (.int p3), .val (.int kk), .val (.int p2), .val (.int (p3 &&& (3 : Int32))), .unset, .unset, .unset, .unset] [(.int (p3 &&& (3 : Int32)))])) _
        refine XS.iconst X0.here hx rfl (hb hby at_24) ?_
        show Steps p.tables e below (s₁.setTop (mkF m 25 #[.val (.int p1), .val (.int p2), .val (.int p3), .val (.int kk), .val (.int p2), .val (.int (p3 &&& (3 : Int32))), .unset, .unset, .unset, .unset] [(.int (1 : Int32)), (.int (p3 &&& (3 : Int32)))])) _
        refine XS.icmpYes X0.here hx rfl (pc0 := 25) (pc' := 39) rfl (hb hby at_25) rfl (feq c25).2 (by decide) (by decide) ?_
        show Steps p.tables e below (s₁.setTop (mkF m 39 #[.val (.int p1), .val (.int p2), .val (.int p3), .val (.int kk), .val (.int p2), .val (.int (p3 &&& (3 : Int32))), .unset, .unset, .unset, .unset] [])) _
        refine XS.iload X0.here hx rfl (hb hby at_39) rfl ?_
        show Steps p.tables e below (s₁.setTop (mkF m 41 #[.val (.int p1), .val (.int p2), .val (.int p3), .val (.int kk), .val (.int p2), .val (.int (p3 &&& (3 : Int32))), .unset, .unset, .unset, .unset] [(.int (p3 &&& (3 : Int32)))])) _
        refine XS.iconst X0.here hx rfl (hb hby at_41) ?_
        show Steps p.tables e below (s₁.setTop (mkF m 42 #[.val (.int p1), .val (.int p2), .val (.int p3), .val (.int kk), .val (.int p2), .val (.int (p3 &&& (3 : Int32))), .unset, .unset, .unset, .unset] [(.int (2 : Int32)), (.int (p3 &&& (3 : Int32)))])) _
        refine XS.icmpNo X0.here hx rfl (hb hby at_42) rfl (teq c42).2 ?_
        show Steps p.tables e below (s₁.setTop (mkF m 45 #[.val (.int p1), .val (.int p2), .val (.int p3), .val (.int kk), .val (.int p2), .val (.int (p3 &&& (3 : Int32))), .unset, .unset, .unset, .unset] [])) _
        refine XS.iloadN X0.here hx rfl (hb hby at_45) rfl ?_
        show Steps p.tables e below (s₁.setTop (mkF m 46 #[.val (.int p1), .val (.int p2), .val (.int p3), .val (.int kk), .val (.int p2), .val (.int (p3 &&& (3 : Int32))), .unset, .unset, .unset, .unset] [(.int p2)])) _
        refine XS.iconst X0.here hx rfl (hb hby at_46) ?_
        show Steps p.tables e below (s₁.setTop (mkF m 47 #[.val (.int p1), .val (.int p2), .val (.int p3), .val (.int kk), .val (.int p2), .val (.int (p3 &&& (3 : Int32))), .unset, .unset, .unset, .unset] [(.int (4 : Int32)), (.int p2)])) _
        refine iremM X0 hx rfl (hb hby at_47) rfl (by decide) ?_
        show Steps p.tables e below (s₁.setTop (mkF m 48 #[.val (.int p1), .val (.int p2), .val (.int p3), .val (.int kk), .val (.int p2), .val (.int (p3 &&& (3 : Int32))), .unset, .unset, .unset, .unset] [(.int (p2 % (4 : Int32)))])) _
        refine XS.istore X0.here hx rfl (hb hby at_48) rfl (l' := #[.val (.int p1), .val (.int p2), .val (.int p3), .val (.int kk), .val (.int (p2 % (4 : Int32))), .val (.int (p3 &&& (3 : Int32))), .unset, .unset, .unset, .unset]) rfl ?_
        show Steps p.tables e below (s₁.setTop (mkF m 50 #[.val (.int p1), .val (.int p2), .val (.int p3), .val (.int kk), .val (.int (p2 % (4 : Int32))), .val (.int (p3 &&& (3 : Int32))), .unset, .unset, .unset, .unset] [])) _
        exact k
      · refine ⟨p2, fun t k => ?_⟩
        show Steps p.tables e below (s₁.setTop (mkF m 14 #[.val (.int p1), .val (.int p2), .val (.int p3), .val (.int kk), .unset, .unset, .unset, .unset, .unset, .unset] [])) _
        refine XS.iloadN X0.here hx rfl (hb hby at_14) rfl ?_
        show Steps p.tables e below (s₁.setTop (mkF m 15 #[.val (.int p1), .val (.int p2), .val (.int p3), .val (.int kk), .unset, .unset, .unset, .unset, .unset, .unset] [(.int p2)])) _
        refine XS.istore X0.here hx rfl (hb hby at_15) rfl (l' := #[.val (.int p1), .val (.int p2), .val (.int p3), .val (.int kk), .val (.int p2), .unset, .unset, .unset, .unset, .unset]) rfl ?_
        show Steps p.tables e below (s₁.setTop (mkF m 17 #[.val (.int p1), .val (.int p2), .val (.int p3), .val (.int kk), .val (.int p2), .unset, .unset, .unset, .unset, .unset] [])) _
        refine XS.iloadN X0.here hx rfl (hb hby at_17) rfl ?_
        show Steps p.tables e below (s₁.setTop (mkF m 18 #[.val (.int p1), .val (.int p2), .val (.int p3), .val (.int kk), .val (.int p2), .unset, .unset, .unset, .unset, .unset] [(.int p3)])) _
        refine XS.iconst X0.here hx rfl (hb hby at_18) ?_
        show Steps p.tables e below (s₁.setTop (mkF m 19 #[.val (.int p1), .val (.int p2), .val (.int p3), .val (.int kk), .val (.int p2), .unset, .unset, .unset, .unset, .unset] [(.int (3 : Int32)), (.int p3)])) _
        refine XS.iand X0.here hx rfl (hb hby at_19) rfl ?_
        show Steps p.tables e below (s₁.setTop (mkF m 20 #[.val (.int p1), .val (.int p2), .val (.int p3), .val (.int kk), .val (.int p2), .unset, .unset, .unset, .unset, .unset] [(.int (p3 &&& (3 : Int32)))])) _
        refine XS.istore X0.here hx rfl (hb hby at_20) rfl (l' := #[.val (.int p1), .val (.int p2), .val (.int p3), .val (.int kk), .val (.int p2), .val (.int (p3 &&& (3 : Int32))), .unset, .unset, .unset, .unset]) rfl ?_
        show Steps p.tables e below (s₁.setTop (mkF m 22 #[.val (.int p1), .val (.int p2), .val (.int p3), .val (.int kk), .val (.int p2), .val (.int (p3 &&& (3 : Int32))), .unset, .unset, .unset, .unset] [])) _
        refine XS.iload X0.here hx rfl (hb hby at_22) rfl ?_
        show Steps p.tables e below (s₁.setTop (mkF m 24 #[.val (.int p1), .val (.int p2), .val (.int p3), .val (.int kk), .val (.int p2), .val (.int (p3 &&& (3 : Int32))), .unset, .unset, .unset, .unset] [(.int (p3 &&& (3 : Int32)))])) _
        refine XS.iconst X0.here hx rfl (hb hby at_24) ?_
        show Steps p.tables e below (s₁.setTop (mkF m 25 #[.val (.int p1), .val (.int p2), .val (.int p3), .val (.int kk), .val (.int p2), .val (.int (p3 &&& (3 : Int32))), .unset, .unset, .unset, .unset] [(.int (1 : Int32)), (.int (p3 &&& (3 : Int32)))])) _
        refine XS.icmpYes X0.here hx rfl (pc0 := 25) (pc' := 39) rfl (hb hby at_25) rfl (feq c25).2 (by decide) (by decide) ?_
        show Steps p.tables e below (s₁.setTop (mkF m 39 #[.val (.int p1), .val (.int p2), .val (.int p3), .val (.int kk), .val (.int p2), .val (.int (p3 &&& (3 : Int32))), .unset, .unset, .unset, .unset] [])) _
        refine XS.iload X0.here hx rfl (hb hby at_39) rfl ?_
        show Steps p.tables e below (s₁.setTop (mkF m 41 #[.val (.int p1), .val (.int p2), .val (.int p3), .val (.int kk), .val (.int p2), .val (.int (p3 &&& (3 : Int32))), .unset, .unset, .unset, .unset] [(.int (p3 &&& (3 : Int32)))])) _
        refine XS.iconst X0.here hx rfl (hb hby at_41) ?_
        show Steps p.tables e below (s₁.setTop (mkF m 42 #[.val (.int p1), .val (.int p2), .val (.int p3), .val (.int kk), .val (.int p2), .val (.int (p3 &&& (3 : Int32))), .unset, .unset, .unset, .unset] [(.int (2 : Int32)), (.int (p3 &&& (3 : Int32)))])) _
        refine XS.icmpYes X0.here hx rfl (pc0 := 42) (pc' := 50) rfl (hb hby at_42) rfl (feq c42).2 (by decide) (by decide) ?_
        show Steps p.tables e below (s₁.setTop (mkF m 50 #[.val (.int p1), .val (.int p2), .val (.int p3), .val (.int kk), .val (.int p2), .val (.int (p3 &&& (3 : Int32))), .unset, .unset, .unset, .unset] [])) _
        exact k
  obtain ⟨n, B⟩ := B
  obtain ⟨_, _, ⟨T2, L2, k2, n2⟩, -, X2, ⟨Lc2, hQ2, l2, y2, z2⟩, st2⟩ := Jvm.LawKit.callS X0 hx (y := (⟨"com/example/lodestone/lodestone/storage/LogFormat", "holds", "(BI)Z"⟩ : MethodName)) hown (mvT hZ (hw _ (List.mem_of_getElem? (i := 0) rfl))) (mvT hZ (hw _ (List.mem_of_getElem? (i := 1) rfl))) (mvT hZ (hw _ (List.mem_of_getElem? (i := 2) rfl))) (mvT hZ (hw _ (List.mem_of_getElem? (i := 3) rfl))) (by decide) (backOf (W := 0) (rm1 l Z a0 hw [] kk n h0 n0 Z0) hZ (hw _ (List.mem_of_getElem? (i := 3) rfl)) (hw _ (List.mem_of_getElem? (i := 2) rfl)) (by decide) (by decide)) (g := (mkF m 53 #[.val (.int p1), .val (.int p2), .val (.int p3), .val (.int kk), .val (.int n), .val (.int (p3 &&& (3 : Int32))), .unset, .unset, .unset, .unset] [(.int n), (.int kk)])) rfl (by rw [hml]; rfl) (argsL := [(.int kk), (.int n)]) (rest := []) (lenOf pd_0_0 rfl) rfl (by show 2 * 0 + _ ≤ _; exact Nat.le_of_eq rfl) (hb hby at_53) (fun _ _ => ⟨rfl, e0, (by decide : 0 + 0 ≤ _), (by decide : 0 + 0 ≤ _)⟩)
  dsimp only [Pt.U, Pt.locs, Pt.cells, Pt.slots] at X2 l2 y2 z2 st2 hQ2
  subst l2 y2 z2
  obtain ⟨rfl, N2q, H2⟩ := hQ2
  have C50 : ∀ t, Steps p.tables e below (s₁.setTop (mkF m 53 #[.val (.int p1), .val (.int p2), .val (.int p3), .val (.int kk), .val (.int n), .val (.int (p3 &&& (3 : Int32))), .unset, .unset, .unset, .unset] [(.int n), (.int kk)])) t → Steps p.tables e below (s₁.setTop (mkF m 50 #[.val (.int p1), .val (.int p2), .val (.int p3), .val (.int kk), .val (.int n), .val (.int (p3 &&& (3 : Int32))), .unset, .unset, .unset, .unset] [])) t := by
    intro t k
    show Steps p.tables e below (s₁.setTop (mkF m 50 #[.val (.int p1), .val (.int p2), .val (.int p3), .val (.int kk), .val (.int n), .val (.int (p3 &&& (3 : Int32))), .unset, .unset, .unset, .unset] [])) _
    refine XS.iloadN X0.here hx rfl (hb hby at_50) rfl ?_
    show Steps p.tables e below (s₁.setTop (mkF m 51 #[.val (.int p1), .val (.int p2), .val (.int p3), .val (.int kk), .val (.int n), .val (.int (p3 &&& (3 : Int32))), .unset, .unset, .unset, .unset] [(.int kk)])) _
    refine XS.iload X0.here hx rfl (hb hby at_51) rfl ?_
    show Steps p.tables e below (s₁.setTop (mkF m 53 #[.val (.int p1), .val (.int p2), .val (.int p3), .val (.int kk), .val (.int n), .val (.int (p3 &&& (3 : Int32))), .unset, .unset, .unset, .unset] [(.int n), (.int kk)])) t
    exact k
  obtain ⟨r, hr0⟩ : ∃ r : Int32, low_56 kk n = r := ⟨_, rfl⟩
  have hr1 : r = 1 := by rw [← hr0]; exact own_law kk n
  obtain ⟨fs, hr, hrun, hended, hW, hsame⟩ := X2.leave (v := some (.int (1 : Int32))) (fun h => by rw [Bd.returns] at h; cases h)
  have kret : ∀ (pc : Nat) (Ls : Array Slot) (z : Int32), decode c.code pc = .ok (.ireturn, 1) → z = r → Steps p.tables e below (T2.setTop (mkF m pc Ls [(.int z)])) (T2.setFrames fs) := fun pc Ls z hd hz => retN X2 hx (t := .boolean) Bd.returns (by simp) hd (by rw [hz, hr1]; exact hr)
  have kb129 : ∀ (z129_0 : Int32) (z117_0 : Int32), low_129 kk n z129_0 z117_0 = r → Steps p.tables e below (T2.setTop (mkF m 129 #[.val (.int p1), .val (.int p2), .val (.int p3), .val (.int kk), .val (.int n), .val (.int (p3 &&& (3 : Int32))), .val (.int (hol_0 kk n)), .val (.long ((n.toInt64) &&& (4294967295 : Int64))), .second, .val (.int z117_0)] [(.int z129_0)])) (T2.setFrames fs) := by
    intro z129_0 z117_0 hh
    show Steps p.tables e below (T2.setTop (mkF m 129 #[.val (.int p1), .val (.int p2), .val (.int p3), .val (.int kk), .val (.int n), .val (.int (p3 &&& (3 : Int32))), .val (.int (hol_0 kk n)), .val (.long ((n.toInt64) &&& (4294967295 : Int64))), .second, .val (.int z117_0)] [(.int z129_0)])) _
    exact kret 129 _ _ (hb hby at_129) hh
  have kb128 : ∀ (z117_0 : Int32), low_128 kk n z117_0 = r → Steps p.tables e below (T2.setTop (mkF m 128 #[.val (.int p1), .val (.int p2), .val (.int p3), .val (.int kk), .val (.int n), .val (.int (p3 &&& (3 : Int32))), .val (.int (hol_0 kk n)), .val (.long ((n.toInt64) &&& (4294967295 : Int64))), .second, .val (.int z117_0)] [])) (T2.setFrames fs) := by
    intro z117_0 hh
    show Steps p.tables e below (T2.setTop (mkF m 128 #[.val (.int p1), .val (.int p2), .val (.int p3), .val (.int kk), .val (.int n), .val (.int (p3 &&& (3 : Int32))), .val (.int (hol_0 kk n)), .val (.long ((n.toInt64) &&& (4294967295 : Int64))), .second, .val (.int z117_0)] [])) _
    refine XS.iconst X2.here hx rfl (hb hby at_128) ?_
    show Steps p.tables e below (T2.setTop (mkF m 129 #[.val (.int p1), .val (.int p2), .val (.int p3), .val (.int kk), .val (.int n), .val (.int (p3 &&& (3 : Int32))), .val (.int (hol_0 kk n)), .val (.long ((n.toInt64) &&& (4294967295 : Int64))), .second, .val (.int z117_0)] [(.int (0 : Int32))])) _
    exact kb129 _ _ hh
  have kb117 : ∀ (z117_0 : Int32), low_117 kk n z117_0 = r → Steps p.tables e below (T2.setTop (mkF m 117 #[.val (.int p1), .val (.int p2), .val (.int p3), .val (.int kk), .val (.int n), .val (.int (p3 &&& (3 : Int32))), .val (.int (hol_0 kk n)), .val (.long ((n.toInt64) &&& (4294967295 : Int64))), .second, .val (.int z117_0)] [])) (T2.setFrames fs) := by
    intro z117_0 hh
    show Steps p.tables e below (T2.setTop (mkF m 117 #[.val (.int p1), .val (.int p2), .val (.int p3), .val (.int kk), .val (.int n), .val (.int (p3 &&& (3 : Int32))), .val (.int (hol_0 kk n)), .val (.long ((n.toInt64) &&& (4294967295 : Int64))), .second, .val (.int z117_0)] [])) _
    refine XS.iload X2.here hx rfl (hb hby at_117) rfl ?_
    show Steps p.tables e below (T2.setTop (mkF m 119 #[.val (.int p1), .val (.int p2), .val (.int p3), .val (.int kk), .val (.int n), .val (.int (p3 &&& (3 : Int32))), .val (.int (hol_0 kk n)), .val (.long ((n.toInt64) &&& (4294967295 : Int64))), .second, .val (.int z117_0)] [(.int (hol_0 kk n))])) _
    refine XS.iload X2.here hx rfl (hb hby at_119) rfl ?_
    have hh : (if (hol_0 kk n) = z117_0 then (low_129 kk n (1 : Int32) z117_0) else (low_128 kk n z117_0)) = r := hh
    by_cases c121 : (hol_0 kk n) = z117_0
    · rw [if_pos c121] at hh
      show Steps p.tables e below (T2.setTop (mkF m 121 #[.val (.int p1), .val (.int p2), .val (.int p3), .val (.int kk), .val (.int n), .val (.int (p3 &&& (3 : Int32))), .val (.int (hol_0 kk n)), .val (.long ((n.toInt64) &&& (4294967295 : Int64))), .second, .val (.int z117_0)] [(.int z117_0), (.int (hol_0 kk n))])) _
      refine XS.icmpNo X2.here hx rfl (hb hby at_121) rfl (teq c121).2 ?_
      show Steps p.tables e below (T2.setTop (mkF m 124 #[.val (.int p1), .val (.int p2), .val (.int p3), .val (.int kk), .val (.int n), .val (.int (p3 &&& (3 : Int32))), .val (.int (hol_0 kk n)), .val (.long ((n.toInt64) &&& (4294967295 : Int64))), .second, .val (.int z117_0)] [])) _
      refine XS.iconst X2.here hx rfl (hb hby at_124) ?_
      show Steps p.tables e below (T2.setTop (mkF m 125 #[.val (.int p1), .val (.int p2), .val (.int p3), .val (.int kk), .val (.int n), .val (.int (p3 &&& (3 : Int32))), .val (.int (hol_0 kk n)), .val (.long ((n.toInt64) &&& (4294967295 : Int64))), .second, .val (.int z117_0)] [(.int (1 : Int32))])) _
      refine XS.goto X2.here hx rfl (pc0 := 125) (pc' := 129) rfl (hb hby at_125) (by decide) (by decide) ?_
      show Steps p.tables e below (T2.setTop (mkF m 129 #[.val (.int p1), .val (.int p2), .val (.int p3), .val (.int kk), .val (.int n), .val (.int (p3 &&& (3 : Int32))), .val (.int (hol_0 kk n)), .val (.long ((n.toInt64) &&& (4294967295 : Int64))), .second, .val (.int z117_0)] [(.int (1 : Int32))])) _
      exact kb129 _ _ hh
    · rw [if_neg c121] at hh
      show Steps p.tables e below (T2.setTop (mkF m 121 #[.val (.int p1), .val (.int p2), .val (.int p3), .val (.int kk), .val (.int n), .val (.int (p3 &&& (3 : Int32))), .val (.int (hol_0 kk n)), .val (.long ((n.toInt64) &&& (4294967295 : Int64))), .second, .val (.int z117_0)] [(.int z117_0), (.int (hol_0 kk n))])) _
      refine XS.icmpYes X2.here hx rfl (pc0 := 121) (pc' := 128) rfl (hb hby at_121) rfl (feq c121).2 (by decide) (by decide) ?_
      show Steps p.tables e below (T2.setTop (mkF m 128 #[.val (.int p1), .val (.int p2), .val (.int p3), .val (.int kk), .val (.int n), .val (.int (p3 &&& (3 : Int32))), .val (.int (hol_0 kk n)), .val (.long ((n.toInt64) &&& (4294967295 : Int64))), .second, .val (.int z117_0)] [])) _
      exact kb128 _ hh
  have kb114 : low_114 kk n = r → Steps p.tables e below (T2.setTop (mkF m 114 #[.val (.int p1), .val (.int p2), .val (.int p3), .val (.int kk), .val (.int n), .val (.int (p3 &&& (3 : Int32))), .val (.int (hol_0 kk n)), .val (.long ((n.toInt64) &&& (4294967295 : Int64))), .second, .unset] [])) (T2.setFrames fs) := by
    intro hh
    show Steps p.tables e below (T2.setTop (mkF m 114 #[.val (.int p1), .val (.int p2), .val (.int p3), .val (.int kk), .val (.int n), .val (.int (p3 &&& (3 : Int32))), .val (.int (hol_0 kk n)), .val (.long ((n.toInt64) &&& (4294967295 : Int64))), .second, .unset] [])) _
    refine XS.iconst X2.here hx rfl (hb hby at_114) ?_
    show Steps p.tables e below (T2.setTop (mkF m 115 #[.val (.int p1), .val (.int p2), .val (.int p3), .val (.int kk), .val (.int n), .val (.int (p3 &&& (3 : Int32))), .val (.int (hol_0 kk n)), .val (.long ((n.toInt64) &&& (4294967295 : Int64))), .second, .unset] [(.int (0 : Int32))])) _
    refine XS.istore X2.here hx rfl (hb hby at_115) rfl (l' := #[.val (.int p1), .val (.int p2), .val (.int p3), .val (.int kk), .val (.int n), .val (.int (p3 &&& (3 : Int32))), .val (.int (hol_0 kk n)), .val (.long ((n.toInt64) &&& (4294967295 : Int64))), .second, .val (.int (0 : Int32))]) rfl ?_
    show Steps p.tables e below (T2.setTop (mkF m 117 #[.val (.int p1), .val (.int p2), .val (.int p3), .val (.int kk), .val (.int n), .val (.int (p3 &&& (3 : Int32))), .val (.int (hol_0 kk n)), .val (.long ((n.toInt64) &&& (4294967295 : Int64))), .second, .val (.int (0 : Int32))] [])) _
    exact kb117 _ hh
  have kb109 : ∀ (z109_0 : Int32), low_109 kk n z109_0 = r → Steps p.tables e below (T2.setTop (mkF m 109 #[.val (.int p1), .val (.int p2), .val (.int p3), .val (.int kk), .val (.int n), .val (.int (p3 &&& (3 : Int32))), .val (.int (hol_0 kk n)), .val (.long ((n.toInt64) &&& (4294967295 : Int64))), .second, .unset] [(.int z109_0)])) (T2.setFrames fs) := by
    intro z109_0 hh
    show Steps p.tables e below (T2.setTop (mkF m 109 #[.val (.int p1), .val (.int p2), .val (.int p3), .val (.int kk), .val (.int n), .val (.int (p3 &&& (3 : Int32))), .val (.int (hol_0 kk n)), .val (.long ((n.toInt64) &&& (4294967295 : Int64))), .second, .unset] [(.int z109_0)])) _
    refine XS.istore X2.here hx rfl (hb hby at_109) rfl (l' := #[.val (.int p1), .val (.int p2), .val (.int p3), .val (.int kk), .val (.int n), .val (.int (p3 &&& (3 : Int32))), .val (.int (hol_0 kk n)), .val (.long ((n.toInt64) &&& (4294967295 : Int64))), .second, .val (.int z109_0)]) rfl ?_
    show Steps p.tables e below (T2.setTop (mkF m 111 #[.val (.int p1), .val (.int p2), .val (.int p3), .val (.int kk), .val (.int n), .val (.int (p3 &&& (3 : Int32))), .val (.int (hol_0 kk n)), .val (.long ((n.toInt64) &&& (4294967295 : Int64))), .second, .val (.int z109_0)] [])) _
    refine XS.goto X2.here hx rfl (pc0 := 111) (pc' := 117) rfl (hb hby at_111) (by decide) (by decide) ?_
    show Steps p.tables e below (T2.setTop (mkF m 117 #[.val (.int p1), .val (.int p2), .val (.int p3), .val (.int kk), .val (.int n), .val (.int (p3 &&& (3 : Int32))), .val (.int (hol_0 kk n)), .val (.long ((n.toInt64) &&& (4294967295 : Int64))), .second, .val (.int z109_0)] [])) _
    exact kb117 _ hh
  have kb108 : low_108 kk n = r → Steps p.tables e below (T2.setTop (mkF m 108 #[.val (.int p1), .val (.int p2), .val (.int p3), .val (.int kk), .val (.int n), .val (.int (p3 &&& (3 : Int32))), .val (.int (hol_0 kk n)), .val (.long ((n.toInt64) &&& (4294967295 : Int64))), .second, .unset] [])) (T2.setFrames fs) := by
    intro hh
    show Steps p.tables e below (T2.setTop (mkF m 108 #[.val (.int p1), .val (.int p2), .val (.int p3), .val (.int kk), .val (.int n), .val (.int (p3 &&& (3 : Int32))), .val (.int (hol_0 kk n)), .val (.long ((n.toInt64) &&& (4294967295 : Int64))), .second, .unset] [])) _
    refine XS.iconst X2.here hx rfl (hb hby at_108) ?_
    show Steps p.tables e below (T2.setTop (mkF m 109 #[.val (.int p1), .val (.int p2), .val (.int p3), .val (.int kk), .val (.int n), .val (.int (p3 &&& (3 : Int32))), .val (.int (hol_0 kk n)), .val (.long ((n.toInt64) &&& (4294967295 : Int64))), .second, .unset] [(.int (0 : Int32))])) _
    exact kb109 _ hh
  have kb90 : low_90 kk n = r → Steps p.tables e below (T2.setTop (mkF m 90 #[.val (.int p1), .val (.int p2), .val (.int p3), .val (.int kk), .val (.int n), .val (.int (p3 &&& (3 : Int32))), .val (.int (hol_0 kk n)), .val (.long ((n.toInt64) &&& (4294967295 : Int64))), .second, .unset] [])) (T2.setFrames fs) := by
    intro hh
    show Steps p.tables e below (T2.setTop (mkF m 90 #[.val (.int p1), .val (.int p2), .val (.int p3), .val (.int kk), .val (.int n), .val (.int (p3 &&& (3 : Int32))), .val (.int (hol_0 kk n)), .val (.long ((n.toInt64) &&& (4294967295 : Int64))), .second, .unset] [])) _
    refine XS.iloadN X2.here hx rfl (hb hby at_90) rfl ?_
    show Steps p.tables e below (T2.setTop (mkF m 91 #[.val (.int p1), .val (.int p2), .val (.int p3), .val (.int kk), .val (.int n), .val (.int (p3 &&& (3 : Int32))), .val (.int (hol_0 kk n)), .val (.long ((n.toInt64) &&& (4294967295 : Int64))), .second, .unset] [(.int kk)])) _
    refine XS.iconst X2.here hx rfl (hb hby at_91) ?_
    have hh : (if kk = (1 : Int32) then (if (0 : Int32) < (lcmpW ((n.toInt64) &&& (4294967295 : Int64)) (1048576 : Int64)) then (low_108 kk n) else (low_109 kk n (1 : Int32))) else (low_114 kk n)) = r := hh
    by_cases c92 : kk = (1 : Int32)
    · rw [if_pos c92] at hh
      show Steps p.tables e below (T2.setTop (mkF m 92 #[.val (.int p1), .val (.int p2), .val (.int p3), .val (.int kk), .val (.int n), .val (.int (p3 &&& (3 : Int32))), .val (.int (hol_0 kk n)), .val (.long ((n.toInt64) &&& (4294967295 : Int64))), .second, .unset] [(.int (1 : Int32)), (.int kk)])) _
      refine XS.icmpNo X2.here hx rfl (hb hby at_92) rfl (teq c92).2 ?_
      show Steps p.tables e below (T2.setTop (mkF m 95 #[.val (.int p1), .val (.int p2), .val (.int p3), .val (.int kk), .val (.int n), .val (.int (p3 &&& (3 : Int32))), .val (.int (hol_0 kk n)), .val (.long ((n.toInt64) &&& (4294967295 : Int64))), .second, .unset] [])) _
      refine XS.lload X2.here hx rfl (hb hby at_95) rfl ?_
      show Steps p.tables e below (T2.setTop (mkF m 97 #[.val (.int p1), .val (.int p2), .val (.int p3), .val (.int kk), .val (.int n), .val (.int (p3 &&& (3 : Int32))), .val (.int (hol_0 kk n)), .val (.long ((n.toInt64) &&& (4294967295 : Int64))), .second, .unset] [(.long ((n.toInt64) &&& (4294967295 : Int64)))])) _
      refine X2.ldc2Long hx hown (mvT hZ (hw _ (List.mem_of_getElem? (i := 6) rfl))) (g := (mkF m 97 #[.val (.int p1), .val (.int p2), .val (.int p3), .val (.int kk), .val (.int n), .val (.int (p3 &&& (3 : Int32))), .val (.int (hol_0 kk n)), .val (.long ((n.toInt64) &&& (4294967295 : Int64))), .second, .unset] [(.long ((n.toInt64) &&& (4294967295 : Int64)))])) rfl (hb hby at_97) _ ?_
      show Steps p.tables e below (T2.setTop (mkF m 100 #[.val (.int p1), .val (.int p2), .val (.int p3), .val (.int kk), .val (.int n), .val (.int (p3 &&& (3 : Int32))), .val (.int (hol_0 kk n)), .val (.long ((n.toInt64) &&& (4294967295 : Int64))), .second, .unset] [(.long (1048576 : Int64)), (.long ((n.toInt64) &&& (4294967295 : Int64)))])) _
      refine XS.lcmp X2.here hx rfl (hb hby at_100) rfl ?_
      have hh : (if (0 : Int32) < (lcmpW ((n.toInt64) &&& (4294967295 : Int64)) (1048576 : Int64)) then (low_108 kk n) else (low_109 kk n (1 : Int32))) = r := hh
      by_cases c101 : (0 : Int32) < (lcmpW ((n.toInt64) &&& (4294967295 : Int64)) (1048576 : Int64))
      · rw [if_pos c101] at hh
        show Steps p.tables e below (T2.setTop (mkF m 101 #[.val (.int p1), .val (.int p2), .val (.int p3), .val (.int kk), .val (.int n), .val (.int (p3 &&& (3 : Int32))), .val (.int (hol_0 kk n)), .val (.long ((n.toInt64) &&& (4294967295 : Int64))), .second, .unset] [(.int (lcmpW ((n.toInt64) &&& (4294967295 : Int64)) (1048576 : Int64)))])) _
        refine XS.ifYes X2.here hx rfl (pc0 := 101) (pc' := 108) rfl (hb hby at_101) rfl ((if0 _ _).trans (tlt c101).2.2.1) (by decide) (by decide) ?_
        show Steps p.tables e below (T2.setTop (mkF m 108 #[.val (.int p1), .val (.int p2), .val (.int p3), .val (.int kk), .val (.int n), .val (.int (p3 &&& (3 : Int32))), .val (.int (hol_0 kk n)), .val (.long ((n.toInt64) &&& (4294967295 : Int64))), .second, .unset] [])) _
        exact kb108 hh
      · rw [if_neg c101] at hh
        show Steps p.tables e below (T2.setTop (mkF m 101 #[.val (.int p1), .val (.int p2), .val (.int p3), .val (.int kk), .val (.int n), .val (.int (p3 &&& (3 : Int32))), .val (.int (hol_0 kk n)), .val (.long ((n.toInt64) &&& (4294967295 : Int64))), .second, .unset] [(.int (lcmpW ((n.toInt64) &&& (4294967295 : Int64)) (1048576 : Int64)))])) _
        refine XS.ifNo X2.here hx rfl (hb hby at_101) rfl ((if0 _ _).trans (flt c101).2.2.1) ?_
        show Steps p.tables e below (T2.setTop (mkF m 104 #[.val (.int p1), .val (.int p2), .val (.int p3), .val (.int kk), .val (.int n), .val (.int (p3 &&& (3 : Int32))), .val (.int (hol_0 kk n)), .val (.long ((n.toInt64) &&& (4294967295 : Int64))), .second, .unset] [])) _
        refine XS.iconst X2.here hx rfl (hb hby at_104) ?_
        show Steps p.tables e below (T2.setTop (mkF m 105 #[.val (.int p1), .val (.int p2), .val (.int p3), .val (.int kk), .val (.int n), .val (.int (p3 &&& (3 : Int32))), .val (.int (hol_0 kk n)), .val (.long ((n.toInt64) &&& (4294967295 : Int64))), .second, .unset] [(.int (1 : Int32))])) _
        refine XS.goto X2.here hx rfl (pc0 := 105) (pc' := 109) rfl (hb hby at_105) (by decide) (by decide) ?_
        show Steps p.tables e below (T2.setTop (mkF m 109 #[.val (.int p1), .val (.int p2), .val (.int p3), .val (.int kk), .val (.int n), .val (.int (p3 &&& (3 : Int32))), .val (.int (hol_0 kk n)), .val (.long ((n.toInt64) &&& (4294967295 : Int64))), .second, .unset] [(.int (1 : Int32))])) _
        exact kb109 _ hh
    · rw [if_neg c92] at hh
      show Steps p.tables e below (T2.setTop (mkF m 92 #[.val (.int p1), .val (.int p2), .val (.int p3), .val (.int kk), .val (.int n), .val (.int (p3 &&& (3 : Int32))), .val (.int (hol_0 kk n)), .val (.long ((n.toInt64) &&& (4294967295 : Int64))), .second, .unset] [(.int (1 : Int32)), (.int kk)])) _
      refine XS.icmpYes X2.here hx rfl (pc0 := 92) (pc' := 114) rfl (hb hby at_92) rfl (feq c92).2 (by decide) (by decide) ?_
      show Steps p.tables e below (T2.setTop (mkF m 114 #[.val (.int p1), .val (.int p2), .val (.int p3), .val (.int kk), .val (.int n), .val (.int (p3 &&& (3 : Int32))), .val (.int (hol_0 kk n)), .val (.long ((n.toInt64) &&& (4294967295 : Int64))), .second, .unset] [])) _
      exact kb114 hh
  have kb85 : ∀ (z85_0 : Int32), low_85 kk n z85_0 = r → Steps p.tables e below (T2.setTop (mkF m 85 #[.val (.int p1), .val (.int p2), .val (.int p3), .val (.int kk), .val (.int n), .val (.int (p3 &&& (3 : Int32))), .val (.int (hol_0 kk n)), .val (.long ((n.toInt64) &&& (4294967295 : Int64))), .second, .unset] [(.int z85_0)])) (T2.setFrames fs) := by
    intro z85_0 hh
    show Steps p.tables e below (T2.setTop (mkF m 85 #[.val (.int p1), .val (.int p2), .val (.int p3), .val (.int kk), .val (.int n), .val (.int (p3 &&& (3 : Int32))), .val (.int (hol_0 kk n)), .val (.long ((n.toInt64) &&& (4294967295 : Int64))), .second, .unset] [(.int z85_0)])) _
    refine XS.istore X2.here hx rfl (hb hby at_85) rfl (l' := #[.val (.int p1), .val (.int p2), .val (.int p3), .val (.int kk), .val (.int n), .val (.int (p3 &&& (3 : Int32))), .val (.int (hol_0 kk n)), .val (.long ((n.toInt64) &&& (4294967295 : Int64))), .second, .val (.int z85_0)]) rfl ?_
    show Steps p.tables e below (T2.setTop (mkF m 87 #[.val (.int p1), .val (.int p2), .val (.int p3), .val (.int kk), .val (.int n), .val (.int (p3 &&& (3 : Int32))), .val (.int (hol_0 kk n)), .val (.long ((n.toInt64) &&& (4294967295 : Int64))), .second, .val (.int z85_0)] [])) _
    refine XS.goto X2.here hx rfl (pc0 := 87) (pc' := 117) rfl (hb hby at_87) (by decide) (by decide) ?_
    show Steps p.tables e below (T2.setTop (mkF m 117 #[.val (.int p1), .val (.int p2), .val (.int p3), .val (.int kk), .val (.int n), .val (.int (p3 &&& (3 : Int32))), .val (.int (hol_0 kk n)), .val (.long ((n.toInt64) &&& (4294967295 : Int64))), .second, .val (.int z85_0)] [])) _
    exact kb117 _ hh
  have kb84 : low_84 kk n = r → Steps p.tables e below (T2.setTop (mkF m 84 #[.val (.int p1), .val (.int p2), .val (.int p3), .val (.int kk), .val (.int n), .val (.int (p3 &&& (3 : Int32))), .val (.int (hol_0 kk n)), .val (.long ((n.toInt64) &&& (4294967295 : Int64))), .second, .unset] [])) (T2.setFrames fs) := by
    intro hh
    show Steps p.tables e below (T2.setTop (mkF m 84 #[.val (.int p1), .val (.int p2), .val (.int p3), .val (.int kk), .val (.int n), .val (.int (p3 &&& (3 : Int32))), .val (.int (hol_0 kk n)), .val (.long ((n.toInt64) &&& (4294967295 : Int64))), .second, .unset] [])) _
    refine XS.iconst X2.here hx rfl (hb hby at_84) ?_
    show Steps p.tables e below (T2.setTop (mkF m 85 #[.val (.int p1), .val (.int p2), .val (.int p3), .val (.int kk), .val (.int n), .val (.int (p3 &&& (3 : Int32))), .val (.int (hol_0 kk n)), .val (.long ((n.toInt64) &&& (4294967295 : Int64))), .second, .unset] [(.int (0 : Int32))])) _
    exact kb85 _ hh
  have kb56 : low_56 kk n = r → Steps p.tables e below (T2.setTop (mkF m 56 #[.val (.int p1), .val (.int p2), .val (.int p3), .val (.int kk), .val (.int n), .val (.int (p3 &&& (3 : Int32))), .unset, .unset, .unset, .unset] [(.int (hol_0 kk n))])) (T2.setFrames fs) := by
    intro hh
    show Steps p.tables e below (T2.setTop (mkF m 56 #[.val (.int p1), .val (.int p2), .val (.int p3), .val (.int kk), .val (.int n), .val (.int (p3 &&& (3 : Int32))), .unset, .unset, .unset, .unset] [(.int (hol_0 kk n))])) _
    refine XS.istore X2.here hx rfl (hb hby at_56) rfl (l' := #[.val (.int p1), .val (.int p2), .val (.int p3), .val (.int kk), .val (.int n), .val (.int (p3 &&& (3 : Int32))), .val (.int (hol_0 kk n)), .unset, .unset, .unset]) rfl ?_
    show Steps p.tables e below (T2.setTop (mkF m 58 #[.val (.int p1), .val (.int p2), .val (.int p3), .val (.int kk), .val (.int n), .val (.int (p3 &&& (3 : Int32))), .val (.int (hol_0 kk n)), .unset, .unset, .unset] [])) _
    refine XS.iload X2.here hx rfl (hb hby at_58) rfl ?_
    show Steps p.tables e below (T2.setTop (mkF m 60 #[.val (.int p1), .val (.int p2), .val (.int p3), .val (.int kk), .val (.int n), .val (.int (p3 &&& (3 : Int32))), .val (.int (hol_0 kk n)), .unset, .unset, .unset] [(.int n)])) _
    refine XS.i2l X2.here hx rfl (hb hby at_60) rfl ?_
    show Steps p.tables e below (T2.setTop (mkF m 61 #[.val (.int p1), .val (.int p2), .val (.int p3), .val (.int kk), .val (.int n), .val (.int (p3 &&& (3 : Int32))), .val (.int (hol_0 kk n)), .unset, .unset, .unset] [(.long (n.toInt64))])) _
    refine X2.ldc2Long hx hown (mvT hZ (hw _ (List.mem_of_getElem? (i := 5) rfl))) (g := (mkF m 61 #[.val (.int p1), .val (.int p2), .val (.int p3), .val (.int kk), .val (.int n), .val (.int (p3 &&& (3 : Int32))), .val (.int (hol_0 kk n)), .unset, .unset, .unset] [(.long (n.toInt64))])) rfl (hb hby at_61) _ ?_
    show Steps p.tables e below (T2.setTop (mkF m 64 #[.val (.int p1), .val (.int p2), .val (.int p3), .val (.int kk), .val (.int n), .val (.int (p3 &&& (3 : Int32))), .val (.int (hol_0 kk n)), .unset, .unset, .unset] [(.long (4294967295 : Int64)), (.long (n.toInt64))])) _
    refine XS.land X2.here hx rfl (hb hby at_64) rfl ?_
    show Steps p.tables e below (T2.setTop (mkF m 65 #[.val (.int p1), .val (.int p2), .val (.int p3), .val (.int kk), .val (.int n), .val (.int (p3 &&& (3 : Int32))), .val (.int (hol_0 kk n)), .unset, .unset, .unset] [(.long ((n.toInt64) &&& (4294967295 : Int64)))])) _
    refine XS.lstore X2.here hx rfl (hb hby at_65) rfl (l' := #[.val (.int p1), .val (.int p2), .val (.int p3), .val (.int kk), .val (.int n), .val (.int (p3 &&& (3 : Int32))), .val (.int (hol_0 kk n)), .val (.long ((n.toInt64) &&& (4294967295 : Int64))), .second, .unset]) rfl ?_
    show Steps p.tables e below (T2.setTop (mkF m 67 #[.val (.int p1), .val (.int p2), .val (.int p3), .val (.int kk), .val (.int n), .val (.int (p3 &&& (3 : Int32))), .val (.int (hol_0 kk n)), .val (.long ((n.toInt64) &&& (4294967295 : Int64))), .second, .unset] [])) _
    refine XS.iloadN X2.here hx rfl (hb hby at_67) rfl ?_
    have hh : (if kk = (0 : Int32) then (if (lcmpW ((n.toInt64) &&& (4294967295 : Int64)) (1048576 : Int64)) = (0 : Int32) then (low_85 kk n (1 : Int32)) else (low_84 kk n)) else (low_90 kk n)) = r := hh
    by_cases c68 : kk = (0 : Int32)
    · rw [if_pos c68] at hh
      show Steps p.tables e below (T2.setTop (mkF m 68 #[.val (.int p1), .val (.int p2), .val (.int p3), .val (.int kk), .val (.int n), .val (.int (p3 &&& (3 : Int32))), .val (.int (hol_0 kk n)), .val (.long ((n.toInt64) &&& (4294967295 : Int64))), .second, .unset] [(.int kk)])) _
      refine XS.ifNo X2.here hx rfl (hb hby at_68) rfl ((if0 _ _).trans (teq c68).2) ?_
      show Steps p.tables e below (T2.setTop (mkF m 71 #[.val (.int p1), .val (.int p2), .val (.int p3), .val (.int kk), .val (.int n), .val (.int (p3 &&& (3 : Int32))), .val (.int (hol_0 kk n)), .val (.long ((n.toInt64) &&& (4294967295 : Int64))), .second, .unset] [])) _
      refine XS.lload X2.here hx rfl (hb hby at_71) rfl ?_
      show Steps p.tables e below (T2.setTop (mkF m 73 #[.val (.int p1), .val (.int p2), .val (.int p3), .val (.int kk), .val (.int n), .val (.int (p3 &&& (3 : Int32))), .val (.int (hol_0 kk n)), .val (.long ((n.toInt64) &&& (4294967295 : Int64))), .second, .unset] [(.long ((n.toInt64) &&& (4294967295 : Int64)))])) _
      refine X2.ldc2Long hx hown (mvT hZ (hw _ (List.mem_of_getElem? (i := 6) rfl))) (g := (mkF m 73 #[.val (.int p1), .val (.int p2), .val (.int p3), .val (.int kk), .val (.int n), .val (.int (p3 &&& (3 : Int32))), .val (.int (hol_0 kk n)), .val (.long ((n.toInt64) &&& (4294967295 : Int64))), .second, .unset] [(.long ((n.toInt64) &&& (4294967295 : Int64)))])) rfl (hb hby at_73) _ ?_
      show Steps p.tables e below (T2.setTop (mkF m 76 #[.val (.int p1), .val (.int p2), .val (.int p3), .val (.int kk), .val (.int n), .val (.int (p3 &&& (3 : Int32))), .val (.int (hol_0 kk n)), .val (.long ((n.toInt64) &&& (4294967295 : Int64))), .second, .unset] [(.long (1048576 : Int64)), (.long ((n.toInt64) &&& (4294967295 : Int64)))])) _
      refine XS.lcmp X2.here hx rfl (hb hby at_76) rfl ?_
      have hh : (if (lcmpW ((n.toInt64) &&& (4294967295 : Int64)) (1048576 : Int64)) = (0 : Int32) then (low_85 kk n (1 : Int32)) else (low_84 kk n)) = r := hh
      by_cases c77 : (lcmpW ((n.toInt64) &&& (4294967295 : Int64)) (1048576 : Int64)) = (0 : Int32)
      · rw [if_pos c77] at hh
        show Steps p.tables e below (T2.setTop (mkF m 77 #[.val (.int p1), .val (.int p2), .val (.int p3), .val (.int kk), .val (.int n), .val (.int (p3 &&& (3 : Int32))), .val (.int (hol_0 kk n)), .val (.long ((n.toInt64) &&& (4294967295 : Int64))), .second, .unset] [(.int (lcmpW ((n.toInt64) &&& (4294967295 : Int64)) (1048576 : Int64)))])) _
        refine XS.ifNo X2.here hx rfl (hb hby at_77) rfl ((if0 _ _).trans (teq c77).2) ?_
        show Steps p.tables e below (T2.setTop (mkF m 80 #[.val (.int p1), .val (.int p2), .val (.int p3), .val (.int kk), .val (.int n), .val (.int (p3 &&& (3 : Int32))), .val (.int (hol_0 kk n)), .val (.long ((n.toInt64) &&& (4294967295 : Int64))), .second, .unset] [])) _
        refine XS.iconst X2.here hx rfl (hb hby at_80) ?_
        show Steps p.tables e below (T2.setTop (mkF m 81 #[.val (.int p1), .val (.int p2), .val (.int p3), .val (.int kk), .val (.int n), .val (.int (p3 &&& (3 : Int32))), .val (.int (hol_0 kk n)), .val (.long ((n.toInt64) &&& (4294967295 : Int64))), .second, .unset] [(.int (1 : Int32))])) _
        refine XS.goto X2.here hx rfl (pc0 := 81) (pc' := 85) rfl (hb hby at_81) (by decide) (by decide) ?_
        show Steps p.tables e below (T2.setTop (mkF m 85 #[.val (.int p1), .val (.int p2), .val (.int p3), .val (.int kk), .val (.int n), .val (.int (p3 &&& (3 : Int32))), .val (.int (hol_0 kk n)), .val (.long ((n.toInt64) &&& (4294967295 : Int64))), .second, .unset] [(.int (1 : Int32))])) _
        exact kb85 _ hh
      · rw [if_neg c77] at hh
        show Steps p.tables e below (T2.setTop (mkF m 77 #[.val (.int p1), .val (.int p2), .val (.int p3), .val (.int kk), .val (.int n), .val (.int (p3 &&& (3 : Int32))), .val (.int (hol_0 kk n)), .val (.long ((n.toInt64) &&& (4294967295 : Int64))), .second, .unset] [(.int (lcmpW ((n.toInt64) &&& (4294967295 : Int64)) (1048576 : Int64)))])) _
        refine XS.ifYes X2.here hx rfl (pc0 := 77) (pc' := 84) rfl (hb hby at_77) rfl ((if0 _ _).trans (feq c77).2) (by decide) (by decide) ?_
        show Steps p.tables e below (T2.setTop (mkF m 84 #[.val (.int p1), .val (.int p2), .val (.int p3), .val (.int kk), .val (.int n), .val (.int (p3 &&& (3 : Int32))), .val (.int (hol_0 kk n)), .val (.long ((n.toInt64) &&& (4294967295 : Int64))), .second, .unset] [])) _
        exact kb84 hh
    · rw [if_neg c68] at hh
      show Steps p.tables e below (T2.setTop (mkF m 68 #[.val (.int p1), .val (.int p2), .val (.int p3), .val (.int kk), .val (.int n), .val (.int (p3 &&& (3 : Int32))), .val (.int (hol_0 kk n)), .val (.long ((n.toInt64) &&& (4294967295 : Int64))), .second, .unset] [(.int kk)])) _
      refine XS.ifYes X2.here hx rfl (pc0 := 68) (pc' := 90) rfl (hb hby at_68) rfl ((if0 _ _).trans (feq c68).2) (by decide) (by decide) ?_
      show Steps p.tables e below (T2.setTop (mkF m 90 #[.val (.int p1), .val (.int p2), .val (.int p3), .val (.int kk), .val (.int n), .val (.int (p3 &&& (3 : Int32))), .val (.int (hol_0 kk n)), .val (.long ((n.toInt64) &&& (4294967295 : Int64))), .second, .unset] [])) _
      exact kb90 hh
  refine ⟨_, _, pre0 _ (A _ (B _ (C50 _ (st2 _ (kb56 hr0))))), hrun, hended, _, _, rfl, ?_, ⟨_, rfl⟩, hW, hsame.mono (by decide) (by decide)⟩
  exact ⟨rfl, Fr.app (Fr.nil n0) N2q⟩
set_option maxRecDepth 65536 in
set_option maxHeartbeats 40000000 in
theorem comes_1 {Post : Tables → Env → Array Value → State → Outcome → State → Prop} (hpost : ∀ tb e args s v u, (limb_1_1.after args s (.returned v) u = true ∧ limb_1_2.after args s (.returned v) u = true ∧ True) → FrameEnd s (.returned v) u (Jvm.fieldLocs frame_1_writes args s ++ Jvm.arrayLocs frame_1_arrays args s ++ Jvm.staticLocs frame_1_statics s) 0 0 → Post tb e args s (.returned v) u) :
    ArmFor flags0 classFile x code maxLocals ret World_1 tables_1 room_1 Calls_1 rest_1 Pre_1 Post := by
  intro l hfl _ _ p e ha hc hk s m args below hf hA hF happ hP
  obtain ⟨hcalls, hrest, hpre⟩ := hP
  obtain ⟨-, -, -, hnamed, -, -, -, hat⟩ := (Spec.applies_iff hf).mp happ
  obtain ⟨hg, hn⟩ := and_e (Cond.before_iff.mp (show (Jvm.Cond.and given_1 narrow_1).before args s = true from hpre))
  obtain ⟨g0, r0⟩ := and_e hg
  obtain ⟨g1, r1⟩ := and_e r0
  obtain ⟨g2, r2⟩ := and_e r1
  obtain ⟨w0, w1, w2, rfl⟩ : ∃ w0 w1 w2 : Value, args = #[w0, w1, w2] := by
    have hs : args.size = 3 := by simpa [Cond.value, given_1] using g0
    obtain ⟨L⟩ := args
    match L, hs with
    | [w0, w1, w2], _ => exact ⟨w0, w1, w2, rfl⟩
  have hw := fun d (hd : d ∈ tables_1) => atoms_spec (ws := Jvm.Cond.code x code maxLocals ret :: tables_1) hat d (List.mem_cons_of_mem _ hd)
  obtain ⟨i0, ei0⟩ := is_v g1
  obtain rfl : w0 = (.int i0) := Option.some.inj ei0
  obtain ⟨i1, ei1⟩ := is_v g2
  obtain rfl : w1 = (.int i1) := Option.some.inj ei1
  obtain ⟨i2, ei2⟩ := is_v r2
  obtain rfl : w2 = (.int i2) := Option.some.inj ei2
  obtain ⟨n, o, h1, h2, h3, _, L, rfl, ⟨rfl, N⟩, hq⟩ := rm0 l s _ hw tables_1 i0 i1 i2 s.heap s.heap.size (Nat.le_refl _) p e ha hc hk s m _ below hf ((Spec.applies_iff_loose hf).mp happ).1 ⟨rfl, State.Warmed39.refl s, rfl⟩ trivial
  refine ⟨n, _, h1, h2, h3, hpost _ _ _ _ _ _ ⟨Cond.after_iff.mpr rfl, Cond.after_iff.mpr (eq_i res_at (Term.int_eval (1)) rfl), trivial⟩ ⟨hq.1, hq.2.1, (hq.2.2.sift fun y hy => Or.inr (N y hy)).mono (by decide) (by decide)⟩⟩
theorem main_1_1 : Claimed_1_1 := comes_1 fun _ _ _ _ _ _ h hF => ⟨h.1, hF⟩
theorem main_1_2 : Claimed_1_2 := comes_1 fun _ _ _ _ _ _ h hF => ⟨h.2.1, hF⟩
end Jvm.Pilot.@@N@@
namespace Jvm.Pilot.@@N@@
open Jvm Jvm.ClassFile Sem Op Lib Jvm.Free Jvm.Stand Jvm.Pilot.@@N@@.Jvm.D
/-! MADE BY PROGRAM (witnessworld.py) out of the Statement's table words and the real class files: 9 classes; the members and pool entries that the words name. The judged class is class 1, her method 1. -/
namespace start1
open Jvm.ClassFile
def u (s : String) : CpInfo := .utf8 (stringToUtf16 s)
/-- a pool by its gaps: so many unusable entries, then the entry; so many at the end -/
def gap : Nat → List CpInfo → List CpInfo
  | 0, r => r
  | n + 1, r => .unusable :: gap n r
def poolList (es : List (Nat × CpInfo)) (last : Nat) : List CpInfo := es.foldr (fun e r => gap e.1 (e.2 :: r)) (gap last [])
def pool (es : List (Nat × CpInfo)) (last : Nat) : Array CpInfo := ⟨poolList es last⟩
def fileOf (pool : Array CpInfo) (this : Nat) (attrs : Array Attribute := #[]) (ms : Array MethodInfo := #[]) (fl : Nat := 33) (sup : Nat := 0) (ifs : Array Nat := #[]) (fds : Array FieldInfo := #[]) : ClassFile where
  minorVersion := 0
  majorVersion := 65
  constantPool := pool
  accessFlags := fl
  thisClass := this
  superClass := sup
  interfaces := ifs
  fields := fds
  methods := ms
  attributes := attrs
def plain (name : String) (sup : Option ClassId) : Class where
  name := name
  kind := .ordinary
  loader := none
  accessFlags := 33
  super := sup
  interfaces := #[]
  cf := none
  fields := #[]
  methods := #[]
  instanceTypes := #[]
  staticTypes := #[]
  resolved := #[]
  callSites := []
  init := .initialized
  statics := none
  mirror := none

def pool0 : Array CpInfo := pool [(5, u "<init>"), (0, u "()V"), (1, .class_ 10), (1, u "java/lang/Object")] 113

def k0m0 : Method := { name := "<init>", desc := "()V", sig := { parameters := [], returnType := none }, accessFlags := 1, code := none }
/-- java/lang/Object -/
def k0 : Class := { plain "java/lang/Object" none with
  accessFlags := 33
  interfaces := #[]
  cf := some (fileOf pool0 8 #[] #[{ accessFlags := 1, nameIndex := 5, descriptorIndex := 6, attributes := #[] }] 33 0 #[] #[])
  fields := #[]
  methods := #[k0m0]
  instanceTypes := #[]
  staticTypes := #[]
  resolved := Array.replicate 124 none
  statics := none }

def pool1 : Array CpInfo := pool [(2, .class_ 4), (1, u "java/lang/Object"), (0, u "<init>"), (0, u "()V"), (0, .integer 1048576), (0, .methodref 9 10), (0, .class_ 11), (0, .nameAndType 12 13), (0, u "com/example/lodestone/lodestone/storage/LogFormat"), (0, u "holds"), (0, u "(BI)Z"), (0, .long 4294967295), (1, .long 1048576), (1, .class_ 19), (0, u "com/example/lodestone/lodestone/storage/LogFormatHoldsPinLaw"), (2, u "law"), (0, u "(III)Z")] 3

def k1m0 : Method := { name := "<init>", desc := "()V", sig := { parameters := [], returnType := none }, accessFlags := 2, code := none }
def k1c1 : Code := { maxStack := 4, maxLocals := 10, code := code, exceptionTable := #[], attributes := #[] }
def k1m1 : Method := { name := "law", desc := "(III)Z", sig := { parameters := [.int, .int, .int], returnType := some .boolean }, accessFlags := 9, code := some k1c1 }
/-- com/example/lodestone/lodestone/storage/LogFormatHoldsPinLaw -/
def k1 : Class := { plain "com/example/lodestone/lodestone/storage/LogFormatHoldsPinLaw" (some 0) with
  accessFlags := 49
  interfaces := #[]
  cf := some (fileOf pool1 18 #[] #[{ accessFlags := 2, nameIndex := 5, descriptorIndex := 6, attributes := #[] }, { accessFlags := 9, nameIndex := 22, descriptorIndex := 23, attributes := #[] }] 49 2 #[] #[])
  fields := #[]
  methods := #[k1m0, k1m1]
  instanceTypes := #[]
  staticTypes := #[]
  resolved := Array.replicate 27 none
  statics := none }

def pool2 : Array CpInfo := pool [(2, .class_ 4), (1, u "java/lang/Object"), (0, u "<init>"), (0, u "()V"), (0, .class_ 8), (0, u "com/example/lodestone/lodestone/storage/LogFormat"), (0, .integer 1048576), (313, u "MAGIC"), (0, u "[B"), (2, u "HEADER_SIZE"), (0, u "I"), (0, u "FRAME_HEADER_SIZE"), (2, u "MORE"), (0, u "B"), (1, u "LAST"), (1, u "PAYLOAD_SIZE"), (0, u "CREATE_TABLE"), (0, u "DROP_TABLE"), (1, u "INSERT"), (1, u "DELETE"), (1, u "UPDATE"), (1, u "CREATE_INDEX"), (1, u "DROP_INDEX"), (1, u "CREATE_UNIQUE_INDEX"), (1, u "CREATE_VIEW"), (0, u "NOT_NULL"), (0, u "PRIMARY_KEY"), (2, u "holds"), (0, u "(BI)Z")] 57

def k2m0 : Method := { name := "<init>", desc := "()V", sig := { parameters := [], returnType := none }, accessFlags := 2, code := none }
def k2c1 : Code := { maxStack := 2, maxLocals := 3, code := prog_240_method_2_code, exceptionTable := #[], attributes := #[] }
def k2m1 : Method := { name := "holds", desc := "(BI)Z", sig := { parameters := [.byte, .int], returnType := some .boolean }, accessFlags := 8, code := some k2c1 }
/-- com/example/lodestone/lodestone/storage/LogFormat -/
def k2 : Class := { plain "com/example/lodestone/lodestone/storage/LogFormat" (some 0) with
  accessFlags := 48
  interfaces := #[]
  cf := some (fileOf pool2 7 #[] #[{ accessFlags := 2, nameIndex := 5, descriptorIndex := 6, attributes := #[] }, { accessFlags := 8, nameIndex := 358, descriptorIndex := 359, attributes := #[] }] 48 2 #[] #[{ accessFlags := 24, nameIndex := 323, descriptorIndex := 324, attributes := #[] }, { accessFlags := 24, nameIndex := 327, descriptorIndex := 328, attributes := #[] }, { accessFlags := 24, nameIndex := 329, descriptorIndex := 328, attributes := #[] }, { accessFlags := 24, nameIndex := 332, descriptorIndex := 333, attributes := #[] }, { accessFlags := 24, nameIndex := 335, descriptorIndex := 333, attributes := #[] }, { accessFlags := 24, nameIndex := 337, descriptorIndex := 328, attributes := #[] }, { accessFlags := 26, nameIndex := 338, descriptorIndex := 328, attributes := #[] }, { accessFlags := 26, nameIndex := 339, descriptorIndex := 328, attributes := #[] }, { accessFlags := 26, nameIndex := 341, descriptorIndex := 328, attributes := #[] }, { accessFlags := 26, nameIndex := 343, descriptorIndex := 328, attributes := #[] }, { accessFlags := 26, nameIndex := 345, descriptorIndex := 328, attributes := #[] }, { accessFlags := 26, nameIndex := 347, descriptorIndex := 328, attributes := #[] }, { accessFlags := 26, nameIndex := 349, descriptorIndex := 328, attributes := #[] }, { accessFlags := 26, nameIndex := 351, descriptorIndex := 328, attributes := #[] }, { accessFlags := 26, nameIndex := 353, descriptorIndex := 328, attributes := #[] }, { accessFlags := 26, nameIndex := 354, descriptorIndex := 328, attributes := #[] }, { accessFlags := 26, nameIndex := 355, descriptorIndex := 328, attributes := #[] }])
  fields := #[{ name := "MAGIC", type := (.array .byte), accessFlags := 24, slot := 0, constantValue := 0 }, { name := "HEADER_SIZE", type := .int, accessFlags := 24, slot := 1, constantValue := 0 }, { name := "FRAME_HEADER_SIZE", type := .int, accessFlags := 24, slot := 2, constantValue := 0 }, { name := "MORE", type := .byte, accessFlags := 24, slot := 3, constantValue := 0 }, { name := "LAST", type := .byte, accessFlags := 24, slot := 4, constantValue := 0 }, { name := "PAYLOAD_SIZE", type := .int, accessFlags := 24, slot := 5, constantValue := 0 }, { name := "CREATE_TABLE", type := .int, accessFlags := 26, slot := 6, constantValue := 0 }, { name := "DROP_TABLE", type := .int, accessFlags := 26, slot := 7, constantValue := 0 }, { name := "INSERT", type := .int, accessFlags := 26, slot := 8, constantValue := 0 }, { name := "DELETE", type := .int, accessFlags := 26, slot := 9, constantValue := 0 }, { name := "UPDATE", type := .int, accessFlags := 26, slot := 10, constantValue := 0 }, { name := "CREATE_INDEX", type := .int, accessFlags := 26, slot := 11, constantValue := 0 }, { name := "DROP_INDEX", type := .int, accessFlags := 26, slot := 12, constantValue := 0 }, { name := "CREATE_UNIQUE_INDEX", type := .int, accessFlags := 26, slot := 13, constantValue := 0 }, { name := "CREATE_VIEW", type := .int, accessFlags := 26, slot := 14, constantValue := 0 }, { name := "NOT_NULL", type := .int, accessFlags := 26, slot := 15, constantValue := 0 }, { name := "PRIMARY_KEY", type := .int, accessFlags := 26, slot := 16, constantValue := 0 }]
  methods := #[k2m0, k2m1]
  instanceTypes := #[]
  staticTypes := #[(.array .byte), .int, .int, .byte, .byte, .int, .int, .int, .int, .int, .int, .int, .int, .int, .int, .int, .int]
  resolved := Array.replicate 417 none
  statics := none }

def pool3 : Array CpInfo := pool [(1, u "java/lang/Cloneable"), (0, .class_ 1), (0, u "java/lang/Object"), (0, .class_ 3)] 3

/-- java/lang/Cloneable -/
def k3 : Class := { plain "java/lang/Cloneable" (some 0) with
  accessFlags := 1537
  interfaces := #[]
  cf := some (fileOf pool3 2 #[] #[] 1537 4 #[] #[])
  fields := #[]
  methods := #[]
  instanceTypes := #[]
  staticTypes := #[]
  resolved := Array.replicate 8 none
  statics := none }

def pool4 : Array CpInfo := pool [(1, u "java/io/Serializable"), (0, .class_ 1), (0, u "java/lang/Object"), (0, .class_ 3)] 3

/-- java/io/Serializable -/
def k4 : Class := { plain "java/io/Serializable" (some 0) with
  accessFlags := 1537
  interfaces := #[]
  cf := some (fileOf pool4 2 #[] #[] 1537 4 #[] #[])
  fields := #[]
  methods := #[]
  instanceTypes := #[]
  staticTypes := #[]
  resolved := Array.replicate 8 none
  statics := none }

/-- the primitive byte -/
def k5 : Class := { plain "byte" none with kind := .primitive 'B', accessFlags := 0x411 }
/-- [B -/
def k6 : Class := { plain "[B" (some 0) with kind := .array 5 .byte, interfaces := #[3, 4], accessFlags := 1041 }

/-- the primitive int -/
def k7 : Class := { plain "int" none with kind := .primitive 'I', accessFlags := 0x411 }
/-- [I -/
def k8 : Class := { plain "[I" (some 0) with kind := .array 7 .int, interfaces := #[3, 4], accessFlags := 1041 }

def heap : Heap := #[]
def classes : Array Class := #[k0, k1, k2, k3, k4, k5, k6, k7, k8]
def interned : List (Array UInt16 × Addr) := []
def slotsUsed : Nat := 0
def theMethod : MethodId := ⟨1, 1⟩
def args0 : Array Value := #[.int 1, .int 77, .int 4]
def aboutOver (below : List Frame) : State where
  vm := { classes := classes, interned := interned.toArray }
  heap := heap
  slotsUsed := slotsUsed
  threads := #[{ frames := .invoking theMethod args0 :: below }]
def below0 : List Frame := [.native { method := ⟨0, 0⟩, args := #[] }]
def about1 : State := aboutOver below0
def p0 : Program := .bare "" "" ""
def e0 : Env := launch0.env 0 0 0
theorem w_frames : about1.frames = Frame.invoking theMethod args0 :: below0 := rfl
set_option maxRecDepth 65536 in
theorem w_args : argsFit about1.vm theMethod args0 = true := by decide +kernel
set_option maxRecDepth 65536 in
theorem w_heap : heapFits about1 = true := by decide +kernel
set_option maxRecDepth 65536 in
theorem w_runnable : about1.curStatus? = some .runnable := by decide +kernel
set_option maxRecDepth 65536 in
theorem w_alone : about1.alone = true := by decide +kernel
set_option maxRecDepth 65536 in
theorem w_named : about1.methodNamed? x = some theMethod := by decide +kernel
set_option maxRecDepth 65536 in
theorem w_hears : about1.hears theMethod below0 = true := by decide +kernel
set_option maxRecDepth 65536 in
theorem w_ripe : about1.ripe theMethod args0 below0 = true := by decide +kernel
theorem w_running : about1.status = .running := rfl
set_option maxRecDepth 65536 in
theorem w_room : about1.hasRoom e0.platform room_1 = true :=
  launch0.hasRoom_least _ room_1 (by decide +kernel) (by decide +kernel) (by decide +kernel) (by decide +kernel) (by decide +kernel) (by decide +kernel)
theorem allAtoms_all (ts : List Jvm.Cond) (a : Array Jvm.Value) (st : Jvm.State) : (allAtoms ts).before a st = ts.all (fun c => c.before a st) := by
  induction ts with
  | nil => rfl
  | cons c t ih =>
    show (Jvm.Cond.and c (allAtoms t)).before a st = _
    rw [Jvm.Cond.before_and, ih, List.all_cons]
def words1 : List Jvm.Cond := Jvm.Cond.code x code maxLocals ret :: tables_1
/-- a 'code' word, met by the world's own term for the bytes: nothing is compared byte by byte -/
theorem code_word {y : MethodName} {bytes : ByteArray} {mx : Nat} {rt : Option FieldType} {a : Array Value} {s : State} {m : MethodId} {meth : Method} {c : Code} (h1 : s.methodNamed? y = some m) (h2 : s.vm.method? m = some meth) (h3 : meth.code = some c) (h4 : c.code = bytes)
    (h5 : (c.maxLocals == mx && c.exceptionTable.isEmpty && decide (c.maxStack ≤ mostOperands) && decide (meth.sig.returnType = rt) && !meth.locks && decide (parseMethodDescriptor y.desc = some meth.sig)) = true) : (Jvm.Cond.code y bytes mx rt).before a s = true := by
  simp only [Bool.and_eq_true, beq_iff_eq, Bool.not_eq_true', decide_eq_true_eq] at h5
  obtain ⟨⟨⟨⟨⟨g1, g2⟩, g3⟩, g4⟩, g5⟩, g6⟩ := h5
  simp [Cond.before, Cond.holds, Cond.value, h1, h2, h3, h4, g1, g2, g3, g4, g5, g6]
def isCode : Jvm.Cond → Bool
  | .code _ _ _ _ => true
  | _ => false
theorem all_split {L : List Jvm.Cond} {P : Jvm.Cond → Bool} (h1 : L.all (fun c => isCode c || P c) = true) (h2 : ∀ c ∈ L.filter isCode, P c = true) : L.all P = true := by
  refine List.all_eq_true.mpr fun c hc => ?_
  have h := List.all_eq_true.mp h1 c hc
  rcases Bool.eq_false_or_eq_true (isCode c) with hi | hi
  · exact h2 c (List.mem_filter.mpr ⟨hc, hi⟩)
  · simpa [hi] using h
set_option maxRecDepth 65536 in
theorem w_c0 : (Jvm.Cond.code x code maxLocals ret).before args0 about1 = true := code_word (m := ⟨1, 1⟩) (meth := k1m1) (c := k1c1) (by decide +kernel) rfl rfl rfl (by decide +kernel)
set_option maxRecDepth 65536 in
theorem w_c1 : (Jvm.Cond.code ({ cls := "com/example/lodestone/lodestone/storage/LogFormat", name := "holds", desc := "(BI)Z" } : Jvm.MethodName) prog_240_method_2_code (3 : Nat) (Option.some Jvm.ClassFile.FieldType.boolean)).before args0 about1 = true := code_word (m := ⟨2, 1⟩) (meth := k2m1) (c := k2c1) (by decide +kernel) rfl rfl rfl (by decide +kernel)
def codes1 : List Jvm.Cond := [Jvm.Cond.code x code maxLocals ret, Jvm.Cond.code ({ cls := "com/example/lodestone/lodestone/storage/LogFormat", name := "holds", desc := "(BI)Z" } : Jvm.MethodName) prog_240_method_2_code (3 : Nat) (Option.some Jvm.ClassFile.FieldType.boolean)]
set_option maxRecDepth 65536 in
theorem codes_eq : words1.filter isCode = codes1 := rfl
theorem w_codes : ∀ c ∈ words1.filter isCode, c.before args0 about1 = true := by
  rw [codes_eq]
  intro c hc
  simp only [codes1, List.mem_cons, List.not_mem_nil, or_false] at hc
  rcases hc with rfl | rfl
  · exact w_c0
  · exact w_c1
set_option maxRecDepth 65536 in
theorem w_t1 : words1.all (fun c => isCode c || c.before args0 about1) = true := by decide +kernel
theorem w_tables : (allAtoms (Jvm.Cond.code x code maxLocals ret :: tables_1)).before args0 about1 = true := by
  rw [allAtoms_all]
  show words1.all (fun c => c.before args0 about1) = true
  refine all_split ?_ w_codes
  rw [w_t1]
set_option maxRecDepth 65536 in
theorem w_case : (Jvm.Cond.and given_1 narrow_1).before args0 about1 = true := by decide +kernel
theorem w_applies : (headSpec (Jvm.Cond.code x code maxLocals ret :: tables_1) room_1).applies x e0.platform about1 = true :=
  (Spec.applies_iff w_frames).mpr ⟨w_running, w_runnable, w_alone, w_named, w_hears, w_ripe, w_room, w_tables⟩
theorem atStart : AtStart classFile x code maxLocals ret World_1 tables_1 room_1 Calls_1 rest_1 Pre_1 launch0 p0 e0 about1 theMethod args0 below0 :=
  ⟨lists_1, trivial, launch0.admits_env _ _ _, launch0.least_env, fairChoices_fair.cas, fairChoices_fair.clock, w_frames, w_args, w_heap, w_applies, trivial, trivial, w_case⟩
end start1
theorem witness_1 : WitnessClaimed_1 := ⟨start1.p0, start1.e0, start1.about1, start1.theMethod, start1.args0, start1.below0, start1.atStart⟩
end Jvm.Pilot.@@N@@
