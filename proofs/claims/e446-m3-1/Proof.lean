import JvmDerived
import JvmDerived.Pilot.@@N@@Statement
import JvmDerived.Pilot.@@N@@Code
set_option linter.unusedVariables false
set_option linter.unusedSimpArgs false
@@BLOCK:NumsL.lean.txt@@
namespace Jvm.RoadKit
open Sem ClassFile Op Lib Jvm.Stand Jvm.Free Jvm.LawKit
section New
variable {p : Program} {l : Launch} {e : Env} {R : Room} {s : State} {m : MethodId} {args : Array Value} {below : List Frame} {meth : Method} {c : Code} {T : State} {locs : List Loc} {cells slots : Nat}
theorem retI (X : Stand p l e R s m args below meth c T locs cells slots) (hx : p.tables.exec = Jvm.exec) {pc : Nat} {Ls : Array Slot} {z : Int32} {rest : List Value} (hret : meth.sig.returnType = some .int) (hd : decode c.code pc = .ok (.ireturn, 1)) {fs : List Frame}
    (hl : ∀ (f : JFrame) (acts : List Action), f.method = m → f.locked = none → f.entered = [] → (doReturn e (T.setTop f) acts (some (.int z))).1 = T.setFrames fs) : Steps p.tables e below (T.setTop (mkF m pc Ls (.int z :: rest))) (T.setFrames fs) := by
  have hm' : T.vm.method? m = some meth := X.method'
  have hn : narrow .int (.int z) = .int z := rfl
  show Steps p.tables e below (T.setTop { method := m, pc := pc, locals := Ls, stack := _ :: rest, locked := none }) _
  jvm_step X.here [X.here.top, hx, hd, hm', hret, hn]
  first | (intro acts; rw [hl _ acts rfl rfl rfl]) | rw [hl _ _ rfl rfl rfl]
  exact Steps.refl _
end New
end Jvm.RoadKit
namespace Jvm.Pilot.@@N@@
open Jvm Jvm.ClassFile Sem Op Lib Jvm.Free Jvm.Stand Jvm.LawKit Jvm.RoadKit Bundle Jvm.Pilot.@@N@@.Jvm.D
theorem own_pos (x : Int32) : 0 ≤ (x &&& (2147483647 : Int32)).toInt := by
  rw [Jvm.Kit.i32_mask x 2147483647 (k := 31) (by decide) (by decide)]; omega
theorem own_idx (x y : Int32) (hy : 0 < y.toInt) : ¬ ((x &&& (2147483647 : Int32)) % y) < 0 ∧ ((x &&& (2147483647 : Int32)) % y) < y := by
  rw [Int32.lt_iff_toInt_lt, Int32.lt_iff_toInt_lt, Jvm.Kit.i32_rem_nonneg (own_pos x), Int32.toInt_zero]
  have a := Int.emod_nonneg (x &&& (2147483647 : Int32)).toInt (show y.toInt ≠ 0 by omega)
  have b := Int.emod_lt_of_pos (x &&& (2147483647 : Int32)).toInt hy
  omega
/-- the nine constants: each static holds its object, which is exactly of its class -/
def own_all (Z : State) (h : Heap) : List (String × String × Addr) → Prop
  | [] => True
  | (n, C, a) :: r => (Sta Z h "com/example/lodestone/lodestone/sql/DataType" n "Lcom/example/lodestone/lodestone/sql/DataType;" (.ref a) ∧ Exa Z h a C) ∧ own_all Z h r
theorem own_all.ext {Z : State} {h h' : Heap} (E : Ext h h') : ∀ ls, own_all Z h ls → own_all Z h' ls
  | [], _ => trivial
  | (n, C, a) :: r, q => ⟨⟨Sta.ext E q.1.1, Exa.ext E q.1.2⟩, own_all.ext E r q.2⟩
theorem own_all.wr {Z : State} {h h' : Heap} {b : Addr} {sl : Nat} {v : Value} (W : Wr h h' b sl v) : ∀ ls, own_all Z h ls → own_all Z h' ls
  | [], _ => trivial
  | (n, C, a) :: r, q => ⟨⟨Sta.wr W q.1.1, Exa.wr W q.1.2⟩, own_all.wr W r q.2⟩
section Own
variable {p : Program} {l : Launch} {e : Env} {R : Room} {s : State} {m : MethodId} {args : Array Value} {below : List Frame} {meth : Method} {c : Code} {T : State} {locs : List Loc} {cells slots : Nat} {Z : State}
def own_St (Z : State) (n0 : Nat) (h : Heap) (L : List Loc) (b : Addr) (k : ClassId) (vs : List Value) (ls : List (String × String × Addr)) : Prop :=
  Fr n0 L ∧ n0 ≤ b ∧ n0 ≤ h.size ∧ Arv Z h b k (.object "com/example/lodestone/lodestone/sql/DataType") (9 : Int32) vs .null ∧ vs.length = 9 ∧ Ovr Z k "com/example/lodestone/lodestone/sql/DataType" ∧ own_all Z h ls
theorem own_put (X : Stand p l e R s m args below meth c T locs cells slots) (hx : p.tables.exec = Jvm.exec) (hZ : Z.Warmed39 s.vm) {own : String} (hown : s.vm.findClass own = some m.cls) {a0 : Array Value} {index : Nat} {n C : String} {a : Addr} (w : (Cond.fieldLink own index "com/example/lodestone/lodestone/sql/DataType" n "Lcom/example/lodestone/lodestone/sql/DataType;").before a0 Z = true) (wc : (Cond.castable C "com/example/lodestone/lodestone/sql/DataType").before a0 Z = true)
    {n0 : Nat} {b : Addr} {k : ClassId} {vs : List Value} {ls : List (String × String × Addr)} (I : own_St Z n0 T.heap locs b k vs ls) (F : Sta Z T.heap "com/example/lodestone/lodestone/sql/DataType" n "Lcom/example/lodestone/lodestone/sql/DataType;" (.ref a) ∧ Exa Z T.heap a C) {j : Int32} (hj : ¬ j < 0 ∧ j < 9) {g : JFrame} (hg : g.method = m) {rest : List Value} (hs : g.stack = .int j :: .ref b :: rest) (hd1 : decode c.code g.pc = .ok (.getstatic index, 3)) (hd2 : decode c.code (g.pc + 3) = .ok (.aastore, 1)) :
    ∃ T' L', Stand p l e R s m args below meth c T' L' cells slots ∧ own_St Z n0 T'.heap L' b k (vs.set j.toNatClampNeg (.ref a)) ls ∧ ∀ target, Steps p.tables e below (T'.setTop { g with pc := g.pc + 4, stack := rest }) target → Steps p.tables e below (T.setTop g) target := by
  obtain ⟨T1, X1, e1, st1⟩ := getS2 X hx hZ hown (host := "") (Or.inl w) Via.refl rfl F.1 hg hd1
  obtain ⟨N, hb, hz, ⟨cl, A, q, S, Nn, H, G⟩, hl, O, Al⟩ := I
  have hin : ¬ (j < 0 ∨ cl.slots.size ≤ j.toNatClampNeg) := inb_of S hj
  have sto : Sto Z T.heap b (.ref a) := Sto.ofV A q O (Ins.of_exa F.2 wc)
  obtain ⟨T2, h2, X2, e2, W2, st2⟩ := stR X1 hx hZ e1 A (j := j) hin rfl sto (g := { g with pc := g.pc + 3, stack := .ref a :: g.stack }) hg (rest := rest) (by show Value.ref a :: g.stack = _; rw [hs]) hd2
  have lt : j.toNatClampNeg < vs.length := by rw [hl, ← show cl.slots.size = 9 from S]; exact Nat.lt_of_not_le fun q => hin (Or.inr q)
  have V := Arv.set A q S Nn H G rfl W2 j.toNatClampNeg rfl lt
  exact ⟨T2, _, X2, ⟨Fr.snoc X2 N hb, hb, by rw [e2, W2.size]; exact hz, by rw [e2]; exact V, by rw [List.length_set]; exact hl, O, by rw [e2]; exact own_all.wr W2 ls Al⟩, fun t k => st1 t (st2 t k)⟩
theorem own_start {Z : State} {args : Array Value} {n C : String} (hx : (Cond.exactly (Term.static "com/example/lodestone/lodestone/sql/DataType" n "Lcom/example/lodestone/lodestone/sql/DataType;") C).value args Z none Z [] = some true) (hi : (Cond.initialized "com/example/lodestone/lodestone/sql/DataType").before args Z = true) (hl : (Cond.laysStatic "com/example/lodestone/lodestone/sql/DataType" n "Lcom/example/lodestone/lodestone/sql/DataType;").before args Z = true) : ∃ a, Sta Z Z.heap "com/example/lodestone/lodestone/sql/DataType" n "Lcom/example/lodestone/lodestone/sql/DataType;" (.ref a) ∧ Exa Z Z.heap a C := by
  obtain ⟨a', c', cell, k, e1, -⟩ := Cond.exactly_spec (Cond.before_iff.mpr hx)
  exact ⟨a', Sta.start e1 (Or.inr ⟨hi, hl⟩), Exa.start e1 hx⟩
end Own
theorem own_nine (k : Int32) (h : ¬ k < 0 ∧ k < 9) : k = 0 ∨ k = 1 ∨ k = 2 ∨ k = 3 ∨ k = 4 ∨ k = 5 ∨ k = 6 ∨ k = 7 ∨ k = 8 := by
  simp only [Int32.lt_iff_toInt_lt, ← Int32.toInt_inj, Int32.reduceToInt] at h ⊢
  omega
theorem d1_0 : decode prog_152_method_10_code 0 = .ok (.aload_n 0, 1) := by decide +kernel
theorem d1_1 : decode prog_152_method_10_code 1 = .ok (.getstatic 3, 3) := by decide +kernel
theorem d1_4 : decode prog_152_method_10_code 4 = .ok (.if_acmp .eq 24, 3) := by decide +kernel
theorem d1_28 : decode prog_152_method_10_code 28 = .ok (.iconst 1, 1) := by decide +kernel
theorem d1_29 : decode prog_152_method_10_code 29 = .ok (.goto 4, 3) := by decide +kernel
theorem d1_33 : decode prog_152_method_10_code 33 = .ok (.ireturn, 1) := by decide +kernel
theorem pn_1 : plainName "com/example/lodestone/lodestone/sql/DataType" = true := by first | (simp [plainName, overriddenIn]; done) | decide +kernel
theorem ef_1 (m : MethodId) (x0 : Addr) : entryFrame m #[(.ref x0)] 1 = mkF m 0 #[.val (.ref x0)] [] := by first | (simp [entryFrame, mkF, argsToLocals, Value.category]; done) | rfl
theorem d1_7 : decode prog_152_method_10_code 7 = .ok (.aload_n 0, 1) := by decide +kernel
theorem d1_8 : decode prog_152_method_10_code 8 = .ok (.getstatic 7, 3) := by decide +kernel
theorem d1_11 : decode prog_152_method_10_code 11 = .ok (.if_acmp .eq 17, 3) := by decide +kernel
theorem d1_14 : decode prog_152_method_10_code 14 = .ok (.aload_n 0, 1) := by decide +kernel
theorem d1_15 : decode prog_152_method_10_code 15 = .ok (.getstatic 10, 3) := by decide +kernel
theorem d1_18 : decode prog_152_method_10_code 18 = .ok (.if_acmp .eq 10, 3) := by decide +kernel
theorem d1_21 : decode prog_152_method_10_code 21 = .ok (.aload_n 0, 1) := by decide +kernel
theorem d1_22 : decode prog_152_method_10_code 22 = .ok (.getstatic 13, 3) := by decide +kernel
theorem d1_25 : decode prog_152_method_10_code 25 = .ok (.if_acmp .ne 7, 3) := by decide +kernel
theorem d1_32 : decode prog_152_method_10_code 32 = .ok (.iconst 0, 1) := by decide +kernel
def Q1 (r : Int32) (h0 : Heap) (n0 : Nat) (v : Option Value) (h : Heap) (L : List Loc) : Prop := v = some (.int r) ∧ Fr n0 L ∧ h = h0
set_option maxRecDepth 65536 in
set_option maxHeartbeats 40000000 in
theorem rm1_0 (l : Launch) (Z : State) (a0 : Array Value) (hw : ∀ d ∈ tables_1, d.before a0 Z = true) (ws : List Jvm.Cond) (a1 : Addr) (w2 : Addr) (h0 : Heap) (n0 : Nat) (Z0 : n0 ≤ h0.size) (S_INTEGER : Sta Z h0 "com/example/lodestone/lodestone/sql/DataType" "INTEGER" "Lcom/example/lodestone/lodestone/sql/DataType;" (.ref w2)) (ha4 : a1 = w2) :
    MetFree l (⟨"com/example/lodestone/lodestone/sql/DataType", "isNumeric", "()Z"⟩ : MethodName) (head1 (Jvm.Cond.code (⟨"com/example/lodestone/lodestone/sql/DataType", "isNumeric", "()Z"⟩ : MethodName) prog_152_method_10_code 1 (some .boolean) :: ws) ({ frames := 0, cells := 0, slots := 0, locals := 0 } : Room)) (fun a U => a = #[(.ref a1)] ∧ Z.Warmed39 U.vm ∧ U.heap = h0) (fun _ _ _ _ _ => True) (fun _ U o U' => ∃ v L, o = .returned v ∧ Q1 (1 : Int32) h0 n0 v U'.heap L ∧ FrameEnd U o U' L ({ frames := 0, cells := 0, slots := 0, locals := 0 } : Room).cells ({ frames := 0, cells := 0, slots := 0, locals := 0 } : Room).slots) := by
  refine MetFree.of_bodySF (plainFor_of_name pn_1) hisR ?_
  intro p e s m args below meth c s₁ Bd hml0 hP hK
  obtain ⟨rfl, hZ, hh⟩ := hP
  have hx := Bd.exec
  have hby := Bd.bytes
  have hml : c.maxLocals = 1 := hml0
  have hown : s.vm.findClass "com/example/lodestone/lodestone/sql/DataType" = some m.cls := findClass_of_methodNamed Bd.named
  have hnm := (name_of_methodNamed Bd.named Bd.method).1
  have X0 : Stand p l e ({ frames := 0, cells := 0, slots := 0, locals := 0 } : Room) s m #[(.ref a1)] below meth c s₁ [] 0 0 := Stand.of_body Bd
  have e0 : s₁.heap = h0 := by rw [← hh, Bd.state]; rfl
  have N0 := Fr.nil n0
  have pre0 : ∀ t, Steps p.tables e below (s₁.setTop (mkF m 0 #[.val (.ref a1)] [])) t → Steps p.tables e below (s₁.setTop (entryFrame m #[(.ref a1)] 1)) t := fun t k => castTop (ef_1 m a1) k
  obtain ⟨T3, X3, e3, st3⟩ := getS2 X0 hx hZ hown (host := "") (Or.inl (hw _ (List.mem_of_getElem? (i := 34) rfl))) Via.refl e0 S_INTEGER (g := (mkF m 1 #[.val (.ref a1)] [(.ref a1)])) rfl (hb hby d1_1)
  obtain ⟨fs, hr, hrun, hended, hW, hsame⟩ := X3.leave (v := some (.int (1 : Int32))) (fun h => by rw [Bd.returns] at h; cases h)
  refine ⟨_, _, pre0 _ ?_, hrun, hended, _, _, rfl, ?_, ⟨_, rfl⟩, hW, hsame.mono (by decide) (by decide)⟩
  · show Steps p.tables e below (s₁.setTop (mkF m 0 #[.val (.ref a1)] [])) _
    refine XS.aloadN X0.here hx rfl (hb hby d1_0) rfl rfl ?_
    show Steps p.tables e below (s₁.setTop (mkF m 1 #[.val (.ref a1)] [(.ref a1)])) _
    refine st3 _ ?_
    show Steps p.tables e below (T3.setTop (mkF m 4 #[.val (.ref a1)] [(.ref w2), (.ref a1)])) _
    refine Jvm.RoadKit.acmp (g := (mkF m 4 #[.val (.ref a1)] [(.ref w2), (.ref a1)])) X3 hx rfl rfl rfl (pc0 := 4) (pc' := 28) (same := true) rfl (hb hby d1_4) rfl (decide_eq_true (congrArg Value.ref ha4)) (by decide) (by decide) ?_
    show Steps p.tables e below (T3.setTop (mkF m 28 #[.val (.ref a1)] [])) _
    refine XS.iconst X3.here hx rfl (hb hby d1_28) ?_
    show Steps p.tables e below (T3.setTop (mkF m 29 #[.val (.ref a1)] [(.int (1 : Int32))])) _
    refine XS.goto X3.here hx rfl (pc0 := 29) (pc' := 33) rfl (hb hby d1_29) (by decide) (by decide) ?_
    show Steps p.tables e below (T3.setTop (mkF m 33 #[.val (.ref a1)] [(.int (1 : Int32))])) _
    exact retN X3 hx (t := .boolean) Bd.returns (by simp) (hb hby d1_33) hr
  · show Q1 (1 : Int32) h0 n0 _ T3.heap _
    rw [e3]
    exact ⟨rfl, N0, rfl⟩
set_option maxRecDepth 65536 in
set_option maxHeartbeats 40000000 in
theorem rm1_1 (l : Launch) (Z : State) (a0 : Array Value) (hw : ∀ d ∈ tables_1, d.before a0 Z = true) (ws : List Jvm.Cond) (a1 : Addr) (w2 : Addr) (w4 : Addr) (h0 : Heap) (n0 : Nat) (Z0 : n0 ≤ h0.size) (S_INTEGER : Sta Z h0 "com/example/lodestone/lodestone/sql/DataType" "INTEGER" "Lcom/example/lodestone/lodestone/sql/DataType;" (.ref w2)) (S_BIGINT : Sta Z h0 "com/example/lodestone/lodestone/sql/DataType" "BIGINT" "Lcom/example/lodestone/lodestone/sql/DataType;" (.ref w4)) (ha4 : ¬ (a1 = w2)) (ha11 : a1 = w4) :
    MetFree l (⟨"com/example/lodestone/lodestone/sql/DataType", "isNumeric", "()Z"⟩ : MethodName) (head1 (Jvm.Cond.code (⟨"com/example/lodestone/lodestone/sql/DataType", "isNumeric", "()Z"⟩ : MethodName) prog_152_method_10_code 1 (some .boolean) :: ws) ({ frames := 0, cells := 0, slots := 0, locals := 0 } : Room)) (fun a U => a = #[(.ref a1)] ∧ Z.Warmed39 U.vm ∧ U.heap = h0) (fun _ _ _ _ _ => True) (fun _ U o U' => ∃ v L, o = .returned v ∧ Q1 (1 : Int32) h0 n0 v U'.heap L ∧ FrameEnd U o U' L ({ frames := 0, cells := 0, slots := 0, locals := 0 } : Room).cells ({ frames := 0, cells := 0, slots := 0, locals := 0 } : Room).slots) := by
  refine MetFree.of_bodySF (plainFor_of_name pn_1) hisR ?_
  intro p e s m args below meth c s₁ Bd hml0 hP hK
  obtain ⟨rfl, hZ, hh⟩ := hP
  have hx := Bd.exec
  have hby := Bd.bytes
  have hml : c.maxLocals = 1 := hml0
  have hown : s.vm.findClass "com/example/lodestone/lodestone/sql/DataType" = some m.cls := findClass_of_methodNamed Bd.named
  have hnm := (name_of_methodNamed Bd.named Bd.method).1
  have X0 : Stand p l e ({ frames := 0, cells := 0, slots := 0, locals := 0 } : Room) s m #[(.ref a1)] below meth c s₁ [] 0 0 := Stand.of_body Bd
  have e0 : s₁.heap = h0 := by rw [← hh, Bd.state]; rfl
  have N0 := Fr.nil n0
  have pre0 : ∀ t, Steps p.tables e below (s₁.setTop (mkF m 0 #[.val (.ref a1)] [])) t → Steps p.tables e below (s₁.setTop (entryFrame m #[(.ref a1)] 1)) t := fun t k => castTop (ef_1 m a1) k
  obtain ⟨T3, X3, e3, st3⟩ := getS2 X0 hx hZ hown (host := "") (Or.inl (hw _ (List.mem_of_getElem? (i := 34) rfl))) Via.refl e0 S_INTEGER (g := (mkF m 1 #[.val (.ref a1)] [(.ref a1)])) rfl (hb hby d1_1)
  obtain ⟨T5, X5, e5, st5⟩ := getS2 X3 hx hZ hown (host := "") (Or.inl (hw _ (List.mem_of_getElem? (i := 36) rfl))) Via.refl e3 S_BIGINT (g := (mkF m 8 #[.val (.ref a1)] [(.ref a1)])) rfl (hb hby d1_8)
  obtain ⟨fs, hr, hrun, hended, hW, hsame⟩ := X5.leave (v := some (.int (1 : Int32))) (fun h => by rw [Bd.returns] at h; cases h)
  refine ⟨_, _, pre0 _ ?_, hrun, hended, _, _, rfl, ?_, ⟨_, rfl⟩, hW, hsame.mono (by decide) (by decide)⟩
  · show Steps p.tables e below (s₁.setTop (mkF m 0 #[.val (.ref a1)] [])) _
    refine XS.aloadN X0.here hx rfl (hb hby d1_0) rfl rfl ?_
    show Steps p.tables e below (s₁.setTop (mkF m 1 #[.val (.ref a1)] [(.ref a1)])) _
    refine st3 _ ?_
    show Steps p.tables e below (T3.setTop (mkF m 4 #[.val (.ref a1)] [(.ref w2), (.ref a1)])) _
    refine Jvm.RoadKit.acmp (g := (mkF m 4 #[.val (.ref a1)] [(.ref w2), (.ref a1)])) X3 hx rfl rfl rfl (pc0 := 4) (pc' := 7) (same := false) rfl (hb hby d1_4) rfl (decide_eq_false fun q => ha4 (Value.ref.inj q)) (by decide) (by decide) ?_
    show Steps p.tables e below (T3.setTop (mkF m 7 #[.val (.ref a1)] [])) _
    refine XS.aloadN X3.here hx rfl (hb hby d1_7) rfl rfl ?_
    show Steps p.tables e below (T3.setTop (mkF m 8 #[.val (.ref a1)] [(.ref a1)])) _
    refine st5 _ ?_
    show Steps p.tables e below (T5.setTop (mkF m 11 #[.val (.ref a1)] [(.ref w4), (.ref a1)])) _
    refine Jvm.RoadKit.acmp (g := (mkF m 11 #[.val (.ref a1)] [(.ref w4), (.ref a1)])) X5 hx rfl rfl rfl (pc0 := 11) (pc' := 28) (same := true) rfl (hb hby d1_11) rfl (decide_eq_true (congrArg Value.ref ha11)) (by decide) (by decide) ?_
    show Steps p.tables e below (T5.setTop (mkF m 28 #[.val (.ref a1)] [])) _
    refine XS.iconst X5.here hx rfl (hb hby d1_28) ?_
    show Steps p.tables e below (T5.setTop (mkF m 29 #[.val (.ref a1)] [(.int (1 : Int32))])) _
    refine XS.goto X5.here hx rfl (pc0 := 29) (pc' := 33) rfl (hb hby d1_29) (by decide) (by decide) ?_
    show Steps p.tables e below (T5.setTop (mkF m 33 #[.val (.ref a1)] [(.int (1 : Int32))])) _
    exact retN X5 hx (t := .boolean) Bd.returns (by simp) (hb hby d1_33) hr
  · show Q1 (1 : Int32) h0 n0 _ T5.heap _
    rw [e5]
    exact ⟨rfl, N0, rfl⟩
set_option maxRecDepth 65536 in
set_option maxHeartbeats 40000000 in
theorem rm1_2 (l : Launch) (Z : State) (a0 : Array Value) (hw : ∀ d ∈ tables_1, d.before a0 Z = true) (ws : List Jvm.Cond) (a1 : Addr) (w2 : Addr) (w4 : Addr) (w6 : Addr) (h0 : Heap) (n0 : Nat) (Z0 : n0 ≤ h0.size) (S_INTEGER : Sta Z h0 "com/example/lodestone/lodestone/sql/DataType" "INTEGER" "Lcom/example/lodestone/lodestone/sql/DataType;" (.ref w2)) (S_BIGINT : Sta Z h0 "com/example/lodestone/lodestone/sql/DataType" "BIGINT" "Lcom/example/lodestone/lodestone/sql/DataType;" (.ref w4)) (S_DECIMAL : Sta Z h0 "com/example/lodestone/lodestone/sql/DataType" "DECIMAL" "Lcom/example/lodestone/lodestone/sql/DataType;" (.ref w6)) (ha4 : ¬ (a1 = w2)) (ha11 : ¬ (a1 = w4)) (ha18 : a1 = w6) :
    MetFree l (⟨"com/example/lodestone/lodestone/sql/DataType", "isNumeric", "()Z"⟩ : MethodName) (head1 (Jvm.Cond.code (⟨"com/example/lodestone/lodestone/sql/DataType", "isNumeric", "()Z"⟩ : MethodName) prog_152_method_10_code 1 (some .boolean) :: ws) ({ frames := 0, cells := 0, slots := 0, locals := 0 } : Room)) (fun a U => a = #[(.ref a1)] ∧ Z.Warmed39 U.vm ∧ U.heap = h0) (fun _ _ _ _ _ => True) (fun _ U o U' => ∃ v L, o = .returned v ∧ Q1 (1 : Int32) h0 n0 v U'.heap L ∧ FrameEnd U o U' L ({ frames := 0, cells := 0, slots := 0, locals := 0 } : Room).cells ({ frames := 0, cells := 0, slots := 0, locals := 0 } : Room).slots) := by
  refine MetFree.of_bodySF (plainFor_of_name pn_1) hisR ?_
  intro p e s m args below meth c s₁ Bd hml0 hP hK
  obtain ⟨rfl, hZ, hh⟩ := hP
  have hx := Bd.exec
  have hby := Bd.bytes
  have hml : c.maxLocals = 1 := hml0
  have hown : s.vm.findClass "com/example/lodestone/lodestone/sql/DataType" = some m.cls := findClass_of_methodNamed Bd.named
  have hnm := (name_of_methodNamed Bd.named Bd.method).1
  have X0 : Stand p l e ({ frames := 0, cells := 0, slots := 0, locals := 0 } : Room) s m #[(.ref a1)] below meth c s₁ [] 0 0 := Stand.of_body Bd
  have e0 : s₁.heap = h0 := by rw [← hh, Bd.state]; rfl
  have N0 := Fr.nil n0
  have pre0 : ∀ t, Steps p.tables e below (s₁.setTop (mkF m 0 #[.val (.ref a1)] [])) t → Steps p.tables e below (s₁.setTop (entryFrame m #[(.ref a1)] 1)) t := fun t k => castTop (ef_1 m a1) k
  obtain ⟨T3, X3, e3, st3⟩ := getS2 X0 hx hZ hown (host := "") (Or.inl (hw _ (List.mem_of_getElem? (i := 34) rfl))) Via.refl e0 S_INTEGER (g := (mkF m 1 #[.val (.ref a1)] [(.ref a1)])) rfl (hb hby d1_1)
  obtain ⟨T5, X5, e5, st5⟩ := getS2 X3 hx hZ hown (host := "") (Or.inl (hw _ (List.mem_of_getElem? (i := 36) rfl))) Via.refl e3 S_BIGINT (g := (mkF m 8 #[.val (.ref a1)] [(.ref a1)])) rfl (hb hby d1_8)
  obtain ⟨T7, X7, e7, st7⟩ := getS2 X5 hx hZ hown (host := "") (Or.inl (hw _ (List.mem_of_getElem? (i := 37) rfl))) Via.refl e5 S_DECIMAL (g := (mkF m 15 #[.val (.ref a1)] [(.ref a1)])) rfl (hb hby d1_15)
  obtain ⟨fs, hr, hrun, hended, hW, hsame⟩ := X7.leave (v := some (.int (1 : Int32))) (fun h => by rw [Bd.returns] at h; cases h)
  refine ⟨_, _, pre0 _ ?_, hrun, hended, _, _, rfl, ?_, ⟨_, rfl⟩, hW, hsame.mono (by decide) (by decide)⟩
  · show Steps p.tables e below (s₁.setTop (mkF m 0 #[.val (.ref a1)] [])) _
    refine XS.aloadN X0.here hx rfl (hb hby d1_0) rfl rfl ?_
    show Steps p.tables e below (s₁.setTop (mkF m 1 #[.val (.ref a1)] [(.ref a1)])) _
    refine st3 _ ?_
    show Steps p.tables e below (T3.setTop (mkF m 4 #[.val (.ref a1)] [(.ref w2), (.ref a1)])) _
    refine Jvm.RoadKit.acmp (g := (mkF m 4 #[.val (.ref a1)] [(.ref w2), (.ref a1)])) X3 hx rfl rfl rfl (pc0 := 4) (pc' := 7) (same := false) rfl (hb hby d1_4) rfl (decide_eq_false fun q => ha4 (Value.ref.inj q)) (by decide) (by decide) ?_
    show Steps p.tables e below (T3.setTop (mkF m 7 #[.val (.ref a1)] [])) _
    refine XS.aloadN X3.here hx rfl (hb hby d1_7) rfl rfl ?_
    show Steps p.tables e below (T3.setTop (mkF m 8 #[.val (.ref a1)] [(.ref a1)])) _
    refine st5 _ ?_
    show Steps p.tables e below (T5.setTop (mkF m 11 #[.val (.ref a1)] [(.ref w4), (.ref a1)])) _
    refine Jvm.RoadKit.acmp (g := (mkF m 11 #[.val (.ref a1)] [(.ref w4), (.ref a1)])) X5 hx rfl rfl rfl (pc0 := 11) (pc' := 14) (same := false) rfl (hb hby d1_11) rfl (decide_eq_false fun q => ha11 (Value.ref.inj q)) (by decide) (by decide) ?_
    show Steps p.tables e below (T5.setTop (mkF m 14 #[.val (.ref a1)] [])) _
    refine XS.aloadN X5.here hx rfl (hb hby d1_14) rfl rfl ?_
    show Steps p.tables e below (T5.setTop (mkF m 15 #[.val (.ref a1)] [(.ref a1)])) _
    refine st7 _ ?_
    show Steps p.tables e below (T7.setTop (mkF m 18 #[.val (.ref a1)] [(.ref w6), (.ref a1)])) _
    refine Jvm.RoadKit.acmp (g := (mkF m 18 #[.val (.ref a1)] [(.ref w6), (.ref a1)])) X7 hx rfl rfl rfl (pc0 := 18) (pc' := 28) (same := true) rfl (hb hby d1_18) rfl (decide_eq_true (congrArg Value.ref ha18)) (by decide) (by decide) ?_
    show Steps p.tables e below (T7.setTop (mkF m 28 #[.val (.ref a1)] [])) _
    refine XS.iconst X7.here hx rfl (hb hby d1_28) ?_
    show Steps p.tables e below (T7.setTop (mkF m 29 #[.val (.ref a1)] [(.int (1 : Int32))])) _
    refine XS.goto X7.here hx rfl (pc0 := 29) (pc' := 33) rfl (hb hby d1_29) (by decide) (by decide) ?_
    show Steps p.tables e below (T7.setTop (mkF m 33 #[.val (.ref a1)] [(.int (1 : Int32))])) _
    exact retN X7 hx (t := .boolean) Bd.returns (by simp) (hb hby d1_33) hr
  · show Q1 (1 : Int32) h0 n0 _ T7.heap _
    rw [e7]
    exact ⟨rfl, N0, rfl⟩
set_option maxRecDepth 65536 in
set_option maxHeartbeats 40000000 in
theorem rm1_3 (l : Launch) (Z : State) (a0 : Array Value) (hw : ∀ d ∈ tables_1, d.before a0 Z = true) (ws : List Jvm.Cond) (a1 : Addr) (w2 : Addr) (w4 : Addr) (w6 : Addr) (w8 : Addr) (h0 : Heap) (n0 : Nat) (Z0 : n0 ≤ h0.size) (S_INTEGER : Sta Z h0 "com/example/lodestone/lodestone/sql/DataType" "INTEGER" "Lcom/example/lodestone/lodestone/sql/DataType;" (.ref w2)) (S_BIGINT : Sta Z h0 "com/example/lodestone/lodestone/sql/DataType" "BIGINT" "Lcom/example/lodestone/lodestone/sql/DataType;" (.ref w4)) (S_DECIMAL : Sta Z h0 "com/example/lodestone/lodestone/sql/DataType" "DECIMAL" "Lcom/example/lodestone/lodestone/sql/DataType;" (.ref w6)) (S_DOUBLE : Sta Z h0 "com/example/lodestone/lodestone/sql/DataType" "DOUBLE" "Lcom/example/lodestone/lodestone/sql/DataType;" (.ref w8)) (ha4 : ¬ (a1 = w2)) (ha11 : ¬ (a1 = w4)) (ha18 : ¬ (a1 = w6)) (ha25 : a1 = w8) :
    MetFree l (⟨"com/example/lodestone/lodestone/sql/DataType", "isNumeric", "()Z"⟩ : MethodName) (head1 (Jvm.Cond.code (⟨"com/example/lodestone/lodestone/sql/DataType", "isNumeric", "()Z"⟩ : MethodName) prog_152_method_10_code 1 (some .boolean) :: ws) ({ frames := 0, cells := 0, slots := 0, locals := 0 } : Room)) (fun a U => a = #[(.ref a1)] ∧ Z.Warmed39 U.vm ∧ U.heap = h0) (fun _ _ _ _ _ => True) (fun _ U o U' => ∃ v L, o = .returned v ∧ Q1 (1 : Int32) h0 n0 v U'.heap L ∧ FrameEnd U o U' L ({ frames := 0, cells := 0, slots := 0, locals := 0 } : Room).cells ({ frames := 0, cells := 0, slots := 0, locals := 0 } : Room).slots) := by
  refine MetFree.of_bodySF (plainFor_of_name pn_1) hisR ?_
  intro p e s m args below meth c s₁ Bd hml0 hP hK
  obtain ⟨rfl, hZ, hh⟩ := hP
  have hx := Bd.exec
  have hby := Bd.bytes
  have hml : c.maxLocals = 1 := hml0
  have hown : s.vm.findClass "com/example/lodestone/lodestone/sql/DataType" = some m.cls := findClass_of_methodNamed Bd.named
  have hnm := (name_of_methodNamed Bd.named Bd.method).1
  have X0 : Stand p l e ({ frames := 0, cells := 0, slots := 0, locals := 0 } : Room) s m #[(.ref a1)] below meth c s₁ [] 0 0 := Stand.of_body Bd
  have e0 : s₁.heap = h0 := by rw [← hh, Bd.state]; rfl
  have N0 := Fr.nil n0
  have pre0 : ∀ t, Steps p.tables e below (s₁.setTop (mkF m 0 #[.val (.ref a1)] [])) t → Steps p.tables e below (s₁.setTop (entryFrame m #[(.ref a1)] 1)) t := fun t k => castTop (ef_1 m a1) k
  obtain ⟨T3, X3, e3, st3⟩ := getS2 X0 hx hZ hown (host := "") (Or.inl (hw _ (List.mem_of_getElem? (i := 34) rfl))) Via.refl e0 S_INTEGER (g := (mkF m 1 #[.val (.ref a1)] [(.ref a1)])) rfl (hb hby d1_1)
  obtain ⟨T5, X5, e5, st5⟩ := getS2 X3 hx hZ hown (host := "") (Or.inl (hw _ (List.mem_of_getElem? (i := 36) rfl))) Via.refl e3 S_BIGINT (g := (mkF m 8 #[.val (.ref a1)] [(.ref a1)])) rfl (hb hby d1_8)
  obtain ⟨T7, X7, e7, st7⟩ := getS2 X5 hx hZ hown (host := "") (Or.inl (hw _ (List.mem_of_getElem? (i := 37) rfl))) Via.refl e5 S_DECIMAL (g := (mkF m 15 #[.val (.ref a1)] [(.ref a1)])) rfl (hb hby d1_15)
  obtain ⟨T9, X9, e9, st9⟩ := getS2 X7 hx hZ hown (host := "") (Or.inl (hw _ (List.mem_of_getElem? (i := 38) rfl))) Via.refl e7 S_DOUBLE (g := (mkF m 22 #[.val (.ref a1)] [(.ref a1)])) rfl (hb hby d1_22)
  obtain ⟨fs, hr, hrun, hended, hW, hsame⟩ := X9.leave (v := some (.int (1 : Int32))) (fun h => by rw [Bd.returns] at h; cases h)
  refine ⟨_, _, pre0 _ ?_, hrun, hended, _, _, rfl, ?_, ⟨_, rfl⟩, hW, hsame.mono (by decide) (by decide)⟩
  · show Steps p.tables e below (s₁.setTop (mkF m 0 #[.val (.ref a1)] [])) _
    refine XS.aloadN X0.here hx rfl (hb hby d1_0) rfl rfl ?_
    show Steps p.tables e below (s₁.setTop (mkF m 1 #[.val (.ref a1)] [(.ref a1)])) _
    refine st3 _ ?_
    show Steps p.tables e below (T3.setTop (mkF m 4 #[.val (.ref a1)] [(.ref w2), (.ref a1)])) _
    refine Jvm.RoadKit.acmp (g := (mkF m 4 #[.val (.ref a1)] [(.ref w2), (.ref a1)])) X3 hx rfl rfl rfl (pc0 := 4) (pc' := 7) (same := false) rfl (hb hby d1_4) rfl (decide_eq_false fun q => ha4 (Value.ref.inj q)) (by decide) (by decide) ?_
    show Steps p.tables e below (T3.setTop (mkF m 7 #[.val (.ref a1)] [])) _
    refine XS.aloadN X3.here hx rfl (hb hby d1_7) rfl rfl ?_
    show Steps p.tables e below (T3.setTop (mkF m 8 #[.val (.ref a1)] [(.ref a1)])) _
    refine st5 _ ?_
    show Steps p.tables e below (T5.setTop (mkF m 11 #[.val (.ref a1)] [(.ref w4), (.ref a1)])) _
    refine Jvm.RoadKit.acmp (g := (mkF m 11 #[.val (.ref a1)] [(.ref w4), (.ref a1)])) X5 hx rfl rfl rfl (pc0 := 11) (pc' := 14) (same := false) rfl (hb hby d1_11) rfl (decide_eq_false fun q => ha11 (Value.ref.inj q)) (by decide) (by decide) ?_
    show Steps p.tables e below (T5.setTop (mkF m 14 #[.val (.ref a1)] [])) _
    refine XS.aloadN X5.here hx rfl (hb hby d1_14) rfl rfl ?_
    show Steps p.tables e below (T5.setTop (mkF m 15 #[.val (.ref a1)] [(.ref a1)])) _
    refine st7 _ ?_
    show Steps p.tables e below (T7.setTop (mkF m 18 #[.val (.ref a1)] [(.ref w6), (.ref a1)])) _
    refine Jvm.RoadKit.acmp (g := (mkF m 18 #[.val (.ref a1)] [(.ref w6), (.ref a1)])) X7 hx rfl rfl rfl (pc0 := 18) (pc' := 21) (same := false) rfl (hb hby d1_18) rfl (decide_eq_false fun q => ha18 (Value.ref.inj q)) (by decide) (by decide) ?_
    show Steps p.tables e below (T7.setTop (mkF m 21 #[.val (.ref a1)] [])) _
    refine XS.aloadN X7.here hx rfl (hb hby d1_21) rfl rfl ?_
    show Steps p.tables e below (T7.setTop (mkF m 22 #[.val (.ref a1)] [(.ref a1)])) _
    refine st9 _ ?_
    show Steps p.tables e below (T9.setTop (mkF m 25 #[.val (.ref a1)] [(.ref w8), (.ref a1)])) _
    refine Jvm.RoadKit.acmp (g := (mkF m 25 #[.val (.ref a1)] [(.ref w8), (.ref a1)])) X9 hx rfl rfl rfl (pc0 := 25) (pc' := 28) (same := true) rfl (hb hby d1_25) rfl (decide_eq_true (congrArg Value.ref ha25)) (by decide) (by decide) ?_
    show Steps p.tables e below (T9.setTop (mkF m 28 #[.val (.ref a1)] [])) _
    refine XS.iconst X9.here hx rfl (hb hby d1_28) ?_
    show Steps p.tables e below (T9.setTop (mkF m 29 #[.val (.ref a1)] [(.int (1 : Int32))])) _
    refine XS.goto X9.here hx rfl (pc0 := 29) (pc' := 33) rfl (hb hby d1_29) (by decide) (by decide) ?_
    show Steps p.tables e below (T9.setTop (mkF m 33 #[.val (.ref a1)] [(.int (1 : Int32))])) _
    exact retN X9 hx (t := .boolean) Bd.returns (by simp) (hb hby d1_33) hr
  · show Q1 (1 : Int32) h0 n0 _ T9.heap _
    rw [e9]
    exact ⟨rfl, N0, rfl⟩
set_option maxRecDepth 65536 in
set_option maxHeartbeats 40000000 in
theorem rm1_4 (l : Launch) (Z : State) (a0 : Array Value) (hw : ∀ d ∈ tables_1, d.before a0 Z = true) (ws : List Jvm.Cond) (a1 : Addr) (w2 : Addr) (w4 : Addr) (w6 : Addr) (w8 : Addr) (h0 : Heap) (n0 : Nat) (Z0 : n0 ≤ h0.size) (S_INTEGER : Sta Z h0 "com/example/lodestone/lodestone/sql/DataType" "INTEGER" "Lcom/example/lodestone/lodestone/sql/DataType;" (.ref w2)) (S_BIGINT : Sta Z h0 "com/example/lodestone/lodestone/sql/DataType" "BIGINT" "Lcom/example/lodestone/lodestone/sql/DataType;" (.ref w4)) (S_DECIMAL : Sta Z h0 "com/example/lodestone/lodestone/sql/DataType" "DECIMAL" "Lcom/example/lodestone/lodestone/sql/DataType;" (.ref w6)) (S_DOUBLE : Sta Z h0 "com/example/lodestone/lodestone/sql/DataType" "DOUBLE" "Lcom/example/lodestone/lodestone/sql/DataType;" (.ref w8)) (ha4 : ¬ (a1 = w2)) (ha11 : ¬ (a1 = w4)) (ha18 : ¬ (a1 = w6)) (ha25 : ¬ (a1 = w8)) :
    MetFree l (⟨"com/example/lodestone/lodestone/sql/DataType", "isNumeric", "()Z"⟩ : MethodName) (head1 (Jvm.Cond.code (⟨"com/example/lodestone/lodestone/sql/DataType", "isNumeric", "()Z"⟩ : MethodName) prog_152_method_10_code 1 (some .boolean) :: ws) ({ frames := 0, cells := 0, slots := 0, locals := 0 } : Room)) (fun a U => a = #[(.ref a1)] ∧ Z.Warmed39 U.vm ∧ U.heap = h0) (fun _ _ _ _ _ => True) (fun _ U o U' => ∃ v L, o = .returned v ∧ Q1 (0 : Int32) h0 n0 v U'.heap L ∧ FrameEnd U o U' L ({ frames := 0, cells := 0, slots := 0, locals := 0 } : Room).cells ({ frames := 0, cells := 0, slots := 0, locals := 0 } : Room).slots) := by
  refine MetFree.of_bodySF (plainFor_of_name pn_1) hisR ?_
  intro p e s m args below meth c s₁ Bd hml0 hP hK
  obtain ⟨rfl, hZ, hh⟩ := hP
  have hx := Bd.exec
  have hby := Bd.bytes
  have hml : c.maxLocals = 1 := hml0
  have hown : s.vm.findClass "com/example/lodestone/lodestone/sql/DataType" = some m.cls := findClass_of_methodNamed Bd.named
  have hnm := (name_of_methodNamed Bd.named Bd.method).1
  have X0 : Stand p l e ({ frames := 0, cells := 0, slots := 0, locals := 0 } : Room) s m #[(.ref a1)] below meth c s₁ [] 0 0 := Stand.of_body Bd
  have e0 : s₁.heap = h0 := by rw [← hh, Bd.state]; rfl
  have N0 := Fr.nil n0
  have pre0 : ∀ t, Steps p.tables e below (s₁.setTop (mkF m 0 #[.val (.ref a1)] [])) t → Steps p.tables e below (s₁.setTop (entryFrame m #[(.ref a1)] 1)) t := fun t k => castTop (ef_1 m a1) k
  obtain ⟨T3, X3, e3, st3⟩ := getS2 X0 hx hZ hown (host := "") (Or.inl (hw _ (List.mem_of_getElem? (i := 34) rfl))) Via.refl e0 S_INTEGER (g := (mkF m 1 #[.val (.ref a1)] [(.ref a1)])) rfl (hb hby d1_1)
  obtain ⟨T5, X5, e5, st5⟩ := getS2 X3 hx hZ hown (host := "") (Or.inl (hw _ (List.mem_of_getElem? (i := 36) rfl))) Via.refl e3 S_BIGINT (g := (mkF m 8 #[.val (.ref a1)] [(.ref a1)])) rfl (hb hby d1_8)
  obtain ⟨T7, X7, e7, st7⟩ := getS2 X5 hx hZ hown (host := "") (Or.inl (hw _ (List.mem_of_getElem? (i := 37) rfl))) Via.refl e5 S_DECIMAL (g := (mkF m 15 #[.val (.ref a1)] [(.ref a1)])) rfl (hb hby d1_15)
  obtain ⟨T9, X9, e9, st9⟩ := getS2 X7 hx hZ hown (host := "") (Or.inl (hw _ (List.mem_of_getElem? (i := 38) rfl))) Via.refl e7 S_DOUBLE (g := (mkF m 22 #[.val (.ref a1)] [(.ref a1)])) rfl (hb hby d1_22)
  obtain ⟨fs, hr, hrun, hended, hW, hsame⟩ := X9.leave (v := some (.int (0 : Int32))) (fun h => by rw [Bd.returns] at h; cases h)
  refine ⟨_, _, pre0 _ ?_, hrun, hended, _, _, rfl, ?_, ⟨_, rfl⟩, hW, hsame.mono (by decide) (by decide)⟩
  · show Steps p.tables e below (s₁.setTop (mkF m 0 #[.val (.ref a1)] [])) _
    refine XS.aloadN X0.here hx rfl (hb hby d1_0) rfl rfl ?_
    show Steps p.tables e below (s₁.setTop (mkF m 1 #[.val (.ref a1)] [(.ref a1)])) _
    refine st3 _ ?_
    show Steps p.tables e below (T3.setTop (mkF m 4 #[.val (.ref a1)] [(.ref w2), (.ref a1)])) _
    refine Jvm.RoadKit.acmp (g := (mkF m 4 #[.val (.ref a1)] [(.ref w2), (.ref a1)])) X3 hx rfl rfl rfl (pc0 := 4) (pc' := 7) (same := false) rfl (hb hby d1_4) rfl (decide_eq_false fun q => ha4 (Value.ref.inj q)) (by decide) (by decide) ?_
    show Steps p.tables e below (T3.setTop (mkF m 7 #[.val (.ref a1)] [])) _
    refine XS.aloadN X3.here hx rfl (hb hby d1_7) rfl rfl ?_
    show Steps p.tables e below (T3.setTop (mkF m 8 #[.val (.ref a1)] [(.ref a1)])) _
    refine st5 _ ?_
    show Steps p.tables e below (T5.setTop (mkF m 11 #[.val (.ref a1)] [(.ref w4), (.ref a1)])) _
    refine Jvm.RoadKit.acmp (g := (mkF m 11 #[.val (.ref a1)] [(.ref w4), (.ref a1)])) X5 hx rfl rfl rfl (pc0 := 11) (pc' := 14) (same := false) rfl (hb hby d1_11) rfl (decide_eq_false fun q => ha11 (Value.ref.inj q)) (by decide) (by decide) ?_
    show Steps p.tables e below (T5.setTop (mkF m 14 #[.val (.ref a1)] [])) _
    refine XS.aloadN X5.here hx rfl (hb hby d1_14) rfl rfl ?_
    show Steps p.tables e below (T5.setTop (mkF m 15 #[.val (.ref a1)] [(.ref a1)])) _
    refine st7 _ ?_
    show Steps p.tables e below (T7.setTop (mkF m 18 #[.val (.ref a1)] [(.ref w6), (.ref a1)])) _
    refine Jvm.RoadKit.acmp (g := (mkF m 18 #[.val (.ref a1)] [(.ref w6), (.ref a1)])) X7 hx rfl rfl rfl (pc0 := 18) (pc' := 21) (same := false) rfl (hb hby d1_18) rfl (decide_eq_false fun q => ha18 (Value.ref.inj q)) (by decide) (by decide) ?_
    show Steps p.tables e below (T7.setTop (mkF m 21 #[.val (.ref a1)] [])) _
    refine XS.aloadN X7.here hx rfl (hb hby d1_21) rfl rfl ?_
    show Steps p.tables e below (T7.setTop (mkF m 22 #[.val (.ref a1)] [(.ref a1)])) _
    refine st9 _ ?_
    show Steps p.tables e below (T9.setTop (mkF m 25 #[.val (.ref a1)] [(.ref w8), (.ref a1)])) _
    refine Jvm.RoadKit.acmp (g := (mkF m 25 #[.val (.ref a1)] [(.ref w8), (.ref a1)])) X9 hx rfl rfl rfl (pc0 := 25) (pc' := 32) (same := false) rfl (hb hby d1_25) rfl (decide_eq_false fun q => ha25 (Value.ref.inj q)) (by decide) (by decide) ?_
    show Steps p.tables e below (T9.setTop (mkF m 32 #[.val (.ref a1)] [])) _
    refine XS.iconst X9.here hx rfl (hb hby d1_32) ?_
    show Steps p.tables e below (T9.setTop (mkF m 33 #[.val (.ref a1)] [(.int (0 : Int32))])) _
    exact retN X9 hx (t := .boolean) Bd.returns (by simp) (hb hby d1_33) hr
  · show Q1 (0 : Int32) h0 n0 _ T9.heap _
    rw [e9]
    exact ⟨rfl, N0, rfl⟩
def own_num (o v0 v1 v2 v3 : Addr) : Int32 := if o = v0 then 1 else if o = v1 then 1 else if o = v2 then 1 else if o = v3 then 1 else 0
theorem rm1 (l : Launch) (Z : State) (a0 : Array Value) (hw : ∀ d ∈ tables_1, d.before a0 Z = true) (ws : List Jvm.Cond) (o v0 v1 v2 v3 : Addr) (h0 : Heap) (n0 : Nat) (Z0 : n0 ≤ h0.size) (S0 : Sta Z h0 "com/example/lodestone/lodestone/sql/DataType" "INTEGER" "Lcom/example/lodestone/lodestone/sql/DataType;" (.ref v0)) (S1 : Sta Z h0 "com/example/lodestone/lodestone/sql/DataType" "BIGINT" "Lcom/example/lodestone/lodestone/sql/DataType;" (.ref v1)) (S2 : Sta Z h0 "com/example/lodestone/lodestone/sql/DataType" "DECIMAL" "Lcom/example/lodestone/lodestone/sql/DataType;" (.ref v2)) (S3 : Sta Z h0 "com/example/lodestone/lodestone/sql/DataType" "DOUBLE" "Lcom/example/lodestone/lodestone/sql/DataType;" (.ref v3)) :
    MetFree l (⟨"com/example/lodestone/lodestone/sql/DataType", "isNumeric", "()Z"⟩ : MethodName) (head1 (Jvm.Cond.code (⟨"com/example/lodestone/lodestone/sql/DataType", "isNumeric", "()Z"⟩ : MethodName) prog_152_method_10_code 1 (some .boolean) :: ws) ({ frames := 0, cells := 0, slots := 0, locals := 0 } : Room)) (fun a U => a = #[(.ref o)] ∧ Z.Warmed39 U.vm ∧ U.heap = h0) (fun _ _ _ _ _ => True) (fun _ U o' U' => ∃ v L, o' = .returned v ∧ Q1 (own_num o v0 v1 v2 v3) h0 n0 v U'.heap L ∧ FrameEnd U o' U' L ({ frames := 0, cells := 0, slots := 0, locals := 0 } : Room).cells ({ frames := 0, cells := 0, slots := 0, locals := 0 } : Room).slots) := by
  by_cases c0 : o = v0
  · have hn : own_num o v0 v1 v2 v3 = 1 := by simp [own_num, c0]
    rw [hn]
    exact rm1_0 l Z a0 hw ws o v0 h0 n0 Z0 S0 c0
  · by_cases c1 : o = v1
    · have hn : own_num o v0 v1 v2 v3 = 1 := by simp [own_num, c1]
      rw [hn]
      exact rm1_1 l Z a0 hw ws o v0 v1 h0 n0 Z0 S0 S1 c0 c1
    · by_cases c2 : o = v2
      · have hn : own_num o v0 v1 v2 v3 = 1 := by simp [own_num, c2]
        rw [hn]
        exact rm1_2 l Z a0 hw ws o v0 v1 v2 h0 n0 Z0 S0 S1 S2 c0 c1 c2
      · by_cases c3 : o = v3
        · have hn : own_num o v0 v1 v2 v3 = 1 := by simp [own_num, c3]
          rw [hn]
          exact rm1_3 l Z a0 hw ws o v0 v1 v2 v3 h0 n0 Z0 S0 S1 S2 S3 c0 c1 c2 c3
        · have hn : own_num o v0 v1 v2 v3 = 0 := by simp [own_num, c0, c1, c2, c3]
          rw [hn]
          exact rm1_4 l Z a0 hw ws o v0 v1 v2 v3 h0 n0 Z0 S0 S1 S2 S3 c0 c1 c2 c3
theorem pn_0 : plainName "com/example/lodestone/lodestone/sql/DataTypeIsNumericPinLaw" = true := by first | (simp [plainName, overriddenIn]; done) | decide +kernel
theorem ef_0 (m : MethodId) (p1 : Int32) : entryFrame m #[(.int p1)] maxLocals = mkF m 0 #[.val (.int p1), .unset, .unset, .unset] [] := by first | (simp [entryFrame, mkF, argsToLocals, Value.category, maxLocals]; done) | rfl
theorem pd_0_0 : parseMethodDescriptor "()Z" = some ⟨[], some .boolean⟩ := by decide +kernel
def Q0 (Z : State) (h0 : Heap) (n0 : Nat) (v : Option Value) (h : Heap) (L : List Loc) : Prop := v = some (.int (1 : Int32)) ∧ Fr n0 L
set_option maxRecDepth 65536 in
set_option maxHeartbeats 40000000 in
theorem rm0 (l : Launch) (Z : State) (a0 : Array Value) (hw : ∀ d ∈ tables_1, d.before a0 Z = true) (ws : List Jvm.Cond) (p1 : Int32) (h0 : Heap) (n0 : Nat) (Z0 : n0 ≤ h0.size) (v0 v1 v2 v3 v4 v5 v6 v7 v8 : Addr) (F0 : own_all Z h0 [("INTEGER", "com/example/lodestone/lodestone/sql/DataType$1", v0), ("BIGINT", "com/example/lodestone/lodestone/sql/DataType$2", v1), ("DECIMAL", "com/example/lodestone/lodestone/sql/DataType$3", v2), ("DOUBLE", "com/example/lodestone/lodestone/sql/DataType$4", v3), ("VARCHAR", "com/example/lodestone/lodestone/sql/DataType$5", v4), ("DATE", "com/example/lodestone/lodestone/sql/DataType$6", v5), ("INTERVAL", "com/example/lodestone/lodestone/sql/DataType", v6), ("BOOLEAN", "com/example/lodestone/lodestone/sql/DataType", v7), ("NULL", "com/example/lodestone/lodestone/sql/DataType", v8)]) :
    MetFree l x (head1 (Jvm.Cond.code x code maxLocals ret :: ws) room_1) (fun a U => a = #[(.int p1)] ∧ Z.Warmed39 U.vm ∧ U.heap = h0) (fun _ _ _ _ _ => True) (fun _ U o U' => ∃ v L, o = .returned v ∧ Q0 Z h0 n0 v U'.heap L ∧ FrameEnd U o U' L room_1.cells room_1.slots) := by
  refine MetFree.of_bodySF (plainFor_of_name pn_0) hisR ?_
  intro p e s m args below meth c s₁ Bd hml0 hP hK
  obtain ⟨rfl, hZ, hh⟩ := hP
  have hx := Bd.exec
  have hby := Bd.bytes
  have hml : c.maxLocals = 4 := hml0
  have hown : s.vm.findClass "com/example/lodestone/lodestone/sql/DataTypeIsNumericPinLaw" = some m.cls := findClass_of_methodNamed Bd.named
  have X0 : Stand p l e room_1 s m #[(.int p1)] below meth c s₁ [] 0 0 := Stand.of_body Bd
  have e0 : s₁.heap = h0 := by rw [← hh, Bd.state]; rfl
  have pre0 : ∀ t, Steps p.tables e below (s₁.setTop (mkF m 0 #[.val (.int p1), .unset, .unset, .unset] [])) t → Steps p.tables e below (s₁.setTop (entryFrame m #[(.int p1)] maxLocals)) t := fun t k => castTop (ef_0 m p1) k
  have K1 : ∀ t, Steps p.tables e below (s₁.setTop (mkF m 2 #[.val (.int p1), .unset, .unset, .unset] [(.int (9 : Int32))])) t → Steps p.tables e below (s₁.setTop (mkF m 0 #[.val (.int p1), .unset, .unset, .unset] [])) t := by
    intro t k
    show Steps p.tables e below (s₁.setTop (mkF m 0 #[.val (.int p1), .unset, .unset, .unset] [])) _
    refine XS.bipush X0.here hx rfl (hb hby at_0) ?_
    show Steps p.tables e below (s₁.setTop (mkF m 2 #[.val (.int p1), .unset, .unset, .unset] [(.int (9 : Int32))])) t
    exact k
  obtain ⟨T1, h1, k1, X1, e1, E1, A1, O1, st1⟩ := newR X0 hx hZ hown (hw _ (List.mem_of_getElem? (i := 0) rfl)) (hw _ (List.mem_of_getElem? (i := 1) rfl)) e0 (g := (mkF m 2 #[.val (.int p1), .unset, .unset, .unset] [(.int (9 : Int32))])) rfl (hb hby at_2) rfl (by decide) (cap := 9) (by decide) (by decide) (by decide) (by decide)
  obtain ⟨b, gb⟩ : ∃ z, z = h0.size := ⟨_, rfl⟩
  rw [← gb] at A1 st1
  have V1 : Arv Z h1 b k1 (.object "com/example/lodestone/lodestone/sql/DataType") (9 : Int32) ([] ++ List.replicate 9 .null) .null := (Arv.new A1 (by decide)).pad (pad_rep [] .null 9)
  have I1 : own_St Z n0 T1.heap [] b k1 ([] ++ List.replicate 9 .null) [("INTEGER", "com/example/lodestone/lodestone/sql/DataType$1", v0), ("BIGINT", "com/example/lodestone/lodestone/sql/DataType$2", v1), ("DECIMAL", "com/example/lodestone/lodestone/sql/DataType$3", v2), ("DOUBLE", "com/example/lodestone/lodestone/sql/DataType$4", v3), ("VARCHAR", "com/example/lodestone/lodestone/sql/DataType$5", v4), ("DATE", "com/example/lodestone/lodestone/sql/DataType$6", v5), ("INTERVAL", "com/example/lodestone/lodestone/sql/DataType", v6), ("BOOLEAN", "com/example/lodestone/lodestone/sql/DataType", v7), ("NULL", "com/example/lodestone/lodestone/sql/DataType", v8)] := ⟨Fr.nil n0, Nat.le_trans Z0 (Nat.le_of_eq gb.symm), by rw [e1]; exact Nat.le_trans Z0 E1.1, by rw [e1]; exact V1, rfl, O1, by rw [e1]; exact own_all.ext E1 _ F0⟩
  have K2 : ∀ t, Steps p.tables e below (T1.setTop (mkF m 7 #[.val (.int p1), .unset, .unset, .unset] [(.int (0 : Int32)), (.ref b), (.ref b)])) t → Steps p.tables e below (T1.setTop (mkF m 5 #[.val (.int p1), .unset, .unset, .unset] [(.ref b)])) t := by
    intro t k
    show Steps p.tables e below (T1.setTop (mkF m 5 #[.val (.int p1), .unset, .unset, .unset] [(.ref b)])) _
    refine XS.dup X1.here hx rfl (hb hby at_5) rfl rfl ?_
    show Steps p.tables e below (T1.setTop (mkF m 6 #[.val (.int p1), .unset, .unset, .unset] [(.ref b), (.ref b)])) _
    refine XS.iconst X1.here hx rfl (hb hby at_6) ?_
    show Steps p.tables e below (T1.setTop (mkF m 7 #[.val (.int p1), .unset, .unset, .unset] [(.int (0 : Int32)), (.ref b), (.ref b)])) t
    exact k
  have D1 := I1.2.2.2.2.2.2
  obtain ⟨T2, L2, X2, I2, st2⟩ := own_put X1 hx hZ hown (a0 := a0) (a := v0) (hw _ (List.mem_of_getElem? (i := 2) rfl)) (hw _ (List.mem_of_getElem? (i := 5) rfl)) I1 D1.1 (j := (0 : Int32)) (by decide) (g := (mkF m 7 #[.val (.int p1), .unset, .unset, .unset] [(.int (0 : Int32)), (.ref b), (.ref b)])) rfl rfl (hb hby at_7) (hb hby at_10)
  have K3 : ∀ t, Steps p.tables e below (T2.setTop (mkF m 13 #[.val (.int p1), .unset, .unset, .unset] [(.int (1 : Int32)), (.ref b), (.ref b)])) t → Steps p.tables e below (T2.setTop (mkF m 11 #[.val (.int p1), .unset, .unset, .unset] [(.ref b)])) t := by
    intro t k
    show Steps p.tables e below (T2.setTop (mkF m 11 #[.val (.int p1), .unset, .unset, .unset] [(.ref b)])) _
    refine XS.dup X2.here hx rfl (hb hby at_11) rfl rfl ?_
    show Steps p.tables e below (T2.setTop (mkF m 12 #[.val (.int p1), .unset, .unset, .unset] [(.ref b), (.ref b)])) _
    refine XS.iconst X2.here hx rfl (hb hby at_12) ?_
    show Steps p.tables e below (T2.setTop (mkF m 13 #[.val (.int p1), .unset, .unset, .unset] [(.int (1 : Int32)), (.ref b), (.ref b)])) t
    exact k
  have D2 := I2.2.2.2.2.2.2
  obtain ⟨T3, L3, X3, I3, st3⟩ := own_put X2 hx hZ hown (a0 := a0) (a := v1) (hw _ (List.mem_of_getElem? (i := 6) rfl)) (hw _ (List.mem_of_getElem? (i := 8) rfl)) I2 D2.2.1 (j := (1 : Int32)) (by decide) (g := (mkF m 13 #[.val (.int p1), .unset, .unset, .unset] [(.int (1 : Int32)), (.ref b), (.ref b)])) rfl rfl (hb hby at_13) (hb hby at_16)
  have K4 : ∀ t, Steps p.tables e below (T3.setTop (mkF m 19 #[.val (.int p1), .unset, .unset, .unset] [(.int (2 : Int32)), (.ref b), (.ref b)])) t → Steps p.tables e below (T3.setTop (mkF m 17 #[.val (.int p1), .unset, .unset, .unset] [(.ref b)])) t := by
    intro t k
    show Steps p.tables e below (T3.setTop (mkF m 17 #[.val (.int p1), .unset, .unset, .unset] [(.ref b)])) _
    refine XS.dup X3.here hx rfl (hb hby at_17) rfl rfl ?_
    show Steps p.tables e below (T3.setTop (mkF m 18 #[.val (.int p1), .unset, .unset, .unset] [(.ref b), (.ref b)])) _
    refine XS.iconst X3.here hx rfl (hb hby at_18) ?_
    show Steps p.tables e below (T3.setTop (mkF m 19 #[.val (.int p1), .unset, .unset, .unset] [(.int (2 : Int32)), (.ref b), (.ref b)])) t
    exact k
  have D3 := I3.2.2.2.2.2.2
  obtain ⟨T4, L4, X4, I4, st4⟩ := own_put X3 hx hZ hown (a0 := a0) (a := v2) (hw _ (List.mem_of_getElem? (i := 9) rfl)) (hw _ (List.mem_of_getElem? (i := 11) rfl)) I3 D3.2.2.1 (j := (2 : Int32)) (by decide) (g := (mkF m 19 #[.val (.int p1), .unset, .unset, .unset] [(.int (2 : Int32)), (.ref b), (.ref b)])) rfl rfl (hb hby at_19) (hb hby at_22)
  have K5 : ∀ t, Steps p.tables e below (T4.setTop (mkF m 25 #[.val (.int p1), .unset, .unset, .unset] [(.int (3 : Int32)), (.ref b), (.ref b)])) t → Steps p.tables e below (T4.setTop (mkF m 23 #[.val (.int p1), .unset, .unset, .unset] [(.ref b)])) t := by
    intro t k
    show Steps p.tables e below (T4.setTop (mkF m 23 #[.val (.int p1), .unset, .unset, .unset] [(.ref b)])) _
    refine XS.dup X4.here hx rfl (hb hby at_23) rfl rfl ?_
    show Steps p.tables e below (T4.setTop (mkF m 24 #[.val (.int p1), .unset, .unset, .unset] [(.ref b), (.ref b)])) _
    refine XS.iconst X4.here hx rfl (hb hby at_24) ?_
    show Steps p.tables e below (T4.setTop (mkF m 25 #[.val (.int p1), .unset, .unset, .unset] [(.int (3 : Int32)), (.ref b), (.ref b)])) t
    exact k
  have D4 := I4.2.2.2.2.2.2
  obtain ⟨T5, L5, X5, I5, st5⟩ := own_put X4 hx hZ hown (a0 := a0) (a := v3) (hw _ (List.mem_of_getElem? (i := 12) rfl)) (hw _ (List.mem_of_getElem? (i := 14) rfl)) I4 D4.2.2.2.1 (j := (3 : Int32)) (by decide) (g := (mkF m 25 #[.val (.int p1), .unset, .unset, .unset] [(.int (3 : Int32)), (.ref b), (.ref b)])) rfl rfl (hb hby at_25) (hb hby at_28)
  have K6 : ∀ t, Steps p.tables e below (T5.setTop (mkF m 31 #[.val (.int p1), .unset, .unset, .unset] [(.int (4 : Int32)), (.ref b), (.ref b)])) t → Steps p.tables e below (T5.setTop (mkF m 29 #[.val (.int p1), .unset, .unset, .unset] [(.ref b)])) t := by
    intro t k
    show Steps p.tables e below (T5.setTop (mkF m 29 #[.val (.int p1), .unset, .unset, .unset] [(.ref b)])) _
    refine XS.dup X5.here hx rfl (hb hby at_29) rfl rfl ?_
    show Steps p.tables e below (T5.setTop (mkF m 30 #[.val (.int p1), .unset, .unset, .unset] [(.ref b), (.ref b)])) _
    refine XS.iconst X5.here hx rfl (hb hby at_30) ?_
    show Steps p.tables e below (T5.setTop (mkF m 31 #[.val (.int p1), .unset, .unset, .unset] [(.int (4 : Int32)), (.ref b), (.ref b)])) t
    exact k
  have D5 := I5.2.2.2.2.2.2
  obtain ⟨T6, L6, X6, I6, st6⟩ := own_put X5 hx hZ hown (a0 := a0) (a := v4) (hw _ (List.mem_of_getElem? (i := 15) rfl)) (hw _ (List.mem_of_getElem? (i := 17) rfl)) I5 D5.2.2.2.2.1 (j := (4 : Int32)) (by decide) (g := (mkF m 31 #[.val (.int p1), .unset, .unset, .unset] [(.int (4 : Int32)), (.ref b), (.ref b)])) rfl rfl (hb hby at_31) (hb hby at_34)
  have K7 : ∀ t, Steps p.tables e below (T6.setTop (mkF m 37 #[.val (.int p1), .unset, .unset, .unset] [(.int (5 : Int32)), (.ref b), (.ref b)])) t → Steps p.tables e below (T6.setTop (mkF m 35 #[.val (.int p1), .unset, .unset, .unset] [(.ref b)])) t := by
    intro t k
    show Steps p.tables e below (T6.setTop (mkF m 35 #[.val (.int p1), .unset, .unset, .unset] [(.ref b)])) _
    refine XS.dup X6.here hx rfl (hb hby at_35) rfl rfl ?_
    show Steps p.tables e below (T6.setTop (mkF m 36 #[.val (.int p1), .unset, .unset, .unset] [(.ref b), (.ref b)])) _
    refine XS.iconst X6.here hx rfl (hb hby at_36) ?_
    show Steps p.tables e below (T6.setTop (mkF m 37 #[.val (.int p1), .unset, .unset, .unset] [(.int (5 : Int32)), (.ref b), (.ref b)])) t
    exact k
  have D6 := I6.2.2.2.2.2.2
  obtain ⟨T7, L7, X7, I7, st7⟩ := own_put X6 hx hZ hown (a0 := a0) (a := v5) (hw _ (List.mem_of_getElem? (i := 18) rfl)) (hw _ (List.mem_of_getElem? (i := 20) rfl)) I6 D6.2.2.2.2.2.1 (j := (5 : Int32)) (by decide) (g := (mkF m 37 #[.val (.int p1), .unset, .unset, .unset] [(.int (5 : Int32)), (.ref b), (.ref b)])) rfl rfl (hb hby at_37) (hb hby at_40)
  have K8 : ∀ t, Steps p.tables e below (T7.setTop (mkF m 44 #[.val (.int p1), .unset, .unset, .unset] [(.int (6 : Int32)), (.ref b), (.ref b)])) t → Steps p.tables e below (T7.setTop (mkF m 41 #[.val (.int p1), .unset, .unset, .unset] [(.ref b)])) t := by
    intro t k
    show Steps p.tables e below (T7.setTop (mkF m 41 #[.val (.int p1), .unset, .unset, .unset] [(.ref b)])) _
    refine XS.dup X7.here hx rfl (hb hby at_41) rfl rfl ?_
    show Steps p.tables e below (T7.setTop (mkF m 42 #[.val (.int p1), .unset, .unset, .unset] [(.ref b), (.ref b)])) _
    refine XS.bipush X7.here hx rfl (hb hby at_42) ?_
    show Steps p.tables e below (T7.setTop (mkF m 44 #[.val (.int p1), .unset, .unset, .unset] [(.int (6 : Int32)), (.ref b), (.ref b)])) t
    exact k
  have D7 := I7.2.2.2.2.2.2
  obtain ⟨T8, L8, X8, I8, st8⟩ := own_put X7 hx hZ hown (a0 := a0) (a := v6) (hw _ (List.mem_of_getElem? (i := 21) rfl)) (hw _ (List.mem_of_getElem? (i := 23) rfl)) I7 D7.2.2.2.2.2.2.1 (j := (6 : Int32)) (by decide) (g := (mkF m 44 #[.val (.int p1), .unset, .unset, .unset] [(.int (6 : Int32)), (.ref b), (.ref b)])) rfl rfl (hb hby at_44) (hb hby at_47)
  have K9 : ∀ t, Steps p.tables e below (T8.setTop (mkF m 51 #[.val (.int p1), .unset, .unset, .unset] [(.int (7 : Int32)), (.ref b), (.ref b)])) t → Steps p.tables e below (T8.setTop (mkF m 48 #[.val (.int p1), .unset, .unset, .unset] [(.ref b)])) t := by
    intro t k
    show Steps p.tables e below (T8.setTop (mkF m 48 #[.val (.int p1), .unset, .unset, .unset] [(.ref b)])) _
    refine XS.dup X8.here hx rfl (hb hby at_48) rfl rfl ?_
    show Steps p.tables e below (T8.setTop (mkF m 49 #[.val (.int p1), .unset, .unset, .unset] [(.ref b), (.ref b)])) _
    refine XS.bipush X8.here hx rfl (hb hby at_49) ?_
    show Steps p.tables e below (T8.setTop (mkF m 51 #[.val (.int p1), .unset, .unset, .unset] [(.int (7 : Int32)), (.ref b), (.ref b)])) t
    exact k
  have D8 := I8.2.2.2.2.2.2
  obtain ⟨T9, L9, X9, I9, st9⟩ := own_put X8 hx hZ hown (a0 := a0) (a := v7) (hw _ (List.mem_of_getElem? (i := 24) rfl)) (hw _ (List.mem_of_getElem? (i := 23) rfl)) I8 D8.2.2.2.2.2.2.2.1 (j := (7 : Int32)) (by decide) (g := (mkF m 51 #[.val (.int p1), .unset, .unset, .unset] [(.int (7 : Int32)), (.ref b), (.ref b)])) rfl rfl (hb hby at_51) (hb hby at_54)
  have K10 : ∀ t, Steps p.tables e below (T9.setTop (mkF m 58 #[.val (.int p1), .unset, .unset, .unset] [(.int (8 : Int32)), (.ref b), (.ref b)])) t → Steps p.tables e below (T9.setTop (mkF m 55 #[.val (.int p1), .unset, .unset, .unset] [(.ref b)])) t := by
    intro t k
    show Steps p.tables e below (T9.setTop (mkF m 55 #[.val (.int p1), .unset, .unset, .unset] [(.ref b)])) _
    refine XS.dup X9.here hx rfl (hb hby at_55) rfl rfl ?_
    show Steps p.tables e below (T9.setTop (mkF m 56 #[.val (.int p1), .unset, .unset, .unset] [(.ref b), (.ref b)])) _
    refine XS.bipush X9.here hx rfl (hb hby at_56) ?_
    show Steps p.tables e below (T9.setTop (mkF m 58 #[.val (.int p1), .unset, .unset, .unset] [(.int (8 : Int32)), (.ref b), (.ref b)])) t
    exact k
  have D9 := I9.2.2.2.2.2.2
  obtain ⟨T10, L10, X10, I10, st10⟩ := own_put X9 hx hZ hown (a0 := a0) (a := v8) (hw _ (List.mem_of_getElem? (i := 26) rfl)) (hw _ (List.mem_of_getElem? (i := 23) rfl)) I9 D9.2.2.2.2.2.2.2.2.1 (j := (8 : Int32)) (by decide) (g := (mkF m 58 #[.val (.int p1), .unset, .unset, .unset] [(.int (8 : Int32)), (.ref b), (.ref b)])) rfl rfl (hb hby at_58) (hb hby at_61)
  have I : own_St Z n0 T10.heap L10 b k1 [(.ref v0), (.ref v1), (.ref v2), (.ref v3), (.ref v4), (.ref v5), (.ref v6), (.ref v7), (.ref v8)] [("INTEGER", "com/example/lodestone/lodestone/sql/DataType$1", v0), ("BIGINT", "com/example/lodestone/lodestone/sql/DataType$2", v1), ("DECIMAL", "com/example/lodestone/lodestone/sql/DataType$3", v2), ("DOUBLE", "com/example/lodestone/lodestone/sql/DataType$4", v3), ("VARCHAR", "com/example/lodestone/lodestone/sql/DataType$5", v4), ("DATE", "com/example/lodestone/lodestone/sql/DataType$6", v5), ("INTERVAL", "com/example/lodestone/lodestone/sql/DataType", v6), ("BOOLEAN", "com/example/lodestone/lodestone/sql/DataType", v7), ("NULL", "com/example/lodestone/lodestone/sql/DataType", v8)] := I10
  have K11 : ∀ t, Steps p.tables e below (T10.setTop (mkF m 73 #[.val (.int p1), .val (.ref b), .val (.int ((p1 &&& (2147483647 : Int32)) % (9 : Int32))), .unset] [(.int (4 : Int32)), (.int ((p1 &&& (2147483647 : Int32)) % (9 : Int32)))])) t → Steps p.tables e below (T10.setTop (mkF m 62 #[.val (.int p1), .unset, .unset, .unset] [(.ref b)])) t := by
    intro t k
    show Steps p.tables e below (T10.setTop (mkF m 62 #[.val (.int p1), .unset, .unset, .unset] [(.ref b)])) _
    refine XS.astoreN X10.here hx rfl (hb hby at_62) rfl rfl (l' := #[.val (.int p1), .val (.ref b), .unset, .unset]) rfl ?_
    show Steps p.tables e below (T10.setTop (mkF m 63 #[.val (.int p1), .val (.ref b), .unset, .unset] [])) _
    refine XS.iloadN X10.here hx rfl (hb hby at_63) rfl ?_
    show Steps p.tables e below (T10.setTop (mkF m 64 #[.val (.int p1), .val (.ref b), .unset, .unset] [(.int p1)])) _
    refine X10.ldcInt hx hown (mvT hZ (hw _ (List.mem_of_getElem? (i := 28) rfl))) (g := (mkF m 64 #[.val (.int p1), .val (.ref b), .unset, .unset] [(.int p1)])) rfl (hb hby at_64) _ ?_
    show Steps p.tables e below (T10.setTop (mkF m 66 #[.val (.int p1), .val (.ref b), .unset, .unset] [(.int (2147483647 : Int32)), (.int p1)])) _
    refine XS.iand X10.here hx rfl (hb hby at_66) rfl ?_
    show Steps p.tables e below (T10.setTop (mkF m 67 #[.val (.int p1), .val (.ref b), .unset, .unset] [(.int (p1 &&& (2147483647 : Int32)))])) _
    refine XS.bipush X10.here hx rfl (hb hby at_67) ?_
    show Steps p.tables e below (T10.setTop (mkF m 69 #[.val (.int p1), .val (.ref b), .unset, .unset] [(.int (9 : Int32)), (.int (p1 &&& (2147483647 : Int32)))])) _
    refine iremM X10 hx rfl (hb hby at_69) rfl (by decide) ?_
    show Steps p.tables e below (T10.setTop (mkF m 70 #[.val (.int p1), .val (.ref b), .unset, .unset] [(.int ((p1 &&& (2147483647 : Int32)) % (9 : Int32)))])) _
    refine XS.istoreN X10.here hx rfl (hb hby at_70) rfl (l' := #[.val (.int p1), .val (.ref b), .val (.int ((p1 &&& (2147483647 : Int32)) % (9 : Int32))), .unset]) rfl ?_
    show Steps p.tables e below (T10.setTop (mkF m 71 #[.val (.int p1), .val (.ref b), .val (.int ((p1 &&& (2147483647 : Int32)) % (9 : Int32))), .unset] [])) _
    refine XS.iloadN X10.here hx rfl (hb hby at_71) rfl ?_
    show Steps p.tables e below (T10.setTop (mkF m 72 #[.val (.int p1), .val (.ref b), .val (.int ((p1 &&& (2147483647 : Int32)) % (9 : Int32))), .unset] [(.int ((p1 &&& (2147483647 : Int32)) % (9 : Int32)))])) _
    refine XS.iconst X10.here hx rfl (hb hby at_72) ?_
    show Steps p.tables e below (T10.setTop (mkF m 73 #[.val (.int p1), .val (.ref b), .val (.int ((p1 &&& (2147483647 : Int32)) % (9 : Int32))), .unset] [(.int (4 : Int32)), (.int ((p1 &&& (2147483647 : Int32)) % (9 : Int32)))])) t
    exact k
  obtain ⟨kk, hkk⟩ : ∃ kk : Int32, ((p1 &&& (2147483647 : Int32)) % (9 : Int32)) = kk := ⟨_, rfl⟩
  have hk := own_idx p1 9 (by decide)
  rw [hkk] at hk
  rw [hkk] at K11
  have E : ∃ ee : Int32, ee = (if kk < (4 : Int32) then (1 : Int32) else (0 : Int32)) ∧ ∀ t, Steps p.tables e below (T10.setTop (mkF m 81 #[.val (.int p1), .val (.ref b), .val (.int kk), .unset] [(.int ee)])) t → Steps p.tables e below (T10.setTop (mkF m 73 #[.val (.int p1), .val (.ref b), .val (.int kk), .unset] [(.int (4 : Int32)), (.int kk)])) t := by
    by_cases c73 : kk < (4 : Int32)
    · refine ⟨(1 : Int32), by rw [if_pos c73], fun t k => ?_⟩
      show Steps p.tables e below (T10.setTop (mkF m 73 #[.val (.int p1), .val (.ref b), .val (.int kk), .unset] [(.int (4 : Int32)), (.int kk)])) _
      refine XS.icmpNo X10.here hx rfl (hb hby at_73) rfl (tlt c73).2.1 ?_
      show Steps p.tables e below (T10.setTop (mkF m 76 #[.val (.int p1), .val (.ref b), .val (.int kk), .unset] [])) _
      refine XS.iconst X10.here hx rfl (hb hby at_76) ?_
      show Steps p.tables e below (T10.setTop (mkF m 77 #[.val (.int p1), .val (.ref b), .val (.int kk), .unset] [(.int (1 : Int32))])) _
      refine XS.goto X10.here hx rfl (pc0 := 77) (pc' := 81) rfl (hb hby at_77) (by decide) (by decide) ?_
      show Steps p.tables e below (T10.setTop (mkF m 81 #[.val (.int p1), .val (.ref b), .val (.int kk), .unset] [(.int (1 : Int32))])) _
      exact k
    · refine ⟨(0 : Int32), by rw [if_neg c73], fun t k => ?_⟩
      show Steps p.tables e below (T10.setTop (mkF m 73 #[.val (.int p1), .val (.ref b), .val (.int kk), .unset] [(.int (4 : Int32)), (.int kk)])) _
      refine XS.icmpYes X10.here hx rfl (pc0 := 73) (pc' := 80) rfl (hb hby at_73) rfl (flt c73).2.1 (by decide) (by decide) ?_
      show Steps p.tables e below (T10.setTop (mkF m 80 #[.val (.int p1), .val (.ref b), .val (.int kk), .unset] [])) _
      refine XS.iconst X10.here hx rfl (hb hby at_80) ?_
      show Steps p.tables e below (T10.setTop (mkF m 81 #[.val (.int p1), .val (.ref b), .val (.int kk), .unset] [(.int (0 : Int32))])) _
      exact k
  obtain ⟨ee, hee, E⟩ := E
  have K12 : ∀ t, Steps p.tables e below (T10.setTop (mkF m 84 #[.val (.int p1), .val (.ref b), .val (.int kk), .val (.int ee)] [(.int kk), (.ref b)])) t → Steps p.tables e below (T10.setTop (mkF m 81 #[.val (.int p1), .val (.ref b), .val (.int kk), .unset] [(.int ee)])) t := by
    intro t k
    show Steps p.tables e below (T10.setTop (mkF m 81 #[.val (.int p1), .val (.ref b), .val (.int kk), .unset] [(.int ee)])) _
    refine XS.istoreN X10.here hx rfl (hb hby at_81) rfl (l' := #[.val (.int p1), .val (.ref b), .val (.int kk), .val (.int ee)]) rfl ?_
    show Steps p.tables e below (T10.setTop (mkF m 82 #[.val (.int p1), .val (.ref b), .val (.int kk), .val (.int ee)] [])) _
    refine XS.aloadN X10.here hx rfl (hb hby at_82) rfl rfl ?_
    show Steps p.tables e below (T10.setTop (mkF m 83 #[.val (.int p1), .val (.ref b), .val (.int kk), .val (.int ee)] [(.ref b)])) _
    refine XS.iloadN X10.here hx rfl (hb hby at_83) rfl ?_
    show Steps p.tables e below (T10.setTop (mkF m 84 #[.val (.int p1), .val (.ref b), .val (.int kk), .val (.int ee)] [(.int kk), (.ref b)])) t
    exact k
  obtain ⟨N0, hnb, ZH, ⟨cl, A, -, S, -, H, -⟩, -, -, Al⟩ := I
  have P : ∃ (o : Addr) (C : String), cl.slots[kk.toNatClampNeg]? = some (.ref o) ∧ Exa Z T10.heap o C ∧ (Cond.selects C ({ cls := "com/example/lodestone/lodestone/sql/DataType", name := "isNumeric", desc := "()Z" } : Jvm.MethodName) ({ cls := "com/example/lodestone/lodestone/sql/DataType", name := "isNumeric", desc := "()Z" } : Jvm.MethodName)).before a0 Z = true ∧ own_num o v0 v1 v2 v3 = ee := by
    have hl : kk.toNatClampNeg < cl.slots.size := Nat.lt_of_not_le fun q => inb_of S hk (Or.inr q)
    have hA := H _ hl
    have x0 := Al.1.2
    have x1 := Al.2.1.2
    have x2 := Al.2.2.1.2
    have x3 := Al.2.2.2.1.2
    have x4 := Al.2.2.2.2.1.2
    have x5 := Al.2.2.2.2.2.1.2
    have x6 := Al.2.2.2.2.2.2.1.2
    have x7 := Al.2.2.2.2.2.2.2.1.2
    have x8 := Al.2.2.2.2.2.2.2.2.1.2
    rcases own_nine kk hk with rfl | rfl | rfl | rfl | rfl | rfl | rfl | rfl | rfl
    · exact ⟨v0, _, hA, x0, (hw _ (List.mem_of_getElem? (i := 32) rfl)), by rw [hee]; simp [own_num]; try decide⟩
    · exact ⟨v1, _, hA, x1, (hw _ (List.mem_of_getElem? (i := 40) rfl)), by rw [hee]; simp [own_num]; try decide⟩
    · exact ⟨v2, _, hA, x2, (hw _ (List.mem_of_getElem? (i := 39) rfl)), by rw [hee]; simp [own_num]; try decide⟩
    · exact ⟨v3, _, hA, x3, (hw _ (List.mem_of_getElem? (i := 35) rfl)), by rw [hee]; simp [own_num]; try decide⟩
    · exact ⟨v4, _, hA, x4, (hw _ (List.mem_of_getElem? (i := 42) rfl)), by rw [hee]; simp [own_num, ne_exa x4 x0 (by decide), ne_exa x4 x1 (by decide), ne_exa x4 x2 (by decide), ne_exa x4 x3 (by decide)]; try decide⟩
    · exact ⟨v5, _, hA, x5, (hw _ (List.mem_of_getElem? (i := 43) rfl)), by rw [hee]; simp [own_num, ne_exa x5 x0 (by decide), ne_exa x5 x1 (by decide), ne_exa x5 x2 (by decide), ne_exa x5 x3 (by decide)]; try decide⟩
    · exact ⟨v6, _, hA, x6, (hw _ (List.mem_of_getElem? (i := 41) rfl)), by rw [hee]; simp [own_num, ne_exa x6 x0 (by decide), ne_exa x6 x1 (by decide), ne_exa x6 x2 (by decide), ne_exa x6 x3 (by decide)]; try decide⟩
    · exact ⟨v7, _, hA, x7, (hw _ (List.mem_of_getElem? (i := 41) rfl)), by rw [hee]; simp [own_num, ne_exa x7 x0 (by decide), ne_exa x7 x1 (by decide), ne_exa x7 x2 (by decide), ne_exa x7 x3 (by decide)]; try decide⟩
    · exact ⟨v8, _, hA, x8, (hw _ (List.mem_of_getElem? (i := 41) rfl)), by rw [hee]; simp [own_num, ne_exa x8 x0 (by decide), ne_exa x8 x1 (by decide), ne_exa x8 x2 (by decide), ne_exa x8 x3 (by decide)]; try decide⟩
  obtain ⟨o, C, hat, Eo, hsel, hnum⟩ := P
  have sta := fun t k => X10.aaload hx (j := kk) (v := (.ref o)) A.1 (State.isArrayOf_alike hZ.alike A.2.1) rfl A.2.2 (inb_of S hk) hat (g := (mkF m 84 #[.val (.int p1), .val (.ref b), .val (.int kk), .val (.int ee)] [(.int kk), (.ref b)])) rfl rfl (hb hby at_84) t k
  obtain ⟨cq, kq, qa, qb, qc⟩ := isOf hZ rfl Eo
  obtain ⟨_, _, ⟨T11, L11, k11, n11⟩, -, X11, ⟨Lc11, hQ11, l11, y11, z11⟩, st11⟩ := X10.virtualBack hx (y := (⟨"com/example/lodestone/lodestone/sql/DataType", "isNumeric", "()Z"⟩ : MethodName)) (z := (⟨"com/example/lodestone/lodestone/sql/DataType", "isNumeric", "()Z"⟩ : MethodName)) hown (mvT hZ (hw _ (List.mem_of_getElem? (i := 29) rfl))) (mvT hZ (hw _ (List.mem_of_getElem? (i := 30) rfl))) (notFace_of_selects (args := #[]) (mvT hZ hsel)) (mvT hZ hsel) (mvT hZ (hw _ (List.mem_of_getElem? (i := 31) rfl))) (by decide) (backOf (W := 0) (rm1 l Z a0 hw [] o v0 v1 v2 v3 T10.heap n0 ZH Al.1.1 Al.2.1.1 Al.2.2.1.1 Al.2.2.2.1.1) hZ (hw _ (List.mem_of_getElem? (i := 33) rfl)) (hw _ (List.mem_of_getElem? (i := 3) rfl)) (by decide) (by decide)) qa qc (g := (mkF m 85 #[.val (.int p1), .val (.ref b), .val (.int kk), .val (.int ee)] [(.ref o)])) rfl (by rw [hml]; rfl) (Steps.refl _) (argsL := []) (rest := []) (lenOf pd_0_0 rfl) rfl (by show 2 * 0 + _ ≤ _; exact Nat.le_of_eq rfl) (hb hby at_85) (fun _ _ => ⟨rfl, rfl, (by decide : 1 + 0 ≤ _), (by decide : 9 + 0 ≤ _)⟩)
  dsimp only [Pt.U, Pt.locs, Pt.cells, Pt.slots] at X11 l11 y11 z11 st11 hQ11
  subst l11 y11 z11
  obtain ⟨rfl, N11q, H11⟩ := hQ11
  have K13 : ∀ t, Steps p.tables e below (T11.setTop (mkF m 97 #[.val (.int p1), .val (.ref b), .val (.int kk), .val (.int ee)] [(.int (1 : Int32))])) t → Steps p.tables e below (T11.setTop (mkF m 88 #[.val (.int p1), .val (.ref b), .val (.int kk), .val (.int ee)] [(.int (own_num o v0 v1 v2 v3))])) t := by
    intro t k
    show Steps p.tables e below (T11.setTop (mkF m 88 #[.val (.int p1), .val (.ref b), .val (.int kk), .val (.int ee)] [(.int (own_num o v0 v1 v2 v3))])) _
    refine XS.iloadN X11.here hx rfl (hb hby at_88) rfl ?_
    show Steps p.tables e below (T11.setTop (mkF m 89 #[.val (.int p1), .val (.ref b), .val (.int kk), .val (.int ee)] [(.int ee), (.int (own_num o v0 v1 v2 v3))])) _
    refine XS.icmpNo X11.here hx rfl (hb hby at_89) rfl (teq hnum).2 ?_
    show Steps p.tables e below (T11.setTop (mkF m 92 #[.val (.int p1), .val (.ref b), .val (.int kk), .val (.int ee)] [])) _
    refine XS.iconst X11.here hx rfl (hb hby at_92) ?_
    show Steps p.tables e below (T11.setTop (mkF m 93 #[.val (.int p1), .val (.ref b), .val (.int kk), .val (.int ee)] [(.int (1 : Int32))])) _
    refine XS.goto X11.here hx rfl (pc0 := 93) (pc' := 97) rfl (hb hby at_93) (by decide) (by decide) ?_
    show Steps p.tables e below (T11.setTop (mkF m 97 #[.val (.int p1), .val (.ref b), .val (.int kk), .val (.int ee)] [(.int (1 : Int32))])) t
    exact k
  obtain ⟨fs, hr, hrun, hended, hW, hsame⟩ := X11.leave (v := some (.int (1 : Int32))) (fun h => by rw [Bd.returns] at h; cases h)
  refine ⟨_, _, pre0 _ ?_, hrun, hended, _, _, rfl, ?_, ⟨_, rfl⟩, hW, hsame.mono (by decide) (by decide)⟩
  · refine K1 _ (st1 _ (K2 _ (st2 _ (K3 _ (st3 _ (K4 _ (st4 _ (K5 _ (st5 _ (K6 _ (st6 _ (K7 _ (st7 _ (K8 _ (st8 _ (K9 _ (st9 _ (K10 _ (st10 _ (K11 _ (E _ (K12 _ (sta _ ?_)))))))))))))))))))))))
    refine st11.trans ?_
    refine K13 _ ?_
    exact retN X11 hx (t := .boolean) Bd.returns (by simp) (hb hby at_97) hr
  · exact ⟨rfl, Fr.app N0 N11q⟩
set_option maxRecDepth 65536 in
set_option maxHeartbeats 40000000 in
theorem comes_1 {Post : Tables → Env → Array Value → State → Outcome → State → Prop} (hpost : ∀ tb e args s v u, (limb_1_1.after args s (.returned v) u = true ∧ limb_1_2.after args s (.returned v) u = true ∧ True) → FrameEnd s (.returned v) u (Jvm.fieldLocs frame_1_writes args s ++ Jvm.arrayLocs frame_1_arrays args s ++ Jvm.staticLocs frame_1_statics s) 16 128 → Post tb e args s (.returned v) u) :
    ArmFor flags0 classFile x code maxLocals ret World_1 tables_1 room_1 Calls_1 rest_1 Pre_1 Post := by
  intro l hfl _ _ p e ha hc hk s m args below hf hA hF happ hP
  obtain ⟨hcalls, hrest, hpre⟩ := hP
  obtain ⟨-, -, -, hnamed, -, -, -, hat⟩ := (Spec.applies_iff hf).mp happ
  obtain ⟨hg, hn⟩ := and_e (Cond.before_iff.mp (show (Jvm.Cond.and given_1 narrow_1).before args s = true from hpre))
  obtain ⟨g0, r0⟩ := and_e hg
  obtain ⟨w0, rfl⟩ : ∃ w0 : Value, args = #[w0] := by
    have hs : args.size = 1 := by simpa [Cond.value, given_1] using g0
    obtain ⟨L⟩ := args
    match L, hs with
    | [w0], _ => exact ⟨w0, rfl⟩
  have hw := fun d (hd : d ∈ tables_1) => atoms_spec (ws := Jvm.Cond.code x code maxLocals ret :: tables_1) hat d (List.mem_cons_of_mem _ hd)
  obtain ⟨i0, ei0⟩ := is_v r0
  obtain rfl : w0 = (.int i0) := Option.some.inj ei0
  obtain ⟨t0, u0⟩ := and_e hn
  obtain ⟨b0, F0⟩ := own_start t0 (hw _ (List.mem_of_getElem? (i := 3) rfl)) (hw _ (List.mem_of_getElem? (i := 4) rfl))
  obtain ⟨t1, u1⟩ := and_e u0
  obtain ⟨b1, F1⟩ := own_start t1 (hw _ (List.mem_of_getElem? (i := 3) rfl)) (hw _ (List.mem_of_getElem? (i := 7) rfl))
  obtain ⟨t2, u2⟩ := and_e u1
  obtain ⟨b2, F2⟩ := own_start t2 (hw _ (List.mem_of_getElem? (i := 3) rfl)) (hw _ (List.mem_of_getElem? (i := 10) rfl))
  obtain ⟨t3, u3⟩ := and_e u2
  obtain ⟨b3, F3⟩ := own_start t3 (hw _ (List.mem_of_getElem? (i := 3) rfl)) (hw _ (List.mem_of_getElem? (i := 13) rfl))
  obtain ⟨t4, u4⟩ := and_e u3
  obtain ⟨b4, F4⟩ := own_start t4 (hw _ (List.mem_of_getElem? (i := 3) rfl)) (hw _ (List.mem_of_getElem? (i := 16) rfl))
  obtain ⟨t5, u5⟩ := and_e u4
  obtain ⟨b5, F5⟩ := own_start t5 (hw _ (List.mem_of_getElem? (i := 3) rfl)) (hw _ (List.mem_of_getElem? (i := 19) rfl))
  obtain ⟨t6, u6⟩ := and_e u5
  obtain ⟨b6, F6⟩ := own_start t6 (hw _ (List.mem_of_getElem? (i := 3) rfl)) (hw _ (List.mem_of_getElem? (i := 22) rfl))
  obtain ⟨t7, u7⟩ := and_e u6
  obtain ⟨b7, F7⟩ := own_start t7 (hw _ (List.mem_of_getElem? (i := 3) rfl)) (hw _ (List.mem_of_getElem? (i := 25) rfl))
  obtain ⟨b8, F8⟩ := own_start u7 (hw _ (List.mem_of_getElem? (i := 3) rfl)) (hw _ (List.mem_of_getElem? (i := 27) rfl))
  obtain ⟨n, o, h1, h2, h3, _, L, rfl, ⟨rfl, N⟩, hq⟩ := rm0 l s _ hw tables_1 i0 s.heap s.heap.size (Nat.le_refl _) b0 b1 b2 b3 b4 b5 b6 b7 b8 ⟨F0, F1, F2, F3, F4, F5, F6, F7, F8, trivial⟩ p e ha hc hk s m _ below hf ((Spec.applies_iff_loose hf).mp happ).1 ⟨rfl, State.Warmed39.refl s, rfl⟩ trivial
  refine ⟨n, _, h1, h2, h3, hpost _ _ _ _ _ _ ⟨Cond.after_iff.mpr rfl, Cond.after_iff.mpr (eq_i res_at (Term.int_eval (1)) rfl), trivial⟩ ⟨hq.1, hq.2.1, (hq.2.2.sift fun y hy => Or.inr (N y hy)).mono (by decide) (by decide)⟩⟩
theorem main_1_1 : Claimed_1_1 := comes_1 fun _ _ _ _ _ _ h hF => ⟨h.1, hF⟩
theorem main_1_2 : Claimed_1_2 := comes_1 fun _ _ _ _ _ _ h hF => ⟨h.2.1, hF⟩
end Jvm.Pilot.@@N@@
namespace Jvm.Pilot.@@N@@
open Jvm Jvm.ClassFile Sem Op Lib Jvm.Free Jvm.Stand Jvm.Pilot.@@N@@.Jvm.D
/-! MADE BY PROGRAM (witnessworld.py) out of the Statement's table words and the real class files: 19 classes; the members and pool entries that the words name. The judged class is class 1, her method 1. -/
namespace start1
open Jvm.ClassFile
def u (s : String) : CpInfo := .utf8 (stringToUtf16 s)
/-- a pool by its gaps: so many unusable entries, then the entry; so many at the end -/
def gap : Nat → List CpInfo → List CpInfo
  | 0, r => r
  | n + 1, r => .unusable :: gap n r
def poolList (es : List (Nat × CpInfo)) (last : Nat) : List CpInfo := es.foldr (fun e r => gap e.1 (e.2 :: r)) (gap last [])
def pool (es : List (Nat × CpInfo)) (last : Nat) : Array CpInfo := ⟨poolList es last⟩
def fileOf (pool : Array CpInfo) (this : Nat) (attrs : Array Attribute := #[]) (ms : Array MethodInfo := #[]) (fl : Nat := 33) (sup : Nat := 0) (ifs : Array Nat := #[]) (fds : Array FieldInfo := #[]) : ClassFile where
  minorVersion := 0
  majorVersion := 65
  constantPool := pool
  accessFlags := fl
  thisClass := this
  superClass := sup
  interfaces := ifs
  fields := fds
  methods := ms
  attributes := attrs
def plain (name : String) (sup : Option ClassId) : Class where
  name := name
  kind := .ordinary
  loader := none
  accessFlags := 33
  super := sup
  interfaces := #[]
  cf := none
  fields := #[]
  methods := #[]
  instanceTypes := #[]
  staticTypes := #[]
  resolved := #[]
  callSites := []
  init := .initialized
  statics := none
  mirror := none

def pool0 : Array CpInfo := pool [(5, u "<init>"), (0, u "()V"), (1, .class_ 10), (1, u "java/lang/Object")] 113

def k0m0 : Method := { name := "<init>", desc := "()V", sig := { parameters := [], returnType := none }, accessFlags := 1, code := none }
/-- java/lang/Object -/
def k0 : Class := { plain "java/lang/Object" none with
  accessFlags := 33
  interfaces := #[]
  cf := some (fileOf pool0 8 #[] #[{ accessFlags := 1, nameIndex := 5, descriptorIndex := 6, attributes := #[] }] 33 0 #[] #[])
  fields := #[]
  methods := #[k0m0]
  instanceTypes := #[]
  staticTypes := #[]
  resolved := Array.replicate 124 none
  statics := none }

def pool1 : Array CpInfo := pool [(2, .class_ 4), (1, u "java/lang/Object"), (0, u "<init>"), (0, u "()V"), (0, .class_ 8), (0, u "com/example/lodestone/lodestone/sql/DataType"), (0, .fieldref 7 10), (0, .nameAndType 11 12), (0, u "INTEGER"), (0, u "Lcom/example/lodestone/lodestone/sql/DataType;"), (0, .fieldref 7 14), (0, .nameAndType 15 12), (0, u "BIGINT"), (0, .fieldref 7 17), (0, .nameAndType 18 12), (0, u "DECIMAL"), (0, .fieldref 7 20), (0, .nameAndType 21 12), (0, u "DOUBLE"), (0, .fieldref 7 23), (0, .nameAndType 24 12), (0, u "VARCHAR"), (0, .fieldref 7 26), (0, .nameAndType 27 12), (0, u "DATE"), (0, .fieldref 7 29), (0, .nameAndType 30 12), (0, u "INTERVAL"), (0, .fieldref 7 32), (0, .nameAndType 33 12), (0, u "BOOLEAN"), (0, .fieldref 7 35), (0, .nameAndType 36 12), (0, u "NULL"), (0, .integer 2147483647), (0, .methodref 7 39), (0, .nameAndType 40 41), (0, u "isNumeric"), (0, u "()Z"), (0, .class_ 43), (0, u "com/example/lodestone/lodestone/sql/DataTypeIsNumericPinLaw"), (2, u "law"), (0, u "(I)Z")] 5

def k1m0 : Method := { name := "<init>", desc := "()V", sig := { parameters := [], returnType := none }, accessFlags := 2, code := none }
def k1c1 : Code := { maxStack := 4, maxLocals := 4, code := code, exceptionTable := #[], attributes := #[] }
def k1m1 : Method := { name := "law", desc := "(I)Z", sig := { parameters := [.int], returnType := some .boolean }, accessFlags := 9, code := some k1c1 }
/-- com/example/lodestone/lodestone/sql/DataTypeIsNumericPinLaw -/
def k1 : Class := { plain "com/example/lodestone/lodestone/sql/DataTypeIsNumericPinLaw" (some 0) with
  accessFlags := 49
  interfaces := #[]
  cf := some (fileOf pool1 42 #[] #[{ accessFlags := 2, nameIndex := 5, descriptorIndex := 6, attributes := #[] }, { accessFlags := 9, nameIndex := 46, descriptorIndex := 47, attributes := #[] }] 49 2 #[] #[])
  fields := #[]
  methods := #[k1m0, k1m1]
  instanceTypes := #[]
  staticTypes := #[]
  resolved := Array.replicate 53 none
  statics := none }

def pool2 : Array CpInfo := pool [(1, .class_ 2), (0, u "java/lang/constant/Constable"), (0, .class_ 4), (0, u "java/lang/Object")] 6

/-- java/lang/constant/Constable -/
def k2 : Class := { plain "java/lang/constant/Constable" (some 0) with
  accessFlags := 1537
  interfaces := #[]
  cf := some (fileOf pool2 1 #[] #[] 1537 3 #[] #[])
  fields := #[]
  methods := #[]
  instanceTypes := #[]
  staticTypes := #[]
  resolved := Array.replicate 11 none
  statics := none }

def pool3 : Array CpInfo := pool [(1, .class_ 2), (0, u "java/lang/Comparable"), (0, .class_ 4), (0, u "java/lang/Object")] 7

/-- java/lang/Comparable -/
def k3 : Class := { plain "java/lang/Comparable" (some 0) with
  accessFlags := 1537
  interfaces := #[]
  cf := some (fileOf pool3 1 #[] #[] 1537 3 #[] #[])
  fields := #[]
  methods := #[]
  instanceTypes := #[]
  staticTypes := #[]
  resolved := Array.replicate 12 none
  statics := none }

def pool4 : Array CpInfo := pool [(1, .class_ 2), (0, u "java/io/Serializable"), (0, .class_ 4), (0, u "java/lang/Object")] 2

/-- java/io/Serializable -/
def k4 : Class := { plain "java/io/Serializable" (some 0) with
  accessFlags := 1537
  interfaces := #[]
  cf := some (fileOf pool4 1 #[] #[] 1537 3 #[] #[])
  fields := #[]
  methods := #[]
  instanceTypes := #[]
  staticTypes := #[]
  resolved := Array.replicate 7 none
  statics := none }

def pool5 : Array CpInfo := pool [(2, .class_ 4), (1, u "java/lang/Enum"), (0, u "name"), (0, u "Ljava/lang/String;"), (2, u "ordinal"), (0, u "I"), (1, .class_ 14), (1, u "java/lang/Object"), (4, u "hash"), (86, .class_ 108), (1, u "java/lang/Enum$EnumDesc"), (2, .class_ 112), (0, u "java/lang/constant/Constable"), (0, .class_ 114), (0, u "java/lang/Comparable"), (0, .class_ 116), (0, u "java/io/Serializable")] 87

/-- java/lang/Enum -/
def k5 : Class := { plain "java/lang/Enum" (some 0) with
  accessFlags := 1057
  interfaces := #[2, 3, 4]
  cf := some (fileOf pool5 2 #[.nestMembers #[106]] #[] 1057 12 #[111, 113, 115] #[{ accessFlags := 18, nameIndex := 5, descriptorIndex := 6, attributes := #[] }, { accessFlags := 18, nameIndex := 9, descriptorIndex := 10, attributes := #[] }, { accessFlags := 2, nameIndex := 19, descriptorIndex := 10, attributes := #[] }])
  fields := #[{ name := "name", type := (.object "java/lang/String"), accessFlags := 18, slot := 0, constantValue := 0 }, { name := "ordinal", type := .int, accessFlags := 18, slot := 1, constantValue := 0 }, { name := "hash", type := .int, accessFlags := 2, slot := 2, constantValue := 0 }]
  methods := #[]
  instanceTypes := #[(.object "java/lang/String"), .int, .int]
  staticTypes := #[]
  resolved := Array.replicate 204 none
  statics := none }

def pool6 : Array CpInfo := pool [(1, .class_ 2), (0, u "com/example/lodestone/lodestone/sql/DataType"), (0, .fieldref 1 4), (0, .nameAndType 5 6), (0, u "INTEGER"), (0, u "Lcom/example/lodestone/lodestone/sql/DataType;"), (0, .fieldref 1 8), (0, .nameAndType 9 6), (0, u "BIGINT"), (0, .fieldref 1 11), (0, .nameAndType 12 6), (0, u "DECIMAL"), (0, .fieldref 1 14), (0, .nameAndType 15 6), (0, u "DOUBLE"), (2, u "VARCHAR"), (2, u "DATE"), (2, u "INTERVAL"), (2, u "BOOLEAN"), (2, u "NULL"), (2, u "$VALUES"), (0, u "[Lcom/example/lodestone/lodestone/sql/DataType;"), (6, .class_ 43), (1, u "java/lang/Enum"), (44, u "isNumeric"), (0, u "()Z"), (48, u "FIRST_DATE"), (0, u "Ljava/time/LocalDate;"), (8, u "LAST_DATE"), (21, u "LONG_MIN"), (0, u "Ljava/math/BigDecimal;"), (5, u "LONG_MAX"), (6, u "PLAIN_DECIMAL_TEXT"), (0, u "Ljava/util/regex/Pattern;"), (20, u "INTEGER_TEXT"), (33, .class_ 241), (0, u "com/example/lodestone/lodestone/sql/DataType$1"), (2, .class_ 245), (0, u "com/example/lodestone/lodestone/sql/DataType$2"), (2, .class_ 249), (0, u "com/example/lodestone/lodestone/sql/DataType$3"), (2, .class_ 253), (0, u "com/example/lodestone/lodestone/sql/DataType$4"), (2, .class_ 257), (0, u "com/example/lodestone/lodestone/sql/DataType$5"), (2, .class_ 261), (0, u "com/example/lodestone/lodestone/sql/DataType$6"), (30, u "DECIMAL_TEXT"), (0, u "MAX_PRECISION"), (0, u "I"), (2, u "PLAIN_DECIMAL"), (0, u "Ljava/lang/String;")] 72

def k6c0 : Code := { maxStack := 2, maxLocals := 1, code := prog_152_method_10_code, exceptionTable := #[], attributes := #[] }
def k6m0 : Method := { name := "isNumeric", desc := "()Z", sig := { parameters := [], returnType := some .boolean }, accessFlags := 1, code := some k6c0 }
/-- com/example/lodestone/lodestone/sql/DataType -/
def k6 : Class := { plain "com/example/lodestone/lodestone/sql/DataType" (some 5) with
  accessFlags := 16417
  interfaces := #[]
  cf := some (fileOf pool6 1 #[.nestMembers #[260, 256, 252, 248, 244, 240]] #[{ accessFlags := 1, nameIndex := 88, descriptorIndex := 89, attributes := #[] }] 16417 41 #[] #[{ accessFlags := 16409, nameIndex := 5, descriptorIndex := 6, attributes := #[] }, { accessFlags := 16409, nameIndex := 9, descriptorIndex := 6, attributes := #[] }, { accessFlags := 16409, nameIndex := 12, descriptorIndex := 6, attributes := #[] }, { accessFlags := 16409, nameIndex := 15, descriptorIndex := 6, attributes := #[] }, { accessFlags := 16409, nameIndex := 18, descriptorIndex := 6, attributes := #[] }, { accessFlags := 16409, nameIndex := 21, descriptorIndex := 6, attributes := #[] }, { accessFlags := 16409, nameIndex := 24, descriptorIndex := 6, attributes := #[] }, { accessFlags := 16409, nameIndex := 27, descriptorIndex := 6, attributes := #[] }, { accessFlags := 16409, nameIndex := 30, descriptorIndex := 6, attributes := #[] }, { accessFlags := 25, nameIndex := 138, descriptorIndex := 139, attributes := #[] }, { accessFlags := 25, nameIndex := 148, descriptorIndex := 139, attributes := #[] }, { accessFlags := 25, nameIndex := 293, descriptorIndex := 294, attributes := #[] }, { accessFlags := 26, nameIndex := 297, descriptorIndex := 298, attributes := #[] }, { accessFlags := 26, nameIndex := 170, descriptorIndex := 171, attributes := #[] }, { accessFlags := 26, nameIndex := 177, descriptorIndex := 171, attributes := #[] }, { accessFlags := 26, nameIndex := 206, descriptorIndex := 185, attributes := #[] }, { accessFlags := 26, nameIndex := 184, descriptorIndex := 185, attributes := #[] }, { accessFlags := 26, nameIndex := 292, descriptorIndex := 185, attributes := #[] }, { accessFlags := 4122, nameIndex := 33, descriptorIndex := 34, attributes := #[] }])
  fields := #[{ name := "INTEGER", type := (.object "com/example/lodestone/lodestone/sql/DataType"), accessFlags := 16409, slot := 0, constantValue := 0 }, { name := "BIGINT", type := (.object "com/example/lodestone/lodestone/sql/DataType"), accessFlags := 16409, slot := 1, constantValue := 0 }, { name := "DECIMAL", type := (.object "com/example/lodestone/lodestone/sql/DataType"), accessFlags := 16409, slot := 2, constantValue := 0 }, { name := "DOUBLE", type := (.object "com/example/lodestone/lodestone/sql/DataType"), accessFlags := 16409, slot := 3, constantValue := 0 }, { name := "VARCHAR", type := (.object "com/example/lodestone/lodestone/sql/DataType"), accessFlags := 16409, slot := 4, constantValue := 0 }, { name := "DATE", type := (.object "com/example/lodestone/lodestone/sql/DataType"), accessFlags := 16409, slot := 5, constantValue := 0 }, { name := "INTERVAL", type := (.object "com/example/lodestone/lodestone/sql/DataType"), accessFlags := 16409, slot := 6, constantValue := 0 }, { name := "BOOLEAN", type := (.object "com/example/lodestone/lodestone/sql/DataType"), accessFlags := 16409, slot := 7, constantValue := 0 }, { name := "NULL", type := (.object "com/example/lodestone/lodestone/sql/DataType"), accessFlags := 16409, slot := 8, constantValue := 0 }, { name := "FIRST_DATE", type := (.object "java/time/LocalDate"), accessFlags := 25, slot := 9, constantValue := 0 }, { name := "LAST_DATE", type := (.object "java/time/LocalDate"), accessFlags := 25, slot := 10, constantValue := 0 }, { name := "MAX_PRECISION", type := .int, accessFlags := 25, slot := 11, constantValue := 0 }, { name := "PLAIN_DECIMAL", type := (.object "java/lang/String"), accessFlags := 26, slot := 12, constantValue := 0 }, { name := "LONG_MIN", type := (.object "java/math/BigDecimal"), accessFlags := 26, slot := 13, constantValue := 0 }, { name := "LONG_MAX", type := (.object "java/math/BigDecimal"), accessFlags := 26, slot := 14, constantValue := 0 }, { name := "INTEGER_TEXT", type := (.object "java/util/regex/Pattern"), accessFlags := 26, slot := 15, constantValue := 0 }, { name := "PLAIN_DECIMAL_TEXT", type := (.object "java/util/regex/Pattern"), accessFlags := 26, slot := 16, constantValue := 0 }, { name := "DECIMAL_TEXT", type := (.object "java/util/regex/Pattern"), accessFlags := 26, slot := 17, constantValue := 0 }, { name := "$VALUES", type := (.array (.object "com/example/lodestone/lodestone/sql/DataType")), accessFlags := 4122, slot := 18, constantValue := 0 }]
  methods := #[k6m0]
  instanceTypes := #[(.object "java/lang/String"), .int, .int]
  staticTypes := #[(.object "com/example/lodestone/lodestone/sql/DataType"), (.object "com/example/lodestone/lodestone/sql/DataType"), (.object "com/example/lodestone/lodestone/sql/DataType"), (.object "com/example/lodestone/lodestone/sql/DataType"), (.object "com/example/lodestone/lodestone/sql/DataType"), (.object "com/example/lodestone/lodestone/sql/DataType"), (.object "com/example/lodestone/lodestone/sql/DataType"), (.object "com/example/lodestone/lodestone/sql/DataType"), (.object "com/example/lodestone/lodestone/sql/DataType"), (.object "java/time/LocalDate"), (.object "java/time/LocalDate"), .int, (.object "java/lang/String"), (.object "java/math/BigDecimal"), (.object "java/math/BigDecimal"), (.object "java/util/regex/Pattern"), (.object "java/util/regex/Pattern"), (.object "java/util/regex/Pattern"), (.array (.object "com/example/lodestone/lodestone/sql/DataType"))]
  resolved := Array.replicate 371 none
  statics := some 0 }

def pool7 : Array CpInfo := pool [(2, .class_ 4), (1, u "com/example/lodestone/lodestone/sql/DataType"), (7, .class_ 14), (1, u "com/example/lodestone/lodestone/sql/DataType$1")] 43

/-- com/example/lodestone/lodestone/sql/DataType$1 -/
def k7 : Class := { plain "com/example/lodestone/lodestone/sql/DataType$1" (some 6) with
  accessFlags := 16432
  interfaces := #[]
  cf := some (fileOf pool7 12 #[.nestHost 2] #[] 16432 2 #[] #[])
  fields := #[]
  methods := #[]
  instanceTypes := #[(.object "java/lang/String"), .int, .int]
  staticTypes := #[]
  resolved := Array.replicate 58 none
  statics := none }

def pool8 : Array CpInfo := pool [(2, .class_ 4), (1, u "com/example/lodestone/lodestone/sql/DataType"), (16, .class_ 22), (0, u "com/example/lodestone/lodestone/sql/DataType$2")] 17

/-- com/example/lodestone/lodestone/sql/DataType$2 -/
def k8 : Class := { plain "com/example/lodestone/lodestone/sql/DataType$2" (some 6) with
  accessFlags := 16432
  interfaces := #[]
  cf := some (fileOf pool8 21 #[.nestHost 2] #[] 16432 2 #[] #[])
  fields := #[]
  methods := #[]
  instanceTypes := #[(.object "java/lang/String"), .int, .int]
  staticTypes := #[]
  resolved := Array.replicate 40 none
  statics := none }

def pool9 : Array CpInfo := pool [(2, .class_ 4), (1, u "com/example/lodestone/lodestone/sql/DataType"), (3, .class_ 10), (1, u "com/example/lodestone/lodestone/sql/DataType$3")] 46

/-- com/example/lodestone/lodestone/sql/DataType$3 -/
def k9 : Class := { plain "com/example/lodestone/lodestone/sql/DataType$3" (some 6) with
  accessFlags := 16432
  interfaces := #[]
  cf := some (fileOf pool9 8 #[.nestHost 2] #[] 16432 2 #[] #[])
  fields := #[]
  methods := #[]
  instanceTypes := #[(.object "java/lang/String"), .int, .int]
  staticTypes := #[]
  resolved := Array.replicate 57 none
  statics := none }

def pool10 : Array CpInfo := pool [(2, .class_ 4), (1, u "com/example/lodestone/lodestone/sql/DataType"), (19, .class_ 26), (1, u "com/example/lodestone/lodestone/sql/DataType$4")] 59

/-- com/example/lodestone/lodestone/sql/DataType$4 -/
def k10 : Class := { plain "com/example/lodestone/lodestone/sql/DataType$4" (some 6) with
  accessFlags := 16432
  interfaces := #[]
  cf := some (fileOf pool10 24 #[.nestHost 2] #[] 16432 2 #[] #[])
  fields := #[]
  methods := #[]
  instanceTypes := #[(.object "java/lang/String"), .int, .int]
  staticTypes := #[]
  resolved := Array.replicate 86 none
  statics := none }

def pool11 : Array CpInfo := pool [(2, .class_ 4), (1, u "com/example/lodestone/lodestone/sql/DataType"), (8, .class_ 14), (0, u "com/example/lodestone/lodestone/sql/DataType$5")] 18

/-- com/example/lodestone/lodestone/sql/DataType$5 -/
def k11 : Class := { plain "com/example/lodestone/lodestone/sql/DataType$5" (some 6) with
  accessFlags := 16432
  interfaces := #[]
  cf := some (fileOf pool11 13 #[.nestHost 2] #[] 16432 2 #[] #[])
  fields := #[]
  methods := #[]
  instanceTypes := #[(.object "java/lang/String"), .int, .int]
  staticTypes := #[]
  resolved := Array.replicate 33 none
  statics := none }

def pool12 : Array CpInfo := pool [(2, .class_ 4), (1, u "com/example/lodestone/lodestone/sql/DataType"), (7, .class_ 14), (1, u "com/example/lodestone/lodestone/sql/DataType$6")] 53

/-- com/example/lodestone/lodestone/sql/DataType$6 -/
def k12 : Class := { plain "com/example/lodestone/lodestone/sql/DataType$6" (some 6) with
  accessFlags := 16432
  interfaces := #[]
  cf := some (fileOf pool12 12 #[.nestHost 2] #[] 16432 2 #[] #[])
  fields := #[]
  methods := #[]
  instanceTypes := #[(.object "java/lang/String"), .int, .int]
  staticTypes := #[]
  resolved := Array.replicate 68 none
  statics := none }

def pool13 : Array CpInfo := pool [(1, u "java/lang/Cloneable"), (0, .class_ 1), (0, u "java/lang/Object"), (0, .class_ 3)] 3

/-- java/lang/Cloneable -/
def k13 : Class := { plain "java/lang/Cloneable" (some 0) with
  accessFlags := 1537
  interfaces := #[]
  cf := some (fileOf pool13 2 #[] #[] 1537 4 #[] #[])
  fields := #[]
  methods := #[]
  instanceTypes := #[]
  staticTypes := #[]
  resolved := Array.replicate 8 none
  statics := none }

/-- the primitive byte -/
def k14 : Class := { plain "byte" none with kind := .primitive 'B', accessFlags := 0x411 }
/-- [B -/
def k15 : Class := { plain "[B" (some 0) with kind := .array 14 .byte, interfaces := #[13, 4], accessFlags := 1041 }

/-- the primitive int -/
def k16 : Class := { plain "int" none with kind := .primitive 'I', accessFlags := 0x411 }
/-- [I -/
def k17 : Class := { plain "[I" (some 0) with kind := .array 16 .int, interfaces := #[13, 4], accessFlags := 1041 }

/-- [Lcom/example/lodestone/lodestone/sql/DataType; -/
def k18 : Class := { plain "[Lcom/example/lodestone/lodestone/sql/DataType;" (some 0) with kind := .array 6 (.object "com/example/lodestone/lodestone/sql/DataType"), interfaces := #[13, 4], accessFlags := 1041 }

def heap : Heap := #[{ cls := 6, slots := #[.ref 1, .ref 2, .ref 3, .ref 4, .ref 5, .ref 6, .ref 7, .ref 8, .ref 9, .null, .null, .int 0, .null, .null, .null, .null, .null, .null, .null], vm := .statics 6 },
  { cls := 7, slots := #[.null, .int 0, .int 0], vm := .none },
  { cls := 8, slots := #[.null, .int 0, .int 1], vm := .none },
  { cls := 9, slots := #[.null, .int 0, .int 2], vm := .none },
  { cls := 10, slots := #[.null, .int 0, .int 3], vm := .none },
  { cls := 11, slots := #[.null, .int 0, .int 4], vm := .none },
  { cls := 12, slots := #[.null, .int 0, .int 5], vm := .none },
  { cls := 6, slots := #[.null, .int 0, .int 6], vm := .none },
  { cls := 6, slots := #[.null, .int 0, .int 7], vm := .none },
  { cls := 6, slots := #[.null, .int 0, .int 8], vm := .none }]
def classes : Array Class := #[k0, k1, k2, k3, k4, k5, k6, k7, k8, k9, k10, k11, k12, k13, k14, k15, k16, k17, k18]
def interned : List (Array UInt16 × Addr) := []
def slotsUsed : Nat := 46
def theMethod : MethodId := ⟨1, 1⟩
def args0 : Array Value := #[.int 5]
def aboutOver (below : List Frame) : State where
  vm := { classes := classes, interned := interned.toArray }
  heap := heap
  slotsUsed := slotsUsed
  threads := #[{ frames := .invoking theMethod args0 :: below }]
def below0 : List Frame := [.native { method := ⟨0, 0⟩, args := #[] }]
def about1 : State := aboutOver below0
def p0 : Program := .bare "" "" ""
def e0 : Env := launch0.env 0 0 0
theorem w_frames : about1.frames = Frame.invoking theMethod args0 :: below0 := rfl
set_option maxRecDepth 65536 in
theorem w_args : argsFit about1.vm theMethod args0 = true := by decide +kernel
set_option maxRecDepth 65536 in
theorem w_heap : heapFits about1 = true := by decide +kernel
set_option maxRecDepth 65536 in
theorem w_runnable : about1.curStatus? = some .runnable := by decide +kernel
set_option maxRecDepth 65536 in
theorem w_alone : about1.alone = true := by decide +kernel
set_option maxRecDepth 65536 in
theorem w_named : about1.methodNamed? x = some theMethod := by decide +kernel
set_option maxRecDepth 65536 in
theorem w_hears : about1.hears theMethod below0 = true := by decide +kernel
set_option maxRecDepth 65536 in
theorem w_ripe : about1.ripe theMethod args0 below0 = true := by decide +kernel
theorem w_running : about1.status = .running := rfl
set_option maxRecDepth 65536 in
theorem w_room : about1.hasRoom e0.platform room_1 = true :=
  launch0.hasRoom_least _ room_1 (by decide +kernel) (by decide +kernel) (by decide +kernel) (by decide +kernel) (by decide +kernel) (by decide +kernel)
theorem allAtoms_all (ts : List Jvm.Cond) (a : Array Jvm.Value) (st : Jvm.State) : (allAtoms ts).before a st = ts.all (fun c => c.before a st) := by
  induction ts with
  | nil => rfl
  | cons c t ih =>
    show (Jvm.Cond.and c (allAtoms t)).before a st = _
    rw [Jvm.Cond.before_and, ih, List.all_cons]
def words1 : List Jvm.Cond := Jvm.Cond.code x code maxLocals ret :: tables_1
/-- a 'code' word, met by the world's own term for the bytes: nothing is compared byte by byte -/
theorem code_word {y : MethodName} {bytes : ByteArray} {mx : Nat} {rt : Option FieldType} {a : Array Value} {s : State} {m : MethodId} {meth : Method} {c : Code} (h1 : s.methodNamed? y = some m) (h2 : s.vm.method? m = some meth) (h3 : meth.code = some c) (h4 : c.code = bytes)
    (h5 : (c.maxLocals == mx && c.exceptionTable.isEmpty && decide (c.maxStack ≤ mostOperands) && decide (meth.sig.returnType = rt) && !meth.locks && decide (parseMethodDescriptor y.desc = some meth.sig)) = true) : (Jvm.Cond.code y bytes mx rt).before a s = true := by
  simp only [Bool.and_eq_true, beq_iff_eq, Bool.not_eq_true', decide_eq_true_eq] at h5
  obtain ⟨⟨⟨⟨⟨g1, g2⟩, g3⟩, g4⟩, g5⟩, g6⟩ := h5
  simp [Cond.before, Cond.holds, Cond.value, h1, h2, h3, h4, g1, g2, g3, g4, g5, g6]
def isCode : Jvm.Cond → Bool
  | .code _ _ _ _ => true
  | _ => false
theorem all_split {L : List Jvm.Cond} {P : Jvm.Cond → Bool} (h1 : L.all (fun c => isCode c || P c) = true) (h2 : ∀ c ∈ L.filter isCode, P c = true) : L.all P = true := by
  refine List.all_eq_true.mpr fun c hc => ?_
  have h := List.all_eq_true.mp h1 c hc
  rcases Bool.eq_false_or_eq_true (isCode c) with hi | hi
  · exact h2 c (List.mem_filter.mpr ⟨hc, hi⟩)
  · simpa [hi] using h
set_option maxRecDepth 65536 in
theorem w_c0 : (Jvm.Cond.code x code maxLocals ret).before args0 about1 = true := code_word (m := ⟨1, 1⟩) (meth := k1m1) (c := k1c1) (by decide +kernel) rfl rfl rfl (by decide +kernel)
set_option maxRecDepth 65536 in
theorem w_c1 : (Jvm.Cond.code ({ cls := "com/example/lodestone/lodestone/sql/DataType", name := "isNumeric", desc := "()Z" } : Jvm.MethodName) prog_152_method_10_code (1 : Nat) (Option.some Jvm.ClassFile.FieldType.boolean)).before args0 about1 = true := code_word (m := ⟨6, 0⟩) (meth := k6m0) (c := k6c0) (by decide +kernel) rfl rfl rfl (by decide +kernel)
def codes1 : List Jvm.Cond := [Jvm.Cond.code x code maxLocals ret, Jvm.Cond.code ({ cls := "com/example/lodestone/lodestone/sql/DataType", name := "isNumeric", desc := "()Z" } : Jvm.MethodName) prog_152_method_10_code (1 : Nat) (Option.some Jvm.ClassFile.FieldType.boolean)]
set_option maxRecDepth 65536 in
theorem codes_eq : words1.filter isCode = codes1 := rfl
theorem w_codes : ∀ c ∈ words1.filter isCode, c.before args0 about1 = true := by
  rw [codes_eq]
  intro c hc
  simp only [codes1, List.mem_cons, List.not_mem_nil, or_false] at hc
  rcases hc with rfl | rfl
  · exact w_c0
  · exact w_c1
set_option maxRecDepth 65536 in
theorem w_t1 : (words1.take 24).all (fun c => isCode c || c.before args0 about1) = true := by decide +kernel
set_option maxRecDepth 65536 in
theorem w_t2 : (words1.drop 24).all (fun c => isCode c || c.before args0 about1) = true := by decide +kernel
theorem w_tables : (allAtoms (Jvm.Cond.code x code maxLocals ret :: tables_1)).before args0 about1 = true := by
  rw [allAtoms_all]
  show words1.all (fun c => c.before args0 about1) = true
  refine all_split ?_ w_codes
  rw [← List.take_append_drop 24 words1, List.all_append, w_t1, w_t2]
  rfl
set_option maxRecDepth 65536 in
theorem w_case : (Jvm.Cond.and given_1 narrow_1).before args0 about1 = true := by decide +kernel
theorem w_applies : (headSpec (Jvm.Cond.code x code maxLocals ret :: tables_1) room_1).applies x e0.platform about1 = true :=
  (Spec.applies_iff w_frames).mpr ⟨w_running, w_runnable, w_alone, w_named, w_hears, w_ripe, w_room, w_tables⟩
theorem atStart : AtStart classFile x code maxLocals ret World_1 tables_1 room_1 Calls_1 rest_1 Pre_1 launch0 p0 e0 about1 theMethod args0 below0 :=
  ⟨lists_1, trivial, launch0.admits_env _ _ _, launch0.least_env, fairChoices_fair.cas, fairChoices_fair.clock, w_frames, w_args, w_heap, w_applies, trivial, trivial, w_case⟩
end start1
theorem witness_1 : WitnessClaimed_1 := ⟨start1.p0, start1.e0, start1.about1, start1.theMethod, start1.args0, start1.below0, start1.atStart⟩
end Jvm.Pilot.@@N@@
