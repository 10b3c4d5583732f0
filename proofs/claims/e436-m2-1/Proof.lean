import JvmDerived
import JvmDerived.Pilot.@@N@@Statement
import JvmDerived.Pilot.@@N@@Code
set_option linter.unusedVariables false
set_option linter.unusedSimpArgs false
@@BLOCK:NumsL.lean.txt@@
namespace Jvm.RoadKit
open Sem ClassFile Op Lib Jvm.Stand Jvm.Free Jvm.LawKit
section New
variable {p : Program} {l : Launch} {e : Env} {R : Room} {s : State} {m : MethodId} {args : Array Value} {below : List Frame} {meth : Method} {c : Code} {T : State} {locs : List Loc} {cells slots : Nat}
theorem retI (X : Stand p l e R s m args below meth c T locs cells slots) (hx : p.tables.exec = Jvm.exec) {pc : Nat} {Ls : Array Slot} {z : Int32} {rest : List Value} (hret : meth.sig.returnType = some .int) (hd : decode c.code pc = .ok (.ireturn, 1)) {fs : List Frame}
    (hl : ∀ (f : JFrame) (acts : List Action), f.method = m → f.locked = none → f.entered = [] → (doReturn e (T.setTop f) acts (some (.int z))).1 = T.setFrames fs) : Steps p.tables e below (T.setTop (mkF m pc Ls (.int z :: rest))) (T.setFrames fs) := by
  have hm' : T.vm.method? m = some meth := X.method'
  have hn : narrow .int (.int z) = .int z := rfl
  show Steps p.tables e below (T.setTop { method := m, pc := pc, locals := Ls, stack := _ :: rest, locked := none }) _
  jvm_step X.here [X.here.top, hx, hd, hm', hret, hn]
  first | (intro acts; rw [hl _ acts rfl rfl rfl]) | rw [hl _ _ rfl rfl rfl]
  exact Steps.refl _
end New
end Jvm.RoadKit
namespace Jvm.Pilot.@@N@@
open Jvm Jvm.ClassFile Sem Op Lib Jvm.Free Jvm.Stand Jvm.LawKit Jvm.RoadKit Bundle Jvm.Pilot.@@N@@.Jvm.D
section Own
variable {p : Program} {l : Launch} {e : Env} {R : Room} {s : State} {m : MethodId} {args : Array Value} {below : List Frame} {meth : Method} {c : Code} {T : State} {locs : List Loc} {cells slots : Nat} {Z : State}
/-- an int[] of length z at b, new since the start; only new cells were written -/
def own_St (Z : State) (n0 : Nat) (h : Heap) (L : List Loc) (b : Addr) (z : Int32) : Prop :=
  Fr n0 L ∧ n0 ≤ b ∧ n0 ≤ h.size ∧ ∃ (k : ClassId) (vs : List Value), Arv Z h b k .int z vs (.int (0 : Int32)) ∧ vs.length = z.toNatClampNeg
theorem own_store (X : Stand p l e R s m args below meth c T locs cells slots) (hx : p.tables.exec = Jvm.exec) (hZ : Z.Warmed39 s.vm) {n0 : Nat} {b : Addr} {z : Int32} (I : own_St Z n0 T.heap locs b z) {j x : Int32} (hj : ¬ j < 0 ∧ j < z) {g : JFrame} (hg : g.method = m) {rest : List Value} (hs : g.stack = .int x :: .int j :: .ref b :: rest) (hd : decode c.code g.pc = .ok (.iastore, 1)) :
    ∃ T' L', Stand p l e R s m args below meth c T' L' cells slots ∧ own_St Z n0 T'.heap L' b z ∧ ∀ target, Steps p.tables e below (T'.setTop { g with pc := g.pc + 1, stack := rest }) target → Steps p.tables e below (T.setTop g) target := by
  obtain ⟨N, hb, hz, k, vs, ⟨cl, A, q, S, Nn, H, G⟩, hl⟩ := I
  have hin : ¬ (j < 0 ∨ cl.slots.size ≤ j.toNatClampNeg) := inb_of S hj
  obtain ⟨T', h', X', e', W, st⟩ := stI X hx hZ rfl A (j := j) hin hg hs hd
  have lt : j.toNatClampNeg < vs.length := by rw [hl, ← S]; exact Nat.lt_of_not_le fun q => hin (Or.inr q)
  have V := Arv.set A q S Nn H G rfl W j.toNatClampNeg rfl lt
  refine ⟨T', _, X', ⟨Fr.snoc X' N hb, hb, ?_, k, vs.set j.toNatClampNeg (.int x), ?_, ?_⟩, st⟩
  · rw [e', W.size]; exact hz
  · rw [e']; exact V
  · rw [List.length_set]; exact hl
theorem own_len (X : Stand p l e R s m args below meth c T locs cells slots) (hx : p.tables.exec = Jvm.exec) (hZ : Z.Warmed39 s.vm) {n0 : Nat} {b : Addr} {z : Int32} (I : own_St Z n0 T.heap locs b z) {g : JFrame} (hg : g.method = m) {rest : List Value} (hs : g.stack = .ref b :: rest) (hd : decode c.code g.pc = .ok (.arraylength, 1)) (target : State)
    (hr : Steps p.tables e below (T.setTop { g with pc := g.pc + 1, stack := .int z :: rest }) target) : Steps p.tables e below (T.setTop g) target := by
  obtain ⟨N, hb, hz, k, vs, ⟨cl, A, q, S, Nn, H, G⟩, hl⟩ := I
  have ez : cl.slots.size.toInt32 = z := by rw [S]; exact (back32 Nn).1
  exact X.arraylength hx A.1 (State.isArrayOf_alike hZ.alike A.2.1) hg hs hd target (by rw [ez]; exact hr)
theorem own_at (X : Stand p l e R s m args below meth c T locs cells slots) (hx : p.tables.exec = Jvm.exec) (hZ : Z.Warmed39 s.vm) {n0 : Nat} {b : Addr} {z : Int32} (I : own_St Z n0 T.heap locs b z) {j : Int32} (hj : ¬ j < 0 ∧ j < z) :
    ∃ w : Int32, ∀ {g : JFrame} (hg : g.method = m) {rest : List Value} (hs : g.stack = .int j :: .ref b :: rest) (hd : decode c.code g.pc = .ok (.iaload, 1)) (target : State), Steps p.tables e below (T.setTop { g with pc := g.pc + 1, stack := .int w :: rest }) target → Steps p.tables e below (T.setTop g) target := by
  obtain ⟨N, hb, hz, k, vs, ⟨cl, A, q, S, Nn, H, G⟩, hl⟩ := I
  have hin : ¬ (j < 0 ∨ cl.slots.size ≤ j.toNatClampNeg) := inb_of S hj
  have lt : j.toNatClampNeg < cl.slots.size := Nat.lt_of_not_le fun q => hin (Or.inr q)
  have f := G _ lt
  have at1 := H _ lt
  generalize vs.getD j.toNatClampNeg (.int (0 : Int32)) = v at f at1
  obtain ⟨w, rfl⟩ : ∃ w : Int32, v = .int w := by cases v <;> simp [fits] at f; exact ⟨_, rfl⟩
  exact ⟨w, fun hg _ hs hd target hr => X.iaload hx A.1 (State.isArrayOf_alike hZ.alike A.2.1) A.2.2 hin at1 hg hs hd target hr⟩
end Own
theorem own_pos (x : Int32) : 0 ≤ (x &&& (2147483647 : Int32)).toInt := by
  rw [Jvm.Kit.i32_mask x 2147483647 (k := 31) (by decide) (by decide)]; omega
theorem own_idx (x y : Int32) (hy : 0 < y.toInt) : ¬ ((x &&& (2147483647 : Int32)) % y) < 0 ∧ ((x &&& (2147483647 : Int32)) % y) < y := by
  rw [Int32.lt_iff_toInt_lt, Int32.lt_iff_toInt_lt, Jvm.Kit.i32_rem_nonneg (own_pos x), Int32.toInt_zero]
  have a := Int.emod_nonneg (x &&& (2147483647 : Int32)).toInt (show y.toInt ≠ 0 by omega)
  have b := Int.emod_lt_of_pos (x &&& (2147483647 : Int32)).toInt hy
  omega
theorem d1_0 : decode prog_132_method_4_code 0 = .ok (.iload_n 0, 1) := by decide +kernel
theorem d1_1 : decode prog_132_method_4_code 1 = .ok (.bipush 9, 2) := by decide +kernel
theorem d1_3 : decode prog_132_method_4_code 3 = .ok (.if_icmp .eq 51, 3) := by decide +kernel
theorem d1_6 : decode prog_132_method_4_code 6 = .ok (.iload_n 0, 1) := by decide +kernel
theorem d1_7 : decode prog_132_method_4_code 7 = .ok (.bipush 10, 2) := by decide +kernel
theorem d1_9 : decode prog_132_method_4_code 9 = .ok (.if_icmp .eq 45, 3) := by decide +kernel
theorem d1_12 : decode prog_132_method_4_code 12 = .ok (.iload_n 0, 1) := by decide +kernel
theorem d1_13 : decode prog_132_method_4_code 13 = .ok (.bipush 13, 2) := by decide +kernel
theorem d1_15 : decode prog_132_method_4_code 15 = .ok (.if_icmp .eq 39, 3) := by decide +kernel
theorem d1_18 : decode prog_132_method_4_code 18 = .ok (.iload_n 0, 1) := by decide +kernel
theorem d1_19 : decode prog_132_method_4_code 19 = .ok (.bipush 32, 2) := by decide +kernel
theorem d1_21 : decode prog_132_method_4_code 21 = .ok (.if_icmp .lt 9, 3) := by decide +kernel
theorem d1_24 : decode prog_132_method_4_code 24 = .ok (.iload_n 0, 1) := by decide +kernel
theorem d1_25 : decode prog_132_method_4_code 25 = .ok (.ldc 37, 2) := by decide +kernel
theorem d1_27 : decode prog_132_method_4_code 27 = .ok (.if_icmp .le 27, 3) := by decide +kernel
theorem d1_30 : decode prog_132_method_4_code 30 = .ok (.iload_n 0, 1) := by decide +kernel
theorem d1_31 : decode prog_132_method_4_code 31 = .ok (.ldc 38, 2) := by decide +kernel
theorem d1_33 : decode prog_132_method_4_code 33 = .ok (.if_icmp .lt 9, 3) := by decide +kernel
theorem d1_36 : decode prog_132_method_4_code 36 = .ok (.iload_n 0, 1) := by decide +kernel
theorem d1_37 : decode prog_132_method_4_code 37 = .ok (.ldc 39, 2) := by decide +kernel
theorem d1_39 : decode prog_132_method_4_code 39 = .ok (.if_icmp .le 15, 3) := by decide +kernel
theorem d1_42 : decode prog_132_method_4_code 42 = .ok (.iload_n 0, 1) := by decide +kernel
theorem d1_43 : decode prog_132_method_4_code 43 = .ok (.ldc 40, 2) := by decide +kernel
theorem d1_45 : decode prog_132_method_4_code 45 = .ok (.if_icmp .lt 13, 3) := by decide +kernel
theorem d1_48 : decode prog_132_method_4_code 48 = .ok (.iload_n 0, 1) := by decide +kernel
theorem d1_49 : decode prog_132_method_4_code 49 = .ok (.ldc 41, 2) := by decide +kernel
theorem d1_51 : decode prog_132_method_4_code 51 = .ok (.if_icmp .gt 7, 3) := by decide +kernel
theorem d1_54 : decode prog_132_method_4_code 54 = .ok (.iconst 1, 1) := by decide +kernel
theorem d1_55 : decode prog_132_method_4_code 55 = .ok (.goto 4, 3) := by decide +kernel
theorem d1_58 : decode prog_132_method_4_code 58 = .ok (.iconst 0, 1) := by decide +kernel
theorem d1_59 : decode prog_132_method_4_code 59 = .ok (.ireturn, 1) := by decide +kernel
theorem pn_1 : plainName "transept/model/XmlChars" = true := by first | (simp [plainName, overriddenIn]; done) | decide +kernel
theorem ef_1 (m : MethodId) (q1 : Int32) : entryFrame m #[(.int q1)] 1 = mkF m 0 #[.val (.int q1)] [] := by first | (simp [entryFrame, mkF, argsToLocals, Value.category]; done) | rfl
def isc_59 (q1 : Int32) (z59_0 : Int32) : Int32 := z59_0
def isc_58 (q1 : Int32) : Int32 := isc_59 q1 (0 : Int32)
def isc_54 (q1 : Int32) : Int32 := isc_59 q1 (1 : Int32)
def isc_42 (q1 : Int32) : Int32 := if q1 < (65536 : Int32) then (isc_58 q1) else (if (1114111 : Int32) < q1 then (isc_58 q1) else (isc_54 q1))
def isc_30 (q1 : Int32) : Int32 := if q1 < (57344 : Int32) then (isc_42 q1) else (if (65533 : Int32) < q1 then (isc_42 q1) else (isc_54 q1))
def isc_0 (q1 : Int32) : Int32 := if q1 = (9 : Int32) then (isc_54 q1) else (if q1 = (10 : Int32) then (isc_54 q1) else (if q1 = (13 : Int32) then (isc_54 q1) else (if q1 < (32 : Int32) then (isc_30 q1) else (if (55295 : Int32) < q1 then (isc_30 q1) else (isc_54 q1)))))
theorem d2_0 : decode method_2_code 0 = .ok (.iload_n 0, 1) := by decide +kernel
theorem d2_1 : decode method_2_code 1 = .ok (.ifCond .ge 5, 3) := by decide +kernel
theorem d2_4 : decode method_2_code 4 = .ok (.iconst 0, 1) := by decide +kernel
theorem d2_5 : decode method_2_code 5 = .ok (.ireturn, 1) := by decide +kernel
theorem d2_6 : decode method_2_code 6 = .ok (.iload_n 0, 1) := by decide +kernel
theorem d2_7 : decode method_2_code 7 = .ok (.ldc 7, 2) := by decide +kernel
theorem d2_9 : decode method_2_code 9 = .ok (.if_icmp .le 5, 3) := by decide +kernel
theorem d2_12 : decode method_2_code 12 = .ok (.iconst 0, 1) := by decide +kernel
theorem d2_13 : decode method_2_code 13 = .ok (.ireturn, 1) := by decide +kernel
theorem d2_14 : decode method_2_code 14 = .ok (.iload_n 0, 1) := by decide +kernel
theorem d2_15 : decode method_2_code 15 = .ok (.bipush 32, 2) := by decide +kernel
theorem d2_17 : decode method_2_code 17 = .ok (.if_icmp .ge 27, 3) := by decide +kernel
theorem d2_20 : decode method_2_code 20 = .ok (.iload_n 0, 1) := by decide +kernel
theorem d2_21 : decode method_2_code 21 = .ok (.bipush 9, 2) := by decide +kernel
theorem d2_23 : decode method_2_code 23 = .ok (.if_icmp .eq 15, 3) := by decide +kernel
theorem d2_26 : decode method_2_code 26 = .ok (.iload_n 0, 1) := by decide +kernel
theorem d2_27 : decode method_2_code 27 = .ok (.bipush 10, 2) := by decide +kernel
theorem d2_29 : decode method_2_code 29 = .ok (.if_icmp .eq 9, 3) := by decide +kernel
theorem d2_32 : decode method_2_code 32 = .ok (.iload_n 0, 1) := by decide +kernel
theorem d2_33 : decode method_2_code 33 = .ok (.bipush 13, 2) := by decide +kernel
theorem d2_35 : decode method_2_code 35 = .ok (.if_icmp .ne 7, 3) := by decide +kernel
theorem d2_38 : decode method_2_code 38 = .ok (.iconst 1, 1) := by decide +kernel
theorem d2_39 : decode method_2_code 39 = .ok (.goto 4, 3) := by decide +kernel
theorem d2_42 : decode method_2_code 42 = .ok (.iconst 0, 1) := by decide +kernel
theorem d2_43 : decode method_2_code 43 = .ok (.ireturn, 1) := by decide +kernel
theorem d2_44 : decode method_2_code 44 = .ok (.iload_n 0, 1) := by decide +kernel
theorem d2_45 : decode method_2_code 45 = .ok (.ldc 8, 2) := by decide +kernel
theorem d2_47 : decode method_2_code 47 = .ok (.if_icmp .lt 11, 3) := by decide +kernel
theorem d2_50 : decode method_2_code 50 = .ok (.iload_n 0, 1) := by decide +kernel
theorem d2_51 : decode method_2_code 51 = .ok (.ldc 9, 2) := by decide +kernel
theorem d2_53 : decode method_2_code 53 = .ok (.if_icmp .gt 5, 3) := by decide +kernel
theorem d2_56 : decode method_2_code 56 = .ok (.iconst 0, 1) := by decide +kernel
theorem d2_57 : decode method_2_code 57 = .ok (.ireturn, 1) := by decide +kernel
theorem d2_58 : decode method_2_code 58 = .ok (.iload_n 0, 1) := by decide +kernel
theorem d2_59 : decode method_2_code 59 = .ok (.ldc 10, 2) := by decide +kernel
theorem d2_61 : decode method_2_code 61 = .ok (.if_icmp .eq 9, 3) := by decide +kernel
theorem d2_64 : decode method_2_code 64 = .ok (.iload_n 0, 1) := by decide +kernel
theorem d2_65 : decode method_2_code 65 = .ok (.ldc 11, 2) := by decide +kernel
theorem d2_67 : decode method_2_code 67 = .ok (.if_icmp .ne 5, 3) := by decide +kernel
theorem d2_70 : decode method_2_code 70 = .ok (.iconst 0, 1) := by decide +kernel
theorem d2_71 : decode method_2_code 71 = .ok (.ireturn, 1) := by decide +kernel
theorem d2_72 : decode method_2_code 72 = .ok (.iconst 1, 1) := by decide +kernel
theorem d2_73 : decode method_2_code 73 = .ok (.ireturn, 1) := by decide +kernel
theorem pn_2 : plainName "transept/model/XmlCharsIsCharPinLaw" = true := by first | (simp [plainName, overriddenIn]; done) | decide +kernel
theorem ef_2 (m : MethodId) (q1 : Int32) : entryFrame m #[(.int q1)] 1 = mkF m 0 #[.val (.int q1)] [] := by first | (simp [entryFrame, mkF, argsToLocals, Value.category]; done) | rfl
def ref_72 (q1 : Int32) : Int32 := (1 : Int32)
def ref_70 (q1 : Int32) : Int32 := (0 : Int32)
def ref_58 (q1 : Int32) : Int32 := if q1 = (65534 : Int32) then (ref_70 q1) else (if q1 = (65535 : Int32) then (ref_70 q1) else (ref_72 q1))
def ref_44 (q1 : Int32) : Int32 := if q1 < (55296 : Int32) then (ref_58 q1) else (if (57343 : Int32) < q1 then (ref_58 q1) else ((0 : Int32)))
def ref_43 (q1 : Int32) (z43_0 : Int32) : Int32 := z43_0
def ref_42 (q1 : Int32) : Int32 := ref_43 q1 (0 : Int32)
def ref_38 (q1 : Int32) : Int32 := ref_43 q1 (1 : Int32)
def ref_14 (q1 : Int32) : Int32 := if q1 < (32 : Int32) then (if q1 = (9 : Int32) then (ref_38 q1) else (if q1 = (10 : Int32) then (ref_38 q1) else (if q1 = (13 : Int32) then (ref_38 q1) else (ref_42 q1)))) else (ref_44 q1)
def ref_6 (q1 : Int32) : Int32 := if (1114111 : Int32) < q1 then ((0 : Int32)) else (ref_14 q1)
def ref_0 (q1 : Int32) : Int32 := if q1 < (0 : Int32) then ((0 : Int32)) else (ref_6 q1)
theorem isc_bool (a : Int32) : isc_0 a = 0 ∨ isc_0 a = 1 := by
  simp only [isc_59, isc_58, isc_54, isc_42, isc_30, isc_0]
  repeat' split
  all_goals first | exact Or.inl rfl | exact Or.inr rfl
theorem ref_bool (a : Int32) : ref_0 a = 0 ∨ ref_0 a = 1 := by
  simp only [ref_72, ref_70, ref_58, ref_44, ref_43, ref_42, ref_38, ref_14, ref_6, ref_0]
  repeat' split
  all_goals first | exact Or.inl rfl | exact Or.inr rfl
theorem own_same (a : Int32) : isc_0 a = ref_0 a := by
  simp only [isc_59, isc_58, isc_54, isc_42, isc_30, isc_0, ref_72, ref_70, ref_58, ref_44, ref_43, ref_42, ref_38, ref_14, ref_6, ref_0, Int32.lt_iff_toInt_lt, ← Int32.toInt_inj, Int32.reduceToInt]
  generalize a.toInt = z
  repeat' split
  all_goals first | rfl | omega
def Q1 (Z : State) (q1 : Int32) (h0 : Heap) (n0 : Nat) (v : Option Value) (h : Heap) (L : List Loc) : Prop := v = some (.int (isc_0 q1)) ∧ Fr n0 L ∧ h = h0
set_option maxRecDepth 65536 in
set_option maxHeartbeats 40000000 in
theorem rm1 (l : Launch) (Z : State) (a0 : Array Value) (hw : ∀ d ∈ tables_1, d.before a0 Z = true) (ws : List Jvm.Cond) (q1 : Int32) (h0 : Heap) (n0 : Nat) (Z0 : n0 ≤ h0.size) :
    MetFree l (⟨"transept/model/XmlChars", "isChar", "(I)Z"⟩ : MethodName) (head1 (Jvm.Cond.code (⟨"transept/model/XmlChars", "isChar", "(I)Z"⟩ : MethodName) prog_132_method_4_code 1 (some .boolean) :: ws) ({ frames := 0, cells := 0, slots := 0, locals := 0 } : Room)) (fun a U => a = #[(.int q1)] ∧ Z.Warmed39 U.vm ∧ U.heap = h0) (fun _ _ _ _ _ => True) (fun _ U o U' => ∃ v L, o = .returned v ∧ Q1 Z q1 h0 n0 v U'.heap L ∧ FrameEnd U o U' L ({ frames := 0, cells := 0, slots := 0, locals := 0 } : Room).cells ({ frames := 0, cells := 0, slots := 0, locals := 0 } : Room).slots) := by
  refine MetFree.of_bodySF (plainFor_of_name pn_1) hisR ?_
  intro p e s m args below meth c s₁ Bd hml0 hP hK
  obtain ⟨rfl, hZ, hh⟩ := hP
  have hx := Bd.exec
  have hby := Bd.bytes
  have hown : s.vm.findClass "transept/model/XmlChars" = some m.cls := findClass_of_methodNamed Bd.named
  have X0 : Stand p l e ({ frames := 0, cells := 0, slots := 0, locals := 0 } : Room) s m #[(.int q1)] below meth c s₁ [] 0 0 := Stand.of_body Bd
  have e0 : s₁.heap = h0 := by rw [← hh, Bd.state]; rfl
  have pre0 : ∀ t, Steps p.tables e below (s₁.setTop (mkF m 0 #[.val (.int q1)] [])) t → Steps p.tables e below (s₁.setTop (entryFrame m #[(.int q1)] 1)) t := fun t k => castTop (ef_1 m q1) k
  obtain ⟨r, hr0⟩ : ∃ r : Int32, isc_0 q1 = r := ⟨_, rfl⟩
  have hnar : nar .boolean r = r := by rcases isc_bool q1 with q | q <;> rw [hr0] at q <;> rw [q] <;> rfl
  obtain ⟨fs, hr, hrun, hended, hW, hsame⟩ := X0.leave (v := some (.int r)) (fun h => by rw [Bd.returns] at h; cases h)
  have kret : ∀ (pc : Nat) (Ls : Array Slot) (z : Int32), decode c.code pc = .ok (.ireturn, 1) → z = r → Steps p.tables e below (s₁.setTop (mkF m pc Ls [(.int z)])) (s₁.setFrames fs) := fun pc Ls z hd hz => retN X0 hx (t := .boolean) Bd.returns (by simp) hd (by rw [hz, hnar]; exact hr)
  have k59 : ∀ (z59_0 : Int32), isc_59 q1 z59_0 = r → Steps p.tables e below (s₁.setTop (mkF m 59 #[.val (.int q1)] [(.int z59_0)])) (s₁.setFrames fs) := by
    intro z59_0 hh
    show Steps p.tables e below (s₁.setTop (mkF m 59 #[.val (.int q1)] [(.int z59_0)])) _
    exact kret 59 _ _ (hb hby d1_59) hh
  have k58 : isc_58 q1 = r → Steps p.tables e below (s₁.setTop (mkF m 58 #[.val (.int q1)] [])) (s₁.setFrames fs) := by
    intro hh
    show Steps p.tables e below (s₁.setTop (mkF m 58 #[.val (.int q1)] [])) _
    refine XS.iconst X0.here hx rfl (hb hby d1_58) ?_
    show Steps p.tables e below (s₁.setTop (mkF m 59 #[.val (.int q1)] [(.int (0 : Int32))])) _
    exact k59 _ hh
  have k54 : isc_54 q1 = r → Steps p.tables e below (s₁.setTop (mkF m 54 #[.val (.int q1)] [])) (s₁.setFrames fs) := by
    intro hh
    show Steps p.tables e below (s₁.setTop (mkF m 54 #[.val (.int q1)] [])) _
    refine XS.iconst X0.here hx rfl (hb hby d1_54) ?_
    show Steps p.tables e below (s₁.setTop (mkF m 55 #[.val (.int q1)] [(.int (1 : Int32))])) _
    refine XS.goto X0.here hx rfl (pc0 := 55) (pc' := 59) rfl (hb hby d1_55) (by decide) (by decide) ?_
    show Steps p.tables e below (s₁.setTop (mkF m 59 #[.val (.int q1)] [(.int (1 : Int32))])) _
    exact k59 _ hh
  have k42 : isc_42 q1 = r → Steps p.tables e below (s₁.setTop (mkF m 42 #[.val (.int q1)] [])) (s₁.setFrames fs) := by
    intro hh
    show Steps p.tables e below (s₁.setTop (mkF m 42 #[.val (.int q1)] [])) _
    refine XS.iloadN X0.here hx rfl (hb hby d1_42) rfl ?_
    show Steps p.tables e below (s₁.setTop (mkF m 43 #[.val (.int q1)] [(.int q1)])) _
    refine X0.ldcInt hx hown (mvT hZ (hw _ (List.mem_of_getElem? (i := 19) rfl))) (g := (mkF m 43 #[.val (.int q1)] [(.int q1)])) rfl (hb hby d1_43) _ ?_
    have hh : (if q1 < (65536 : Int32) then (isc_58 q1) else (if (1114111 : Int32) < q1 then (isc_58 q1) else (isc_54 q1))) = r := hh
    by_cases c45 : q1 < (65536 : Int32)
    · rw [if_pos c45] at hh
      show Steps p.tables e below (s₁.setTop (mkF m 45 #[.val (.int q1)] [(.int (65536 : Int32)), (.int q1)])) _
      refine XS.icmpYes X0.here hx rfl (pc0 := 45) (pc' := 58) rfl (hb hby d1_45) rfl (tlt c45).1 (by decide) (by decide) ?_
      show Steps p.tables e below (s₁.setTop (mkF m 58 #[.val (.int q1)] [])) _
      exact k58 hh
    · rw [if_neg c45] at hh
      show Steps p.tables e below (s₁.setTop (mkF m 45 #[.val (.int q1)] [(.int (65536 : Int32)), (.int q1)])) _
      refine XS.icmpNo X0.here hx rfl (hb hby d1_45) rfl (flt c45).1 ?_
      show Steps p.tables e below (s₁.setTop (mkF m 48 #[.val (.int q1)] [])) _
      refine XS.iloadN X0.here hx rfl (hb hby d1_48) rfl ?_
      show Steps p.tables e below (s₁.setTop (mkF m 49 #[.val (.int q1)] [(.int q1)])) _
      refine X0.ldcInt hx hown (mvT hZ (hw _ (List.mem_of_getElem? (i := 26) rfl))) (g := (mkF m 49 #[.val (.int q1)] [(.int q1)])) rfl (hb hby d1_49) _ ?_
      have hh : (if (1114111 : Int32) < q1 then (isc_58 q1) else (isc_54 q1)) = r := hh
      by_cases c51 : (1114111 : Int32) < q1
      · rw [if_pos c51] at hh
        show Steps p.tables e below (s₁.setTop (mkF m 51 #[.val (.int q1)] [(.int (1114111 : Int32)), (.int q1)])) _
        refine XS.icmpYes X0.here hx rfl (pc0 := 51) (pc' := 58) rfl (hb hby d1_51) rfl (tlt c51).2.2.1 (by decide) (by decide) ?_
        show Steps p.tables e below (s₁.setTop (mkF m 58 #[.val (.int q1)] [])) _
        exact k58 hh
      · rw [if_neg c51] at hh
        show Steps p.tables e below (s₁.setTop (mkF m 51 #[.val (.int q1)] [(.int (1114111 : Int32)), (.int q1)])) _
        refine XS.icmpNo X0.here hx rfl (hb hby d1_51) rfl (flt c51).2.2.1 ?_
        show Steps p.tables e below (s₁.setTop (mkF m 54 #[.val (.int q1)] [])) _
        exact k54 hh
  have k30 : isc_30 q1 = r → Steps p.tables e below (s₁.setTop (mkF m 30 #[.val (.int q1)] [])) (s₁.setFrames fs) := by
    intro hh
    show Steps p.tables e below (s₁.setTop (mkF m 30 #[.val (.int q1)] [])) _
    refine XS.iloadN X0.here hx rfl (hb hby d1_30) rfl ?_
    show Steps p.tables e below (s₁.setTop (mkF m 31 #[.val (.int q1)] [(.int q1)])) _
    refine X0.ldcInt hx hown (mvT hZ (hw _ (List.mem_of_getElem? (i := 18) rfl))) (g := (mkF m 31 #[.val (.int q1)] [(.int q1)])) rfl (hb hby d1_31) _ ?_
    have hh : (if q1 < (57344 : Int32) then (isc_42 q1) else (if (65533 : Int32) < q1 then (isc_42 q1) else (isc_54 q1))) = r := hh
    by_cases c33 : q1 < (57344 : Int32)
    · rw [if_pos c33] at hh
      show Steps p.tables e below (s₁.setTop (mkF m 33 #[.val (.int q1)] [(.int (57344 : Int32)), (.int q1)])) _
      refine XS.icmpYes X0.here hx rfl (pc0 := 33) (pc' := 42) rfl (hb hby d1_33) rfl (tlt c33).1 (by decide) (by decide) ?_
      show Steps p.tables e below (s₁.setTop (mkF m 42 #[.val (.int q1)] [])) _
      exact k42 hh
    · rw [if_neg c33] at hh
      show Steps p.tables e below (s₁.setTop (mkF m 33 #[.val (.int q1)] [(.int (57344 : Int32)), (.int q1)])) _
      refine XS.icmpNo X0.here hx rfl (hb hby d1_33) rfl (flt c33).1 ?_
      show Steps p.tables e below (s₁.setTop (mkF m 36 #[.val (.int q1)] [])) _
      refine XS.iloadN X0.here hx rfl (hb hby d1_36) rfl ?_
      show Steps p.tables e below (s₁.setTop (mkF m 37 #[.val (.int q1)] [(.int q1)])) _
      refine X0.ldcInt hx hown (mvT hZ (hw _ (List.mem_of_getElem? (i := 25) rfl))) (g := (mkF m 37 #[.val (.int q1)] [(.int q1)])) rfl (hb hby d1_37) _ ?_
      have hh : (if (65533 : Int32) < q1 then (isc_42 q1) else (isc_54 q1)) = r := hh
      by_cases c39 : (65533 : Int32) < q1
      · rw [if_pos c39] at hh
        show Steps p.tables e below (s₁.setTop (mkF m 39 #[.val (.int q1)] [(.int (65533 : Int32)), (.int q1)])) _
        refine XS.icmpNo X0.here hx rfl (hb hby d1_39) rfl (tlt c39).2.2.2 ?_
        show Steps p.tables e below (s₁.setTop (mkF m 42 #[.val (.int q1)] [])) _
        exact k42 hh
      · rw [if_neg c39] at hh
        show Steps p.tables e below (s₁.setTop (mkF m 39 #[.val (.int q1)] [(.int (65533 : Int32)), (.int q1)])) _
        refine XS.icmpYes X0.here hx rfl (pc0 := 39) (pc' := 54) rfl (hb hby d1_39) rfl (flt c39).2.2.2 (by decide) (by decide) ?_
        show Steps p.tables e below (s₁.setTop (mkF m 54 #[.val (.int q1)] [])) _
        exact k54 hh
  have k0 : isc_0 q1 = r → Steps p.tables e below (s₁.setTop (mkF m 0 #[.val (.int q1)] [])) (s₁.setFrames fs) := by
    intro hh
    show Steps p.tables e below (s₁.setTop (mkF m 0 #[.val (.int q1)] [])) _
    refine XS.iloadN X0.here hx rfl (hb hby d1_0) rfl ?_
    show Steps p.tables e below (s₁.setTop (mkF m 1 #[.val (.int q1)] [(.int q1)])) _
    refine XS.bipush X0.here hx rfl (hb hby d1_1) ?_
    have hh : (if q1 = (9 : Int32) then (isc_54 q1) else (if q1 = (10 : Int32) then (isc_54 q1) else (if q1 = (13 : Int32) then (isc_54 q1) else (if q1 < (32 : Int32) then (isc_30 q1) else (if (55295 : Int32) < q1 then (isc_30 q1) else (isc_54 q1)))))) = r := hh
    by_cases c3 : q1 = (9 : Int32)
    · rw [if_pos c3] at hh
      show Steps p.tables e below (s₁.setTop (mkF m 3 #[.val (.int q1)] [(.int (9 : Int32)), (.int q1)])) _
      refine XS.icmpYes X0.here hx rfl (pc0 := 3) (pc' := 54) rfl (hb hby d1_3) rfl (teq c3).1 (by decide) (by decide) ?_
      show Steps p.tables e below (s₁.setTop (mkF m 54 #[.val (.int q1)] [])) _
      exact k54 hh
    · rw [if_neg c3] at hh
      show Steps p.tables e below (s₁.setTop (mkF m 3 #[.val (.int q1)] [(.int (9 : Int32)), (.int q1)])) _
      refine XS.icmpNo X0.here hx rfl (hb hby d1_3) rfl (feq c3).1 ?_
      show Steps p.tables e below (s₁.setTop (mkF m 6 #[.val (.int q1)] [])) _
      refine XS.iloadN X0.here hx rfl (hb hby d1_6) rfl ?_
      show Steps p.tables e below (s₁.setTop (mkF m 7 #[.val (.int q1)] [(.int q1)])) _
      refine XS.bipush X0.here hx rfl (hb hby d1_7) ?_
      have hh : (if q1 = (10 : Int32) then (isc_54 q1) else (if q1 = (13 : Int32) then (isc_54 q1) else (if q1 < (32 : Int32) then (isc_30 q1) else (if (55295 : Int32) < q1 then (isc_30 q1) else (isc_54 q1))))) = r := hh
      by_cases c9 : q1 = (10 : Int32)
      · rw [if_pos c9] at hh
        show Steps p.tables e below (s₁.setTop (mkF m 9 #[.val (.int q1)] [(.int (10 : Int32)), (.int q1)])) _
        refine XS.icmpYes X0.here hx rfl (pc0 := 9) (pc' := 54) rfl (hb hby d1_9) rfl (teq c9).1 (by decide) (by decide) ?_
        show Steps p.tables e below (s₁.setTop (mkF m 54 #[.val (.int q1)] [])) _
        exact k54 hh
      · rw [if_neg c9] at hh
        show Steps p.tables e below (s₁.setTop (mkF m 9 #[.val (.int q1)] [(.int (10 : Int32)), (.int q1)])) _
        refine XS.icmpNo X0.here hx rfl (hb hby d1_9) rfl (feq c9).1 ?_
        show Steps p.tables e below (s₁.setTop (mkF m 12 #[.val (.int q1)] [])) _
        refine XS.iloadN X0.here hx rfl (hb hby d1_12) rfl ?_
        show Steps p.tables e below (s₁.setTop (mkF m 13 #[.val (.int q1)] [(.int q1)])) _
        refine XS.bipush X0.here hx rfl (hb hby d1_13) ?_
        have hh : (if q1 = (13 : Int32) then (isc_54 q1) else (if q1 < (32 : Int32) then (isc_30 q1) else (if (55295 : Int32) < q1 then (isc_30 q1) else (isc_54 q1)))) = r := hh
        by_cases c15 : q1 = (13 : Int32)
        · rw [if_pos c15] at hh
          show Steps p.tables e below (s₁.setTop (mkF m 15 #[.val (.int q1)] [(.int (13 : Int32)), (.int q1)])) _
          refine XS.icmpYes X0.here hx rfl (pc0 := 15) (pc' := 54) rfl (hb hby d1_15) rfl (teq c15).1 (by decide) (by decide) ?_
          show Steps p.tables e below (s₁.setTop (mkF m 54 #[.val (.int q1)] [])) _
          exact k54 hh
        · rw [if_neg c15] at hh
          show Steps p.tables e below (s₁.setTop (mkF m 15 #[.val (.int q1)] [(.int (13 : Int32)), (.int q1)])) _
          refine XS.icmpNo X0.here hx rfl (hb hby d1_15) rfl (feq c15).1 ?_
          show Steps p.tables e below (s₁.setTop (mkF m 18 #[.val (.int q1)] [])) _
          refine XS.iloadN X0.here hx rfl (hb hby d1_18) rfl ?_
          show Steps p.tables e below (s₁.setTop (mkF m 19 #[.val (.int q1)] [(.int q1)])) _
          refine XS.bipush X0.here hx rfl (hb hby d1_19) ?_
          have hh : (if q1 < (32 : Int32) then (isc_30 q1) else (if (55295 : Int32) < q1 then (isc_30 q1) else (isc_54 q1))) = r := hh
          by_cases c21 : q1 < (32 : Int32)
          · rw [if_pos c21] at hh
            show Steps p.tables e below (s₁.setTop (mkF m 21 #[.val (.int q1)] [(.int (32 : Int32)), (.int q1)])) _
            refine XS.icmpYes X0.here hx rfl (pc0 := 21) (pc' := 30) rfl (hb hby d1_21) rfl (tlt c21).1 (by decide) (by decide) ?_
            show Steps p.tables e below (s₁.setTop (mkF m 30 #[.val (.int q1)] [])) _
            exact k30 hh
          · rw [if_neg c21] at hh
            show Steps p.tables e below (s₁.setTop (mkF m 21 #[.val (.int q1)] [(.int (32 : Int32)), (.int q1)])) _
            refine XS.icmpNo X0.here hx rfl (hb hby d1_21) rfl (flt c21).1 ?_
            show Steps p.tables e below (s₁.setTop (mkF m 24 #[.val (.int q1)] [])) _
            refine XS.iloadN X0.here hx rfl (hb hby d1_24) rfl ?_
            show Steps p.tables e below (s₁.setTop (mkF m 25 #[.val (.int q1)] [(.int q1)])) _
            refine X0.ldcInt hx hown (mvT hZ (hw _ (List.mem_of_getElem? (i := 24) rfl))) (g := (mkF m 25 #[.val (.int q1)] [(.int q1)])) rfl (hb hby d1_25) _ ?_
            have hh : (if (55295 : Int32) < q1 then (isc_30 q1) else (isc_54 q1)) = r := hh
            by_cases c27 : (55295 : Int32) < q1
            · rw [if_pos c27] at hh
              show Steps p.tables e below (s₁.setTop (mkF m 27 #[.val (.int q1)] [(.int (55295 : Int32)), (.int q1)])) _
              refine XS.icmpNo X0.here hx rfl (hb hby d1_27) rfl (tlt c27).2.2.2 ?_
              show Steps p.tables e below (s₁.setTop (mkF m 30 #[.val (.int q1)] [])) _
              exact k30 hh
            · rw [if_neg c27] at hh
              show Steps p.tables e below (s₁.setTop (mkF m 27 #[.val (.int q1)] [(.int (55295 : Int32)), (.int q1)])) _
              refine XS.icmpYes X0.here hx rfl (pc0 := 27) (pc' := 54) rfl (hb hby d1_27) rfl (flt c27).2.2.2 (by decide) (by decide) ?_
              show Steps p.tables e below (s₁.setTop (mkF m 54 #[.val (.int q1)] [])) _
              exact k54 hh
  refine ⟨_, _, pre0 _ (k0 hr0), hrun, hended, _, _, rfl, ?_, ⟨_, rfl⟩, hW, hsame.mono (by decide) (by decide)⟩
  show Q1 Z q1 h0 n0 _ s₁.heap _
  rw [e0]
  exact ⟨by rw [hr0], Fr.nil n0, rfl⟩
def Q2 (Z : State) (q1 : Int32) (h0 : Heap) (n0 : Nat) (v : Option Value) (h : Heap) (L : List Loc) : Prop := v = some (.int (ref_0 q1)) ∧ Fr n0 L ∧ h = h0
set_option maxRecDepth 65536 in
set_option maxHeartbeats 40000000 in
theorem rm2 (l : Launch) (Z : State) (a0 : Array Value) (hw : ∀ d ∈ tables_1, d.before a0 Z = true) (ws : List Jvm.Cond) (q1 : Int32) (h0 : Heap) (n0 : Nat) (Z0 : n0 ≤ h0.size) :
    MetFree l (⟨"transept/model/XmlCharsIsCharPinLaw", "ref", "(I)Z"⟩ : MethodName) (head1 (Jvm.Cond.code (⟨"transept/model/XmlCharsIsCharPinLaw", "ref", "(I)Z"⟩ : MethodName) method_2_code 1 (some .boolean) :: ws) ({ frames := 0, cells := 0, slots := 0, locals := 0 } : Room)) (fun a U => a = #[(.int q1)] ∧ Z.Warmed39 U.vm ∧ U.heap = h0) (fun _ _ _ _ _ => True) (fun _ U o U' => ∃ v L, o = .returned v ∧ Q2 Z q1 h0 n0 v U'.heap L ∧ FrameEnd U o U' L ({ frames := 0, cells := 0, slots := 0, locals := 0 } : Room).cells ({ frames := 0, cells := 0, slots := 0, locals := 0 } : Room).slots) := by
  refine MetFree.of_bodySF (plainFor_of_name pn_2) hisR ?_
  intro p e s m args below meth c s₁ Bd hml0 hP hK
  obtain ⟨rfl, hZ, hh⟩ := hP
  have hx := Bd.exec
  have hby := Bd.bytes
  have hown : s.vm.findClass "transept/model/XmlCharsIsCharPinLaw" = some m.cls := findClass_of_methodNamed Bd.named
  have X0 : Stand p l e ({ frames := 0, cells := 0, slots := 0, locals := 0 } : Room) s m #[(.int q1)] below meth c s₁ [] 0 0 := Stand.of_body Bd
  have e0 : s₁.heap = h0 := by rw [← hh, Bd.state]; rfl
  have pre0 : ∀ t, Steps p.tables e below (s₁.setTop (mkF m 0 #[.val (.int q1)] [])) t → Steps p.tables e below (s₁.setTop (entryFrame m #[(.int q1)] 1)) t := fun t k => castTop (ef_2 m q1) k
  obtain ⟨r, hr0⟩ : ∃ r : Int32, ref_0 q1 = r := ⟨_, rfl⟩
  have hnar : nar .boolean r = r := by rcases ref_bool q1 with q | q <;> rw [hr0] at q <;> rw [q] <;> rfl
  obtain ⟨fs, hr, hrun, hended, hW, hsame⟩ := X0.leave (v := some (.int r)) (fun h => by rw [Bd.returns] at h; cases h)
  have kret : ∀ (pc : Nat) (Ls : Array Slot) (z : Int32), decode c.code pc = .ok (.ireturn, 1) → z = r → Steps p.tables e below (s₁.setTop (mkF m pc Ls [(.int z)])) (s₁.setFrames fs) := fun pc Ls z hd hz => retN X0 hx (t := .boolean) Bd.returns (by simp) hd (by rw [hz, hnar]; exact hr)
  have k72 : ref_72 q1 = r → Steps p.tables e below (s₁.setTop (mkF m 72 #[.val (.int q1)] [])) (s₁.setFrames fs) := by
    intro hh
    show Steps p.tables e below (s₁.setTop (mkF m 72 #[.val (.int q1)] [])) _
    refine XS.iconst X0.here hx rfl (hb hby d2_72) ?_
    show Steps p.tables e below (s₁.setTop (mkF m 73 #[.val (.int q1)] [(.int (1 : Int32))])) _
    exact kret 73 _ _ (hb hby d2_73) hh
  have k70 : ref_70 q1 = r → Steps p.tables e below (s₁.setTop (mkF m 70 #[.val (.int q1)] [])) (s₁.setFrames fs) := by
    intro hh
    show Steps p.tables e below (s₁.setTop (mkF m 70 #[.val (.int q1)] [])) _
    refine XS.iconst X0.here hx rfl (hb hby d2_70) ?_
    show Steps p.tables e below (s₁.setTop (mkF m 71 #[.val (.int q1)] [(.int (0 : Int32))])) _
    exact kret 71 _ _ (hb hby d2_71) hh
  have k58 : ref_58 q1 = r → Steps p.tables e below (s₁.setTop (mkF m 58 #[.val (.int q1)] [])) (s₁.setFrames fs) := by
    intro hh
    show Steps p.tables e below (s₁.setTop (mkF m 58 #[.val (.int q1)] [])) _
    refine XS.iloadN X0.here hx rfl (hb hby d2_58) rfl ?_
    show Steps p.tables e below (s₁.setTop (mkF m 59 #[.val (.int q1)] [(.int q1)])) _
    refine X0.ldcInt hx hown (mvT hZ (hw _ (List.mem_of_getElem? (i := 6) rfl))) (g := (mkF m 59 #[.val (.int q1)] [(.int q1)])) rfl (hb hby d2_59) _ ?_
    have hh : (if q1 = (65534 : Int32) then (ref_70 q1) else (if q1 = (65535 : Int32) then (ref_70 q1) else (ref_72 q1))) = r := hh
    by_cases c61 : q1 = (65534 : Int32)
    · rw [if_pos c61] at hh
      show Steps p.tables e below (s₁.setTop (mkF m 61 #[.val (.int q1)] [(.int (65534 : Int32)), (.int q1)])) _
      refine XS.icmpYes X0.here hx rfl (pc0 := 61) (pc' := 70) rfl (hb hby d2_61) rfl (teq c61).1 (by decide) (by decide) ?_
      show Steps p.tables e below (s₁.setTop (mkF m 70 #[.val (.int q1)] [])) _
      exact k70 hh
    · rw [if_neg c61] at hh
      show Steps p.tables e below (s₁.setTop (mkF m 61 #[.val (.int q1)] [(.int (65534 : Int32)), (.int q1)])) _
      refine XS.icmpNo X0.here hx rfl (hb hby d2_61) rfl (feq c61).1 ?_
      show Steps p.tables e below (s₁.setTop (mkF m 64 #[.val (.int q1)] [])) _
      refine XS.iloadN X0.here hx rfl (hb hby d2_64) rfl ?_
      show Steps p.tables e below (s₁.setTop (mkF m 65 #[.val (.int q1)] [(.int q1)])) _
      refine X0.ldcInt hx hown (mvT hZ (hw _ (List.mem_of_getElem? (i := 7) rfl))) (g := (mkF m 65 #[.val (.int q1)] [(.int q1)])) rfl (hb hby d2_65) _ ?_
      have hh : (if q1 = (65535 : Int32) then (ref_70 q1) else (ref_72 q1)) = r := hh
      by_cases c67 : q1 = (65535 : Int32)
      · rw [if_pos c67] at hh
        show Steps p.tables e below (s₁.setTop (mkF m 67 #[.val (.int q1)] [(.int (65535 : Int32)), (.int q1)])) _
        refine XS.icmpNo X0.here hx rfl (hb hby d2_67) rfl (teq c67).2 ?_
        show Steps p.tables e below (s₁.setTop (mkF m 70 #[.val (.int q1)] [])) _
        exact k70 hh
      · rw [if_neg c67] at hh
        show Steps p.tables e below (s₁.setTop (mkF m 67 #[.val (.int q1)] [(.int (65535 : Int32)), (.int q1)])) _
        refine XS.icmpYes X0.here hx rfl (pc0 := 67) (pc' := 72) rfl (hb hby d2_67) rfl (feq c67).2 (by decide) (by decide) ?_
        show Steps p.tables e below (s₁.setTop (mkF m 72 #[.val (.int q1)] [])) _
        exact k72 hh
  have k44 : ref_44 q1 = r → Steps p.tables e below (s₁.setTop (mkF m 44 #[.val (.int q1)] [])) (s₁.setFrames fs) := by
    intro hh
    show Steps p.tables e below (s₁.setTop (mkF m 44 #[.val (.int q1)] [])) _
    refine XS.iloadN X0.here hx rfl (hb hby d2_44) rfl ?_
    show Steps p.tables e below (s₁.setTop (mkF m 45 #[.val (.int q1)] [(.int q1)])) _
    refine X0.ldcInt hx hown (mvT hZ (hw _ (List.mem_of_getElem? (i := 2) rfl))) (g := (mkF m 45 #[.val (.int q1)] [(.int q1)])) rfl (hb hby d2_45) _ ?_
    have hh : (if q1 < (55296 : Int32) then (ref_58 q1) else (if (57343 : Int32) < q1 then (ref_58 q1) else ((0 : Int32)))) = r := hh
    by_cases c47 : q1 < (55296 : Int32)
    · rw [if_pos c47] at hh
      show Steps p.tables e below (s₁.setTop (mkF m 47 #[.val (.int q1)] [(.int (55296 : Int32)), (.int q1)])) _
      refine XS.icmpYes X0.here hx rfl (pc0 := 47) (pc' := 58) rfl (hb hby d2_47) rfl (tlt c47).1 (by decide) (by decide) ?_
      show Steps p.tables e below (s₁.setTop (mkF m 58 #[.val (.int q1)] [])) _
      exact k58 hh
    · rw [if_neg c47] at hh
      show Steps p.tables e below (s₁.setTop (mkF m 47 #[.val (.int q1)] [(.int (55296 : Int32)), (.int q1)])) _
      refine XS.icmpNo X0.here hx rfl (hb hby d2_47) rfl (flt c47).1 ?_
      show Steps p.tables e below (s₁.setTop (mkF m 50 #[.val (.int q1)] [])) _
      refine XS.iloadN X0.here hx rfl (hb hby d2_50) rfl ?_
      show Steps p.tables e below (s₁.setTop (mkF m 51 #[.val (.int q1)] [(.int q1)])) _
      refine X0.ldcInt hx hown (mvT hZ (hw _ (List.mem_of_getElem? (i := 3) rfl))) (g := (mkF m 51 #[.val (.int q1)] [(.int q1)])) rfl (hb hby d2_51) _ ?_
      have hh : (if (57343 : Int32) < q1 then (ref_58 q1) else ((0 : Int32))) = r := hh
      by_cases c53 : (57343 : Int32) < q1
      · rw [if_pos c53] at hh
        show Steps p.tables e below (s₁.setTop (mkF m 53 #[.val (.int q1)] [(.int (57343 : Int32)), (.int q1)])) _
        refine XS.icmpYes X0.here hx rfl (pc0 := 53) (pc' := 58) rfl (hb hby d2_53) rfl (tlt c53).2.2.1 (by decide) (by decide) ?_
        show Steps p.tables e below (s₁.setTop (mkF m 58 #[.val (.int q1)] [])) _
        exact k58 hh
      · rw [if_neg c53] at hh
        show Steps p.tables e below (s₁.setTop (mkF m 53 #[.val (.int q1)] [(.int (57343 : Int32)), (.int q1)])) _
        refine XS.icmpNo X0.here hx rfl (hb hby d2_53) rfl (flt c53).2.2.1 ?_
        show Steps p.tables e below (s₁.setTop (mkF m 56 #[.val (.int q1)] [])) _
        refine XS.iconst X0.here hx rfl (hb hby d2_56) ?_
        show Steps p.tables e below (s₁.setTop (mkF m 57 #[.val (.int q1)] [(.int (0 : Int32))])) _
        exact kret 57 _ _ (hb hby d2_57) hh
  have k43 : ∀ (z43_0 : Int32), ref_43 q1 z43_0 = r → Steps p.tables e below (s₁.setTop (mkF m 43 #[.val (.int q1)] [(.int z43_0)])) (s₁.setFrames fs) := by
    intro z43_0 hh
    show Steps p.tables e below (s₁.setTop (mkF m 43 #[.val (.int q1)] [(.int z43_0)])) _
    exact kret 43 _ _ (hb hby d2_43) hh
  have k42 : ref_42 q1 = r → Steps p.tables e below (s₁.setTop (mkF m 42 #[.val (.int q1)] [])) (s₁.setFrames fs) := by
    intro hh
    show Steps p.tables e below (s₁.setTop (mkF m 42 #[.val (.int q1)] [])) _
    refine XS.iconst X0.here hx rfl (hb hby d2_42) ?_
    show Steps p.tables e below (s₁.setTop (mkF m 43 #[.val (.int q1)] [(.int (0 : Int32))])) _
    exact k43 _ hh
  have k38 : ref_38 q1 = r → Steps p.tables e below (s₁.setTop (mkF m 38 #[.val (.int q1)] [])) (s₁.setFrames fs) := by
    intro hh
    show Steps p.tables e below (s₁.setTop (mkF m 38 #[.val (.int q1)] [])) _
    refine XS.iconst X0.here hx rfl (hb hby d2_38) ?_
    show Steps p.tables e below (s₁.setTop (mkF m 39 #[.val (.int q1)] [(.int (1 : Int32))])) _
    refine XS.goto X0.here hx rfl (pc0 := 39) (pc' := 43) rfl (hb hby d2_39) (by decide) (by decide) ?_
    show Steps p.tables e below (s₁.setTop (mkF m 43 #[.val (.int q1)] [(.int (1 : Int32))])) _
    exact k43 _ hh
  have k14 : ref_14 q1 = r → Steps p.tables e below (s₁.setTop (mkF m 14 #[.val (.int q1)] [])) (s₁.setFrames fs) := by
    intro hh
    show Steps p.tables e below (s₁.setTop (mkF m 14 #[.val (.int q1)] [])) _
    refine XS.iloadN X0.here hx rfl (hb hby d2_14) rfl ?_
    show Steps p.tables e below (s₁.setTop (mkF m 15 #[.val (.int q1)] [(.int q1)])) _
    refine XS.bipush X0.here hx rfl (hb hby d2_15) ?_
    have hh : (if q1 < (32 : Int32) then (if q1 = (9 : Int32) then (ref_38 q1) else (if q1 = (10 : Int32) then (ref_38 q1) else (if q1 = (13 : Int32) then (ref_38 q1) else (ref_42 q1)))) else (ref_44 q1)) = r := hh
    by_cases c17 : q1 < (32 : Int32)
    · rw [if_pos c17] at hh
      show Steps p.tables e below (s₁.setTop (mkF m 17 #[.val (.int q1)] [(.int (32 : Int32)), (.int q1)])) _
      refine XS.icmpNo X0.here hx rfl (hb hby d2_17) rfl (tlt c17).2.1 ?_
      show Steps p.tables e below (s₁.setTop (mkF m 20 #[.val (.int q1)] [])) _
      refine XS.iloadN X0.here hx rfl (hb hby d2_20) rfl ?_
      show Steps p.tables e below (s₁.setTop (mkF m 21 #[.val (.int q1)] [(.int q1)])) _
      refine XS.bipush X0.here hx rfl (hb hby d2_21) ?_
      have hh : (if q1 = (9 : Int32) then (ref_38 q1) else (if q1 = (10 : Int32) then (ref_38 q1) else (if q1 = (13 : Int32) then (ref_38 q1) else (ref_42 q1)))) = r := hh
      by_cases c23 : q1 = (9 : Int32)
      · rw [if_pos c23] at hh
        show Steps p.tables e below (s₁.setTop (mkF m 23 #[.val (.int q1)] [(.int (9 : Int32)), (.int q1)])) _
        refine XS.icmpYes X0.here hx rfl (pc0 := 23) (pc' := 38) rfl (hb hby d2_23) rfl (teq c23).1 (by decide) (by decide) ?_
        show Steps p.tables e below (s₁.setTop (mkF m 38 #[.val (.int q1)] [])) _
        exact k38 hh
      · rw [if_neg c23] at hh
        show Steps p.tables e below (s₁.setTop (mkF m 23 #[.val (.int q1)] [(.int (9 : Int32)), (.int q1)])) _
        refine XS.icmpNo X0.here hx rfl (hb hby d2_23) rfl (feq c23).1 ?_
        show Steps p.tables e below (s₁.setTop (mkF m 26 #[.val (.int q1)] [])) _
        refine XS.iloadN X0.here hx rfl (hb hby d2_26) rfl ?_
        show Steps p.tables e below (s₁.setTop (mkF m 27 #[.val (.int q1)] [(.int q1)])) _
        refine XS.bipush X0.here hx rfl (hb hby d2_27) ?_
        have hh : (if q1 = (10 : Int32) then (ref_38 q1) else (if q1 = (13 : Int32) then (ref_38 q1) else (ref_42 q1))) = r := hh
        by_cases c29 : q1 = (10 : Int32)
        · rw [if_pos c29] at hh
          show Steps p.tables e below (s₁.setTop (mkF m 29 #[.val (.int q1)] [(.int (10 : Int32)), (.int q1)])) _
          refine XS.icmpYes X0.here hx rfl (pc0 := 29) (pc' := 38) rfl (hb hby d2_29) rfl (teq c29).1 (by decide) (by decide) ?_
          show Steps p.tables e below (s₁.setTop (mkF m 38 #[.val (.int q1)] [])) _
          exact k38 hh
        · rw [if_neg c29] at hh
          show Steps p.tables e below (s₁.setTop (mkF m 29 #[.val (.int q1)] [(.int (10 : Int32)), (.int q1)])) _
          refine XS.icmpNo X0.here hx rfl (hb hby d2_29) rfl (feq c29).1 ?_
          show Steps p.tables e below (s₁.setTop (mkF m 32 #[.val (.int q1)] [])) _
          refine XS.iloadN X0.here hx rfl (hb hby d2_32) rfl ?_
          show Steps p.tables e below (s₁.setTop (mkF m 33 #[.val (.int q1)] [(.int q1)])) _
          refine XS.bipush X0.here hx rfl (hb hby d2_33) ?_
          have hh : (if q1 = (13 : Int32) then (ref_38 q1) else (ref_42 q1)) = r := hh
          by_cases c35 : q1 = (13 : Int32)
          · rw [if_pos c35] at hh
            show Steps p.tables e below (s₁.setTop (mkF m 35 #[.val (.int q1)] [(.int (13 : Int32)), (.int q1)])) _
            refine XS.icmpNo X0.here hx rfl (hb hby d2_35) rfl (teq c35).2 ?_
            show Steps p.tables e below (s₁.setTop (mkF m 38 #[.val (.int q1)] [])) _
            exact k38 hh
          · rw [if_neg c35] at hh
            show Steps p.tables e below (s₁.setTop (mkF m 35 #[.val (.int q1)] [(.int (13 : Int32)), (.int q1)])) _
            refine XS.icmpYes X0.here hx rfl (pc0 := 35) (pc' := 42) rfl (hb hby d2_35) rfl (feq c35).2 (by decide) (by decide) ?_
            show Steps p.tables e below (s₁.setTop (mkF m 42 #[.val (.int q1)] [])) _
            exact k42 hh
    · rw [if_neg c17] at hh
      show Steps p.tables e below (s₁.setTop (mkF m 17 #[.val (.int q1)] [(.int (32 : Int32)), (.int q1)])) _
      refine XS.icmpYes X0.here hx rfl (pc0 := 17) (pc' := 44) rfl (hb hby d2_17) rfl (flt c17).2.1 (by decide) (by decide) ?_
      show Steps p.tables e below (s₁.setTop (mkF m 44 #[.val (.int q1)] [])) _
      exact k44 hh
  have k6 : ref_6 q1 = r → Steps p.tables e below (s₁.setTop (mkF m 6 #[.val (.int q1)] [])) (s₁.setFrames fs) := by
    intro hh
    show Steps p.tables e below (s₁.setTop (mkF m 6 #[.val (.int q1)] [])) _
    refine XS.iloadN X0.here hx rfl (hb hby d2_6) rfl ?_
    show Steps p.tables e below (s₁.setTop (mkF m 7 #[.val (.int q1)] [(.int q1)])) _
    refine X0.ldcInt hx hown (mvT hZ (hw _ (List.mem_of_getElem? (i := 9) rfl))) (g := (mkF m 7 #[.val (.int q1)] [(.int q1)])) rfl (hb hby d2_7) _ ?_
    have hh : (if (1114111 : Int32) < q1 then ((0 : Int32)) else (ref_14 q1)) = r := hh
    by_cases c9 : (1114111 : Int32) < q1
    · rw [if_pos c9] at hh
      show Steps p.tables e below (s₁.setTop (mkF m 9 #[.val (.int q1)] [(.int (1114111 : Int32)), (.int q1)])) _
      refine XS.icmpNo X0.here hx rfl (hb hby d2_9) rfl (tlt c9).2.2.2 ?_
      show Steps p.tables e below (s₁.setTop (mkF m 12 #[.val (.int q1)] [])) _
      refine XS.iconst X0.here hx rfl (hb hby d2_12) ?_
      show Steps p.tables e below (s₁.setTop (mkF m 13 #[.val (.int q1)] [(.int (0 : Int32))])) _
      exact kret 13 _ _ (hb hby d2_13) hh
    · rw [if_neg c9] at hh
      show Steps p.tables e below (s₁.setTop (mkF m 9 #[.val (.int q1)] [(.int (1114111 : Int32)), (.int q1)])) _
      refine XS.icmpYes X0.here hx rfl (pc0 := 9) (pc' := 14) rfl (hb hby d2_9) rfl (flt c9).2.2.2 (by decide) (by decide) ?_
      show Steps p.tables e below (s₁.setTop (mkF m 14 #[.val (.int q1)] [])) _
      exact k14 hh
  have k0 : ref_0 q1 = r → Steps p.tables e below (s₁.setTop (mkF m 0 #[.val (.int q1)] [])) (s₁.setFrames fs) := by
    intro hh
    show Steps p.tables e below (s₁.setTop (mkF m 0 #[.val (.int q1)] [])) _
    refine XS.iloadN X0.here hx rfl (hb hby d2_0) rfl ?_
    have hh : (if q1 < (0 : Int32) then ((0 : Int32)) else (ref_6 q1)) = r := hh
    by_cases c1 : q1 < (0 : Int32)
    · rw [if_pos c1] at hh
      show Steps p.tables e below (s₁.setTop (mkF m 1 #[.val (.int q1)] [(.int q1)])) _
      refine XS.ifNo X0.here hx rfl (hb hby d2_1) rfl ((if0 _ _).trans (tlt c1).2.1) ?_
      show Steps p.tables e below (s₁.setTop (mkF m 4 #[.val (.int q1)] [])) _
      refine XS.iconst X0.here hx rfl (hb hby d2_4) ?_
      show Steps p.tables e below (s₁.setTop (mkF m 5 #[.val (.int q1)] [(.int (0 : Int32))])) _
      exact kret 5 _ _ (hb hby d2_5) hh
    · rw [if_neg c1] at hh
      show Steps p.tables e below (s₁.setTop (mkF m 1 #[.val (.int q1)] [(.int q1)])) _
      refine XS.ifYes X0.here hx rfl (pc0 := 1) (pc' := 6) rfl (hb hby d2_1) rfl ((if0 _ _).trans (flt c1).2.1) (by decide) (by decide) ?_
      show Steps p.tables e below (s₁.setTop (mkF m 6 #[.val (.int q1)] [])) _
      exact k6 hh
  refine ⟨_, _, pre0 _ (k0 hr0), hrun, hended, _, _, rfl, ?_, ⟨_, rfl⟩, hW, hsame.mono (by decide) (by decide)⟩
  show Q2 Z q1 h0 n0 _ s₁.heap _
  rw [e0]
  exact ⟨by rw [hr0], Fr.nil n0, rfl⟩
theorem pn_0 : plainName "transept/model/XmlCharsIsCharPinLaw" = true := by first | (simp [plainName, overriddenIn]; done) | decide +kernel
theorem ef_0 (m : MethodId) (p1 p2 p3 p4 : Int32) : entryFrame m #[(.int p1), (.int p2), (.int p3), (.int p4)] maxLocals = mkF m 0 #[.val (.int p1), .val (.int p2), .val (.int p3), .val (.int p4), .unset, .unset, .unset, .unset, .unset, .unset, .unset, .unset] [] := by first | (simp [entryFrame, mkF, argsToLocals, Value.category, maxLocals]; done) | rfl
theorem pd_0_0 : parseMethodDescriptor "(I)Z" = some ⟨[.int], some .boolean⟩ := by decide +kernel
theorem own_one : ¬ (1 : Int32) = (0 : Int32) := by decide
def Q0 (Z : State) (h0 : Heap) (n0 : Nat) (v : Option Value) (h : Heap) (L : List Loc) : Prop := v = some (.int (1 : Int32)) ∧ Fr n0 L
set_option maxRecDepth 65536 in
set_option maxHeartbeats 40000000 in
theorem rm0 (l : Launch) (Z : State) (a0 : Array Value) (hw : ∀ d ∈ tables_1, d.before a0 Z = true) (ws : List Jvm.Cond) (p1 p2 p3 p4 : Int32) (h0 : Heap) (n0 : Nat) (Z0 : n0 ≤ h0.size) :
    MetFree l x (head1 (Jvm.Cond.code x code maxLocals ret :: ws) room_1) (fun a U => a = #[(.int p1), (.int p2), (.int p3), (.int p4)] ∧ Z.Warmed39 U.vm ∧ U.heap = h0) (fun _ _ _ _ _ => True) (fun _ U o U' => ∃ v L, o = .returned v ∧ Q0 Z h0 n0 v U'.heap L ∧ FrameEnd U o U' L room_1.cells room_1.slots) := by
  refine MetFree.of_bodySF (plainFor_of_name pn_0) hisR ?_
  intro p e s m args below meth c s₁ Bd hml0 hP hK
  obtain ⟨rfl, hZ, hh⟩ := hP
  have hx := Bd.exec
  have hby := Bd.bytes
  have hml : c.maxLocals = 12 := hml0
  have hown : s.vm.findClass "transept/model/XmlCharsIsCharPinLaw" = some m.cls := findClass_of_methodNamed Bd.named
  have X0 : Stand p l e room_1 s m #[(.int p1), (.int p2), (.int p3), (.int p4)] below meth c s₁ [] 0 0 := Stand.of_body Bd
  have e0 : s₁.heap = h0 := by rw [← hh, Bd.state]; rfl
  have pre0 : ∀ t, Steps p.tables e below (s₁.setTop (mkF m 0 #[.val (.int p1), .val (.int p2), .val (.int p3), .val (.int p4), .unset, .unset, .unset, .unset, .unset, .unset, .unset, .unset] [])) t → Steps p.tables e below (s₁.setTop (entryFrame m #[(.int p1), (.int p2), (.int p3), (.int p4)] maxLocals)) t := fun t k => castTop (ef_0 m p1 p2 p3 p4) k
  have K1 : ∀ t, Steps p.tables e below (s₁.setTop (mkF m 2 #[.val (.int p1), .val (.int p2), .val (.int p3), .val (.int p4), .unset, .unset, .unset, .unset, .unset, .unset, .unset, .unset] [(.int (22 : Int32))])) t → Steps p.tables e below (s₁.setTop (mkF m 0 #[.val (.int p1), .val (.int p2), .val (.int p3), .val (.int p4), .unset, .unset, .unset, .unset, .unset, .unset, .unset, .unset] [])) t := by
    intro t k
    show Steps p.tables e below (s₁.setTop (mkF m 0 #[.val (.int p1), .val (.int p2), .val (.int p3), .val (.int p4), .unset, .unset, .unset, .unset, .unset, .unset, .unset, .unset] [])) _
    refine XS.bipush X0.here hx rfl (hb hby at_0) ?_
    show Steps p.tables e below (s₁.setTop (mkF m 2 #[.val (.int p1), .val (.int p2), .val (.int p3), .val (.int p4), .unset, .unset, .unset, .unset, .unset, .unset, .unset, .unset] [(.int (22 : Int32))])) t
    exact k
  obtain ⟨T1, h1, k1, X1, e1, E1, A1, st1⟩ := newP X0 hx hZ (hw _ (List.mem_of_getElem? (i := 0) rfl)) e0 (g := (mkF m 2 #[.val (.int p1), .val (.int p2), .val (.int p3), .val (.int p4), .unset, .unset, .unset, .unset, .unset, .unset, .unset, .unset] [(.int (22 : Int32))])) rfl (hb hby at_2) rfl (by decide) (cap := 22) (by decide) (by decide) (by decide) (by decide)
  obtain ⟨b, gb⟩ : ∃ z, z = h0.size := ⟨_, rfl⟩
  rw [← gb] at A1 st1
  have V1 : Arv Z h1 b k1 .int (22 : Int32) ([] ++ List.replicate 22 (.int (0 : Int32))) (.int (0 : Int32)) := (Arv.new A1 (by decide)).pad (pad_rep [] (.int (0 : Int32)) 22)
  have I1 : own_St Z n0 T1.heap [] b (22 : Int32) := ⟨Fr.nil n0, Nat.le_trans Z0 (Nat.le_of_eq gb.symm), by rw [e1]; exact Nat.le_trans Z0 E1.1, k1, _, by rw [e1]; exact V1, by decide⟩
  have K2 : ∀ t, Steps p.tables e below (T1.setTop (mkF m 7 #[.val (.int p1), .val (.int p2), .val (.int p3), .val (.int p4), .unset, .unset, .unset, .unset, .unset, .unset, .unset, .unset] [(.int (0 : Int32)), (.int (0 : Int32)), (.ref b), (.ref b)])) t → Steps p.tables e below (T1.setTop (mkF m 4 #[.val (.int p1), .val (.int p2), .val (.int p3), .val (.int p4), .unset, .unset, .unset, .unset, .unset, .unset, .unset, .unset] [(.ref b)])) t := by
    intro t k
    show Steps p.tables e below (T1.setTop (mkF m 4 #[.val (.int p1), .val (.int p2), .val (.int p3), .val (.int p4), .unset, .unset, .unset, .unset, .unset, .unset, .unset, .unset] [(.ref b)])) _
    refine XS.dup X1.here hx rfl (hb hby at_4) rfl rfl ?_
    show Steps p.tables e below (T1.setTop (mkF m 5 #[.val (.int p1), .val (.int p2), .val (.int p3), .val (.int p4), .unset, .unset, .unset, .unset, .unset, .unset, .unset, .unset] [(.ref b), (.ref b)])) _
    refine XS.iconst X1.here hx rfl (hb hby at_5) ?_
    show Steps p.tables e below (T1.setTop (mkF m 6 #[.val (.int p1), .val (.int p2), .val (.int p3), .val (.int p4), .unset, .unset, .unset, .unset, .unset, .unset, .unset, .unset] [(.int (0 : Int32)), (.ref b), (.ref b)])) _
    refine XS.iconst X1.here hx rfl (hb hby at_6) ?_
    show Steps p.tables e below (T1.setTop (mkF m 7 #[.val (.int p1), .val (.int p2), .val (.int p3), .val (.int p4), .unset, .unset, .unset, .unset, .unset, .unset, .unset, .unset] [(.int (0 : Int32)), (.int (0 : Int32)), (.ref b), (.ref b)])) t
    exact k
  obtain ⟨T2, L2, X2, I2, st2⟩ := own_store X1 hx hZ I1 (j := (0 : Int32)) (by decide) (g := (mkF m 7 #[.val (.int p1), .val (.int p2), .val (.int p3), .val (.int p4), .unset, .unset, .unset, .unset, .unset, .unset, .unset, .unset] [(.int (0 : Int32)), (.int (0 : Int32)), (.ref b), (.ref b)])) rfl rfl (hb hby at_7)
  have K3 : ∀ t, Steps p.tables e below (T2.setTop (mkF m 12 #[.val (.int p1), .val (.int p2), .val (.int p3), .val (.int p4), .unset, .unset, .unset, .unset, .unset, .unset, .unset, .unset] [(.int (8 : Int32)), (.int (1 : Int32)), (.ref b), (.ref b)])) t → Steps p.tables e below (T2.setTop (mkF m 8 #[.val (.int p1), .val (.int p2), .val (.int p3), .val (.int p4), .unset, .unset, .unset, .unset, .unset, .unset, .unset, .unset] [(.ref b)])) t := by
    intro t k
    show Steps p.tables e below (T2.setTop (mkF m 8 #[.val (.int p1), .val (.int p2), .val (.int p3), .val (.int p4), .unset, .unset, .unset, .unset, .unset, .unset, .unset, .unset] [(.ref b)])) _
    refine XS.dup X2.here hx rfl (hb hby at_8) rfl rfl ?_
    show Steps p.tables e below (T2.setTop (mkF m 9 #[.val (.int p1), .val (.int p2), .val (.int p3), .val (.int p4), .unset, .unset, .unset, .unset, .unset, .unset, .unset, .unset] [(.ref b), (.ref b)])) _
    refine XS.iconst X2.here hx rfl (hb hby at_9) ?_
    show Steps p.tables e below (T2.setTop (mkF m 10 #[.val (.int p1), .val (.int p2), .val (.int p3), .val (.int p4), .unset, .unset, .unset, .unset, .unset, .unset, .unset, .unset] [(.int (1 : Int32)), (.ref b), (.ref b)])) _
    refine XS.bipush X2.here hx rfl (hb hby at_10) ?_
    show Steps p.tables e below (T2.setTop (mkF m 12 #[.val (.int p1), .val (.int p2), .val (.int p3), .val (.int p4), .unset, .unset, .unset, .unset, .unset, .unset, .unset, .unset] [(.int (8 : Int32)), (.int (1 : Int32)), (.ref b), (.ref b)])) t
    exact k
  obtain ⟨T3, L3, X3, I3, st3⟩ := own_store X2 hx hZ I2 (j := (1 : Int32)) (by decide) (g := (mkF m 12 #[.val (.int p1), .val (.int p2), .val (.int p3), .val (.int p4), .unset, .unset, .unset, .unset, .unset, .unset, .unset, .unset] [(.int (8 : Int32)), (.int (1 : Int32)), (.ref b), (.ref b)])) rfl rfl (hb hby at_12)
  have K4 : ∀ t, Steps p.tables e below (T3.setTop (mkF m 17 #[.val (.int p1), .val (.int p2), .val (.int p3), .val (.int p4), .unset, .unset, .unset, .unset, .unset, .unset, .unset, .unset] [(.int (9 : Int32)), (.int (2 : Int32)), (.ref b), (.ref b)])) t → Steps p.tables e below (T3.setTop (mkF m 13 #[.val (.int p1), .val (.int p2), .val (.int p3), .val (.int p4), .unset, .unset, .unset, .unset, .unset, .unset, .unset, .unset] [(.ref b)])) t := by
    intro t k
    show Steps p.tables e below (T3.setTop (mkF m 13 #[.val (.int p1), .val (.int p2), .val (.int p3), .val (.int p4), .unset, .unset, .unset, .unset, .unset, .unset, .unset, .unset] [(.ref b)])) _
    refine XS.dup X3.here hx rfl (hb hby at_13) rfl rfl ?_
    show Steps p.tables e below (T3.setTop (mkF m 14 #[.val (.int p1), .val (.int p2), .val (.int p3), .val (.int p4), .unset, .unset, .unset, .unset, .unset, .unset, .unset, .unset] [(.ref b), (.ref b)])) _
    refine XS.iconst X3.here hx rfl (hb hby at_14) ?_
    show Steps p.tables e below (T3.setTop (mkF m 15 #[.val (.int p1), .val (.int p2), .val (.int p3), .val (.int p4), .unset, .unset, .unset, .unset, .unset, .unset, .unset, .unset] [(.int (2 : Int32)), (.ref b), (.ref b)])) _
    refine XS.bipush X3.here hx rfl (hb hby at_15) ?_
    show Steps p.tables e below (T3.setTop (mkF m 17 #[.val (.int p1), .val (.int p2), .val (.int p3), .val (.int p4), .unset, .unset, .unset, .unset, .unset, .unset, .unset, .unset] [(.int (9 : Int32)), (.int (2 : Int32)), (.ref b), (.ref b)])) t
    exact k
  obtain ⟨T4, L4, X4, I4, st4⟩ := own_store X3 hx hZ I3 (j := (2 : Int32)) (by decide) (g := (mkF m 17 #[.val (.int p1), .val (.int p2), .val (.int p3), .val (.int p4), .unset, .unset, .unset, .unset, .unset, .unset, .unset, .unset] [(.int (9 : Int32)), (.int (2 : Int32)), (.ref b), (.ref b)])) rfl rfl (hb hby at_17)
  have K5 : ∀ t, Steps p.tables e below (T4.setTop (mkF m 22 #[.val (.int p1), .val (.int p2), .val (.int p3), .val (.int p4), .unset, .unset, .unset, .unset, .unset, .unset, .unset, .unset] [(.int (10 : Int32)), (.int (3 : Int32)), (.ref b), (.ref b)])) t → Steps p.tables e below (T4.setTop (mkF m 18 #[.val (.int p1), .val (.int p2), .val (.int p3), .val (.int p4), .unset, .unset, .unset, .unset, .unset, .unset, .unset, .unset] [(.ref b)])) t := by
    intro t k
    show Steps p.tables e below (T4.setTop (mkF m 18 #[.val (.int p1), .val (.int p2), .val (.int p3), .val (.int p4), .unset, .unset, .unset, .unset, .unset, .unset, .unset, .unset] [(.ref b)])) _
    refine XS.dup X4.here hx rfl (hb hby at_18) rfl rfl ?_
    show Steps p.tables e below (T4.setTop (mkF m 19 #[.val (.int p1), .val (.int p2), .val (.int p3), .val (.int p4), .unset, .unset, .unset, .unset, .unset, .unset, .unset, .unset] [(.ref b), (.ref b)])) _
    refine XS.iconst X4.here hx rfl (hb hby at_19) ?_
    show Steps p.tables e below (T4.setTop (mkF m 20 #[.val (.int p1), .val (.int p2), .val (.int p3), .val (.int p4), .unset, .unset, .unset, .unset, .unset, .unset, .unset, .unset] [(.int (3 : Int32)), (.ref b), (.ref b)])) _
    refine XS.bipush X4.here hx rfl (hb hby at_20) ?_
    show Steps p.tables e below (T4.setTop (mkF m 22 #[.val (.int p1), .val (.int p2), .val (.int p3), .val (.int p4), .unset, .unset, .unset, .unset, .unset, .unset, .unset, .unset] [(.int (10 : Int32)), (.int (3 : Int32)), (.ref b), (.ref b)])) t
    exact k
  obtain ⟨T5, L5, X5, I5, st5⟩ := own_store X4 hx hZ I4 (j := (3 : Int32)) (by decide) (g := (mkF m 22 #[.val (.int p1), .val (.int p2), .val (.int p3), .val (.int p4), .unset, .unset, .unset, .unset, .unset, .unset, .unset, .unset] [(.int (10 : Int32)), (.int (3 : Int32)), (.ref b), (.ref b)])) rfl rfl (hb hby at_22)
  have K6 : ∀ t, Steps p.tables e below (T5.setTop (mkF m 27 #[.val (.int p1), .val (.int p2), .val (.int p3), .val (.int p4), .unset, .unset, .unset, .unset, .unset, .unset, .unset, .unset] [(.int (11 : Int32)), (.int (4 : Int32)), (.ref b), (.ref b)])) t → Steps p.tables e below (T5.setTop (mkF m 23 #[.val (.int p1), .val (.int p2), .val (.int p3), .val (.int p4), .unset, .unset, .unset, .unset, .unset, .unset, .unset, .unset] [(.ref b)])) t := by
    intro t k
    show Steps p.tables e below (T5.setTop (mkF m 23 #[.val (.int p1), .val (.int p2), .val (.int p3), .val (.int p4), .unset, .unset, .unset, .unset, .unset, .unset, .unset, .unset] [(.ref b)])) _
    refine XS.dup X5.here hx rfl (hb hby at_23) rfl rfl ?_
    show Steps p.tables e below (T5.setTop (mkF m 24 #[.val (.int p1), .val (.int p2), .val (.int p3), .val (.int p4), .unset, .unset, .unset, .unset, .unset, .unset, .unset, .unset] [(.ref b), (.ref b)])) _
    refine XS.iconst X5.here hx rfl (hb hby at_24) ?_
    show Steps p.tables e below (T5.setTop (mkF m 25 #[.val (.int p1), .val (.int p2), .val (.int p3), .val (.int p4), .unset, .unset, .unset, .unset, .unset, .unset, .unset, .unset] [(.int (4 : Int32)), (.ref b), (.ref b)])) _
    refine XS.bipush X5.here hx rfl (hb hby at_25) ?_
    show Steps p.tables e below (T5.setTop (mkF m 27 #[.val (.int p1), .val (.int p2), .val (.int p3), .val (.int p4), .unset, .unset, .unset, .unset, .unset, .unset, .unset, .unset] [(.int (11 : Int32)), (.int (4 : Int32)), (.ref b), (.ref b)])) t
    exact k
  obtain ⟨T6, L6, X6, I6, st6⟩ := own_store X5 hx hZ I5 (j := (4 : Int32)) (by decide) (g := (mkF m 27 #[.val (.int p1), .val (.int p2), .val (.int p3), .val (.int p4), .unset, .unset, .unset, .unset, .unset, .unset, .unset, .unset] [(.int (11 : Int32)), (.int (4 : Int32)), (.ref b), (.ref b)])) rfl rfl (hb hby at_27)
  have K7 : ∀ t, Steps p.tables e below (T6.setTop (mkF m 32 #[.val (.int p1), .val (.int p2), .val (.int p3), .val (.int p4), .unset, .unset, .unset, .unset, .unset, .unset, .unset, .unset] [(.int (12 : Int32)), (.int (5 : Int32)), (.ref b), (.ref b)])) t → Steps p.tables e below (T6.setTop (mkF m 28 #[.val (.int p1), .val (.int p2), .val (.int p3), .val (.int p4), .unset, .unset, .unset, .unset, .unset, .unset, .unset, .unset] [(.ref b)])) t := by
    intro t k
    show Steps p.tables e below (T6.setTop (mkF m 28 #[.val (.int p1), .val (.int p2), .val (.int p3), .val (.int p4), .unset, .unset, .unset, .unset, .unset, .unset, .unset, .unset] [(.ref b)])) _
    refine XS.dup X6.here hx rfl (hb hby at_28) rfl rfl ?_
    show Steps p.tables e below (T6.setTop (mkF m 29 #[.val (.int p1), .val (.int p2), .val (.int p3), .val (.int p4), .unset, .unset, .unset, .unset, .unset, .unset, .unset, .unset] [(.ref b), (.ref b)])) _
    refine XS.iconst X6.here hx rfl (hb hby at_29) ?_
    show Steps p.tables e below (T6.setTop (mkF m 30 #[.val (.int p1), .val (.int p2), .val (.int p3), .val (.int p4), .unset, .unset, .unset, .unset, .unset, .unset, .unset, .unset] [(.int (5 : Int32)), (.ref b), (.ref b)])) _
    refine XS.bipush X6.here hx rfl (hb hby at_30) ?_
    show Steps p.tables e below (T6.setTop (mkF m 32 #[.val (.int p1), .val (.int p2), .val (.int p3), .val (.int p4), .unset, .unset, .unset, .unset, .unset, .unset, .unset, .unset] [(.int (12 : Int32)), (.int (5 : Int32)), (.ref b), (.ref b)])) t
    exact k
  obtain ⟨T7, L7, X7, I7, st7⟩ := own_store X6 hx hZ I6 (j := (5 : Int32)) (by decide) (g := (mkF m 32 #[.val (.int p1), .val (.int p2), .val (.int p3), .val (.int p4), .unset, .unset, .unset, .unset, .unset, .unset, .unset, .unset] [(.int (12 : Int32)), (.int (5 : Int32)), (.ref b), (.ref b)])) rfl rfl (hb hby at_32)
  have K8 : ∀ t, Steps p.tables e below (T7.setTop (mkF m 38 #[.val (.int p1), .val (.int p2), .val (.int p3), .val (.int p4), .unset, .unset, .unset, .unset, .unset, .unset, .unset, .unset] [(.int (13 : Int32)), (.int (6 : Int32)), (.ref b), (.ref b)])) t → Steps p.tables e below (T7.setTop (mkF m 33 #[.val (.int p1), .val (.int p2), .val (.int p3), .val (.int p4), .unset, .unset, .unset, .unset, .unset, .unset, .unset, .unset] [(.ref b)])) t := by
    intro t k
    show Steps p.tables e below (T7.setTop (mkF m 33 #[.val (.int p1), .val (.int p2), .val (.int p3), .val (.int p4), .unset, .unset, .unset, .unset, .unset, .unset, .unset, .unset] [(.ref b)])) _
    refine XS.dup X7.here hx rfl (hb hby at_33) rfl rfl ?_
    show Steps p.tables e below (T7.setTop (mkF m 34 #[.val (.int p1), .val (.int p2), .val (.int p3), .val (.int p4), .unset, .unset, .unset, .unset, .unset, .unset, .unset, .unset] [(.ref b), (.ref b)])) _
    refine XS.bipush X7.here hx rfl (hb hby at_34) ?_
    show Steps p.tables e below (T7.setTop (mkF m 36 #[.val (.int p1), .val (.int p2), .val (.int p3), .val (.int p4), .unset, .unset, .unset, .unset, .unset, .unset, .unset, .unset] [(.int (6 : Int32)), (.ref b), (.ref b)])) _
    refine XS.bipush X7.here hx rfl (hb hby at_36) ?_
    show Steps p.tables e below (T7.setTop (mkF m 38 #[.val (.int p1), .val (.int p2), .val (.int p3), .val (.int p4), .unset, .unset, .unset, .unset, .unset, .unset, .unset, .unset] [(.int (13 : Int32)), (.int (6 : Int32)), (.ref b), (.ref b)])) t
    exact k
  obtain ⟨T8, L8, X8, I8, st8⟩ := own_store X7 hx hZ I7 (j := (6 : Int32)) (by decide) (g := (mkF m 38 #[.val (.int p1), .val (.int p2), .val (.int p3), .val (.int p4), .unset, .unset, .unset, .unset, .unset, .unset, .unset, .unset] [(.int (13 : Int32)), (.int (6 : Int32)), (.ref b), (.ref b)])) rfl rfl (hb hby at_38)
  have K9 : ∀ t, Steps p.tables e below (T8.setTop (mkF m 44 #[.val (.int p1), .val (.int p2), .val (.int p3), .val (.int p4), .unset, .unset, .unset, .unset, .unset, .unset, .unset, .unset] [(.int (14 : Int32)), (.int (7 : Int32)), (.ref b), (.ref b)])) t → Steps p.tables e below (T8.setTop (mkF m 39 #[.val (.int p1), .val (.int p2), .val (.int p3), .val (.int p4), .unset, .unset, .unset, .unset, .unset, .unset, .unset, .unset] [(.ref b)])) t := by
    intro t k
    show Steps p.tables e below (T8.setTop (mkF m 39 #[.val (.int p1), .val (.int p2), .val (.int p3), .val (.int p4), .unset, .unset, .unset, .unset, .unset, .unset, .unset, .unset] [(.ref b)])) _
    refine XS.dup X8.here hx rfl (hb hby at_39) rfl rfl ?_
    show Steps p.tables e below (T8.setTop (mkF m 40 #[.val (.int p1), .val (.int p2), .val (.int p3), .val (.int p4), .unset, .unset, .unset, .unset, .unset, .unset, .unset, .unset] [(.ref b), (.ref b)])) _
    refine XS.bipush X8.here hx rfl (hb hby at_40) ?_
    show Steps p.tables e below (T8.setTop (mkF m 42 #[.val (.int p1), .val (.int p2), .val (.int p3), .val (.int p4), .unset, .unset, .unset, .unset, .unset, .unset, .unset, .unset] [(.int (7 : Int32)), (.ref b), (.ref b)])) _
    refine XS.bipush X8.here hx rfl (hb hby at_42) ?_
    show Steps p.tables e below (T8.setTop (mkF m 44 #[.val (.int p1), .val (.int p2), .val (.int p3), .val (.int p4), .unset, .unset, .unset, .unset, .unset, .unset, .unset, .unset] [(.int (14 : Int32)), (.int (7 : Int32)), (.ref b), (.ref b)])) t
    exact k
  obtain ⟨T9, L9, X9, I9, st9⟩ := own_store X8 hx hZ I8 (j := (7 : Int32)) (by decide) (g := (mkF m 44 #[.val (.int p1), .val (.int p2), .val (.int p3), .val (.int p4), .unset, .unset, .unset, .unset, .unset, .unset, .unset, .unset] [(.int (14 : Int32)), (.int (7 : Int32)), (.ref b), (.ref b)])) rfl rfl (hb hby at_44)
  have K10 : ∀ t, Steps p.tables e below (T9.setTop (mkF m 50 #[.val (.int p1), .val (.int p2), .val (.int p3), .val (.int p4), .unset, .unset, .unset, .unset, .unset, .unset, .unset, .unset] [(.int (31 : Int32)), (.int (8 : Int32)), (.ref b), (.ref b)])) t → Steps p.tables e below (T9.setTop (mkF m 45 #[.val (.int p1), .val (.int p2), .val (.int p3), .val (.int p4), .unset, .unset, .unset, .unset, .unset, .unset, .unset, .unset] [(.ref b)])) t := by
    intro t k
    show Steps p.tables e below (T9.setTop (mkF m 45 #[.val (.int p1), .val (.int p2), .val (.int p3), .val (.int p4), .unset, .unset, .unset, .unset, .unset, .unset, .unset, .unset] [(.ref b)])) _
    refine XS.dup X9.here hx rfl (hb hby at_45) rfl rfl ?_
    show Steps p.tables e below (T9.setTop (mkF m 46 #[.val (.int p1), .val (.int p2), .val (.int p3), .val (.int p4), .unset, .unset, .unset, .unset, .unset, .unset, .unset, .unset] [(.ref b), (.ref b)])) _
    refine XS.bipush X9.here hx rfl (hb hby at_46) ?_
    show Steps p.tables e below (T9.setTop (mkF m 48 #[.val (.int p1), .val (.int p2), .val (.int p3), .val (.int p4), .unset, .unset, .unset, .unset, .unset, .unset, .unset, .unset] [(.int (8 : Int32)), (.ref b), (.ref b)])) _
    refine XS.bipush X9.here hx rfl (hb hby at_48) ?_
    show Steps p.tables e below (T9.setTop (mkF m 50 #[.val (.int p1), .val (.int p2), .val (.int p3), .val (.int p4), .unset, .unset, .unset, .unset, .unset, .unset, .unset, .unset] [(.int (31 : Int32)), (.int (8 : Int32)), (.ref b), (.ref b)])) t
    exact k
  obtain ⟨T10, L10, X10, I10, st10⟩ := own_store X9 hx hZ I9 (j := (8 : Int32)) (by decide) (g := (mkF m 50 #[.val (.int p1), .val (.int p2), .val (.int p3), .val (.int p4), .unset, .unset, .unset, .unset, .unset, .unset, .unset, .unset] [(.int (31 : Int32)), (.int (8 : Int32)), (.ref b), (.ref b)])) rfl rfl (hb hby at_50)
  have K11 : ∀ t, Steps p.tables e below (T10.setTop (mkF m 56 #[.val (.int p1), .val (.int p2), .val (.int p3), .val (.int p4), .unset, .unset, .unset, .unset, .unset, .unset, .unset, .unset] [(.int (32 : Int32)), (.int (9 : Int32)), (.ref b), (.ref b)])) t → Steps p.tables e below (T10.setTop (mkF m 51 #[.val (.int p1), .val (.int p2), .val (.int p3), .val (.int p4), .unset, .unset, .unset, .unset, .unset, .unset, .unset, .unset] [(.ref b)])) t := by
    intro t k
    show Steps p.tables e below (T10.setTop (mkF m 51 #[.val (.int p1), .val (.int p2), .val (.int p3), .val (.int p4), .unset, .unset, .unset, .unset, .unset, .unset, .unset, .unset] [(.ref b)])) _
    refine XS.dup X10.here hx rfl (hb hby at_51) rfl rfl ?_
    show Steps p.tables e below (T10.setTop (mkF m 52 #[.val (.int p1), .val (.int p2), .val (.int p3), .val (.int p4), .unset, .unset, .unset, .unset, .unset, .unset, .unset, .unset] [(.ref b), (.ref b)])) _
    refine XS.bipush X10.here hx rfl (hb hby at_52) ?_
    show Steps p.tables e below (T10.setTop (mkF m 54 #[.val (.int p1), .val (.int p2), .val (.int p3), .val (.int p4), .unset, .unset, .unset, .unset, .unset, .unset, .unset, .unset] [(.int (9 : Int32)), (.ref b), (.ref b)])) _
    refine XS.bipush X10.here hx rfl (hb hby at_54) ?_
    show Steps p.tables e below (T10.setTop (mkF m 56 #[.val (.int p1), .val (.int p2), .val (.int p3), .val (.int p4), .unset, .unset, .unset, .unset, .unset, .unset, .unset, .unset] [(.int (32 : Int32)), (.int (9 : Int32)), (.ref b), (.ref b)])) t
    exact k
  obtain ⟨T11, L11, X11, I11, st11⟩ := own_store X10 hx hZ I10 (j := (9 : Int32)) (by decide) (g := (mkF m 56 #[.val (.int p1), .val (.int p2), .val (.int p3), .val (.int p4), .unset, .unset, .unset, .unset, .unset, .unset, .unset, .unset] [(.int (32 : Int32)), (.int (9 : Int32)), (.ref b), (.ref b)])) rfl rfl (hb hby at_56)
  have K12 : ∀ t, Steps p.tables e below (T11.setTop (mkF m 62 #[.val (.int p1), .val (.int p2), .val (.int p3), .val (.int p4), .unset, .unset, .unset, .unset, .unset, .unset, .unset, .unset] [(.int (55295 : Int32)), (.int (10 : Int32)), (.ref b), (.ref b)])) t → Steps p.tables e below (T11.setTop (mkF m 57 #[.val (.int p1), .val (.int p2), .val (.int p3), .val (.int p4), .unset, .unset, .unset, .unset, .unset, .unset, .unset, .unset] [(.ref b)])) t := by
    intro t k
    show Steps p.tables e below (T11.setTop (mkF m 57 #[.val (.int p1), .val (.int p2), .val (.int p3), .val (.int p4), .unset, .unset, .unset, .unset, .unset, .unset, .unset, .unset] [(.ref b)])) _
    refine XS.dup X11.here hx rfl (hb hby at_57) rfl rfl ?_
    show Steps p.tables e below (T11.setTop (mkF m 58 #[.val (.int p1), .val (.int p2), .val (.int p3), .val (.int p4), .unset, .unset, .unset, .unset, .unset, .unset, .unset, .unset] [(.ref b), (.ref b)])) _
    refine XS.bipush X11.here hx rfl (hb hby at_58) ?_
    show Steps p.tables e below (T11.setTop (mkF m 60 #[.val (.int p1), .val (.int p2), .val (.int p3), .val (.int p4), .unset, .unset, .unset, .unset, .unset, .unset, .unset, .unset] [(.int (10 : Int32)), (.ref b), (.ref b)])) _
    refine X11.ldcInt hx hown (mvT hZ (hw _ (List.mem_of_getElem? (i := 1) rfl))) (g := (mkF m 60 #[.val (.int p1), .val (.int p2), .val (.int p3), .val (.int p4), .unset, .unset, .unset, .unset, .unset, .unset, .unset, .unset] [(.int (10 : Int32)), (.ref b), (.ref b)])) rfl (hb hby at_60) _ ?_
    show Steps p.tables e below (T11.setTop (mkF m 62 #[.val (.int p1), .val (.int p2), .val (.int p3), .val (.int p4), .unset, .unset, .unset, .unset, .unset, .unset, .unset, .unset] [(.int (55295 : Int32)), (.int (10 : Int32)), (.ref b), (.ref b)])) t
    exact k
  obtain ⟨T12, L12, X12, I12, st12⟩ := own_store X11 hx hZ I11 (j := (10 : Int32)) (by decide) (g := (mkF m 62 #[.val (.int p1), .val (.int p2), .val (.int p3), .val (.int p4), .unset, .unset, .unset, .unset, .unset, .unset, .unset, .unset] [(.int (55295 : Int32)), (.int (10 : Int32)), (.ref b), (.ref b)])) rfl rfl (hb hby at_62)
  have K13 : ∀ t, Steps p.tables e below (T12.setTop (mkF m 68 #[.val (.int p1), .val (.int p2), .val (.int p3), .val (.int p4), .unset, .unset, .unset, .unset, .unset, .unset, .unset, .unset] [(.int (55296 : Int32)), (.int (11 : Int32)), (.ref b), (.ref b)])) t → Steps p.tables e below (T12.setTop (mkF m 63 #[.val (.int p1), .val (.int p2), .val (.int p3), .val (.int p4), .unset, .unset, .unset, .unset, .unset, .unset, .unset, .unset] [(.ref b)])) t := by
    intro t k
    show Steps p.tables e below (T12.setTop (mkF m 63 #[.val (.int p1), .val (.int p2), .val (.int p3), .val (.int p4), .unset, .unset, .unset, .unset, .unset, .unset, .unset, .unset] [(.ref b)])) _
    refine XS.dup X12.here hx rfl (hb hby at_63) rfl rfl ?_
    show Steps p.tables e below (T12.setTop (mkF m 64 #[.val (.int p1), .val (.int p2), .val (.int p3), .val (.int p4), .unset, .unset, .unset, .unset, .unset, .unset, .unset, .unset] [(.ref b), (.ref b)])) _
    refine XS.bipush X12.here hx rfl (hb hby at_64) ?_
    show Steps p.tables e below (T12.setTop (mkF m 66 #[.val (.int p1), .val (.int p2), .val (.int p3), .val (.int p4), .unset, .unset, .unset, .unset, .unset, .unset, .unset, .unset] [(.int (11 : Int32)), (.ref b), (.ref b)])) _
    refine X12.ldcInt hx hown (mvT hZ (hw _ (List.mem_of_getElem? (i := 2) rfl))) (g := (mkF m 66 #[.val (.int p1), .val (.int p2), .val (.int p3), .val (.int p4), .unset, .unset, .unset, .unset, .unset, .unset, .unset, .unset] [(.int (11 : Int32)), (.ref b), (.ref b)])) rfl (hb hby at_66) _ ?_
    show Steps p.tables e below (T12.setTop (mkF m 68 #[.val (.int p1), .val (.int p2), .val (.int p3), .val (.int p4), .unset, .unset, .unset, .unset, .unset, .unset, .unset, .unset] [(.int (55296 : Int32)), (.int (11 : Int32)), (.ref b), (.ref b)])) t
    exact k
  obtain ⟨T13, L13, X13, I13, st13⟩ := own_store X12 hx hZ I12 (j := (11 : Int32)) (by decide) (g := (mkF m 68 #[.val (.int p1), .val (.int p2), .val (.int p3), .val (.int p4), .unset, .unset, .unset, .unset, .unset, .unset, .unset, .unset] [(.int (55296 : Int32)), (.int (11 : Int32)), (.ref b), (.ref b)])) rfl rfl (hb hby at_68)
  have K14 : ∀ t, Steps p.tables e below (T13.setTop (mkF m 74 #[.val (.int p1), .val (.int p2), .val (.int p3), .val (.int p4), .unset, .unset, .unset, .unset, .unset, .unset, .unset, .unset] [(.int (57343 : Int32)), (.int (12 : Int32)), (.ref b), (.ref b)])) t → Steps p.tables e below (T13.setTop (mkF m 69 #[.val (.int p1), .val (.int p2), .val (.int p3), .val (.int p4), .unset, .unset, .unset, .unset, .unset, .unset, .unset, .unset] [(.ref b)])) t := by
    intro t k
    show Steps p.tables e below (T13.setTop (mkF m 69 #[.val (.int p1), .val (.int p2), .val (.int p3), .val (.int p4), .unset, .unset, .unset, .unset, .unset, .unset, .unset, .unset] [(.ref b)])) _
    refine XS.dup X13.here hx rfl (hb hby at_69) rfl rfl ?_
    show Steps p.tables e below (T13.setTop (mkF m 70 #[.val (.int p1), .val (.int p2), .val (.int p3), .val (.int p4), .unset, .unset, .unset, .unset, .unset, .unset, .unset, .unset] [(.ref b), (.ref b)])) _
    refine XS.bipush X13.here hx rfl (hb hby at_70) ?_
    show Steps p.tables e below (T13.setTop (mkF m 72 #[.val (.int p1), .val (.int p2), .val (.int p3), .val (.int p4), .unset, .unset, .unset, .unset, .unset, .unset, .unset, .unset] [(.int (12 : Int32)), (.ref b), (.ref b)])) _
    refine X13.ldcInt hx hown (mvT hZ (hw _ (List.mem_of_getElem? (i := 3) rfl))) (g := (mkF m 72 #[.val (.int p1), .val (.int p2), .val (.int p3), .val (.int p4), .unset, .unset, .unset, .unset, .unset, .unset, .unset, .unset] [(.int (12 : Int32)), (.ref b), (.ref b)])) rfl (hb hby at_72) _ ?_
    show Steps p.tables e below (T13.setTop (mkF m 74 #[.val (.int p1), .val (.int p2), .val (.int p3), .val (.int p4), .unset, .unset, .unset, .unset, .unset, .unset, .unset, .unset] [(.int (57343 : Int32)), (.int (12 : Int32)), (.ref b), (.ref b)])) t
    exact k
  obtain ⟨T14, L14, X14, I14, st14⟩ := own_store X13 hx hZ I13 (j := (12 : Int32)) (by decide) (g := (mkF m 74 #[.val (.int p1), .val (.int p2), .val (.int p3), .val (.int p4), .unset, .unset, .unset, .unset, .unset, .unset, .unset, .unset] [(.int (57343 : Int32)), (.int (12 : Int32)), (.ref b), (.ref b)])) rfl rfl (hb hby at_74)
  have K15 : ∀ t, Steps p.tables e below (T14.setTop (mkF m 80 #[.val (.int p1), .val (.int p2), .val (.int p3), .val (.int p4), .unset, .unset, .unset, .unset, .unset, .unset, .unset, .unset] [(.int (57344 : Int32)), (.int (13 : Int32)), (.ref b), (.ref b)])) t → Steps p.tables e below (T14.setTop (mkF m 75 #[.val (.int p1), .val (.int p2), .val (.int p3), .val (.int p4), .unset, .unset, .unset, .unset, .unset, .unset, .unset, .unset] [(.ref b)])) t := by
    intro t k
    show Steps p.tables e below (T14.setTop (mkF m 75 #[.val (.int p1), .val (.int p2), .val (.int p3), .val (.int p4), .unset, .unset, .unset, .unset, .unset, .unset, .unset, .unset] [(.ref b)])) _
    refine XS.dup X14.here hx rfl (hb hby at_75) rfl rfl ?_
    show Steps p.tables e below (T14.setTop (mkF m 76 #[.val (.int p1), .val (.int p2), .val (.int p3), .val (.int p4), .unset, .unset, .unset, .unset, .unset, .unset, .unset, .unset] [(.ref b), (.ref b)])) _
    refine XS.bipush X14.here hx rfl (hb hby at_76) ?_
    show Steps p.tables e below (T14.setTop (mkF m 78 #[.val (.int p1), .val (.int p2), .val (.int p3), .val (.int p4), .unset, .unset, .unset, .unset, .unset, .unset, .unset, .unset] [(.int (13 : Int32)), (.ref b), (.ref b)])) _
    refine X14.ldcInt hx hown (mvT hZ (hw _ (List.mem_of_getElem? (i := 4) rfl))) (g := (mkF m 78 #[.val (.int p1), .val (.int p2), .val (.int p3), .val (.int p4), .unset, .unset, .unset, .unset, .unset, .unset, .unset, .unset] [(.int (13 : Int32)), (.ref b), (.ref b)])) rfl (hb hby at_78) _ ?_
    show Steps p.tables e below (T14.setTop (mkF m 80 #[.val (.int p1), .val (.int p2), .val (.int p3), .val (.int p4), .unset, .unset, .unset, .unset, .unset, .unset, .unset, .unset] [(.int (57344 : Int32)), (.int (13 : Int32)), (.ref b), (.ref b)])) t
    exact k
  obtain ⟨T15, L15, X15, I15, st15⟩ := own_store X14 hx hZ I14 (j := (13 : Int32)) (by decide) (g := (mkF m 80 #[.val (.int p1), .val (.int p2), .val (.int p3), .val (.int p4), .unset, .unset, .unset, .unset, .unset, .unset, .unset, .unset] [(.int (57344 : Int32)), (.int (13 : Int32)), (.ref b), (.ref b)])) rfl rfl (hb hby at_80)
  have K16 : ∀ t, Steps p.tables e below (T15.setTop (mkF m 86 #[.val (.int p1), .val (.int p2), .val (.int p3), .val (.int p4), .unset, .unset, .unset, .unset, .unset, .unset, .unset, .unset] [(.int (65533 : Int32)), (.int (14 : Int32)), (.ref b), (.ref b)])) t → Steps p.tables e below (T15.setTop (mkF m 81 #[.val (.int p1), .val (.int p2), .val (.int p3), .val (.int p4), .unset, .unset, .unset, .unset, .unset, .unset, .unset, .unset] [(.ref b)])) t := by
    intro t k
    show Steps p.tables e below (T15.setTop (mkF m 81 #[.val (.int p1), .val (.int p2), .val (.int p3), .val (.int p4), .unset, .unset, .unset, .unset, .unset, .unset, .unset, .unset] [(.ref b)])) _
    refine XS.dup X15.here hx rfl (hb hby at_81) rfl rfl ?_
    show Steps p.tables e below (T15.setTop (mkF m 82 #[.val (.int p1), .val (.int p2), .val (.int p3), .val (.int p4), .unset, .unset, .unset, .unset, .unset, .unset, .unset, .unset] [(.ref b), (.ref b)])) _
    refine XS.bipush X15.here hx rfl (hb hby at_82) ?_
    show Steps p.tables e below (T15.setTop (mkF m 84 #[.val (.int p1), .val (.int p2), .val (.int p3), .val (.int p4), .unset, .unset, .unset, .unset, .unset, .unset, .unset, .unset] [(.int (14 : Int32)), (.ref b), (.ref b)])) _
    refine X15.ldcInt hx hown (mvT hZ (hw _ (List.mem_of_getElem? (i := 5) rfl))) (g := (mkF m 84 #[.val (.int p1), .val (.int p2), .val (.int p3), .val (.int p4), .unset, .unset, .unset, .unset, .unset, .unset, .unset, .unset] [(.int (14 : Int32)), (.ref b), (.ref b)])) rfl (hb hby at_84) _ ?_
    show Steps p.tables e below (T15.setTop (mkF m 86 #[.val (.int p1), .val (.int p2), .val (.int p3), .val (.int p4), .unset, .unset, .unset, .unset, .unset, .unset, .unset, .unset] [(.int (65533 : Int32)), (.int (14 : Int32)), (.ref b), (.ref b)])) t
    exact k
  obtain ⟨T16, L16, X16, I16, st16⟩ := own_store X15 hx hZ I15 (j := (14 : Int32)) (by decide) (g := (mkF m 86 #[.val (.int p1), .val (.int p2), .val (.int p3), .val (.int p4), .unset, .unset, .unset, .unset, .unset, .unset, .unset, .unset] [(.int (65533 : Int32)), (.int (14 : Int32)), (.ref b), (.ref b)])) rfl rfl (hb hby at_86)
  have K17 : ∀ t, Steps p.tables e below (T16.setTop (mkF m 92 #[.val (.int p1), .val (.int p2), .val (.int p3), .val (.int p4), .unset, .unset, .unset, .unset, .unset, .unset, .unset, .unset] [(.int (65534 : Int32)), (.int (15 : Int32)), (.ref b), (.ref b)])) t → Steps p.tables e below (T16.setTop (mkF m 87 #[.val (.int p1), .val (.int p2), .val (.int p3), .val (.int p4), .unset, .unset, .unset, .unset, .unset, .unset, .unset, .unset] [(.ref b)])) t := by
    intro t k
    show Steps p.tables e below (T16.setTop (mkF m 87 #[.val (.int p1), .val (.int p2), .val (.int p3), .val (.int p4), .unset, .unset, .unset, .unset, .unset, .unset, .unset, .unset] [(.ref b)])) _
    refine XS.dup X16.here hx rfl (hb hby at_87) rfl rfl ?_
    show Steps p.tables e below (T16.setTop (mkF m 88 #[.val (.int p1), .val (.int p2), .val (.int p3), .val (.int p4), .unset, .unset, .unset, .unset, .unset, .unset, .unset, .unset] [(.ref b), (.ref b)])) _
    refine XS.bipush X16.here hx rfl (hb hby at_88) ?_
    show Steps p.tables e below (T16.setTop (mkF m 90 #[.val (.int p1), .val (.int p2), .val (.int p3), .val (.int p4), .unset, .unset, .unset, .unset, .unset, .unset, .unset, .unset] [(.int (15 : Int32)), (.ref b), (.ref b)])) _
    refine X16.ldcInt hx hown (mvT hZ (hw _ (List.mem_of_getElem? (i := 6) rfl))) (g := (mkF m 90 #[.val (.int p1), .val (.int p2), .val (.int p3), .val (.int p4), .unset, .unset, .unset, .unset, .unset, .unset, .unset, .unset] [(.int (15 : Int32)), (.ref b), (.ref b)])) rfl (hb hby at_90) _ ?_
    show Steps p.tables e below (T16.setTop (mkF m 92 #[.val (.int p1), .val (.int p2), .val (.int p3), .val (.int p4), .unset, .unset, .unset, .unset, .unset, .unset, .unset, .unset] [(.int (65534 : Int32)), (.int (15 : Int32)), (.ref b), (.ref b)])) t
    exact k
  obtain ⟨T17, L17, X17, I17, st17⟩ := own_store X16 hx hZ I16 (j := (15 : Int32)) (by decide) (g := (mkF m 92 #[.val (.int p1), .val (.int p2), .val (.int p3), .val (.int p4), .unset, .unset, .unset, .unset, .unset, .unset, .unset, .unset] [(.int (65534 : Int32)), (.int (15 : Int32)), (.ref b), (.ref b)])) rfl rfl (hb hby at_92)
  have K18 : ∀ t, Steps p.tables e below (T17.setTop (mkF m 98 #[.val (.int p1), .val (.int p2), .val (.int p3), .val (.int p4), .unset, .unset, .unset, .unset, .unset, .unset, .unset, .unset] [(.int (65535 : Int32)), (.int (16 : Int32)), (.ref b), (.ref b)])) t → Steps p.tables e below (T17.setTop (mkF m 93 #[.val (.int p1), .val (.int p2), .val (.int p3), .val (.int p4), .unset, .unset, .unset, .unset, .unset, .unset, .unset, .unset] [(.ref b)])) t := by
    intro t k
    show Steps p.tables e below (T17.setTop (mkF m 93 #[.val (.int p1), .val (.int p2), .val (.int p3), .val (.int p4), .unset, .unset, .unset, .unset, .unset, .unset, .unset, .unset] [(.ref b)])) _
    refine XS.dup X17.here hx rfl (hb hby at_93) rfl rfl ?_
    show Steps p.tables e below (T17.setTop (mkF m 94 #[.val (.int p1), .val (.int p2), .val (.int p3), .val (.int p4), .unset, .unset, .unset, .unset, .unset, .unset, .unset, .unset] [(.ref b), (.ref b)])) _
    refine XS.bipush X17.here hx rfl (hb hby at_94) ?_
    show Steps p.tables e below (T17.setTop (mkF m 96 #[.val (.int p1), .val (.int p2), .val (.int p3), .val (.int p4), .unset, .unset, .unset, .unset, .unset, .unset, .unset, .unset] [(.int (16 : Int32)), (.ref b), (.ref b)])) _
    refine X17.ldcInt hx hown (mvT hZ (hw _ (List.mem_of_getElem? (i := 7) rfl))) (g := (mkF m 96 #[.val (.int p1), .val (.int p2), .val (.int p3), .val (.int p4), .unset, .unset, .unset, .unset, .unset, .unset, .unset, .unset] [(.int (16 : Int32)), (.ref b), (.ref b)])) rfl (hb hby at_96) _ ?_
    show Steps p.tables e below (T17.setTop (mkF m 98 #[.val (.int p1), .val (.int p2), .val (.int p3), .val (.int p4), .unset, .unset, .unset, .unset, .unset, .unset, .unset, .unset] [(.int (65535 : Int32)), (.int (16 : Int32)), (.ref b), (.ref b)])) t
    exact k
  obtain ⟨T18, L18, X18, I18, st18⟩ := own_store X17 hx hZ I17 (j := (16 : Int32)) (by decide) (g := (mkF m 98 #[.val (.int p1), .val (.int p2), .val (.int p3), .val (.int p4), .unset, .unset, .unset, .unset, .unset, .unset, .unset, .unset] [(.int (65535 : Int32)), (.int (16 : Int32)), (.ref b), (.ref b)])) rfl rfl (hb hby at_98)
  have K19 : ∀ t, Steps p.tables e below (T18.setTop (mkF m 104 #[.val (.int p1), .val (.int p2), .val (.int p3), .val (.int p4), .unset, .unset, .unset, .unset, .unset, .unset, .unset, .unset] [(.int (65536 : Int32)), (.int (17 : Int32)), (.ref b), (.ref b)])) t → Steps p.tables e below (T18.setTop (mkF m 99 #[.val (.int p1), .val (.int p2), .val (.int p3), .val (.int p4), .unset, .unset, .unset, .unset, .unset, .unset, .unset, .unset] [(.ref b)])) t := by
    intro t k
    show Steps p.tables e below (T18.setTop (mkF m 99 #[.val (.int p1), .val (.int p2), .val (.int p3), .val (.int p4), .unset, .unset, .unset, .unset, .unset, .unset, .unset, .unset] [(.ref b)])) _
    refine XS.dup X18.here hx rfl (hb hby at_99) rfl rfl ?_
    show Steps p.tables e below (T18.setTop (mkF m 100 #[.val (.int p1), .val (.int p2), .val (.int p3), .val (.int p4), .unset, .unset, .unset, .unset, .unset, .unset, .unset, .unset] [(.ref b), (.ref b)])) _
    refine XS.bipush X18.here hx rfl (hb hby at_100) ?_
    show Steps p.tables e below (T18.setTop (mkF m 102 #[.val (.int p1), .val (.int p2), .val (.int p3), .val (.int p4), .unset, .unset, .unset, .unset, .unset, .unset, .unset, .unset] [(.int (17 : Int32)), (.ref b), (.ref b)])) _
    refine X18.ldcInt hx hown (mvT hZ (hw _ (List.mem_of_getElem? (i := 8) rfl))) (g := (mkF m 102 #[.val (.int p1), .val (.int p2), .val (.int p3), .val (.int p4), .unset, .unset, .unset, .unset, .unset, .unset, .unset, .unset] [(.int (17 : Int32)), (.ref b), (.ref b)])) rfl (hb hby at_102) _ ?_
    show Steps p.tables e below (T18.setTop (mkF m 104 #[.val (.int p1), .val (.int p2), .val (.int p3), .val (.int p4), .unset, .unset, .unset, .unset, .unset, .unset, .unset, .unset] [(.int (65536 : Int32)), (.int (17 : Int32)), (.ref b), (.ref b)])) t
    exact k
  obtain ⟨T19, L19, X19, I19, st19⟩ := own_store X18 hx hZ I18 (j := (17 : Int32)) (by decide) (g := (mkF m 104 #[.val (.int p1), .val (.int p2), .val (.int p3), .val (.int p4), .unset, .unset, .unset, .unset, .unset, .unset, .unset, .unset] [(.int (65536 : Int32)), (.int (17 : Int32)), (.ref b), (.ref b)])) rfl rfl (hb hby at_104)
  have K20 : ∀ t, Steps p.tables e below (T19.setTop (mkF m 110 #[.val (.int p1), .val (.int p2), .val (.int p3), .val (.int p4), .unset, .unset, .unset, .unset, .unset, .unset, .unset, .unset] [(.int (1114111 : Int32)), (.int (18 : Int32)), (.ref b), (.ref b)])) t → Steps p.tables e below (T19.setTop (mkF m 105 #[.val (.int p1), .val (.int p2), .val (.int p3), .val (.int p4), .unset, .unset, .unset, .unset, .unset, .unset, .unset, .unset] [(.ref b)])) t := by
    intro t k
    show Steps p.tables e below (T19.setTop (mkF m 105 #[.val (.int p1), .val (.int p2), .val (.int p3), .val (.int p4), .unset, .unset, .unset, .unset, .unset, .unset, .unset, .unset] [(.ref b)])) _
    refine XS.dup X19.here hx rfl (hb hby at_105) rfl rfl ?_
    show Steps p.tables e below (T19.setTop (mkF m 106 #[.val (.int p1), .val (.int p2), .val (.int p3), .val (.int p4), .unset, .unset, .unset, .unset, .unset, .unset, .unset, .unset] [(.ref b), (.ref b)])) _
    refine XS.bipush X19.here hx rfl (hb hby at_106) ?_
    show Steps p.tables e below (T19.setTop (mkF m 108 #[.val (.int p1), .val (.int p2), .val (.int p3), .val (.int p4), .unset, .unset, .unset, .unset, .unset, .unset, .unset, .unset] [(.int (18 : Int32)), (.ref b), (.ref b)])) _
    refine X19.ldcInt hx hown (mvT hZ (hw _ (List.mem_of_getElem? (i := 9) rfl))) (g := (mkF m 108 #[.val (.int p1), .val (.int p2), .val (.int p3), .val (.int p4), .unset, .unset, .unset, .unset, .unset, .unset, .unset, .unset] [(.int (18 : Int32)), (.ref b), (.ref b)])) rfl (hb hby at_108) _ ?_
    show Steps p.tables e below (T19.setTop (mkF m 110 #[.val (.int p1), .val (.int p2), .val (.int p3), .val (.int p4), .unset, .unset, .unset, .unset, .unset, .unset, .unset, .unset] [(.int (1114111 : Int32)), (.int (18 : Int32)), (.ref b), (.ref b)])) t
    exact k
  obtain ⟨T20, L20, X20, I20, st20⟩ := own_store X19 hx hZ I19 (j := (18 : Int32)) (by decide) (g := (mkF m 110 #[.val (.int p1), .val (.int p2), .val (.int p3), .val (.int p4), .unset, .unset, .unset, .unset, .unset, .unset, .unset, .unset] [(.int (1114111 : Int32)), (.int (18 : Int32)), (.ref b), (.ref b)])) rfl rfl (hb hby at_110)
  have K21 : ∀ t, Steps p.tables e below (T20.setTop (mkF m 116 #[.val (.int p1), .val (.int p2), .val (.int p3), .val (.int p4), .unset, .unset, .unset, .unset, .unset, .unset, .unset, .unset] [(.int (1114112 : Int32)), (.int (19 : Int32)), (.ref b), (.ref b)])) t → Steps p.tables e below (T20.setTop (mkF m 111 #[.val (.int p1), .val (.int p2), .val (.int p3), .val (.int p4), .unset, .unset, .unset, .unset, .unset, .unset, .unset, .unset] [(.ref b)])) t := by
    intro t k
    show Steps p.tables e below (T20.setTop (mkF m 111 #[.val (.int p1), .val (.int p2), .val (.int p3), .val (.int p4), .unset, .unset, .unset, .unset, .unset, .unset, .unset, .unset] [(.ref b)])) _
    refine XS.dup X20.here hx rfl (hb hby at_111) rfl rfl ?_
    show Steps p.tables e below (T20.setTop (mkF m 112 #[.val (.int p1), .val (.int p2), .val (.int p3), .val (.int p4), .unset, .unset, .unset, .unset, .unset, .unset, .unset, .unset] [(.ref b), (.ref b)])) _
    refine XS.bipush X20.here hx rfl (hb hby at_112) ?_
    show Steps p.tables e below (T20.setTop (mkF m 114 #[.val (.int p1), .val (.int p2), .val (.int p3), .val (.int p4), .unset, .unset, .unset, .unset, .unset, .unset, .unset, .unset] [(.int (19 : Int32)), (.ref b), (.ref b)])) _
    refine X20.ldcInt hx hown (mvT hZ (hw _ (List.mem_of_getElem? (i := 10) rfl))) (g := (mkF m 114 #[.val (.int p1), .val (.int p2), .val (.int p3), .val (.int p4), .unset, .unset, .unset, .unset, .unset, .unset, .unset, .unset] [(.int (19 : Int32)), (.ref b), (.ref b)])) rfl (hb hby at_114) _ ?_
    show Steps p.tables e below (T20.setTop (mkF m 116 #[.val (.int p1), .val (.int p2), .val (.int p3), .val (.int p4), .unset, .unset, .unset, .unset, .unset, .unset, .unset, .unset] [(.int (1114112 : Int32)), (.int (19 : Int32)), (.ref b), (.ref b)])) t
    exact k
  obtain ⟨T21, L21, X21, I21, st21⟩ := own_store X20 hx hZ I20 (j := (19 : Int32)) (by decide) (g := (mkF m 116 #[.val (.int p1), .val (.int p2), .val (.int p3), .val (.int p4), .unset, .unset, .unset, .unset, .unset, .unset, .unset, .unset] [(.int (1114112 : Int32)), (.int (19 : Int32)), (.ref b), (.ref b)])) rfl rfl (hb hby at_116)
  have K22 : ∀ t, Steps p.tables e below (T21.setTop (mkF m 122 #[.val (.int p1), .val (.int p2), .val (.int p3), .val (.int p4), .unset, .unset, .unset, .unset, .unset, .unset, .unset, .unset] [(.int (-2147483648 : Int32)), (.int (20 : Int32)), (.ref b), (.ref b)])) t → Steps p.tables e below (T21.setTop (mkF m 117 #[.val (.int p1), .val (.int p2), .val (.int p3), .val (.int p4), .unset, .unset, .unset, .unset, .unset, .unset, .unset, .unset] [(.ref b)])) t := by
    intro t k
    show Steps p.tables e below (T21.setTop (mkF m 117 #[.val (.int p1), .val (.int p2), .val (.int p3), .val (.int p4), .unset, .unset, .unset, .unset, .unset, .unset, .unset, .unset] [(.ref b)])) _
    refine XS.dup X21.here hx rfl (hb hby at_117) rfl rfl ?_
    show Steps p.tables e below (T21.setTop (mkF m 118 #[.val (.int p1), .val (.int p2), .val (.int p3), .val (.int p4), .unset, .unset, .unset, .unset, .unset, .unset, .unset, .unset] [(.ref b), (.ref b)])) _
    refine XS.bipush X21.here hx rfl (hb hby at_118) ?_
    show Steps p.tables e below (T21.setTop (mkF m 120 #[.val (.int p1), .val (.int p2), .val (.int p3), .val (.int p4), .unset, .unset, .unset, .unset, .unset, .unset, .unset, .unset] [(.int (20 : Int32)), (.ref b), (.ref b)])) _
    refine X21.ldcInt hx hown (mvT hZ (hw _ (List.mem_of_getElem? (i := 11) rfl))) (g := (mkF m 120 #[.val (.int p1), .val (.int p2), .val (.int p3), .val (.int p4), .unset, .unset, .unset, .unset, .unset, .unset, .unset, .unset] [(.int (20 : Int32)), (.ref b), (.ref b)])) rfl (hb hby at_120) _ ?_
    show Steps p.tables e below (T21.setTop (mkF m 122 #[.val (.int p1), .val (.int p2), .val (.int p3), .val (.int p4), .unset, .unset, .unset, .unset, .unset, .unset, .unset, .unset] [(.int (-2147483648 : Int32)), (.int (20 : Int32)), (.ref b), (.ref b)])) t
    exact k
  obtain ⟨T22, L22, X22, I22, st22⟩ := own_store X21 hx hZ I21 (j := (20 : Int32)) (by decide) (g := (mkF m 122 #[.val (.int p1), .val (.int p2), .val (.int p3), .val (.int p4), .unset, .unset, .unset, .unset, .unset, .unset, .unset, .unset] [(.int (-2147483648 : Int32)), (.int (20 : Int32)), (.ref b), (.ref b)])) rfl rfl (hb hby at_122)
  have K23 : ∀ t, Steps p.tables e below (T22.setTop (mkF m 128 #[.val (.int p1), .val (.int p2), .val (.int p3), .val (.int p4), .unset, .unset, .unset, .unset, .unset, .unset, .unset, .unset] [(.int (2147483647 : Int32)), (.int (21 : Int32)), (.ref b), (.ref b)])) t → Steps p.tables e below (T22.setTop (mkF m 123 #[.val (.int p1), .val (.int p2), .val (.int p3), .val (.int p4), .unset, .unset, .unset, .unset, .unset, .unset, .unset, .unset] [(.ref b)])) t := by
    intro t k
    show Steps p.tables e below (T22.setTop (mkF m 123 #[.val (.int p1), .val (.int p2), .val (.int p3), .val (.int p4), .unset, .unset, .unset, .unset, .unset, .unset, .unset, .unset] [(.ref b)])) _
    refine XS.dup X22.here hx rfl (hb hby at_123) rfl rfl ?_
    show Steps p.tables e below (T22.setTop (mkF m 124 #[.val (.int p1), .val (.int p2), .val (.int p3), .val (.int p4), .unset, .unset, .unset, .unset, .unset, .unset, .unset, .unset] [(.ref b), (.ref b)])) _
    refine XS.bipush X22.here hx rfl (hb hby at_124) ?_
    show Steps p.tables e below (T22.setTop (mkF m 126 #[.val (.int p1), .val (.int p2), .val (.int p3), .val (.int p4), .unset, .unset, .unset, .unset, .unset, .unset, .unset, .unset] [(.int (21 : Int32)), (.ref b), (.ref b)])) _
    refine X22.ldcInt hx hown (mvT hZ (hw _ (List.mem_of_getElem? (i := 12) rfl))) (g := (mkF m 126 #[.val (.int p1), .val (.int p2), .val (.int p3), .val (.int p4), .unset, .unset, .unset, .unset, .unset, .unset, .unset, .unset] [(.int (21 : Int32)), (.ref b), (.ref b)])) rfl (hb hby at_126) _ ?_
    show Steps p.tables e below (T22.setTop (mkF m 128 #[.val (.int p1), .val (.int p2), .val (.int p3), .val (.int p4), .unset, .unset, .unset, .unset, .unset, .unset, .unset, .unset] [(.int (2147483647 : Int32)), (.int (21 : Int32)), (.ref b), (.ref b)])) t
    exact k
  obtain ⟨T23, L23, X23, I23, st23⟩ := own_store X22 hx hZ I22 (j := (21 : Int32)) (by decide) (g := (mkF m 128 #[.val (.int p1), .val (.int p2), .val (.int p3), .val (.int p4), .unset, .unset, .unset, .unset, .unset, .unset, .unset, .unset] [(.int (2147483647 : Int32)), (.int (21 : Int32)), (.ref b), (.ref b)])) rfl rfl (hb hby at_128)
  have K24 : ∀ t, Steps p.tables e below (T23.setTop (mkF m 137 #[.val (.int p1), .val (.int p2), .val (.int p3), .val (.int p4), .val (.ref b), .unset, .unset, .unset, .unset, .unset, .unset, .unset] [(.ref b), (.int (p3 &&& (2147483647 : Int32)))])) t → Steps p.tables e below (T23.setTop (mkF m 129 #[.val (.int p1), .val (.int p2), .val (.int p3), .val (.int p4), .unset, .unset, .unset, .unset, .unset, .unset, .unset, .unset] [(.ref b)])) t := by
    intro t k
    show Steps p.tables e below (T23.setTop (mkF m 129 #[.val (.int p1), .val (.int p2), .val (.int p3), .val (.int p4), .unset, .unset, .unset, .unset, .unset, .unset, .unset, .unset] [(.ref b)])) _
    refine XS.astore X23.here hx rfl (hb hby at_129) rfl rfl (l' := #[.val (.int p1), .val (.int p2), .val (.int p3), .val (.int p4), .val (.ref b), .unset, .unset, .unset, .unset, .unset, .unset, .unset]) rfl ?_
    show Steps p.tables e below (T23.setTop (mkF m 131 #[.val (.int p1), .val (.int p2), .val (.int p3), .val (.int p4), .val (.ref b), .unset, .unset, .unset, .unset, .unset, .unset, .unset] [])) _
    refine XS.iloadN X23.here hx rfl (hb hby at_131) rfl ?_
    show Steps p.tables e below (T23.setTop (mkF m 132 #[.val (.int p1), .val (.int p2), .val (.int p3), .val (.int p4), .val (.ref b), .unset, .unset, .unset, .unset, .unset, .unset, .unset] [(.int p3)])) _
    refine X23.ldcInt hx hown (mvT hZ (hw _ (List.mem_of_getElem? (i := 12) rfl))) (g := (mkF m 132 #[.val (.int p1), .val (.int p2), .val (.int p3), .val (.int p4), .val (.ref b), .unset, .unset, .unset, .unset, .unset, .unset, .unset] [(.int p3)])) rfl (hb hby at_132) _ ?_
    show Steps p.tables e below (T23.setTop (mkF m 134 #[.val (.int p1), .val (.int p2), .val (.int p3), .val (.int p4), .val (.ref b), .unset, .unset, .unset, .unset, .unset, .unset, .unset] [(.int (2147483647 : Int32)), (.int p3)])) _
    refine XS.iand X23.here hx rfl (hb hby at_134) rfl ?_
    show Steps p.tables e below (T23.setTop (mkF m 135 #[.val (.int p1), .val (.int p2), .val (.int p3), .val (.int p4), .val (.ref b), .unset, .unset, .unset, .unset, .unset, .unset, .unset] [(.int (p3 &&& (2147483647 : Int32)))])) _
    refine XS.aload X23.here hx rfl (hb hby at_135) rfl rfl ?_
    show Steps p.tables e below (T23.setTop (mkF m 137 #[.val (.int p1), .val (.int p2), .val (.int p3), .val (.int p4), .val (.ref b), .unset, .unset, .unset, .unset, .unset, .unset, .unset] [(.ref b), (.int (p3 &&& (2147483647 : Int32)))])) t
    exact k
  have K25 : ∀ t, Steps p.tables e below (T23.setTop (mkF m 155 #[.val (.int p1), .val (.int p2), .val (.int p3), .val (.int p4), .val (.ref b), .val (.int ((p3 &&& (2147483647 : Int32)) % (22 : Int32))), .val (.int (((p4 &&& (2147483647 : Int32)) % (5 : Int32)) - (2 : Int32))), .unset, .unset, .unset, .unset, .unset] [(.int ((p3 &&& (2147483647 : Int32)) % (22 : Int32))), (.ref b)])) t → Steps p.tables e below (T23.setTop (mkF m 137 #[.val (.int p1), .val (.int p2), .val (.int p3), .val (.int p4), .val (.ref b), .unset, .unset, .unset, .unset, .unset, .unset, .unset] [(.ref b), (.int (p3 &&& (2147483647 : Int32)))])) t := by
    intro t k
    show Steps p.tables e below (T23.setTop (mkF m 137 #[.val (.int p1), .val (.int p2), .val (.int p3), .val (.int p4), .val (.ref b), .unset, .unset, .unset, .unset, .unset, .unset, .unset] [(.ref b), (.int (p3 &&& (2147483647 : Int32)))])) _
    refine own_len X23 hx hZ I23 (g := (mkF m 137 #[.val (.int p1), .val (.int p2), .val (.int p3), .val (.int p4), .val (.ref b), .unset, .unset, .unset, .unset, .unset, .unset, .unset] [(.ref b), (.int (p3 &&& (2147483647 : Int32)))])) rfl rfl (hb hby at_137) _ ?_
    show Steps p.tables e below (T23.setTop (mkF m 138 #[.val (.int p1), .val (.int p2), .val (.int p3), .val (.int p4), .val (.ref b), .unset, .unset, .unset, .unset, .unset, .unset, .unset] [(.int (22 : Int32)), (.int (p3 &&& (2147483647 : Int32)))])) _
    refine iremM X23 hx rfl (hb hby at_138) rfl (by decide) ?_
    show Steps p.tables e below (T23.setTop (mkF m 139 #[.val (.int p1), .val (.int p2), .val (.int p3), .val (.int p4), .val (.ref b), .unset, .unset, .unset, .unset, .unset, .unset, .unset] [(.int ((p3 &&& (2147483647 : Int32)) % (22 : Int32)))])) _
    refine XS.istore X23.here hx rfl (hb hby at_139) rfl (l' := #[.val (.int p1), .val (.int p2), .val (.int p3), .val (.int p4), .val (.ref b), .val (.int ((p3 &&& (2147483647 : Int32)) % (22 : Int32))), .unset, .unset, .unset, .unset, .unset, .unset]) rfl ?_
    show Steps p.tables e below (T23.setTop (mkF m 141 #[.val (.int p1), .val (.int p2), .val (.int p3), .val (.int p4), .val (.ref b), .val (.int ((p3 &&& (2147483647 : Int32)) % (22 : Int32))), .unset, .unset, .unset, .unset, .unset, .unset] [])) _
    refine XS.iloadN X23.here hx rfl (hb hby at_141) rfl ?_
    show Steps p.tables e below (T23.setTop (mkF m 142 #[.val (.int p1), .val (.int p2), .val (.int p3), .val (.int p4), .val (.ref b), .val (.int ((p3 &&& (2147483647 : Int32)) % (22 : Int32))), .unset, .unset, .unset, .unset, .unset, .unset] [(.int p4)])) _
    refine X23.ldcInt hx hown (mvT hZ (hw _ (List.mem_of_getElem? (i := 12) rfl))) (g := (mkF m 142 #[.val (.int p1), .val (.int p2), .val (.int p3), .val (.int p4), .val (.ref b), .val (.int ((p3 &&& (2147483647 : Int32)) % (22 : Int32))), .unset, .unset, .unset, .unset, .unset, .unset] [(.int p4)])) rfl (hb hby at_142) _ ?_
    show Steps p.tables e below (T23.setTop (mkF m 144 #[.val (.int p1), .val (.int p2), .val (.int p3), .val (.int p4), .val (.ref b), .val (.int ((p3 &&& (2147483647 : Int32)) % (22 : Int32))), .unset, .unset, .unset, .unset, .unset, .unset] [(.int (2147483647 : Int32)), (.int p4)])) _
    refine XS.iand X23.here hx rfl (hb hby at_144) rfl ?_
    show Steps p.tables e below (T23.setTop (mkF m 145 #[.val (.int p1), .val (.int p2), .val (.int p3), .val (.int p4), .val (.ref b), .val (.int ((p3 &&& (2147483647 : Int32)) % (22 : Int32))), .unset, .unset, .unset, .unset, .unset, .unset] [(.int (p4 &&& (2147483647 : Int32)))])) _
    refine XS.iconst X23.here hx rfl (hb hby at_145) ?_
    show Steps p.tables e below (T23.setTop (mkF m 146 #[.val (.int p1), .val (.int p2), .val (.int p3), .val (.int p4), .val (.ref b), .val (.int ((p3 &&& (2147483647 : Int32)) % (22 : Int32))), .unset, .unset, .unset, .unset, .unset, .unset] [(.int (5 : Int32)), (.int (p4 &&& (2147483647 : Int32)))])) _
    refine iremM X23 hx rfl (hb hby at_146) rfl (by decide) ?_
    show Steps p.tables e below (T23.setTop (mkF m 147 #[.val (.int p1), .val (.int p2), .val (.int p3), .val (.int p4), .val (.ref b), .val (.int ((p3 &&& (2147483647 : Int32)) % (22 : Int32))), .unset, .unset, .unset, .unset, .unset, .unset] [(.int ((p4 &&& (2147483647 : Int32)) % (5 : Int32)))])) _
    refine XS.iconst X23.here hx rfl (hb hby at_147) ?_
    show Steps p.tables e below (T23.setTop (mkF m 148 #[.val (.int p1), .val (.int p2), .val (.int p3), .val (.int p4), .val (.ref b), .val (.int ((p3 &&& (2147483647 : Int32)) % (22 : Int32))), .unset, .unset, .unset, .unset, .unset, .unset] [(.int (2 : Int32)), (.int ((p4 &&& (2147483647 : Int32)) % (5 : Int32)))])) _
    refine XS.isub X23.here hx rfl (hb hby at_148) rfl ?_
    show Steps p.tables e below (T23.setTop (mkF m 149 #[.val (.int p1), .val (.int p2), .val (.int p3), .val (.int p4), .val (.ref b), .val (.int ((p3 &&& (2147483647 : Int32)) % (22 : Int32))), .unset, .unset, .unset, .unset, .unset, .unset] [(.int (((p4 &&& (2147483647 : Int32)) % (5 : Int32)) - (2 : Int32)))])) _
    refine XS.istore X23.here hx rfl (hb hby at_149) rfl (l' := #[.val (.int p1), .val (.int p2), .val (.int p3), .val (.int p4), .val (.ref b), .val (.int ((p3 &&& (2147483647 : Int32)) % (22 : Int32))), .val (.int (((p4 &&& (2147483647 : Int32)) % (5 : Int32)) - (2 : Int32))), .unset, .unset, .unset, .unset, .unset]) rfl ?_
    show Steps p.tables e below (T23.setTop (mkF m 151 #[.val (.int p1), .val (.int p2), .val (.int p3), .val (.int p4), .val (.ref b), .val (.int ((p3 &&& (2147483647 : Int32)) % (22 : Int32))), .val (.int (((p4 &&& (2147483647 : Int32)) % (5 : Int32)) - (2 : Int32))), .unset, .unset, .unset, .unset, .unset] [])) _
    refine XS.aload X23.here hx rfl (hb hby at_151) rfl rfl ?_
    show Steps p.tables e below (T23.setTop (mkF m 153 #[.val (.int p1), .val (.int p2), .val (.int p3), .val (.int p4), .val (.ref b), .val (.int ((p3 &&& (2147483647 : Int32)) % (22 : Int32))), .val (.int (((p4 &&& (2147483647 : Int32)) % (5 : Int32)) - (2 : Int32))), .unset, .unset, .unset, .unset, .unset] [(.ref b)])) _
    refine XS.iload X23.here hx rfl (hb hby at_153) rfl ?_
    show Steps p.tables e below (T23.setTop (mkF m 155 #[.val (.int p1), .val (.int p2), .val (.int p3), .val (.int p4), .val (.ref b), .val (.int ((p3 &&& (2147483647 : Int32)) % (22 : Int32))), .val (.int (((p4 &&& (2147483647 : Int32)) % (5 : Int32)) - (2 : Int32))), .unset, .unset, .unset, .unset, .unset] [(.int ((p3 &&& (2147483647 : Int32)) % (22 : Int32))), (.ref b)])) t
    exact k
  obtain ⟨wv, stv⟩ := own_at X23 hx hZ I23 (j := ((p3 &&& (2147483647 : Int32)) % (22 : Int32))) (own_idx p3 22 (by decide))
  have stq := stv (g := (mkF m 155 #[.val (.int p1), .val (.int p2), .val (.int p3), .val (.int p4), .val (.ref b), .val (.int ((p3 &&& (2147483647 : Int32)) % (22 : Int32))), .val (.int (((p4 &&& (2147483647 : Int32)) % (5 : Int32)) - (2 : Int32))), .unset, .unset, .unset, .unset, .unset] [(.int ((p3 &&& (2147483647 : Int32)) % (22 : Int32))), (.ref b)])) rfl rfl (hb hby at_155)
  obtain ⟨N0, -, ZH23, -⟩ := I23
  have K26 : ∀ t, Steps p.tables e below (T23.setTop (mkF m 168 #[.val (.int p1), .val (.int p2), .val (.int p3), .val (.int p4), .val (.ref b), .val (.int ((p3 &&& (2147483647 : Int32)) % (22 : Int32))), .val (.int (((p4 &&& (2147483647 : Int32)) % (5 : Int32)) - (2 : Int32))), .val (.int (wv + (((p4 &&& (2147483647 : Int32)) % (5 : Int32)) - (2 : Int32)))), .val (.int (p2 &&& (2097151 : Int32))), .unset, .unset, .unset] [(.int p1)])) t → Steps p.tables e below (T23.setTop (mkF m 156 #[.val (.int p1), .val (.int p2), .val (.int p3), .val (.int p4), .val (.ref b), .val (.int ((p3 &&& (2147483647 : Int32)) % (22 : Int32))), .val (.int (((p4 &&& (2147483647 : Int32)) % (5 : Int32)) - (2 : Int32))), .unset, .unset, .unset, .unset, .unset] [(.int wv)])) t := by
    intro t k
    show Steps p.tables e below (T23.setTop (mkF m 156 #[.val (.int p1), .val (.int p2), .val (.int p3), .val (.int p4), .val (.ref b), .val (.int ((p3 &&& (2147483647 : Int32)) % (22 : Int32))), .val (.int (((p4 &&& (2147483647 : Int32)) % (5 : Int32)) - (2 : Int32))), .unset, .unset, .unset, .unset, .unset] [(.int wv)])) _
    refine XS.iload X23.here hx rfl (hb hby at_156) rfl ?_
    show Steps p.tables e below (T23.setTop (mkF m 158 #[.val (.int p1), .val (.int p2), .val (.int p3), .val (.int p4), .val (.ref b), .val (.int ((p3 &&& (2147483647 : Int32)) % (22 : Int32))), .val (.int (((p4 &&& (2147483647 : Int32)) % (5 : Int32)) - (2 : Int32))), .unset, .unset, .unset, .unset, .unset] [(.int (((p4 &&& (2147483647 : Int32)) % (5 : Int32)) - (2 : Int32))), (.int wv)])) _
    refine XS.iadd X23.here hx rfl (hb hby at_158) rfl ?_
    show Steps p.tables e below (T23.setTop (mkF m 159 #[.val (.int p1), .val (.int p2), .val (.int p3), .val (.int p4), .val (.ref b), .val (.int ((p3 &&& (2147483647 : Int32)) % (22 : Int32))), .val (.int (((p4 &&& (2147483647 : Int32)) % (5 : Int32)) - (2 : Int32))), .unset, .unset, .unset, .unset, .unset] [(.int (wv + (((p4 &&& (2147483647 : Int32)) % (5 : Int32)) - (2 : Int32))))])) _
    refine XS.istore X23.here hx rfl (hb hby at_159) rfl (l' := #[.val (.int p1), .val (.int p2), .val (.int p3), .val (.int p4), .val (.ref b), .val (.int ((p3 &&& (2147483647 : Int32)) % (22 : Int32))), .val (.int (((p4 &&& (2147483647 : Int32)) % (5 : Int32)) - (2 : Int32))), .val (.int (wv + (((p4 &&& (2147483647 : Int32)) % (5 : Int32)) - (2 : Int32)))), .unset, .unset, .unset, .unset]) rfl ?_
    show Steps p.tables e below (T23.setTop (mkF m 161 #[.val (.int p1), .val (.int p2), .val (.int p3), .val (.int p4), .val (.ref b), .val (.int ((p3 &&& (2147483647 : Int32)) % (22 : Int32))), .val (.int (((p4 &&& (2147483647 : Int32)) % (5 : Int32)) - (2 : Int32))), .val (.int (wv + (((p4 &&& (2147483647 : Int32)) % (5 : Int32)) - (2 : Int32)))), .unset, .unset, .unset, .unset] [])) _
    refine XS.iloadN X23.here hx rfl (hb hby at_161) rfl ?_
    show Steps p.tables e below (T23.setTop (mkF m 162 #[.val (.int p1), .val (.int p2), .val (.int p3), .val (.int p4), .val (.ref b), .val (.int ((p3 &&& (2147483647 : Int32)) % (22 : Int32))), .val (.int (((p4 &&& (2147483647 : Int32)) % (5 : Int32)) - (2 : Int32))), .val (.int (wv + (((p4 &&& (2147483647 : Int32)) % (5 : Int32)) - (2 : Int32)))), .unset, .unset, .unset, .unset] [(.int p2)])) _
    refine X23.ldcInt hx hown (mvT hZ (hw _ (List.mem_of_getElem? (i := 13) rfl))) (g := (mkF m 162 #[.val (.int p1), .val (.int p2), .val (.int p3), .val (.int p4), .val (.ref b), .val (.int ((p3 &&& (2147483647 : Int32)) % (22 : Int32))), .val (.int (((p4 &&& (2147483647 : Int32)) % (5 : Int32)) - (2 : Int32))), .val (.int (wv + (((p4 &&& (2147483647 : Int32)) % (5 : Int32)) - (2 : Int32)))), .unset, .unset, .unset, .unset] [(.int p2)])) rfl (hb hby at_162) _ ?_
    show Steps p.tables e below (T23.setTop (mkF m 164 #[.val (.int p1), .val (.int p2), .val (.int p3), .val (.int p4), .val (.ref b), .val (.int ((p3 &&& (2147483647 : Int32)) % (22 : Int32))), .val (.int (((p4 &&& (2147483647 : Int32)) % (5 : Int32)) - (2 : Int32))), .val (.int (wv + (((p4 &&& (2147483647 : Int32)) % (5 : Int32)) - (2 : Int32)))), .unset, .unset, .unset, .unset] [(.int (2097151 : Int32)), (.int p2)])) _
    refine XS.iand X23.here hx rfl (hb hby at_164) rfl ?_
    show Steps p.tables e below (T23.setTop (mkF m 165 #[.val (.int p1), .val (.int p2), .val (.int p3), .val (.int p4), .val (.ref b), .val (.int ((p3 &&& (2147483647 : Int32)) % (22 : Int32))), .val (.int (((p4 &&& (2147483647 : Int32)) % (5 : Int32)) - (2 : Int32))), .val (.int (wv + (((p4 &&& (2147483647 : Int32)) % (5 : Int32)) - (2 : Int32)))), .unset, .unset, .unset, .unset] [(.int (p2 &&& (2097151 : Int32)))])) _
    refine XS.istore X23.here hx rfl (hb hby at_165) rfl (l' := #[.val (.int p1), .val (.int p2), .val (.int p3), .val (.int p4), .val (.ref b), .val (.int ((p3 &&& (2147483647 : Int32)) % (22 : Int32))), .val (.int (((p4 &&& (2147483647 : Int32)) % (5 : Int32)) - (2 : Int32))), .val (.int (wv + (((p4 &&& (2147483647 : Int32)) % (5 : Int32)) - (2 : Int32)))), .val (.int (p2 &&& (2097151 : Int32))), .unset, .unset, .unset]) rfl ?_
    show Steps p.tables e below (T23.setTop (mkF m 167 #[.val (.int p1), .val (.int p2), .val (.int p3), .val (.int p4), .val (.ref b), .val (.int ((p3 &&& (2147483647 : Int32)) % (22 : Int32))), .val (.int (((p4 &&& (2147483647 : Int32)) % (5 : Int32)) - (2 : Int32))), .val (.int (wv + (((p4 &&& (2147483647 : Int32)) % (5 : Int32)) - (2 : Int32)))), .val (.int (p2 &&& (2097151 : Int32))), .unset, .unset, .unset] [])) _
    refine XS.iloadN X23.here hx rfl (hb hby at_167) rfl ?_
    show Steps p.tables e below (T23.setTop (mkF m 168 #[.val (.int p1), .val (.int p2), .val (.int p3), .val (.int p4), .val (.ref b), .val (.int ((p3 &&& (2147483647 : Int32)) % (22 : Int32))), .val (.int (((p4 &&& (2147483647 : Int32)) % (5 : Int32)) - (2 : Int32))), .val (.int (wv + (((p4 &&& (2147483647 : Int32)) % (5 : Int32)) - (2 : Int32)))), .val (.int (p2 &&& (2097151 : Int32))), .unset, .unset, .unset] [(.int p1)])) t
    exact k
  obtain ⟨_, _, ⟨T24, L24, k24, n24⟩, -, X24, ⟨Lc24, hQ24, l24, y24, z24⟩, st24⟩ := Jvm.LawKit.callS X23 hx (y := (⟨"transept/model/XmlChars", "isChar", "(I)Z"⟩ : MethodName)) hown (mvT hZ (hw _ (List.mem_of_getElem? (i := 14) rfl))) (mvT hZ (hw _ (List.mem_of_getElem? (i := 15) rfl))) (mvT hZ (hw _ (List.mem_of_getElem? (i := 16) rfl))) (mvT hZ (hw _ (List.mem_of_getElem? (i := 17) rfl))) (by decide) (backOf (W := 0) (rm1 l Z a0 hw [] p1 T23.heap n0 ZH23) hZ (hw _ (List.mem_of_getElem? (i := 17) rfl)) (hw _ (List.mem_of_getElem? (i := 16) rfl)) (by decide) (by decide)) (g := (mkF m 168 #[.val (.int p1), .val (.int p2), .val (.int p3), .val (.int p4), .val (.ref b), .val (.int ((p3 &&& (2147483647 : Int32)) % (22 : Int32))), .val (.int (((p4 &&& (2147483647 : Int32)) % (5 : Int32)) - (2 : Int32))), .val (.int (wv + (((p4 &&& (2147483647 : Int32)) % (5 : Int32)) - (2 : Int32)))), .val (.int (p2 &&& (2097151 : Int32))), .unset, .unset, .unset] [(.int p1)])) rfl (by rw [hml]; rfl) (argsL := [(.int p1)]) (rest := []) (lenOf pd_0_0 rfl) rfl (by show 2 * 0 + _ ≤ _; exact Nat.le_of_eq rfl) (hb hby at_168) (fun _ _ => ⟨rfl, rfl, (by decide : 1 + 0 ≤ _), (by decide : 22 + 0 ≤ _)⟩)
  dsimp only [Pt.U, Pt.locs, Pt.cells, Pt.slots] at X24 l24 y24 z24 st24 hQ24
  subst l24 y24 z24
  obtain ⟨rfl, N24q, H24⟩ := hQ24
  have ZH24 : n0 ≤ T24.heap.size := by rw [H24]; exact ZH23
  have N24 := Fr.app N0 N24q
  have K27 : ∀ t, Steps p.tables e below (T24.setTop (mkF m 172 #[.val (.int p1), .val (.int p2), .val (.int p3), .val (.int p4), .val (.ref b), .val (.int ((p3 &&& (2147483647 : Int32)) % (22 : Int32))), .val (.int (((p4 &&& (2147483647 : Int32)) % (5 : Int32)) - (2 : Int32))), .val (.int (wv + (((p4 &&& (2147483647 : Int32)) % (5 : Int32)) - (2 : Int32)))), .val (.int (p2 &&& (2097151 : Int32))), .unset, .unset, .unset] [(.int p1), (.int (isc_0 p1))])) t → Steps p.tables e below (T24.setTop (mkF m 171 #[.val (.int p1), .val (.int p2), .val (.int p3), .val (.int p4), .val (.ref b), .val (.int ((p3 &&& (2147483647 : Int32)) % (22 : Int32))), .val (.int (((p4 &&& (2147483647 : Int32)) % (5 : Int32)) - (2 : Int32))), .val (.int (wv + (((p4 &&& (2147483647 : Int32)) % (5 : Int32)) - (2 : Int32)))), .val (.int (p2 &&& (2097151 : Int32))), .unset, .unset, .unset] [(.int (isc_0 p1))])) t := by
    intro t k
    show Steps p.tables e below (T24.setTop (mkF m 171 #[.val (.int p1), .val (.int p2), .val (.int p3), .val (.int p4), .val (.ref b), .val (.int ((p3 &&& (2147483647 : Int32)) % (22 : Int32))), .val (.int (((p4 &&& (2147483647 : Int32)) % (5 : Int32)) - (2 : Int32))), .val (.int (wv + (((p4 &&& (2147483647 : Int32)) % (5 : Int32)) - (2 : Int32)))), .val (.int (p2 &&& (2097151 : Int32))), .unset, .unset, .unset] [(.int (isc_0 p1))])) _
    refine XS.iloadN X24.here hx rfl (hb hby at_171) rfl ?_
    show Steps p.tables e below (T24.setTop (mkF m 172 #[.val (.int p1), .val (.int p2), .val (.int p3), .val (.int p4), .val (.ref b), .val (.int ((p3 &&& (2147483647 : Int32)) % (22 : Int32))), .val (.int (((p4 &&& (2147483647 : Int32)) % (5 : Int32)) - (2 : Int32))), .val (.int (wv + (((p4 &&& (2147483647 : Int32)) % (5 : Int32)) - (2 : Int32)))), .val (.int (p2 &&& (2097151 : Int32))), .unset, .unset, .unset] [(.int p1), (.int (isc_0 p1))])) t
    exact k
  obtain ⟨_, _, ⟨T25, L25, k25, n25⟩, -, X25, ⟨Lc25, hQ25, l25, y25, z25⟩, st25⟩ := Jvm.LawKit.callS X24 hx (y := (⟨"transept/model/XmlCharsIsCharPinLaw", "ref", "(I)Z"⟩ : MethodName)) hown (mvT hZ (hw _ (List.mem_of_getElem? (i := 20) rfl))) (mvT hZ (hw _ (List.mem_of_getElem? (i := 21) rfl))) (mvT hZ (hw _ (List.mem_of_getElem? (i := 22) rfl))) (mvT hZ (hw _ (List.mem_of_getElem? (i := 23) rfl))) (by decide) (backOf (W := 1) (rm2 l Z a0 hw [] p1 T24.heap n0 ZH24) hZ (hw _ (List.mem_of_getElem? (i := 23) rfl)) (hw _ (List.mem_of_getElem? (i := 22) rfl)) (by decide) (by decide)) (g := (mkF m 172 #[.val (.int p1), .val (.int p2), .val (.int p3), .val (.int p4), .val (.ref b), .val (.int ((p3 &&& (2147483647 : Int32)) % (22 : Int32))), .val (.int (((p4 &&& (2147483647 : Int32)) % (5 : Int32)) - (2 : Int32))), .val (.int (wv + (((p4 &&& (2147483647 : Int32)) % (5 : Int32)) - (2 : Int32)))), .val (.int (p2 &&& (2097151 : Int32))), .unset, .unset, .unset] [(.int p1), (.int (isc_0 p1))])) rfl (by rw [hml]; rfl) (argsL := [(.int p1)]) (rest := [(.int (isc_0 p1))]) (lenOf pd_0_0 rfl) rfl (by show 2 * 0 + _ ≤ _; exact Nat.le_of_eq rfl) (hb hby at_172) (fun _ _ => ⟨rfl, rfl, (by decide : 1 + 0 ≤ _), (by decide : 22 + 0 ≤ _)⟩)
  dsimp only [Pt.U, Pt.locs, Pt.cells, Pt.slots] at X25 l25 y25 z25 st25 hQ25
  subst l25 y25 z25
  obtain ⟨rfl, N25q, H25⟩ := hQ25
  have ZH25 : n0 ≤ T25.heap.size := by rw [H25]; exact ZH24
  have N25 := Fr.app N24 N25q
  have K28 : ∀ t, Steps p.tables e below (T25.setTop (mkF m 187 #[.val (.int p1), .val (.int p2), .val (.int p3), .val (.int p4), .val (.ref b), .val (.int ((p3 &&& (2147483647 : Int32)) % (22 : Int32))), .val (.int (((p4 &&& (2147483647 : Int32)) % (5 : Int32)) - (2 : Int32))), .val (.int (wv + (((p4 &&& (2147483647 : Int32)) % (5 : Int32)) - (2 : Int32)))), .val (.int (p2 &&& (2097151 : Int32))), .val (.int (1 : Int32)), .unset, .unset] [(.int (p2 &&& (2097151 : Int32)))])) t → Steps p.tables e below (T25.setTop (mkF m 175 #[.val (.int p1), .val (.int p2), .val (.int p3), .val (.int p4), .val (.ref b), .val (.int ((p3 &&& (2147483647 : Int32)) % (22 : Int32))), .val (.int (((p4 &&& (2147483647 : Int32)) % (5 : Int32)) - (2 : Int32))), .val (.int (wv + (((p4 &&& (2147483647 : Int32)) % (5 : Int32)) - (2 : Int32)))), .val (.int (p2 &&& (2097151 : Int32))), .unset, .unset, .unset] [(.int (ref_0 p1)), (.int (isc_0 p1))])) t := by
    intro t k
    show Steps p.tables e below (T25.setTop (mkF m 175 #[.val (.int p1), .val (.int p2), .val (.int p3), .val (.int p4), .val (.ref b), .val (.int ((p3 &&& (2147483647 : Int32)) % (22 : Int32))), .val (.int (((p4 &&& (2147483647 : Int32)) % (5 : Int32)) - (2 : Int32))), .val (.int (wv + (((p4 &&& (2147483647 : Int32)) % (5 : Int32)) - (2 : Int32)))), .val (.int (p2 &&& (2097151 : Int32))), .unset, .unset, .unset] [(.int (ref_0 p1)), (.int (isc_0 p1))])) _
    refine XS.icmpNo X25.here hx rfl (hb hby at_175) rfl (teq (own_same p1)).2 ?_
    show Steps p.tables e below (T25.setTop (mkF m 178 #[.val (.int p1), .val (.int p2), .val (.int p3), .val (.int p4), .val (.ref b), .val (.int ((p3 &&& (2147483647 : Int32)) % (22 : Int32))), .val (.int (((p4 &&& (2147483647 : Int32)) % (5 : Int32)) - (2 : Int32))), .val (.int (wv + (((p4 &&& (2147483647 : Int32)) % (5 : Int32)) - (2 : Int32)))), .val (.int (p2 &&& (2097151 : Int32))), .unset, .unset, .unset] [])) _
    refine XS.iconst X25.here hx rfl (hb hby at_178) ?_
    show Steps p.tables e below (T25.setTop (mkF m 179 #[.val (.int p1), .val (.int p2), .val (.int p3), .val (.int p4), .val (.ref b), .val (.int ((p3 &&& (2147483647 : Int32)) % (22 : Int32))), .val (.int (((p4 &&& (2147483647 : Int32)) % (5 : Int32)) - (2 : Int32))), .val (.int (wv + (((p4 &&& (2147483647 : Int32)) % (5 : Int32)) - (2 : Int32)))), .val (.int (p2 &&& (2097151 : Int32))), .unset, .unset, .unset] [(.int (1 : Int32))])) _
    refine XS.goto X25.here hx rfl (pc0 := 179) (pc' := 183) rfl (hb hby at_179) (by decide) (by decide) ?_
    show Steps p.tables e below (T25.setTop (mkF m 183 #[.val (.int p1), .val (.int p2), .val (.int p3), .val (.int p4), .val (.ref b), .val (.int ((p3 &&& (2147483647 : Int32)) % (22 : Int32))), .val (.int (((p4 &&& (2147483647 : Int32)) % (5 : Int32)) - (2 : Int32))), .val (.int (wv + (((p4 &&& (2147483647 : Int32)) % (5 : Int32)) - (2 : Int32)))), .val (.int (p2 &&& (2097151 : Int32))), .unset, .unset, .unset] [(.int (1 : Int32))])) _
    refine XS.istore X25.here hx rfl (hb hby at_183) rfl (l' := #[.val (.int p1), .val (.int p2), .val (.int p3), .val (.int p4), .val (.ref b), .val (.int ((p3 &&& (2147483647 : Int32)) % (22 : Int32))), .val (.int (((p4 &&& (2147483647 : Int32)) % (5 : Int32)) - (2 : Int32))), .val (.int (wv + (((p4 &&& (2147483647 : Int32)) % (5 : Int32)) - (2 : Int32)))), .val (.int (p2 &&& (2097151 : Int32))), .val (.int (1 : Int32)), .unset, .unset]) rfl ?_
    show Steps p.tables e below (T25.setTop (mkF m 185 #[.val (.int p1), .val (.int p2), .val (.int p3), .val (.int p4), .val (.ref b), .val (.int ((p3 &&& (2147483647 : Int32)) % (22 : Int32))), .val (.int (((p4 &&& (2147483647 : Int32)) % (5 : Int32)) - (2 : Int32))), .val (.int (wv + (((p4 &&& (2147483647 : Int32)) % (5 : Int32)) - (2 : Int32)))), .val (.int (p2 &&& (2097151 : Int32))), .val (.int (1 : Int32)), .unset, .unset] [])) _
    refine XS.iload X25.here hx rfl (hb hby at_185) rfl ?_
    show Steps p.tables e below (T25.setTop (mkF m 187 #[.val (.int p1), .val (.int p2), .val (.int p3), .val (.int p4), .val (.ref b), .val (.int ((p3 &&& (2147483647 : Int32)) % (22 : Int32))), .val (.int (((p4 &&& (2147483647 : Int32)) % (5 : Int32)) - (2 : Int32))), .val (.int (wv + (((p4 &&& (2147483647 : Int32)) % (5 : Int32)) - (2 : Int32)))), .val (.int (p2 &&& (2097151 : Int32))), .val (.int (1 : Int32)), .unset, .unset] [(.int (p2 &&& (2097151 : Int32)))])) t
    exact k
  have K29 : ∀ t, Steps p.tables e below (T25.setTop (mkF m 187 #[.val (.int p1), .val (.int p2), .val (.int p3), .val (.int p4), .val (.ref b), .val (.int ((p3 &&& (2147483647 : Int32)) % (22 : Int32))), .val (.int (((p4 &&& (2147483647 : Int32)) % (5 : Int32)) - (2 : Int32))), .val (.int (wv + (((p4 &&& (2147483647 : Int32)) % (5 : Int32)) - (2 : Int32)))), .val (.int (p2 &&& (2097151 : Int32))), .val (.int (1 : Int32)), .unset, .unset] [(.int (p2 &&& (2097151 : Int32)))])) t → Steps p.tables e below (T25.setTop (mkF m 187 #[.val (.int p1), .val (.int p2), .val (.int p3), .val (.int p4), .val (.ref b), .val (.int ((p3 &&& (2147483647 : Int32)) % (22 : Int32))), .val (.int (((p4 &&& (2147483647 : Int32)) % (5 : Int32)) - (2 : Int32))), .val (.int (wv + (((p4 &&& (2147483647 : Int32)) % (5 : Int32)) - (2 : Int32)))), .val (.int (p2 &&& (2097151 : Int32))), .val (.int (1 : Int32)), .unset, .unset] [(.int (p2 &&& (2097151 : Int32)))])) t := by
    intro t k
    show Steps p.tables e below (T25.setTop (mkF m 187 #[.val (.int p1), .val (.int p2), .val (.int p3), .val (.int p4), .val (.ref b), .val (.int ((p3 &&& (2147483647 : Int32)) % (22 : Int32))), .val (.int (((p4 &&& (2147483647 : Int32)) % (5 : Int32)) - (2 : Int32))), .val (.int (wv + (((p4 &&& (2147483647 : Int32)) % (5 : Int32)) - (2 : Int32)))), .val (.int (p2 &&& (2097151 : Int32))), .val (.int (1 : Int32)), .unset, .unset] [(.int (p2 &&& (2097151 : Int32)))])) t
    exact k
  obtain ⟨_, _, ⟨T26, L26, k26, n26⟩, -, X26, ⟨Lc26, hQ26, l26, y26, z26⟩, st26⟩ := Jvm.LawKit.callS X25 hx (y := (⟨"transept/model/XmlChars", "isChar", "(I)Z"⟩ : MethodName)) hown (mvT hZ (hw _ (List.mem_of_getElem? (i := 14) rfl))) (mvT hZ (hw _ (List.mem_of_getElem? (i := 15) rfl))) (mvT hZ (hw _ (List.mem_of_getElem? (i := 16) rfl))) (mvT hZ (hw _ (List.mem_of_getElem? (i := 17) rfl))) (by decide) (backOf (W := 0) (rm1 l Z a0 hw [] (p2 &&& (2097151 : Int32)) T25.heap n0 ZH25) hZ (hw _ (List.mem_of_getElem? (i := 17) rfl)) (hw _ (List.mem_of_getElem? (i := 16) rfl)) (by decide) (by decide)) (g := (mkF m 187 #[.val (.int p1), .val (.int p2), .val (.int p3), .val (.int p4), .val (.ref b), .val (.int ((p3 &&& (2147483647 : Int32)) % (22 : Int32))), .val (.int (((p4 &&& (2147483647 : Int32)) % (5 : Int32)) - (2 : Int32))), .val (.int (wv + (((p4 &&& (2147483647 : Int32)) % (5 : Int32)) - (2 : Int32)))), .val (.int (p2 &&& (2097151 : Int32))), .val (.int (1 : Int32)), .unset, .unset] [(.int (p2 &&& (2097151 : Int32)))])) rfl (by rw [hml]; rfl) (argsL := [(.int (p2 &&& (2097151 : Int32)))]) (rest := []) (lenOf pd_0_0 rfl) rfl (by show 2 * 0 + _ ≤ _; exact Nat.le_of_eq rfl) (hb hby at_187) (fun _ _ => ⟨rfl, rfl, (by decide : 1 + 0 ≤ _), (by decide : 22 + 0 ≤ _)⟩)
  dsimp only [Pt.U, Pt.locs, Pt.cells, Pt.slots] at X26 l26 y26 z26 st26 hQ26
  subst l26 y26 z26
  obtain ⟨rfl, N26q, H26⟩ := hQ26
  have ZH26 : n0 ≤ T26.heap.size := by rw [H26]; exact ZH25
  have N26 := Fr.app N25 N26q
  have K30 : ∀ t, Steps p.tables e below (T26.setTop (mkF m 192 #[.val (.int p1), .val (.int p2), .val (.int p3), .val (.int p4), .val (.ref b), .val (.int ((p3 &&& (2147483647 : Int32)) % (22 : Int32))), .val (.int (((p4 &&& (2147483647 : Int32)) % (5 : Int32)) - (2 : Int32))), .val (.int (wv + (((p4 &&& (2147483647 : Int32)) % (5 : Int32)) - (2 : Int32)))), .val (.int (p2 &&& (2097151 : Int32))), .val (.int (1 : Int32)), .unset, .unset] [(.int (p2 &&& (2097151 : Int32))), (.int (isc_0 (p2 &&& (2097151 : Int32))))])) t → Steps p.tables e below (T26.setTop (mkF m 190 #[.val (.int p1), .val (.int p2), .val (.int p3), .val (.int p4), .val (.ref b), .val (.int ((p3 &&& (2147483647 : Int32)) % (22 : Int32))), .val (.int (((p4 &&& (2147483647 : Int32)) % (5 : Int32)) - (2 : Int32))), .val (.int (wv + (((p4 &&& (2147483647 : Int32)) % (5 : Int32)) - (2 : Int32)))), .val (.int (p2 &&& (2097151 : Int32))), .val (.int (1 : Int32)), .unset, .unset] [(.int (isc_0 (p2 &&& (2097151 : Int32))))])) t := by
    intro t k
    show Steps p.tables e below (T26.setTop (mkF m 190 #[.val (.int p1), .val (.int p2), .val (.int p3), .val (.int p4), .val (.ref b), .val (.int ((p3 &&& (2147483647 : Int32)) % (22 : Int32))), .val (.int (((p4 &&& (2147483647 : Int32)) % (5 : Int32)) - (2 : Int32))), .val (.int (wv + (((p4 &&& (2147483647 : Int32)) % (5 : Int32)) - (2 : Int32)))), .val (.int (p2 &&& (2097151 : Int32))), .val (.int (1 : Int32)), .unset, .unset] [(.int (isc_0 (p2 &&& (2097151 : Int32))))])) _
    refine XS.iload X26.here hx rfl (hb hby at_190) rfl ?_
    show Steps p.tables e below (T26.setTop (mkF m 192 #[.val (.int p1), .val (.int p2), .val (.int p3), .val (.int p4), .val (.ref b), .val (.int ((p3 &&& (2147483647 : Int32)) % (22 : Int32))), .val (.int (((p4 &&& (2147483647 : Int32)) % (5 : Int32)) - (2 : Int32))), .val (.int (wv + (((p4 &&& (2147483647 : Int32)) % (5 : Int32)) - (2 : Int32)))), .val (.int (p2 &&& (2097151 : Int32))), .val (.int (1 : Int32)), .unset, .unset] [(.int (p2 &&& (2097151 : Int32))), (.int (isc_0 (p2 &&& (2097151 : Int32))))])) t
    exact k
  obtain ⟨_, _, ⟨T27, L27, k27, n27⟩, -, X27, ⟨Lc27, hQ27, l27, y27, z27⟩, st27⟩ := Jvm.LawKit.callS X26 hx (y := (⟨"transept/model/XmlCharsIsCharPinLaw", "ref", "(I)Z"⟩ : MethodName)) hown (mvT hZ (hw _ (List.mem_of_getElem? (i := 20) rfl))) (mvT hZ (hw _ (List.mem_of_getElem? (i := 21) rfl))) (mvT hZ (hw _ (List.mem_of_getElem? (i := 22) rfl))) (mvT hZ (hw _ (List.mem_of_getElem? (i := 23) rfl))) (by decide) (backOf (W := 1) (rm2 l Z a0 hw [] (p2 &&& (2097151 : Int32)) T26.heap n0 ZH26) hZ (hw _ (List.mem_of_getElem? (i := 23) rfl)) (hw _ (List.mem_of_getElem? (i := 22) rfl)) (by decide) (by decide)) (g := (mkF m 192 #[.val (.int p1), .val (.int p2), .val (.int p3), .val (.int p4), .val (.ref b), .val (.int ((p3 &&& (2147483647 : Int32)) % (22 : Int32))), .val (.int (((p4 &&& (2147483647 : Int32)) % (5 : Int32)) - (2 : Int32))), .val (.int (wv + (((p4 &&& (2147483647 : Int32)) % (5 : Int32)) - (2 : Int32)))), .val (.int (p2 &&& (2097151 : Int32))), .val (.int (1 : Int32)), .unset, .unset] [(.int (p2 &&& (2097151 : Int32))), (.int (isc_0 (p2 &&& (2097151 : Int32))))])) rfl (by rw [hml]; rfl) (argsL := [(.int (p2 &&& (2097151 : Int32)))]) (rest := [(.int (isc_0 (p2 &&& (2097151 : Int32))))]) (lenOf pd_0_0 rfl) rfl (by show 2 * 0 + _ ≤ _; exact Nat.le_of_eq rfl) (hb hby at_192) (fun _ _ => ⟨rfl, rfl, (by decide : 1 + 0 ≤ _), (by decide : 22 + 0 ≤ _)⟩)
  dsimp only [Pt.U, Pt.locs, Pt.cells, Pt.slots] at X27 l27 y27 z27 st27 hQ27
  subst l27 y27 z27
  obtain ⟨rfl, N27q, H27⟩ := hQ27
  have ZH27 : n0 ≤ T27.heap.size := by rw [H27]; exact ZH26
  have N27 := Fr.app N26 N27q
  have K31 : ∀ t, Steps p.tables e below (T27.setTop (mkF m 207 #[.val (.int p1), .val (.int p2), .val (.int p3), .val (.int p4), .val (.ref b), .val (.int ((p3 &&& (2147483647 : Int32)) % (22 : Int32))), .val (.int (((p4 &&& (2147483647 : Int32)) % (5 : Int32)) - (2 : Int32))), .val (.int (wv + (((p4 &&& (2147483647 : Int32)) % (5 : Int32)) - (2 : Int32)))), .val (.int (p2 &&& (2097151 : Int32))), .val (.int (1 : Int32)), .val (.int (1 : Int32)), .unset] [(.int (wv + (((p4 &&& (2147483647 : Int32)) % (5 : Int32)) - (2 : Int32))))])) t → Steps p.tables e below (T27.setTop (mkF m 195 #[.val (.int p1), .val (.int p2), .val (.int p3), .val (.int p4), .val (.ref b), .val (.int ((p3 &&& (2147483647 : Int32)) % (22 : Int32))), .val (.int (((p4 &&& (2147483647 : Int32)) % (5 : Int32)) - (2 : Int32))), .val (.int (wv + (((p4 &&& (2147483647 : Int32)) % (5 : Int32)) - (2 : Int32)))), .val (.int (p2 &&& (2097151 : Int32))), .val (.int (1 : Int32)), .unset, .unset] [(.int (ref_0 (p2 &&& (2097151 : Int32)))), (.int (isc_0 (p2 &&& (2097151 : Int32))))])) t := by
    intro t k
    show Steps p.tables e below (T27.setTop (mkF m 195 #[.val (.int p1), .val (.int p2), .val (.int p3), .val (.int p4), .val (.ref b), .val (.int ((p3 &&& (2147483647 : Int32)) % (22 : Int32))), .val (.int (((p4 &&& (2147483647 : Int32)) % (5 : Int32)) - (2 : Int32))), .val (.int (wv + (((p4 &&& (2147483647 : Int32)) % (5 : Int32)) - (2 : Int32)))), .val (.int (p2 &&& (2097151 : Int32))), .val (.int (1 : Int32)), .unset, .unset] [(.int (ref_0 (p2 &&& (2097151 : Int32)))), (.int (isc_0 (p2 &&& (2097151 : Int32))))])) _
    refine XS.icmpNo X27.here hx rfl (hb hby at_195) rfl (teq (own_same (p2 &&& (2097151 : Int32)))).2 ?_
    show Steps p.tables e below (T27.setTop (mkF m 198 #[.val (.int p1), .val (.int p2), .val (.int p3), .val (.int p4), .val (.ref b), .val (.int ((p3 &&& (2147483647 : Int32)) % (22 : Int32))), .val (.int (((p4 &&& (2147483647 : Int32)) % (5 : Int32)) - (2 : Int32))), .val (.int (wv + (((p4 &&& (2147483647 : Int32)) % (5 : Int32)) - (2 : Int32)))), .val (.int (p2 &&& (2097151 : Int32))), .val (.int (1 : Int32)), .unset, .unset] [])) _
    refine XS.iconst X27.here hx rfl (hb hby at_198) ?_
    show Steps p.tables e below (T27.setTop (mkF m 199 #[.val (.int p1), .val (.int p2), .val (.int p3), .val (.int p4), .val (.ref b), .val (.int ((p3 &&& (2147483647 : Int32)) % (22 : Int32))), .val (.int (((p4 &&& (2147483647 : Int32)) % (5 : Int32)) - (2 : Int32))), .val (.int (wv + (((p4 &&& (2147483647 : Int32)) % (5 : Int32)) - (2 : Int32)))), .val (.int (p2 &&& (2097151 : Int32))), .val (.int (1 : Int32)), .unset, .unset] [(.int (1 : Int32))])) _
    refine XS.goto X27.here hx rfl (pc0 := 199) (pc' := 203) rfl (hb hby at_199) (by decide) (by decide) ?_
    show Steps p.tables e below (T27.setTop (mkF m 203 #[.val (.int p1), .val (.int p2), .val (.int p3), .val (.int p4), .val (.ref b), .val (.int ((p3 &&& (2147483647 : Int32)) % (22 : Int32))), .val (.int (((p4 &&& (2147483647 : Int32)) % (5 : Int32)) - (2 : Int32))), .val (.int (wv + (((p4 &&& (2147483647 : Int32)) % (5 : Int32)) - (2 : Int32)))), .val (.int (p2 &&& (2097151 : Int32))), .val (.int (1 : Int32)), .unset, .unset] [(.int (1 : Int32))])) _
    refine XS.istore X27.here hx rfl (hb hby at_203) rfl (l' := #[.val (.int p1), .val (.int p2), .val (.int p3), .val (.int p4), .val (.ref b), .val (.int ((p3 &&& (2147483647 : Int32)) % (22 : Int32))), .val (.int (((p4 &&& (2147483647 : Int32)) % (5 : Int32)) - (2 : Int32))), .val (.int (wv + (((p4 &&& (2147483647 : Int32)) % (5 : Int32)) - (2 : Int32)))), .val (.int (p2 &&& (2097151 : Int32))), .val (.int (1 : Int32)), .val (.int (1 : Int32)), .unset]) rfl ?_
    show Steps p.tables e below (T27.setTop (mkF m 205 #[.val (.int p1), .val (.int p2), .val (.int p3), .val (.int p4), .val (.ref b), .val (.int ((p3 &&& (2147483647 : Int32)) % (22 : Int32))), .val (.int (((p4 &&& (2147483647 : Int32)) % (5 : Int32)) - (2 : Int32))), .val (.int (wv + (((p4 &&& (2147483647 : Int32)) % (5 : Int32)) - (2 : Int32)))), .val (.int (p2 &&& (2097151 : Int32))), .val (.int (1 : Int32)), .val (.int (1 : Int32)), .unset] [])) _
    refine XS.iload X27.here hx rfl (hb hby at_205) rfl ?_
    show Steps p.tables e below (T27.setTop (mkF m 207 #[.val (.int p1), .val (.int p2), .val (.int p3), .val (.int p4), .val (.ref b), .val (.int ((p3 &&& (2147483647 : Int32)) % (22 : Int32))), .val (.int (((p4 &&& (2147483647 : Int32)) % (5 : Int32)) - (2 : Int32))), .val (.int (wv + (((p4 &&& (2147483647 : Int32)) % (5 : Int32)) - (2 : Int32)))), .val (.int (p2 &&& (2097151 : Int32))), .val (.int (1 : Int32)), .val (.int (1 : Int32)), .unset] [(.int (wv + (((p4 &&& (2147483647 : Int32)) % (5 : Int32)) - (2 : Int32))))])) t
    exact k
  have K32 : ∀ t, Steps p.tables e below (T27.setTop (mkF m 207 #[.val (.int p1), .val (.int p2), .val (.int p3), .val (.int p4), .val (.ref b), .val (.int ((p3 &&& (2147483647 : Int32)) % (22 : Int32))), .val (.int (((p4 &&& (2147483647 : Int32)) % (5 : Int32)) - (2 : Int32))), .val (.int (wv + (((p4 &&& (2147483647 : Int32)) % (5 : Int32)) - (2 : Int32)))), .val (.int (p2 &&& (2097151 : Int32))), .val (.int (1 : Int32)), .val (.int (1 : Int32)), .unset] [(.int (wv + (((p4 &&& (2147483647 : Int32)) % (5 : Int32)) - (2 : Int32))))])) t → Steps p.tables e below (T27.setTop (mkF m 207 #[.val (.int p1), .val (.int p2), .val (.int p3), .val (.int p4), .val (.ref b), .val (.int ((p3 &&& (2147483647 : Int32)) % (22 : Int32))), .val (.int (((p4 &&& (2147483647 : Int32)) % (5 : Int32)) - (2 : Int32))), .val (.int (wv + (((p4 &&& (2147483647 : Int32)) % (5 : Int32)) - (2 : Int32)))), .val (.int (p2 &&& (2097151 : Int32))), .val (.int (1 : Int32)), .val (.int (1 : Int32)), .unset] [(.int (wv + (((p4 &&& (2147483647 : Int32)) % (5 : Int32)) - (2 : Int32))))])) t := by
    intro t k
    show Steps p.tables e below (T27.setTop (mkF m 207 #[.val (.int p1), .val (.int p2), .val (.int p3), .val (.int p4), .val (.ref b), .val (.int ((p3 &&& (2147483647 : Int32)) % (22 : Int32))), .val (.int (((p4 &&& (2147483647 : Int32)) % (5 : Int32)) - (2 : Int32))), .val (.int (wv + (((p4 &&& (2147483647 : Int32)) % (5 : Int32)) - (2 : Int32)))), .val (.int (p2 &&& (2097151 : Int32))), .val (.int (1 : Int32)), .val (.int (1 : Int32)), .unset] [(.int (wv + (((p4 &&& (2147483647 : Int32)) % (5 : Int32)) - (2 : Int32))))])) t
    exact k
  obtain ⟨_, _, ⟨T28, L28, k28, n28⟩, -, X28, ⟨Lc28, hQ28, l28, y28, z28⟩, st28⟩ := Jvm.LawKit.callS X27 hx (y := (⟨"transept/model/XmlChars", "isChar", "(I)Z"⟩ : MethodName)) hown (mvT hZ (hw _ (List.mem_of_getElem? (i := 14) rfl))) (mvT hZ (hw _ (List.mem_of_getElem? (i := 15) rfl))) (mvT hZ (hw _ (List.mem_of_getElem? (i := 16) rfl))) (mvT hZ (hw _ (List.mem_of_getElem? (i := 17) rfl))) (by decide) (backOf (W := 0) (rm1 l Z a0 hw [] (wv + (((p4 &&& (2147483647 : Int32)) % (5 : Int32)) - (2 : Int32))) T27.heap n0 ZH27) hZ (hw _ (List.mem_of_getElem? (i := 17) rfl)) (hw _ (List.mem_of_getElem? (i := 16) rfl)) (by decide) (by decide)) (g := (mkF m 207 #[.val (.int p1), .val (.int p2), .val (.int p3), .val (.int p4), .val (.ref b), .val (.int ((p3 &&& (2147483647 : Int32)) % (22 : Int32))), .val (.int (((p4 &&& (2147483647 : Int32)) % (5 : Int32)) - (2 : Int32))), .val (.int (wv + (((p4 &&& (2147483647 : Int32)) % (5 : Int32)) - (2 : Int32)))), .val (.int (p2 &&& (2097151 : Int32))), .val (.int (1 : Int32)), .val (.int (1 : Int32)), .unset] [(.int (wv + (((p4 &&& (2147483647 : Int32)) % (5 : Int32)) - (2 : Int32))))])) rfl (by rw [hml]; rfl) (argsL := [(.int (wv + (((p4 &&& (2147483647 : Int32)) % (5 : Int32)) - (2 : Int32))))]) (rest := []) (lenOf pd_0_0 rfl) rfl (by show 2 * 0 + _ ≤ _; exact Nat.le_of_eq rfl) (hb hby at_207) (fun _ _ => ⟨rfl, rfl, (by decide : 1 + 0 ≤ _), (by decide : 22 + 0 ≤ _)⟩)
  dsimp only [Pt.U, Pt.locs, Pt.cells, Pt.slots] at X28 l28 y28 z28 st28 hQ28
  subst l28 y28 z28
  obtain ⟨rfl, N28q, H28⟩ := hQ28
  have ZH28 : n0 ≤ T28.heap.size := by rw [H28]; exact ZH27
  have N28 := Fr.app N27 N28q
  have K33 : ∀ t, Steps p.tables e below (T28.setTop (mkF m 212 #[.val (.int p1), .val (.int p2), .val (.int p3), .val (.int p4), .val (.ref b), .val (.int ((p3 &&& (2147483647 : Int32)) % (22 : Int32))), .val (.int (((p4 &&& (2147483647 : Int32)) % (5 : Int32)) - (2 : Int32))), .val (.int (wv + (((p4 &&& (2147483647 : Int32)) % (5 : Int32)) - (2 : Int32)))), .val (.int (p2 &&& (2097151 : Int32))), .val (.int (1 : Int32)), .val (.int (1 : Int32)), .unset] [(.int (wv + (((p4 &&& (2147483647 : Int32)) % (5 : Int32)) - (2 : Int32)))), (.int (isc_0 (wv + (((p4 &&& (2147483647 : Int32)) % (5 : Int32)) - (2 : Int32)))))])) t → Steps p.tables e below (T28.setTop (mkF m 210 #[.val (.int p1), .val (.int p2), .val (.int p3), .val (.int p4), .val (.ref b), .val (.int ((p3 &&& (2147483647 : Int32)) % (22 : Int32))), .val (.int (((p4 &&& (2147483647 : Int32)) % (5 : Int32)) - (2 : Int32))), .val (.int (wv + (((p4 &&& (2147483647 : Int32)) % (5 : Int32)) - (2 : Int32)))), .val (.int (p2 &&& (2097151 : Int32))), .val (.int (1 : Int32)), .val (.int (1 : Int32)), .unset] [(.int (isc_0 (wv + (((p4 &&& (2147483647 : Int32)) % (5 : Int32)) - (2 : Int32)))))])) t := by
    intro t k
    show Steps p.tables e below (T28.setTop (mkF m 210 #[.val (.int p1), .val (.int p2), .val (.int p3), .val (.int p4), .val (.ref b), .val (.int ((p3 &&& (2147483647 : Int32)) % (22 : Int32))), .val (.int (((p4 &&& (2147483647 : Int32)) % (5 : Int32)) - (2 : Int32))), .val (.int (wv + (((p4 &&& (2147483647 : Int32)) % (5 : Int32)) - (2 : Int32)))), .val (.int (p2 &&& (2097151 : Int32))), .val (.int (1 : Int32)), .val (.int (1 : Int32)), .unset] [(.int (isc_0 (wv + (((p4 &&& (2147483647 : Int32)) % (5 : Int32)) - (2 : Int32)))))])) _
    refine XS.iload X28.here hx rfl (hb hby at_210) rfl ?_
    show Steps p.tables e below (T28.setTop (mkF m 212 #[.val (.int p1), .val (.int p2), .val (.int p3), .val (.int p4), .val (.ref b), .val (.int ((p3 &&& (2147483647 : Int32)) % (22 : Int32))), .val (.int (((p4 &&& (2147483647 : Int32)) % (5 : Int32)) - (2 : Int32))), .val (.int (wv + (((p4 &&& (2147483647 : Int32)) % (5 : Int32)) - (2 : Int32)))), .val (.int (p2 &&& (2097151 : Int32))), .val (.int (1 : Int32)), .val (.int (1 : Int32)), .unset] [(.int (wv + (((p4 &&& (2147483647 : Int32)) % (5 : Int32)) - (2 : Int32)))), (.int (isc_0 (wv + (((p4 &&& (2147483647 : Int32)) % (5 : Int32)) - (2 : Int32)))))])) t
    exact k
  obtain ⟨_, _, ⟨T29, L29, k29, n29⟩, -, X29, ⟨Lc29, hQ29, l29, y29, z29⟩, st29⟩ := Jvm.LawKit.callS X28 hx (y := (⟨"transept/model/XmlCharsIsCharPinLaw", "ref", "(I)Z"⟩ : MethodName)) hown (mvT hZ (hw _ (List.mem_of_getElem? (i := 20) rfl))) (mvT hZ (hw _ (List.mem_of_getElem? (i := 21) rfl))) (mvT hZ (hw _ (List.mem_of_getElem? (i := 22) rfl))) (mvT hZ (hw _ (List.mem_of_getElem? (i := 23) rfl))) (by decide) (backOf (W := 1) (rm2 l Z a0 hw [] (wv + (((p4 &&& (2147483647 : Int32)) % (5 : Int32)) - (2 : Int32))) T28.heap n0 ZH28) hZ (hw _ (List.mem_of_getElem? (i := 23) rfl)) (hw _ (List.mem_of_getElem? (i := 22) rfl)) (by decide) (by decide)) (g := (mkF m 212 #[.val (.int p1), .val (.int p2), .val (.int p3), .val (.int p4), .val (.ref b), .val (.int ((p3 &&& (2147483647 : Int32)) % (22 : Int32))), .val (.int (((p4 &&& (2147483647 : Int32)) % (5 : Int32)) - (2 : Int32))), .val (.int (wv + (((p4 &&& (2147483647 : Int32)) % (5 : Int32)) - (2 : Int32)))), .val (.int (p2 &&& (2097151 : Int32))), .val (.int (1 : Int32)), .val (.int (1 : Int32)), .unset] [(.int (wv + (((p4 &&& (2147483647 : Int32)) % (5 : Int32)) - (2 : Int32)))), (.int (isc_0 (wv + (((p4 &&& (2147483647 : Int32)) % (5 : Int32)) - (2 : Int32)))))])) rfl (by rw [hml]; rfl) (argsL := [(.int (wv + (((p4 &&& (2147483647 : Int32)) % (5 : Int32)) - (2 : Int32))))]) (rest := [(.int (isc_0 (wv + (((p4 &&& (2147483647 : Int32)) % (5 : Int32)) - (2 : Int32)))))]) (lenOf pd_0_0 rfl) rfl (by show 2 * 0 + _ ≤ _; exact Nat.le_of_eq rfl) (hb hby at_212) (fun _ _ => ⟨rfl, rfl, (by decide : 1 + 0 ≤ _), (by decide : 22 + 0 ≤ _)⟩)
  dsimp only [Pt.U, Pt.locs, Pt.cells, Pt.slots] at X29 l29 y29 z29 st29 hQ29
  subst l29 y29 z29
  obtain ⟨rfl, N29q, H29⟩ := hQ29
  have ZH29 : n0 ≤ T29.heap.size := by rw [H29]; exact ZH28
  have N29 := Fr.app N28 N29q
  have K34 : ∀ t, Steps p.tables e below (T29.setTop (mkF m 227 #[.val (.int p1), .val (.int p2), .val (.int p3), .val (.int p4), .val (.ref b), .val (.int ((p3 &&& (2147483647 : Int32)) % (22 : Int32))), .val (.int (((p4 &&& (2147483647 : Int32)) % (5 : Int32)) - (2 : Int32))), .val (.int (wv + (((p4 &&& (2147483647 : Int32)) % (5 : Int32)) - (2 : Int32)))), .val (.int (p2 &&& (2097151 : Int32))), .val (.int (1 : Int32)), .val (.int (1 : Int32)), .val (.int (1 : Int32))] [(.int (1 : Int32))])) t → Steps p.tables e below (T29.setTop (mkF m 215 #[.val (.int p1), .val (.int p2), .val (.int p3), .val (.int p4), .val (.ref b), .val (.int ((p3 &&& (2147483647 : Int32)) % (22 : Int32))), .val (.int (((p4 &&& (2147483647 : Int32)) % (5 : Int32)) - (2 : Int32))), .val (.int (wv + (((p4 &&& (2147483647 : Int32)) % (5 : Int32)) - (2 : Int32)))), .val (.int (p2 &&& (2097151 : Int32))), .val (.int (1 : Int32)), .val (.int (1 : Int32)), .unset] [(.int (ref_0 (wv + (((p4 &&& (2147483647 : Int32)) % (5 : Int32)) - (2 : Int32))))), (.int (isc_0 (wv + (((p4 &&& (2147483647 : Int32)) % (5 : Int32)) - (2 : Int32)))))])) t := by
    intro t k
    show Steps p.tables e below (T29.setTop (mkF m 215 #[.val (.int p1), .val (.int p2), .val (.int p3), .val (.int p4), .val (.ref b), .val (.int ((p3 &&& (2147483647 : Int32)) % (22 : Int32))), .val (.int (((p4 &&& (2147483647 : Int32)) % (5 : Int32)) - (2 : Int32))), .val (.int (wv + (((p4 &&& (2147483647 : Int32)) % (5 : Int32)) - (2 : Int32)))), .val (.int (p2 &&& (2097151 : Int32))), .val (.int (1 : Int32)), .val (.int (1 : Int32)), .unset] [(.int (ref_0 (wv + (((p4 &&& (2147483647 : Int32)) % (5 : Int32)) - (2 : Int32))))), (.int (isc_0 (wv + (((p4 &&& (2147483647 : Int32)) % (5 : Int32)) - (2 : Int32)))))])) _
    refine XS.icmpNo X29.here hx rfl (hb hby at_215) rfl (teq (own_same (wv + (((p4 &&& (2147483647 : Int32)) % (5 : Int32)) - (2 : Int32))))).2 ?_
    show Steps p.tables e below (T29.setTop (mkF m 218 #[.val (.int p1), .val (.int p2), .val (.int p3), .val (.int p4), .val (.ref b), .val (.int ((p3 &&& (2147483647 : Int32)) % (22 : Int32))), .val (.int (((p4 &&& (2147483647 : Int32)) % (5 : Int32)) - (2 : Int32))), .val (.int (wv + (((p4 &&& (2147483647 : Int32)) % (5 : Int32)) - (2 : Int32)))), .val (.int (p2 &&& (2097151 : Int32))), .val (.int (1 : Int32)), .val (.int (1 : Int32)), .unset] [])) _
    refine XS.iconst X29.here hx rfl (hb hby at_218) ?_
    show Steps p.tables e below (T29.setTop (mkF m 219 #[.val (.int p1), .val (.int p2), .val (.int p3), .val (.int p4), .val (.ref b), .val (.int ((p3 &&& (2147483647 : Int32)) % (22 : Int32))), .val (.int (((p4 &&& (2147483647 : Int32)) % (5 : Int32)) - (2 : Int32))), .val (.int (wv + (((p4 &&& (2147483647 : Int32)) % (5 : Int32)) - (2 : Int32)))), .val (.int (p2 &&& (2097151 : Int32))), .val (.int (1 : Int32)), .val (.int (1 : Int32)), .unset] [(.int (1 : Int32))])) _
    refine XS.goto X29.here hx rfl (pc0 := 219) (pc' := 223) rfl (hb hby at_219) (by decide) (by decide) ?_
    show Steps p.tables e below (T29.setTop (mkF m 223 #[.val (.int p1), .val (.int p2), .val (.int p3), .val (.int p4), .val (.ref b), .val (.int ((p3 &&& (2147483647 : Int32)) % (22 : Int32))), .val (.int (((p4 &&& (2147483647 : Int32)) % (5 : Int32)) - (2 : Int32))), .val (.int (wv + (((p4 &&& (2147483647 : Int32)) % (5 : Int32)) - (2 : Int32)))), .val (.int (p2 &&& (2097151 : Int32))), .val (.int (1 : Int32)), .val (.int (1 : Int32)), .unset] [(.int (1 : Int32))])) _
    refine XS.istore X29.here hx rfl (hb hby at_223) rfl (l' := #[.val (.int p1), .val (.int p2), .val (.int p3), .val (.int p4), .val (.ref b), .val (.int ((p3 &&& (2147483647 : Int32)) % (22 : Int32))), .val (.int (((p4 &&& (2147483647 : Int32)) % (5 : Int32)) - (2 : Int32))), .val (.int (wv + (((p4 &&& (2147483647 : Int32)) % (5 : Int32)) - (2 : Int32)))), .val (.int (p2 &&& (2097151 : Int32))), .val (.int (1 : Int32)), .val (.int (1 : Int32)), .val (.int (1 : Int32))]) rfl ?_
    show Steps p.tables e below (T29.setTop (mkF m 225 #[.val (.int p1), .val (.int p2), .val (.int p3), .val (.int p4), .val (.ref b), .val (.int ((p3 &&& (2147483647 : Int32)) % (22 : Int32))), .val (.int (((p4 &&& (2147483647 : Int32)) % (5 : Int32)) - (2 : Int32))), .val (.int (wv + (((p4 &&& (2147483647 : Int32)) % (5 : Int32)) - (2 : Int32)))), .val (.int (p2 &&& (2097151 : Int32))), .val (.int (1 : Int32)), .val (.int (1 : Int32)), .val (.int (1 : Int32))] [])) _
    refine XS.iload X29.here hx rfl (hb hby at_225) rfl ?_
    show Steps p.tables e below (T29.setTop (mkF m 227 #[.val (.int p1), .val (.int p2), .val (.int p3), .val (.int p4), .val (.ref b), .val (.int ((p3 &&& (2147483647 : Int32)) % (22 : Int32))), .val (.int (((p4 &&& (2147483647 : Int32)) % (5 : Int32)) - (2 : Int32))), .val (.int (wv + (((p4 &&& (2147483647 : Int32)) % (5 : Int32)) - (2 : Int32)))), .val (.int (p2 &&& (2097151 : Int32))), .val (.int (1 : Int32)), .val (.int (1 : Int32)), .val (.int (1 : Int32))] [(.int (1 : Int32))])) t
    exact k
  have K35 : ∀ t, Steps p.tables e below (T29.setTop (mkF m 232 #[.val (.int p1), .val (.int p2), .val (.int p3), .val (.int p4), .val (.ref b), .val (.int ((p3 &&& (2147483647 : Int32)) % (22 : Int32))), .val (.int (((p4 &&& (2147483647 : Int32)) % (5 : Int32)) - (2 : Int32))), .val (.int (wv + (((p4 &&& (2147483647 : Int32)) % (5 : Int32)) - (2 : Int32)))), .val (.int (p2 &&& (2097151 : Int32))), .val (.int (1 : Int32)), .val (.int (1 : Int32)), .val (.int (1 : Int32))] [(.int (1 : Int32))])) t → Steps p.tables e below (T29.setTop (mkF m 227 #[.val (.int p1), .val (.int p2), .val (.int p3), .val (.int p4), .val (.ref b), .val (.int ((p3 &&& (2147483647 : Int32)) % (22 : Int32))), .val (.int (((p4 &&& (2147483647 : Int32)) % (5 : Int32)) - (2 : Int32))), .val (.int (wv + (((p4 &&& (2147483647 : Int32)) % (5 : Int32)) - (2 : Int32)))), .val (.int (p2 &&& (2097151 : Int32))), .val (.int (1 : Int32)), .val (.int (1 : Int32)), .val (.int (1 : Int32))] [(.int (1 : Int32))])) t := by
    intro t k
    show Steps p.tables e below (T29.setTop (mkF m 227 #[.val (.int p1), .val (.int p2), .val (.int p3), .val (.int p4), .val (.ref b), .val (.int ((p3 &&& (2147483647 : Int32)) % (22 : Int32))), .val (.int (((p4 &&& (2147483647 : Int32)) % (5 : Int32)) - (2 : Int32))), .val (.int (wv + (((p4 &&& (2147483647 : Int32)) % (5 : Int32)) - (2 : Int32)))), .val (.int (p2 &&& (2097151 : Int32))), .val (.int (1 : Int32)), .val (.int (1 : Int32)), .val (.int (1 : Int32))] [(.int (1 : Int32))])) _
    refine XS.ifNo X29.here hx rfl (hb hby at_227) rfl ((if0 _ _).trans (feq own_one).1) ?_
    show Steps p.tables e below (T29.setTop (mkF m 230 #[.val (.int p1), .val (.int p2), .val (.int p3), .val (.int p4), .val (.ref b), .val (.int ((p3 &&& (2147483647 : Int32)) % (22 : Int32))), .val (.int (((p4 &&& (2147483647 : Int32)) % (5 : Int32)) - (2 : Int32))), .val (.int (wv + (((p4 &&& (2147483647 : Int32)) % (5 : Int32)) - (2 : Int32)))), .val (.int (p2 &&& (2097151 : Int32))), .val (.int (1 : Int32)), .val (.int (1 : Int32)), .val (.int (1 : Int32))] [])) _
    refine XS.iload X29.here hx rfl (hb hby at_230) rfl ?_
    show Steps p.tables e below (T29.setTop (mkF m 232 #[.val (.int p1), .val (.int p2), .val (.int p3), .val (.int p4), .val (.ref b), .val (.int ((p3 &&& (2147483647 : Int32)) % (22 : Int32))), .val (.int (((p4 &&& (2147483647 : Int32)) % (5 : Int32)) - (2 : Int32))), .val (.int (wv + (((p4 &&& (2147483647 : Int32)) % (5 : Int32)) - (2 : Int32)))), .val (.int (p2 &&& (2097151 : Int32))), .val (.int (1 : Int32)), .val (.int (1 : Int32)), .val (.int (1 : Int32))] [(.int (1 : Int32))])) t
    exact k
  have K36 : ∀ t, Steps p.tables e below (T29.setTop (mkF m 237 #[.val (.int p1), .val (.int p2), .val (.int p3), .val (.int p4), .val (.ref b), .val (.int ((p3 &&& (2147483647 : Int32)) % (22 : Int32))), .val (.int (((p4 &&& (2147483647 : Int32)) % (5 : Int32)) - (2 : Int32))), .val (.int (wv + (((p4 &&& (2147483647 : Int32)) % (5 : Int32)) - (2 : Int32)))), .val (.int (p2 &&& (2097151 : Int32))), .val (.int (1 : Int32)), .val (.int (1 : Int32)), .val (.int (1 : Int32))] [(.int (1 : Int32))])) t → Steps p.tables e below (T29.setTop (mkF m 232 #[.val (.int p1), .val (.int p2), .val (.int p3), .val (.int p4), .val (.ref b), .val (.int ((p3 &&& (2147483647 : Int32)) % (22 : Int32))), .val (.int (((p4 &&& (2147483647 : Int32)) % (5 : Int32)) - (2 : Int32))), .val (.int (wv + (((p4 &&& (2147483647 : Int32)) % (5 : Int32)) - (2 : Int32)))), .val (.int (p2 &&& (2097151 : Int32))), .val (.int (1 : Int32)), .val (.int (1 : Int32)), .val (.int (1 : Int32))] [(.int (1 : Int32))])) t := by
    intro t k
    show Steps p.tables e below (T29.setTop (mkF m 232 #[.val (.int p1), .val (.int p2), .val (.int p3), .val (.int p4), .val (.ref b), .val (.int ((p3 &&& (2147483647 : Int32)) % (22 : Int32))), .val (.int (((p4 &&& (2147483647 : Int32)) % (5 : Int32)) - (2 : Int32))), .val (.int (wv + (((p4 &&& (2147483647 : Int32)) % (5 : Int32)) - (2 : Int32)))), .val (.int (p2 &&& (2097151 : Int32))), .val (.int (1 : Int32)), .val (.int (1 : Int32)), .val (.int (1 : Int32))] [(.int (1 : Int32))])) _
    refine XS.ifNo X29.here hx rfl (hb hby at_232) rfl ((if0 _ _).trans (feq own_one).1) ?_
    show Steps p.tables e below (T29.setTop (mkF m 235 #[.val (.int p1), .val (.int p2), .val (.int p3), .val (.int p4), .val (.ref b), .val (.int ((p3 &&& (2147483647 : Int32)) % (22 : Int32))), .val (.int (((p4 &&& (2147483647 : Int32)) % (5 : Int32)) - (2 : Int32))), .val (.int (wv + (((p4 &&& (2147483647 : Int32)) % (5 : Int32)) - (2 : Int32)))), .val (.int (p2 &&& (2097151 : Int32))), .val (.int (1 : Int32)), .val (.int (1 : Int32)), .val (.int (1 : Int32))] [])) _
    refine XS.iload X29.here hx rfl (hb hby at_235) rfl ?_
    show Steps p.tables e below (T29.setTop (mkF m 237 #[.val (.int p1), .val (.int p2), .val (.int p3), .val (.int p4), .val (.ref b), .val (.int ((p3 &&& (2147483647 : Int32)) % (22 : Int32))), .val (.int (((p4 &&& (2147483647 : Int32)) % (5 : Int32)) - (2 : Int32))), .val (.int (wv + (((p4 &&& (2147483647 : Int32)) % (5 : Int32)) - (2 : Int32)))), .val (.int (p2 &&& (2097151 : Int32))), .val (.int (1 : Int32)), .val (.int (1 : Int32)), .val (.int (1 : Int32))] [(.int (1 : Int32))])) t
    exact k
  have K37 : ∀ t, Steps p.tables e below (T29.setTop (mkF m 245 #[.val (.int p1), .val (.int p2), .val (.int p3), .val (.int p4), .val (.ref b), .val (.int ((p3 &&& (2147483647 : Int32)) % (22 : Int32))), .val (.int (((p4 &&& (2147483647 : Int32)) % (5 : Int32)) - (2 : Int32))), .val (.int (wv + (((p4 &&& (2147483647 : Int32)) % (5 : Int32)) - (2 : Int32)))), .val (.int (p2 &&& (2097151 : Int32))), .val (.int (1 : Int32)), .val (.int (1 : Int32)), .val (.int (1 : Int32))] [(.int (1 : Int32))])) t → Steps p.tables e below (T29.setTop (mkF m 237 #[.val (.int p1), .val (.int p2), .val (.int p3), .val (.int p4), .val (.ref b), .val (.int ((p3 &&& (2147483647 : Int32)) % (22 : Int32))), .val (.int (((p4 &&& (2147483647 : Int32)) % (5 : Int32)) - (2 : Int32))), .val (.int (wv + (((p4 &&& (2147483647 : Int32)) % (5 : Int32)) - (2 : Int32)))), .val (.int (p2 &&& (2097151 : Int32))), .val (.int (1 : Int32)), .val (.int (1 : Int32)), .val (.int (1 : Int32))] [(.int (1 : Int32))])) t := by
    intro t k
    show Steps p.tables e below (T29.setTop (mkF m 237 #[.val (.int p1), .val (.int p2), .val (.int p3), .val (.int p4), .val (.ref b), .val (.int ((p3 &&& (2147483647 : Int32)) % (22 : Int32))), .val (.int (((p4 &&& (2147483647 : Int32)) % (5 : Int32)) - (2 : Int32))), .val (.int (wv + (((p4 &&& (2147483647 : Int32)) % (5 : Int32)) - (2 : Int32)))), .val (.int (p2 &&& (2097151 : Int32))), .val (.int (1 : Int32)), .val (.int (1 : Int32)), .val (.int (1 : Int32))] [(.int (1 : Int32))])) _
    refine XS.ifNo X29.here hx rfl (hb hby at_237) rfl ((if0 _ _).trans (feq own_one).1) ?_
    show Steps p.tables e below (T29.setTop (mkF m 240 #[.val (.int p1), .val (.int p2), .val (.int p3), .val (.int p4), .val (.ref b), .val (.int ((p3 &&& (2147483647 : Int32)) % (22 : Int32))), .val (.int (((p4 &&& (2147483647 : Int32)) % (5 : Int32)) - (2 : Int32))), .val (.int (wv + (((p4 &&& (2147483647 : Int32)) % (5 : Int32)) - (2 : Int32)))), .val (.int (p2 &&& (2097151 : Int32))), .val (.int (1 : Int32)), .val (.int (1 : Int32)), .val (.int (1 : Int32))] [])) _
    refine XS.iconst X29.here hx rfl (hb hby at_240) ?_
    show Steps p.tables e below (T29.setTop (mkF m 241 #[.val (.int p1), .val (.int p2), .val (.int p3), .val (.int p4), .val (.ref b), .val (.int ((p3 &&& (2147483647 : Int32)) % (22 : Int32))), .val (.int (((p4 &&& (2147483647 : Int32)) % (5 : Int32)) - (2 : Int32))), .val (.int (wv + (((p4 &&& (2147483647 : Int32)) % (5 : Int32)) - (2 : Int32)))), .val (.int (p2 &&& (2097151 : Int32))), .val (.int (1 : Int32)), .val (.int (1 : Int32)), .val (.int (1 : Int32))] [(.int (1 : Int32))])) _
    refine XS.goto X29.here hx rfl (pc0 := 241) (pc' := 245) rfl (hb hby at_241) (by decide) (by decide) ?_
    show Steps p.tables e below (T29.setTop (mkF m 245 #[.val (.int p1), .val (.int p2), .val (.int p3), .val (.int p4), .val (.ref b), .val (.int ((p3 &&& (2147483647 : Int32)) % (22 : Int32))), .val (.int (((p4 &&& (2147483647 : Int32)) % (5 : Int32)) - (2 : Int32))), .val (.int (wv + (((p4 &&& (2147483647 : Int32)) % (5 : Int32)) - (2 : Int32)))), .val (.int (p2 &&& (2097151 : Int32))), .val (.int (1 : Int32)), .val (.int (1 : Int32)), .val (.int (1 : Int32))] [(.int (1 : Int32))])) t
    exact k
  obtain ⟨fs, hr, hrun, hended, hW, hsame⟩ := X29.leave (v := some (.int (1 : Int32))) (fun h => by rw [Bd.returns] at h; cases h)
  refine ⟨_, _, pre0 _ ?_, hrun, hended, _, _, rfl, ?_, ⟨_, rfl⟩, hW, hsame.mono (by decide) (by decide)⟩
  · refine K1 _ (st1 _ (K2 _ (st2 _ (K3 _ (st3 _ (K4 _ (st4 _ (K5 _ (st5 _ (K6 _ (st6 _ (K7 _ (st7 _ (K8 _ (st8 _ (K9 _ (st9 _ (K10 _ (st10 _ (K11 _ (st11 _ (K12 _ (st12 _ (K13 _ (st13 _ (K14 _ (st14 _ (K15 _ (st15 _ (K16 _ (st16 _ (K17 _ (st17 _ (K18 _ (st18 _ (K19 _ (st19 _ (K20 _ (st20 _ (K21 _ (st21 _ (K22 _ (st22 _ (K23 _ (st23 _ (K24 _ (K25 _ (stq _ (K26 _ (st24 _ (K27 _ (st25 _ (K28 _ (K29 _ (st26 _ (K30 _ (st27 _ (K31 _ (K32 _ (st28 _ (K33 _ (st29 _ (K34 _ (K35 _ (K36 _ (K37 _ ?_))))))))))))))))))))))))))))))))))))))))))))))))))))))))))))))))))
    exact retN X29 hx (t := .boolean) Bd.returns (by simp) (hb hby at_245) hr
  · exact ⟨rfl, N29⟩
set_option maxRecDepth 65536 in
set_option maxHeartbeats 40000000 in
theorem comes_1 {Post : Tables → Env → Array Value → State → Outcome → State → Prop} (hpost : ∀ tb e args s v u, (limb_1_1.after args s (.returned v) u = true ∧ limb_1_2.after args s (.returned v) u = true ∧ True) → FrameEnd s (.returned v) u (Jvm.fieldLocs frame_1_writes args s ++ Jvm.arrayLocs frame_1_arrays args s ++ Jvm.staticLocs frame_1_statics s) 16 128 → Post tb e args s (.returned v) u) :
    ArmFor flags0 classFile x code maxLocals ret World_1 tables_1 room_1 Calls_1 rest_1 Pre_1 Post := by
  intro l hfl _ _ p e ha hc hk s m args below hf hA hF happ hP
  obtain ⟨hcalls, hrest, hpre⟩ := hP
  obtain ⟨-, -, -, hnamed, -, -, -, hat⟩ := (Spec.applies_iff hf).mp happ
  obtain ⟨hg, hn⟩ := and_e (Cond.before_iff.mp (show (Jvm.Cond.and given_1 narrow_1).before args s = true from hpre))
  obtain ⟨g0, r0⟩ := and_e hg
  obtain ⟨g1, r1⟩ := and_e r0
  obtain ⟨g2, r2⟩ := and_e r1
  obtain ⟨g3, r3⟩ := and_e r2
  obtain ⟨w0, w1, w2, w3, rfl⟩ : ∃ w0 w1 w2 w3 : Value, args = #[w0, w1, w2, w3] := by
    have hs : args.size = 4 := by simpa [Cond.value, given_1] using g0
    obtain ⟨L⟩ := args
    match L, hs with
    | [w0, w1, w2, w3], _ => exact ⟨w0, w1, w2, w3, rfl⟩
  have hw := fun d (hd : d ∈ tables_1) => atoms_spec (ws := Jvm.Cond.code x code maxLocals ret :: tables_1) hat d (List.mem_cons_of_mem _ hd)
  obtain ⟨i0, ei0⟩ := is_v g1
  obtain rfl : w0 = (.int i0) := Option.some.inj ei0
  obtain ⟨i1, ei1⟩ := is_v g2
  obtain rfl : w1 = (.int i1) := Option.some.inj ei1
  obtain ⟨i2, ei2⟩ := is_v g3
  obtain rfl : w2 = (.int i2) := Option.some.inj ei2
  obtain ⟨i3, ei3⟩ := is_v r3
  obtain rfl : w3 = (.int i3) := Option.some.inj ei3
  obtain ⟨n, o, h1, h2, h3, _, L, rfl, ⟨rfl, N⟩, hq⟩ := rm0 l s _ hw tables_1 i0 i1 i2 i3 s.heap s.heap.size (Nat.le_refl _) p e ha hc hk s m _ below hf ((Spec.applies_iff_loose hf).mp happ).1 ⟨rfl, State.Warmed39.refl s, rfl⟩ trivial
  refine ⟨n, _, h1, h2, h3, hpost _ _ _ _ _ _ ⟨Cond.after_iff.mpr rfl, Cond.after_iff.mpr (eq_i res_at (Term.int_eval (1)) rfl), trivial⟩ ⟨hq.1, hq.2.1, (hq.2.2.sift fun y hy => Or.inr (N y hy)).mono (by decide) (by decide)⟩⟩
theorem main_1_1 : Claimed_1_1 := comes_1 fun _ _ _ _ _ _ h hF => ⟨h.1, hF⟩
theorem main_1_2 : Claimed_1_2 := comes_1 fun _ _ _ _ _ _ h hF => ⟨h.2.1, hF⟩
end Jvm.Pilot.@@N@@
namespace Jvm.Pilot.@@N@@
open Jvm Jvm.ClassFile Sem Op Lib Jvm.Free Jvm.Stand Jvm.Pilot.@@N@@.Jvm.D
/-! MADE BY PROGRAM (witnessworld.py) out of the Statement's table words and the real class files: 9 classes; the members and pool entries that the words name. The judged class is class 1, her method 2. -/
namespace start1
open Jvm.ClassFile
def u (s : String) : CpInfo := .utf8 (stringToUtf16 s)
/-- a pool by its gaps: so many unusable entries, then the entry; so many at the end -/
def gap : Nat → List CpInfo → List CpInfo
  | 0, r => r
  | n + 1, r => .unusable :: gap n r
def poolList (es : List (Nat × CpInfo)) (last : Nat) : List CpInfo := es.foldr (fun e r => gap e.1 (e.2 :: r)) (gap last [])
def pool (es : List (Nat × CpInfo)) (last : Nat) : Array CpInfo := ⟨poolList es last⟩
def fileOf (pool : Array CpInfo) (this : Nat) (attrs : Array Attribute := #[]) (ms : Array MethodInfo := #[]) (fl : Nat := 33) (sup : Nat := 0) (ifs : Array Nat := #[]) (fds : Array FieldInfo := #[]) : ClassFile where
  minorVersion := 0
  majorVersion := 65
  constantPool := pool
  accessFlags := fl
  thisClass := this
  superClass := sup
  interfaces := ifs
  fields := fds
  methods := ms
  attributes := attrs
def plain (name : String) (sup : Option ClassId) : Class where
  name := name
  kind := .ordinary
  loader := none
  accessFlags := 33
  super := sup
  interfaces := #[]
  cf := none
  fields := #[]
  methods := #[]
  instanceTypes := #[]
  staticTypes := #[]
  resolved := #[]
  callSites := []
  init := .initialized
  statics := none
  mirror := none

def pool0 : Array CpInfo := pool [(5, u "<init>"), (0, u "()V"), (1, .class_ 10), (1, u "java/lang/Object")] 113

def k0m0 : Method := { name := "<init>", desc := "()V", sig := { parameters := [], returnType := none }, accessFlags := 1, code := none }
/-- java/lang/Object -/
def k0 : Class := { plain "java/lang/Object" none with
  accessFlags := 33
  interfaces := #[]
  cf := some (fileOf pool0 8 #[] #[{ accessFlags := 1, nameIndex := 5, descriptorIndex := 6, attributes := #[] }] 33 0 #[] #[])
  fields := #[]
  methods := #[k0m0]
  instanceTypes := #[]
  staticTypes := #[]
  resolved := Array.replicate 124 none
  statics := none }

def pool1 : Array CpInfo := pool [(2, .class_ 4), (1, u "java/lang/Object"), (0, u "<init>"), (0, u "()V"), (0, .integer 1114111), (0, .integer 55296), (0, .integer 57343), (0, .integer 65534), (0, .integer 65535), (0, .integer 55295), (0, .integer 57344), (0, .integer 65533), (0, .integer 65536), (0, .integer 1114112), (2, .integer 2147483648), (0, .integer 2147483647), (0, .integer 2097151), (0, .methodref 23 24), (0, .class_ 25), (0, .nameAndType 26 27), (0, u "transept/model/XmlChars"), (0, u "isChar"), (0, u "(I)Z"), (0, .methodref 29 30), (0, .class_ 31), (0, .nameAndType 32 27), (0, u "transept/model/XmlCharsIsCharPinLaw"), (0, u "ref"), (3, u "law"), (0, u "(IIII)Z")] 4

def k1m0 : Method := { name := "<init>", desc := "()V", sig := { parameters := [], returnType := none }, accessFlags := 2, code := none }
def k1c1 : Code := { maxStack := 2, maxLocals := 1, code := method_2_code, exceptionTable := #[], attributes := #[] }
def k1m1 : Method := { name := "ref", desc := "(I)Z", sig := { parameters := [.int], returnType := some .boolean }, accessFlags := 10, code := some k1c1 }
def k1c2 : Code := { maxStack := 4, maxLocals := 12, code := code, exceptionTable := #[], attributes := #[] }
def k1m2 : Method := { name := "law", desc := "(IIII)Z", sig := { parameters := [.int, .int, .int, .int], returnType := some .boolean }, accessFlags := 9, code := some k1c2 }
/-- transept/model/XmlCharsIsCharPinLaw -/
def k1 : Class := { plain "transept/model/XmlCharsIsCharPinLaw" (some 0) with
  accessFlags := 49
  interfaces := #[]
  cf := some (fileOf pool1 29 #[] #[{ accessFlags := 2, nameIndex := 5, descriptorIndex := 6, attributes := #[] }, { accessFlags := 10, nameIndex := 32, descriptorIndex := 27, attributes := #[] }, { accessFlags := 9, nameIndex := 36, descriptorIndex := 37, attributes := #[] }] 49 2 #[] #[])
  fields := #[]
  methods := #[k1m0, k1m1, k1m2]
  instanceTypes := #[]
  staticTypes := #[]
  resolved := Array.replicate 42 none
  statics := none }

def pool2 : Array CpInfo := pool [(2, .class_ 4), (1, u "java/lang/Object"), (0, u "<init>"), (0, u "()V"), (30, .integer 55295), (0, .integer 57344), (0, .integer 65533), (0, .integer 65536), (0, .integer 1114111), (24, .class_ 68), (1, u "transept/model/XmlChars"), (1, u "(I)Z"), (64, u "isChar")] 30

def k2m0 : Method := { name := "<init>", desc := "()V", sig := { parameters := [], returnType := none }, accessFlags := 2, code := none }
def k2c1 : Code := { maxStack := 2, maxLocals := 1, code := prog_132_method_4_code, exceptionTable := #[], attributes := #[] }
def k2m1 : Method := { name := "isChar", desc := "(I)Z", sig := { parameters := [.int], returnType := some .boolean }, accessFlags := 9, code := some k2c1 }
/-- transept/model/XmlChars -/
def k2 : Class := { plain "transept/model/XmlChars" (some 0) with
  accessFlags := 49
  interfaces := #[]
  cf := some (fileOf pool2 66 #[] #[{ accessFlags := 2, nameIndex := 5, descriptorIndex := 6, attributes := #[] }, { accessFlags := 9, nameIndex := 135, descriptorIndex := 70, attributes := #[] }] 49 2 #[] #[])
  fields := #[]
  methods := #[k2m0, k2m1]
  instanceTypes := #[]
  staticTypes := #[]
  resolved := Array.replicate 166 none
  statics := none }

def pool3 : Array CpInfo := pool [(1, u "java/lang/Cloneable"), (0, .class_ 1), (0, u "java/lang/Object"), (0, .class_ 3)] 3

/-- java/lang/Cloneable -/
def k3 : Class := { plain "java/lang/Cloneable" (some 0) with
  accessFlags := 1537
  interfaces := #[]
  cf := some (fileOf pool3 2 #[] #[] 1537 4 #[] #[])
  fields := #[]
  methods := #[]
  instanceTypes := #[]
  staticTypes := #[]
  resolved := Array.replicate 8 none
  statics := none }

def pool4 : Array CpInfo := pool [(1, u "java/io/Serializable"), (0, .class_ 1), (0, u "java/lang/Object"), (0, .class_ 3)] 3

/-- java/io/Serializable -/
def k4 : Class := { plain "java/io/Serializable" (some 0) with
  accessFlags := 1537
  interfaces := #[]
  cf := some (fileOf pool4 2 #[] #[] 1537 4 #[] #[])
  fields := #[]
  methods := #[]
  instanceTypes := #[]
  staticTypes := #[]
  resolved := Array.replicate 8 none
  statics := none }

/-- the primitive byte -/
def k5 : Class := { plain "byte" none with kind := .primitive 'B', accessFlags := 0x411 }
/-- [B -/
def k6 : Class := { plain "[B" (some 0) with kind := .array 5 .byte, interfaces := #[3, 4], accessFlags := 1041 }

/-- the primitive int -/
def k7 : Class := { plain "int" none with kind := .primitive 'I', accessFlags := 0x411 }
/-- [I -/
def k8 : Class := { plain "[I" (some 0) with kind := .array 7 .int, interfaces := #[3, 4], accessFlags := 1041 }

def heap : Heap := #[]
def classes : Array Class := #[k0, k1, k2, k3, k4, k5, k6, k7, k8]
def interned : List (Array UInt16 × Addr) := []
def slotsUsed : Nat := 0
def theMethod : MethodId := ⟨1, 2⟩
def args0 : Array Value := #[.int 65, .int 300, .int 7, .int 3]
def aboutOver (below : List Frame) : State where
  vm := { classes := classes, interned := interned.toArray }
  heap := heap
  slotsUsed := slotsUsed
  threads := #[{ frames := .invoking theMethod args0 :: below }]
def below0 : List Frame := [.native { method := ⟨0, 0⟩, args := #[] }]
def about1 : State := aboutOver below0
def p0 : Program := .bare "" "" ""
def e0 : Env := launch0.env 0 0 0
theorem w_frames : about1.frames = Frame.invoking theMethod args0 :: below0 := rfl
set_option maxRecDepth 65536 in
theorem w_args : argsFit about1.vm theMethod args0 = true := by decide +kernel
set_option maxRecDepth 65536 in
theorem w_heap : heapFits about1 = true := by decide +kernel
set_option maxRecDepth 65536 in
theorem w_runnable : about1.curStatus? = some .runnable := by decide +kernel
set_option maxRecDepth 65536 in
theorem w_alone : about1.alone = true := by decide +kernel
set_option maxRecDepth 65536 in
theorem w_named : about1.methodNamed? x = some theMethod := by decide +kernel
set_option maxRecDepth 65536 in
theorem w_hears : about1.hears theMethod below0 = true := by decide +kernel
set_option maxRecDepth 65536 in
theorem w_ripe : about1.ripe theMethod args0 below0 = true := by decide +kernel
theorem w_running : about1.status = .running := rfl
set_option maxRecDepth 65536 in
theorem w_room : about1.hasRoom e0.platform room_1 = true :=
  launch0.hasRoom_least _ room_1 (by decide +kernel) (by decide +kernel) (by decide +kernel) (by decide +kernel) (by decide +kernel) (by decide +kernel)
theorem allAtoms_all (ts : List Jvm.Cond) (a : Array Jvm.Value) (st : Jvm.State) : (allAtoms ts).before a st = ts.all (fun c => c.before a st) := by
  induction ts with
  | nil => rfl
  | cons c t ih =>
    show (Jvm.Cond.and c (allAtoms t)).before a st = _
    rw [Jvm.Cond.before_and, ih, List.all_cons]
def words1 : List Jvm.Cond := Jvm.Cond.code x code maxLocals ret :: tables_1
/-- a 'code' word, met by the world's own term for the bytes: nothing is compared byte by byte -/
theorem code_word {y : MethodName} {bytes : ByteArray} {mx : Nat} {rt : Option FieldType} {a : Array Value} {s : State} {m : MethodId} {meth : Method} {c : Code} (h1 : s.methodNamed? y = some m) (h2 : s.vm.method? m = some meth) (h3 : meth.code = some c) (h4 : c.code = bytes)
    (h5 : (c.maxLocals == mx && c.exceptionTable.isEmpty && decide (c.maxStack ≤ mostOperands) && decide (meth.sig.returnType = rt) && !meth.locks && decide (parseMethodDescriptor y.desc = some meth.sig)) = true) : (Jvm.Cond.code y bytes mx rt).before a s = true := by
  simp only [Bool.and_eq_true, beq_iff_eq, Bool.not_eq_true', decide_eq_true_eq] at h5
  obtain ⟨⟨⟨⟨⟨g1, g2⟩, g3⟩, g4⟩, g5⟩, g6⟩ := h5
  simp [Cond.before, Cond.holds, Cond.value, h1, h2, h3, h4, g1, g2, g3, g4, g5, g6]
def isCode : Jvm.Cond → Bool
  | .code _ _ _ _ => true
  | _ => false
theorem all_split {L : List Jvm.Cond} {P : Jvm.Cond → Bool} (h1 : L.all (fun c => isCode c || P c) = true) (h2 : ∀ c ∈ L.filter isCode, P c = true) : L.all P = true := by
  refine List.all_eq_true.mpr fun c hc => ?_
  have h := List.all_eq_true.mp h1 c hc
  rcases Bool.eq_false_or_eq_true (isCode c) with hi | hi
  · exact h2 c (List.mem_filter.mpr ⟨hc, hi⟩)
  · simpa [hi] using h
set_option maxRecDepth 65536 in
theorem w_c0 : (Jvm.Cond.code x code maxLocals ret).before args0 about1 = true := code_word (m := ⟨1, 2⟩) (meth := k1m2) (c := k1c2) (by decide +kernel) rfl rfl rfl (by decide +kernel)
set_option maxRecDepth 65536 in
theorem w_c1 : (Jvm.Cond.code ({ cls := "transept/model/XmlChars", name := "isChar", desc := "(I)Z" } : Jvm.MethodName) prog_132_method_4_code (1 : Nat) (Option.some Jvm.ClassFile.FieldType.boolean)).before args0 about1 = true := code_word (m := ⟨2, 1⟩) (meth := k2m1) (c := k2c1) (by decide +kernel) rfl rfl rfl (by decide +kernel)
set_option maxRecDepth 65536 in
theorem w_c2 : (Jvm.Cond.code ({ cls := "transept/model/XmlCharsIsCharPinLaw", name := "ref", desc := "(I)Z" } : Jvm.MethodName) method_2_code (1 : Nat) (Option.some Jvm.ClassFile.FieldType.boolean)).before args0 about1 = true := code_word (m := ⟨1, 1⟩) (meth := k1m1) (c := k1c1) (by decide +kernel) rfl rfl rfl (by decide +kernel)
def codes1 : List Jvm.Cond := [Jvm.Cond.code x code maxLocals ret, Jvm.Cond.code ({ cls := "transept/model/XmlChars", name := "isChar", desc := "(I)Z" } : Jvm.MethodName) prog_132_method_4_code (1 : Nat) (Option.some Jvm.ClassFile.FieldType.boolean), Jvm.Cond.code ({ cls := "transept/model/XmlCharsIsCharPinLaw", name := "ref", desc := "(I)Z" } : Jvm.MethodName) method_2_code (1 : Nat) (Option.some Jvm.ClassFile.FieldType.boolean)]
set_option maxRecDepth 65536 in
theorem codes_eq : words1.filter isCode = codes1 := rfl
theorem w_codes : ∀ c ∈ words1.filter isCode, c.before args0 about1 = true := by
  rw [codes_eq]
  intro c hc
  simp only [codes1, List.mem_cons, List.not_mem_nil, or_false] at hc
  rcases hc with rfl | rfl | rfl
  · exact w_c0
  · exact w_c1
  · exact w_c2
set_option maxRecDepth 65536 in
theorem w_t1 : (words1.take 24).all (fun c => isCode c || c.before args0 about1) = true := by decide +kernel
set_option maxRecDepth 65536 in
theorem w_t2 : (words1.drop 24).all (fun c => isCode c || c.before args0 about1) = true := by decide +kernel
theorem w_tables : (allAtoms (Jvm.Cond.code x code maxLocals ret :: tables_1)).before args0 about1 = true := by
  rw [allAtoms_all]
  show words1.all (fun c => c.before args0 about1) = true
  refine all_split ?_ w_codes
  rw [← List.take_append_drop 24 words1, List.all_append, w_t1, w_t2]
  rfl
set_option maxRecDepth 65536 in
theorem w_case : (Jvm.Cond.and given_1 narrow_1).before args0 about1 = true := by decide +kernel
theorem w_applies : (headSpec (Jvm.Cond.code x code maxLocals ret :: tables_1) room_1).applies x e0.platform about1 = true :=
  (Spec.applies_iff w_frames).mpr ⟨w_running, w_runnable, w_alone, w_named, w_hears, w_ripe, w_room, w_tables⟩
theorem atStart : AtStart classFile x code maxLocals ret World_1 tables_1 room_1 Calls_1 rest_1 Pre_1 launch0 p0 e0 about1 theMethod args0 below0 :=
  ⟨lists_1, trivial, launch0.admits_env _ _ _, launch0.least_env, fairChoices_fair.cas, fairChoices_fair.clock, w_frames, w_args, w_heap, w_applies, trivial, trivial, w_case⟩
end start1
theorem witness_1 : WitnessClaimed_1 := ⟨start1.p0, start1.e0, start1.about1, start1.theMethod, start1.args0, start1.below0, start1.atStart⟩
end Jvm.Pilot.@@N@@
