import JvmDerived
import JvmDerived.Pilot.@@N@@Statement
import JvmDerived.Pilot.@@N@@Code
set_option linter.unusedVariables false
set_option linter.unusedSimpArgs false
@@BLOCK:NumsL.lean.txt@@
namespace Jvm.RoadKit
open Sem ClassFile Op Lib Jvm.Stand Jvm.Free Jvm.LawKit
section New
variable {p : Program} {l : Launch} {e : Env} {R : Room} {s : State} {m : MethodId} {args : Array Value} {below : List Frame} {meth : Method} {c : Code} {T : State} {locs : List Loc} {cells slots : Nat}
theorem retI (X : Stand p l e R s m args below meth c T locs cells slots) (hx : p.tables.exec = Jvm.exec) {pc : Nat} {Ls : Array Slot} {z : Int32} {rest : List Value} (hret : meth.sig.returnType = some .int) (hd : decode c.code pc = .ok (.ireturn, 1)) {fs : List Frame}
    (hl : ∀ (f : JFrame) (acts : List Action), f.method = m → f.locked = none → f.entered = [] → (doReturn e (T.setTop f) acts (some (.int z))).1 = T.setFrames fs) : Steps p.tables e below (T.setTop (mkF m pc Ls (.int z :: rest))) (T.setFrames fs) := by
  have hm' : T.vm.method? m = some meth := X.method'
  have hn : narrow .int (.int z) = .int z := rfl
  show Steps p.tables e below (T.setTop { method := m, pc := pc, locals := Ls, stack := _ :: rest, locked := none }) _
  jvm_step X.here [X.here.top, hx, hd, hm', hret, hn]
  first | (intro acts; rw [hl _ acts rfl rfl rfl]) | rw [hl _ _ rfl rfl rfl]
  exact Steps.refl _
end New
end Jvm.RoadKit
namespace Jvm.Pilot.@@N@@
open Jvm Jvm.ClassFile Sem Op Lib Jvm.Free Jvm.Stand Jvm.LawKit Jvm.RoadKit Bundle Jvm.Pilot.@@N@@.Jvm.D
section Own
variable {p : Program} {l : Launch} {e : Env} {R : Room} {s : State} {m : MethodId} {args : Array Value} {below : List Frame} {meth : Method} {c : Code} {T : State} {locs : List Loc} {cells slots : Nat} {Z : State}
/-- an int[] of length z at b, new since the start; only new cells were written -/
def own_St (Z : State) (n0 : Nat) (h : Heap) (L : List Loc) (b : Addr) (z : Int32) : Prop :=
  Fr n0 L ∧ n0 ≤ b ∧ n0 ≤ h.size ∧ ∃ (k : ClassId) (vs : List Value), Arv Z h b k .int z vs (.int (0 : Int32)) ∧ vs.length = z.toNatClampNeg
theorem own_store (X : Stand p l e R s m args below meth c T locs cells slots) (hx : p.tables.exec = Jvm.exec) (hZ : Z.Warmed39 s.vm) {n0 : Nat} {b : Addr} {z : Int32} (I : own_St Z n0 T.heap locs b z) {j x : Int32} (hj : ¬ j < 0 ∧ j < z) {g : JFrame} (hg : g.method = m) {rest : List Value} (hs : g.stack = .int x :: .int j :: .ref b :: rest) (hd : decode c.code g.pc = .ok (.iastore, 1)) :
    ∃ T' L', Stand p l e R s m args below meth c T' L' cells slots ∧ own_St Z n0 T'.heap L' b z ∧ ∀ target, Steps p.tables e below (T'.setTop { g with pc := g.pc + 1, stack := rest }) target → Steps p.tables e below (T.setTop g) target := by
  obtain ⟨N, hb, hz, k, vs, ⟨cl, A, q, S, Nn, H, G⟩, hl⟩ := I
  have hin : ¬ (j < 0 ∨ cl.slots.size ≤ j.toNatClampNeg) := inb_of S hj
  obtain ⟨T', h', X', e', W, st⟩ := stI X hx hZ rfl A (j := j) hin hg hs hd
  have lt : j.toNatClampNeg < vs.length := by rw [hl, ← S]; exact Nat.lt_of_not_le fun q => hin (Or.inr q)
  have V := Arv.set A q S Nn H G rfl W j.toNatClampNeg rfl lt
  refine ⟨T', _, X', ⟨Fr.snoc X' N hb, hb, ?_, k, vs.set j.toNatClampNeg (.int x), ?_, ?_⟩, st⟩
  · rw [e', W.size]; exact hz
  · rw [e']; exact V
  · rw [List.length_set]; exact hl
theorem own_len (X : Stand p l e R s m args below meth c T locs cells slots) (hx : p.tables.exec = Jvm.exec) (hZ : Z.Warmed39 s.vm) {n0 : Nat} {b : Addr} {z : Int32} (I : own_St Z n0 T.heap locs b z) {g : JFrame} (hg : g.method = m) {rest : List Value} (hs : g.stack = .ref b :: rest) (hd : decode c.code g.pc = .ok (.arraylength, 1)) (target : State)
    (hr : Steps p.tables e below (T.setTop { g with pc := g.pc + 1, stack := .int z :: rest }) target) : Steps p.tables e below (T.setTop g) target := by
  obtain ⟨N, hb, hz, k, vs, ⟨cl, A, q, S, Nn, H, G⟩, hl⟩ := I
  have ez : cl.slots.size.toInt32 = z := by rw [S]; exact (back32 Nn).1
  exact X.arraylength hx A.1 (State.isArrayOf_alike hZ.alike A.2.1) hg hs hd target (by rw [ez]; exact hr)
theorem own_at (X : Stand p l e R s m args below meth c T locs cells slots) (hx : p.tables.exec = Jvm.exec) (hZ : Z.Warmed39 s.vm) {n0 : Nat} {b : Addr} {z : Int32} (I : own_St Z n0 T.heap locs b z) {j : Int32} (hj : ¬ j < 0 ∧ j < z) :
    ∃ w : Int32, ∀ {g : JFrame} (hg : g.method = m) {rest : List Value} (hs : g.stack = .int j :: .ref b :: rest) (hd : decode c.code g.pc = .ok (.iaload, 1)) (target : State), Steps p.tables e below (T.setTop { g with pc := g.pc + 1, stack := .int w :: rest }) target → Steps p.tables e below (T.setTop g) target := by
  obtain ⟨N, hb, hz, k, vs, ⟨cl, A, q, S, Nn, H, G⟩, hl⟩ := I
  have hin : ¬ (j < 0 ∨ cl.slots.size ≤ j.toNatClampNeg) := inb_of S hj
  have lt : j.toNatClampNeg < cl.slots.size := Nat.lt_of_not_le fun q => hin (Or.inr q)
  have f := G _ lt
  have at1 := H _ lt
  generalize vs.getD j.toNatClampNeg (.int (0 : Int32)) = v at f at1
  obtain ⟨w, rfl⟩ : ∃ w : Int32, v = .int w := by cases v <;> simp [fits] at f; exact ⟨_, rfl⟩
  exact ⟨w, fun hg _ hs hd target hr => X.iaload hx A.1 (State.isArrayOf_alike hZ.alike A.2.1) A.2.2 hin at1 hg hs hd target hr⟩
end Own
theorem d1_0 : decode method_2_code 0 = .ok (.iload_n 0, 1) := by decide +kernel
theorem d1_1 : decode method_2_code 1 = .ok (.bipush 65, 2) := by decide +kernel
theorem d1_3 : decode method_2_code 3 = .ok (.if_icmp .ge 5, 3) := by decide +kernel
theorem d1_6 : decode method_2_code 6 = .ok (.iconst 1, 1) := by decide +kernel
theorem d1_7 : decode method_2_code 7 = .ok (.ireturn, 1) := by decide +kernel
theorem d1_8 : decode method_2_code 8 = .ok (.iload_n 0, 1) := by decide +kernel
theorem d1_9 : decode method_2_code 9 = .ok (.bipush 91, 2) := by decide +kernel
theorem d1_11 : decode method_2_code 11 = .ok (.if_icmp .lt 11, 3) := by decide +kernel
theorem d1_14 : decode method_2_code 14 = .ok (.iload_n 0, 1) := by decide +kernel
theorem d1_15 : decode method_2_code 15 = .ok (.bipush 94, 2) := by decide +kernel
theorem d1_17 : decode method_2_code 17 = .ok (.if_icmp .gt 5, 3) := by decide +kernel
theorem d1_20 : decode method_2_code 20 = .ok (.iconst 1, 1) := by decide +kernel
theorem d1_21 : decode method_2_code 21 = .ok (.ireturn, 1) := by decide +kernel
theorem d1_22 : decode method_2_code 22 = .ok (.iload_n 0, 1) := by decide +kernel
theorem d1_23 : decode method_2_code 23 = .ok (.bipush 96, 2) := by decide +kernel
theorem d1_25 : decode method_2_code 25 = .ok (.if_icmp .ne 5, 3) := by decide +kernel
theorem d1_28 : decode method_2_code 28 = .ok (.iconst 1, 1) := by decide +kernel
theorem d1_29 : decode method_2_code 29 = .ok (.ireturn, 1) := by decide +kernel
theorem d1_30 : decode method_2_code 30 = .ok (.iload_n 0, 1) := by decide +kernel
theorem d1_31 : decode method_2_code 31 = .ok (.bipush 123, 2) := by decide +kernel
theorem d1_33 : decode method_2_code 33 = .ok (.if_icmp .lt 12, 3) := by decide +kernel
theorem d1_36 : decode method_2_code 36 = .ok (.iload_n 0, 1) := by decide +kernel
theorem d1_37 : decode method_2_code 37 = .ok (.sipush 191, 3) := by decide +kernel
theorem d1_40 : decode method_2_code 40 = .ok (.if_icmp .gt 5, 3) := by decide +kernel
theorem d1_43 : decode method_2_code 43 = .ok (.iconst 1, 1) := by decide +kernel
theorem d1_44 : decode method_2_code 44 = .ok (.ireturn, 1) := by decide +kernel
theorem d1_45 : decode method_2_code 45 = .ok (.iload_n 0, 1) := by decide +kernel
theorem d1_46 : decode method_2_code 46 = .ok (.sipush 215, 3) := by decide +kernel
theorem d1_49 : decode method_2_code 49 = .ok (.if_icmp .ne 5, 3) := by decide +kernel
theorem d1_52 : decode method_2_code 52 = .ok (.iconst 1, 1) := by decide +kernel
theorem d1_53 : decode method_2_code 53 = .ok (.ireturn, 1) := by decide +kernel
theorem d1_54 : decode method_2_code 54 = .ok (.iload_n 0, 1) := by decide +kernel
theorem d1_55 : decode method_2_code 55 = .ok (.sipush 247, 3) := by decide +kernel
theorem d1_58 : decode method_2_code 58 = .ok (.if_icmp .ne 5, 3) := by decide +kernel
theorem d1_61 : decode method_2_code 61 = .ok (.iconst 1, 1) := by decide +kernel
theorem d1_62 : decode method_2_code 62 = .ok (.ireturn, 1) := by decide +kernel
theorem d1_63 : decode method_2_code 63 = .ok (.iload_n 0, 1) := by decide +kernel
theorem d1_64 : decode method_2_code 64 = .ok (.sipush 768, 3) := by decide +kernel
theorem d1_67 : decode method_2_code 67 = .ok (.if_icmp .lt 12, 3) := by decide +kernel
theorem d1_70 : decode method_2_code 70 = .ok (.iload_n 0, 1) := by decide +kernel
theorem d1_71 : decode method_2_code 71 = .ok (.sipush 879, 3) := by decide +kernel
theorem d1_74 : decode method_2_code 74 = .ok (.if_icmp .gt 5, 3) := by decide +kernel
theorem d1_77 : decode method_2_code 77 = .ok (.iconst 1, 1) := by decide +kernel
theorem d1_78 : decode method_2_code 78 = .ok (.ireturn, 1) := by decide +kernel
theorem d1_79 : decode method_2_code 79 = .ok (.iload_n 0, 1) := by decide +kernel
theorem d1_80 : decode method_2_code 80 = .ok (.sipush 894, 3) := by decide +kernel
theorem d1_83 : decode method_2_code 83 = .ok (.if_icmp .ne 5, 3) := by decide +kernel
theorem d1_86 : decode method_2_code 86 = .ok (.iconst 1, 1) := by decide +kernel
theorem d1_87 : decode method_2_code 87 = .ok (.ireturn, 1) := by decide +kernel
theorem d1_88 : decode method_2_code 88 = .ok (.iload_n 0, 1) := by decide +kernel
theorem d1_89 : decode method_2_code 89 = .ok (.sipush 8192, 3) := by decide +kernel
theorem d1_92 : decode method_2_code 92 = .ok (.if_icmp .lt 12, 3) := by decide +kernel
theorem d1_95 : decode method_2_code 95 = .ok (.iload_n 0, 1) := by decide +kernel
theorem d1_96 : decode method_2_code 96 = .ok (.sipush 8203, 3) := by decide +kernel
theorem d1_99 : decode method_2_code 99 = .ok (.if_icmp .gt 5, 3) := by decide +kernel
theorem d1_102 : decode method_2_code 102 = .ok (.iconst 1, 1) := by decide +kernel
theorem d1_103 : decode method_2_code 103 = .ok (.ireturn, 1) := by decide +kernel
theorem d1_104 : decode method_2_code 104 = .ok (.iload_n 0, 1) := by decide +kernel
theorem d1_105 : decode method_2_code 105 = .ok (.sipush 8206, 3) := by decide +kernel
theorem d1_108 : decode method_2_code 108 = .ok (.if_icmp .lt 12, 3) := by decide +kernel
theorem d1_111 : decode method_2_code 111 = .ok (.iload_n 0, 1) := by decide +kernel
theorem d1_112 : decode method_2_code 112 = .ok (.sipush 8303, 3) := by decide +kernel
theorem d1_115 : decode method_2_code 115 = .ok (.if_icmp .gt 5, 3) := by decide +kernel
theorem d1_118 : decode method_2_code 118 = .ok (.iconst 1, 1) := by decide +kernel
theorem d1_119 : decode method_2_code 119 = .ok (.ireturn, 1) := by decide +kernel
theorem d1_120 : decode method_2_code 120 = .ok (.iload_n 0, 1) := by decide +kernel
theorem d1_121 : decode method_2_code 121 = .ok (.sipush 8592, 3) := by decide +kernel
theorem d1_124 : decode method_2_code 124 = .ok (.if_icmp .lt 12, 3) := by decide +kernel
theorem d1_127 : decode method_2_code 127 = .ok (.iload_n 0, 1) := by decide +kernel
theorem d1_128 : decode method_2_code 128 = .ok (.sipush 11263, 3) := by decide +kernel
theorem d1_131 : decode method_2_code 131 = .ok (.if_icmp .gt 5, 3) := by decide +kernel
theorem d1_134 : decode method_2_code 134 = .ok (.iconst 1, 1) := by decide +kernel
theorem d1_135 : decode method_2_code 135 = .ok (.ireturn, 1) := by decide +kernel
theorem d1_136 : decode method_2_code 136 = .ok (.iload_n 0, 1) := by decide +kernel
theorem d1_137 : decode method_2_code 137 = .ok (.sipush 12272, 3) := by decide +kernel
theorem d1_140 : decode method_2_code 140 = .ok (.if_icmp .lt 12, 3) := by decide +kernel
theorem d1_143 : decode method_2_code 143 = .ok (.iload_n 0, 1) := by decide +kernel
theorem d1_144 : decode method_2_code 144 = .ok (.sipush 12288, 3) := by decide +kernel
theorem d1_147 : decode method_2_code 147 = .ok (.if_icmp .gt 5, 3) := by decide +kernel
theorem d1_150 : decode method_2_code 150 = .ok (.iconst 1, 1) := by decide +kernel
theorem d1_151 : decode method_2_code 151 = .ok (.ireturn, 1) := by decide +kernel
theorem d1_152 : decode method_2_code 152 = .ok (.iload_n 0, 1) := by decide +kernel
theorem d1_153 : decode method_2_code 153 = .ok (.ldc 7, 2) := by decide +kernel
theorem d1_155 : decode method_2_code 155 = .ok (.if_icmp .lt 11, 3) := by decide +kernel
theorem d1_158 : decode method_2_code 158 = .ok (.iload_n 0, 1) := by decide +kernel
theorem d1_159 : decode method_2_code 159 = .ok (.ldc 8, 2) := by decide +kernel
theorem d1_161 : decode method_2_code 161 = .ok (.if_icmp .gt 5, 3) := by decide +kernel
theorem d1_164 : decode method_2_code 164 = .ok (.iconst 1, 1) := by decide +kernel
theorem d1_165 : decode method_2_code 165 = .ok (.ireturn, 1) := by decide +kernel
theorem d1_166 : decode method_2_code 166 = .ok (.iload_n 0, 1) := by decide +kernel
theorem d1_167 : decode method_2_code 167 = .ok (.ldc 9, 2) := by decide +kernel
theorem d1_169 : decode method_2_code 169 = .ok (.if_icmp .lt 11, 3) := by decide +kernel
theorem d1_172 : decode method_2_code 172 = .ok (.iload_n 0, 1) := by decide +kernel
theorem d1_173 : decode method_2_code 173 = .ok (.ldc 10, 2) := by decide +kernel
theorem d1_175 : decode method_2_code 175 = .ok (.if_icmp .gt 5, 3) := by decide +kernel
theorem d1_178 : decode method_2_code 178 = .ok (.iconst 1, 1) := by decide +kernel
theorem d1_179 : decode method_2_code 179 = .ok (.ireturn, 1) := by decide +kernel
theorem d1_180 : decode method_2_code 180 = .ok (.iload_n 0, 1) := by decide +kernel
theorem d1_181 : decode method_2_code 181 = .ok (.ldc 11, 2) := by decide +kernel
theorem d1_183 : decode method_2_code 183 = .ok (.if_icmp .lt 11, 3) := by decide +kernel
theorem d1_186 : decode method_2_code 186 = .ok (.iload_n 0, 1) := by decide +kernel
theorem d1_187 : decode method_2_code 187 = .ok (.ldc 12, 2) := by decide +kernel
theorem d1_189 : decode method_2_code 189 = .ok (.if_icmp .gt 5, 3) := by decide +kernel
theorem d1_192 : decode method_2_code 192 = .ok (.iconst 1, 1) := by decide +kernel
theorem d1_193 : decode method_2_code 193 = .ok (.ireturn, 1) := by decide +kernel
theorem d1_194 : decode method_2_code 194 = .ok (.iload_n 0, 1) := by decide +kernel
theorem d1_195 : decode method_2_code 195 = .ok (.ldc 13, 2) := by decide +kernel
theorem d1_197 : decode method_2_code 197 = .ok (.if_icmp .le 5, 3) := by decide +kernel
theorem d1_200 : decode method_2_code 200 = .ok (.iconst 1, 1) := by decide +kernel
theorem d1_201 : decode method_2_code 201 = .ok (.ireturn, 1) := by decide +kernel
theorem d1_202 : decode method_2_code 202 = .ok (.iconst 0, 1) := by decide +kernel
theorem d1_203 : decode method_2_code 203 = .ok (.ireturn, 1) := by decide +kernel
theorem pn_1 : plainName "transept/model/XmlCharsIsNameStartCharPinLaw" = true := by first | (simp [plainName, overriddenIn]; done) | decide +kernel
theorem ef_1 (m : MethodId) (q1 : Int32) : entryFrame m #[(.int q1)] 1 = mkF m 0 #[.val (.int q1)] [] := by first | (simp [entryFrame, mkF, argsToLocals, Value.category]; done) | rfl
def exc_202 (q1 : Int32) : Int32 := (0 : Int32)
def exc_194 (q1 : Int32) : Int32 := if (983039 : Int32) < q1 then ((1 : Int32)) else (exc_202 q1)
def exc_180 (q1 : Int32) : Int32 := if q1 < (65534 : Int32) then (exc_194 q1) else (if (65535 : Int32) < q1 then (exc_194 q1) else ((1 : Int32)))
def exc_166 (q1 : Int32) : Int32 := if q1 < (64976 : Int32) then (exc_180 q1) else (if (65007 : Int32) < q1 then (exc_180 q1) else ((1 : Int32)))
def exc_152 (q1 : Int32) : Int32 := if q1 < (55296 : Int32) then (exc_166 q1) else (if (63743 : Int32) < q1 then (exc_166 q1) else ((1 : Int32)))
def exc_136 (q1 : Int32) : Int32 := if q1 < (12272 : Int32) then (exc_152 q1) else (if (12288 : Int32) < q1 then (exc_152 q1) else ((1 : Int32)))
def exc_120 (q1 : Int32) : Int32 := if q1 < (8592 : Int32) then (exc_136 q1) else (if (11263 : Int32) < q1 then (exc_136 q1) else ((1 : Int32)))
def exc_104 (q1 : Int32) : Int32 := if q1 < (8206 : Int32) then (exc_120 q1) else (if (8303 : Int32) < q1 then (exc_120 q1) else ((1 : Int32)))
def exc_88 (q1 : Int32) : Int32 := if q1 < (8192 : Int32) then (exc_104 q1) else (if (8203 : Int32) < q1 then (exc_104 q1) else ((1 : Int32)))
def exc_79 (q1 : Int32) : Int32 := if q1 = (894 : Int32) then ((1 : Int32)) else (exc_88 q1)
def exc_63 (q1 : Int32) : Int32 := if q1 < (768 : Int32) then (exc_79 q1) else (if (879 : Int32) < q1 then (exc_79 q1) else ((1 : Int32)))
def exc_54 (q1 : Int32) : Int32 := if q1 = (247 : Int32) then ((1 : Int32)) else (exc_63 q1)
def exc_45 (q1 : Int32) : Int32 := if q1 = (215 : Int32) then ((1 : Int32)) else (exc_54 q1)
def exc_30 (q1 : Int32) : Int32 := if q1 < (123 : Int32) then (exc_45 q1) else (if (191 : Int32) < q1 then (exc_45 q1) else ((1 : Int32)))
def exc_22 (q1 : Int32) : Int32 := if q1 = (96 : Int32) then ((1 : Int32)) else (exc_30 q1)
def exc_8 (q1 : Int32) : Int32 := if q1 < (91 : Int32) then (exc_22 q1) else (if (94 : Int32) < q1 then (exc_22 q1) else ((1 : Int32)))
def exc_0 (q1 : Int32) : Int32 := if q1 < (65 : Int32) then ((1 : Int32)) else (exc_8 q1)
theorem d2_0 : decode prog_132_method_11_code 0 = .ok (.iload_n 0, 1) := by decide +kernel
theorem d2_1 : decode prog_132_method_11_code 1 = .ok (.bipush 97, 2) := by decide +kernel
theorem d2_3 : decode prog_132_method_11_code 3 = .ok (.if_icmp .lt 9, 3) := by decide +kernel
theorem d2_6 : decode prog_132_method_11_code 6 = .ok (.iload_n 0, 1) := by decide +kernel
theorem d2_7 : decode prog_132_method_11_code 7 = .ok (.bipush 122, 2) := by decide +kernel
theorem d2_9 : decode prog_132_method_11_code 9 = .ok (.if_icmp .le 182, 3) := by decide +kernel
theorem d2_12 : decode prog_132_method_11_code 12 = .ok (.iload_n 0, 1) := by decide +kernel
theorem d2_13 : decode prog_132_method_11_code 13 = .ok (.bipush 65, 2) := by decide +kernel
theorem d2_15 : decode prog_132_method_11_code 15 = .ok (.if_icmp .lt 9, 3) := by decide +kernel
theorem d2_18 : decode prog_132_method_11_code 18 = .ok (.iload_n 0, 1) := by decide +kernel
theorem d2_19 : decode prog_132_method_11_code 19 = .ok (.bipush 90, 2) := by decide +kernel
theorem d2_21 : decode prog_132_method_11_code 21 = .ok (.if_icmp .le 170, 3) := by decide +kernel
theorem d2_24 : decode prog_132_method_11_code 24 = .ok (.iload_n 0, 1) := by decide +kernel
theorem d2_25 : decode prog_132_method_11_code 25 = .ok (.bipush 95, 2) := by decide +kernel
theorem d2_27 : decode prog_132_method_11_code 27 = .ok (.if_icmp .eq 164, 3) := by decide +kernel
theorem d2_30 : decode prog_132_method_11_code 30 = .ok (.iload_n 0, 1) := by decide +kernel
theorem d2_31 : decode prog_132_method_11_code 31 = .ok (.sipush 192, 3) := by decide +kernel
theorem d2_34 : decode prog_132_method_11_code 34 = .ok (.if_icmp .lt 10, 3) := by decide +kernel
theorem d2_37 : decode prog_132_method_11_code 37 = .ok (.iload_n 0, 1) := by decide +kernel
theorem d2_38 : decode prog_132_method_11_code 38 = .ok (.sipush 214, 3) := by decide +kernel
theorem d2_41 : decode prog_132_method_11_code 41 = .ok (.if_icmp .le 150, 3) := by decide +kernel
theorem d2_44 : decode prog_132_method_11_code 44 = .ok (.iload_n 0, 1) := by decide +kernel
theorem d2_45 : decode prog_132_method_11_code 45 = .ok (.sipush 216, 3) := by decide +kernel
theorem d2_48 : decode prog_132_method_11_code 48 = .ok (.if_icmp .lt 10, 3) := by decide +kernel
theorem d2_51 : decode prog_132_method_11_code 51 = .ok (.iload_n 0, 1) := by decide +kernel
theorem d2_52 : decode prog_132_method_11_code 52 = .ok (.sipush 246, 3) := by decide +kernel
theorem d2_55 : decode prog_132_method_11_code 55 = .ok (.if_icmp .le 136, 3) := by decide +kernel
theorem d2_58 : decode prog_132_method_11_code 58 = .ok (.iload_n 0, 1) := by decide +kernel
theorem d2_59 : decode prog_132_method_11_code 59 = .ok (.sipush 248, 3) := by decide +kernel
theorem d2_62 : decode prog_132_method_11_code 62 = .ok (.if_icmp .lt 10, 3) := by decide +kernel
theorem d2_65 : decode prog_132_method_11_code 65 = .ok (.iload_n 0, 1) := by decide +kernel
theorem d2_66 : decode prog_132_method_11_code 66 = .ok (.sipush 767, 3) := by decide +kernel
theorem d2_69 : decode prog_132_method_11_code 69 = .ok (.if_icmp .le 122, 3) := by decide +kernel
theorem d2_72 : decode prog_132_method_11_code 72 = .ok (.iload_n 0, 1) := by decide +kernel
theorem d2_73 : decode prog_132_method_11_code 73 = .ok (.sipush 880, 3) := by decide +kernel
theorem d2_76 : decode prog_132_method_11_code 76 = .ok (.if_icmp .lt 10, 3) := by decide +kernel
theorem d2_79 : decode prog_132_method_11_code 79 = .ok (.iload_n 0, 1) := by decide +kernel
theorem d2_80 : decode prog_132_method_11_code 80 = .ok (.sipush 893, 3) := by decide +kernel
theorem d2_83 : decode prog_132_method_11_code 83 = .ok (.if_icmp .le 108, 3) := by decide +kernel
theorem d2_86 : decode prog_132_method_11_code 86 = .ok (.iload_n 0, 1) := by decide +kernel
theorem d2_87 : decode prog_132_method_11_code 87 = .ok (.sipush 895, 3) := by decide +kernel
theorem d2_90 : decode prog_132_method_11_code 90 = .ok (.if_icmp .lt 10, 3) := by decide +kernel
theorem d2_93 : decode prog_132_method_11_code 93 = .ok (.iload_n 0, 1) := by decide +kernel
theorem d2_94 : decode prog_132_method_11_code 94 = .ok (.sipush 8191, 3) := by decide +kernel
theorem d2_97 : decode prog_132_method_11_code 97 = .ok (.if_icmp .le 94, 3) := by decide +kernel
theorem d2_100 : decode prog_132_method_11_code 100 = .ok (.iload_n 0, 1) := by decide +kernel
theorem d2_101 : decode prog_132_method_11_code 101 = .ok (.sipush 8204, 3) := by decide +kernel
theorem d2_104 : decode prog_132_method_11_code 104 = .ok (.if_icmp .lt 10, 3) := by decide +kernel
theorem d2_107 : decode prog_132_method_11_code 107 = .ok (.iload_n 0, 1) := by decide +kernel
theorem d2_108 : decode prog_132_method_11_code 108 = .ok (.sipush 8205, 3) := by decide +kernel
theorem d2_111 : decode prog_132_method_11_code 111 = .ok (.if_icmp .le 80, 3) := by decide +kernel
theorem d2_114 : decode prog_132_method_11_code 114 = .ok (.iload_n 0, 1) := by decide +kernel
theorem d2_115 : decode prog_132_method_11_code 115 = .ok (.sipush 8304, 3) := by decide +kernel
theorem d2_118 : decode prog_132_method_11_code 118 = .ok (.if_icmp .lt 10, 3) := by decide +kernel
theorem d2_121 : decode prog_132_method_11_code 121 = .ok (.iload_n 0, 1) := by decide +kernel
theorem d2_122 : decode prog_132_method_11_code 122 = .ok (.sipush 8591, 3) := by decide +kernel
theorem d2_125 : decode prog_132_method_11_code 125 = .ok (.if_icmp .le 66, 3) := by decide +kernel
theorem d2_128 : decode prog_132_method_11_code 128 = .ok (.iload_n 0, 1) := by decide +kernel
theorem d2_129 : decode prog_132_method_11_code 129 = .ok (.sipush 11264, 3) := by decide +kernel
theorem d2_132 : decode prog_132_method_11_code 132 = .ok (.if_icmp .lt 10, 3) := by decide +kernel
theorem d2_135 : decode prog_132_method_11_code 135 = .ok (.iload_n 0, 1) := by decide +kernel
theorem d2_136 : decode prog_132_method_11_code 136 = .ok (.sipush 12271, 3) := by decide +kernel
theorem d2_139 : decode prog_132_method_11_code 139 = .ok (.if_icmp .le 52, 3) := by decide +kernel
theorem d2_142 : decode prog_132_method_11_code 142 = .ok (.iload_n 0, 1) := by decide +kernel
theorem d2_143 : decode prog_132_method_11_code 143 = .ok (.sipush 12289, 3) := by decide +kernel
theorem d2_146 : decode prog_132_method_11_code 146 = .ok (.if_icmp .lt 9, 3) := by decide +kernel
theorem d2_149 : decode prog_132_method_11_code 149 = .ok (.iload_n 0, 1) := by decide +kernel
theorem d2_150 : decode prog_132_method_11_code 150 = .ok (.ldc 37, 2) := by decide +kernel
theorem d2_152 : decode prog_132_method_11_code 152 = .ok (.if_icmp .le 39, 3) := by decide +kernel
theorem d2_155 : decode prog_132_method_11_code 155 = .ok (.iload_n 0, 1) := by decide +kernel
theorem d2_156 : decode prog_132_method_11_code 156 = .ok (.ldc 124, 2) := by decide +kernel
theorem d2_158 : decode prog_132_method_11_code 158 = .ok (.if_icmp .lt 9, 3) := by decide +kernel
theorem d2_161 : decode prog_132_method_11_code 161 = .ok (.iload_n 0, 1) := by decide +kernel
theorem d2_162 : decode prog_132_method_11_code 162 = .ok (.ldc 125, 2) := by decide +kernel
theorem d2_164 : decode prog_132_method_11_code 164 = .ok (.if_icmp .le 27, 3) := by decide +kernel
theorem d2_167 : decode prog_132_method_11_code 167 = .ok (.iload_n 0, 1) := by decide +kernel
theorem d2_168 : decode prog_132_method_11_code 168 = .ok (.ldc 126, 2) := by decide +kernel
theorem d2_170 : decode prog_132_method_11_code 170 = .ok (.if_icmp .lt 9, 3) := by decide +kernel
theorem d2_173 : decode prog_132_method_11_code 173 = .ok (.iload_n 0, 1) := by decide +kernel
theorem d2_174 : decode prog_132_method_11_code 174 = .ok (.ldc 39, 2) := by decide +kernel
theorem d2_176 : decode prog_132_method_11_code 176 = .ok (.if_icmp .le 15, 3) := by decide +kernel
theorem d2_179 : decode prog_132_method_11_code 179 = .ok (.iload_n 0, 1) := by decide +kernel
theorem d2_180 : decode prog_132_method_11_code 180 = .ok (.ldc 40, 2) := by decide +kernel
theorem d2_182 : decode prog_132_method_11_code 182 = .ok (.if_icmp .lt 13, 3) := by decide +kernel
theorem d2_185 : decode prog_132_method_11_code 185 = .ok (.iload_n 0, 1) := by decide +kernel
theorem d2_186 : decode prog_132_method_11_code 186 = .ok (.ldc 127, 2) := by decide +kernel
theorem d2_188 : decode prog_132_method_11_code 188 = .ok (.if_icmp .gt 7, 3) := by decide +kernel
theorem d2_191 : decode prog_132_method_11_code 191 = .ok (.iconst 1, 1) := by decide +kernel
theorem d2_192 : decode prog_132_method_11_code 192 = .ok (.goto 4, 3) := by decide +kernel
theorem d2_195 : decode prog_132_method_11_code 195 = .ok (.iconst 0, 1) := by decide +kernel
theorem d2_196 : decode prog_132_method_11_code 196 = .ok (.ireturn, 1) := by decide +kernel
theorem pn_2 : plainName "transept/model/XmlChars" = true := by first | (simp [plainName, overriddenIn]; done) | decide +kernel
theorem ef_2 (m : MethodId) (q1 : Int32) : entryFrame m #[(.int q1)] 1 = mkF m 0 #[.val (.int q1)] [] := by first | (simp [entryFrame, mkF, argsToLocals, Value.category]; done) | rfl
def nsc_196 (q1 : Int32) (z196_0 : Int32) : Int32 := z196_0
def nsc_195 (q1 : Int32) : Int32 := nsc_196 q1 (0 : Int32)
def nsc_191 (q1 : Int32) : Int32 := nsc_196 q1 (1 : Int32)
def nsc_179 (q1 : Int32) : Int32 := if q1 < (65536 : Int32) then (nsc_195 q1) else (if (983039 : Int32) < q1 then (nsc_195 q1) else (nsc_191 q1))
def nsc_167 (q1 : Int32) : Int32 := if q1 < (65008 : Int32) then (nsc_179 q1) else (if (65533 : Int32) < q1 then (nsc_179 q1) else (nsc_191 q1))
def nsc_155 (q1 : Int32) : Int32 := if q1 < (63744 : Int32) then (nsc_167 q1) else (if (64975 : Int32) < q1 then (nsc_167 q1) else (nsc_191 q1))
def nsc_142 (q1 : Int32) : Int32 := if q1 < (12289 : Int32) then (nsc_155 q1) else (if (55295 : Int32) < q1 then (nsc_155 q1) else (nsc_191 q1))
def nsc_128 (q1 : Int32) : Int32 := if q1 < (11264 : Int32) then (nsc_142 q1) else (if (12271 : Int32) < q1 then (nsc_142 q1) else (nsc_191 q1))
def nsc_114 (q1 : Int32) : Int32 := if q1 < (8304 : Int32) then (nsc_128 q1) else (if (8591 : Int32) < q1 then (nsc_128 q1) else (nsc_191 q1))
def nsc_100 (q1 : Int32) : Int32 := if q1 < (8204 : Int32) then (nsc_114 q1) else (if (8205 : Int32) < q1 then (nsc_114 q1) else (nsc_191 q1))
def nsc_86 (q1 : Int32) : Int32 := if q1 < (895 : Int32) then (nsc_100 q1) else (if (8191 : Int32) < q1 then (nsc_100 q1) else (nsc_191 q1))
def nsc_72 (q1 : Int32) : Int32 := if q1 < (880 : Int32) then (nsc_86 q1) else (if (893 : Int32) < q1 then (nsc_86 q1) else (nsc_191 q1))
def nsc_58 (q1 : Int32) : Int32 := if q1 < (248 : Int32) then (nsc_72 q1) else (if (767 : Int32) < q1 then (nsc_72 q1) else (nsc_191 q1))
def nsc_44 (q1 : Int32) : Int32 := if q1 < (216 : Int32) then (nsc_58 q1) else (if (246 : Int32) < q1 then (nsc_58 q1) else (nsc_191 q1))
def nsc_24 (q1 : Int32) : Int32 := if q1 = (95 : Int32) then (nsc_191 q1) else (if q1 < (192 : Int32) then (nsc_44 q1) else (if (214 : Int32) < q1 then (nsc_44 q1) else (nsc_191 q1)))
def nsc_12 (q1 : Int32) : Int32 := if q1 < (65 : Int32) then (nsc_24 q1) else (if (90 : Int32) < q1 then (nsc_24 q1) else (nsc_191 q1))
def nsc_0 (q1 : Int32) : Int32 := if q1 < (97 : Int32) then (nsc_12 q1) else (if (122 : Int32) < q1 then (nsc_12 q1) else (nsc_191 q1))
theorem own_idx31 (x : Int32) : ¬ (x &&& (31 : Int32)) < 0 ∧ (x &&& (31 : Int32)) < (32 : Int32) := by
  rw [Int32.lt_iff_toInt_lt, Int32.lt_iff_toInt_lt, Jvm.Kit.i32_mask x 31 (k := 5) (by decide) (by decide)]
  simp only [Int32.reduceToInt]
  omega
/-- v is 1 where P holds and 0 elsewhere -/
def own_V (v : Int32) (P : Prop) : Prop := (P → v = 1) ∧ (¬ P → v = 0)
theorem own_V.range {c lo hi v : Int32} {P : Prop} {a b : Int} (ha : lo.toInt = a) (hb : hi.toInt = b) (h : own_V v P) : own_V (if c < lo then v else (if hi < c then v else (1 : Int32))) ((a ≤ c.toInt ∧ c.toInt ≤ b) ∨ P) := by
  simp only [Int32.lt_iff_toInt_lt, ha, hb]
  constructor
  · intro q
    split
    · exact h.1 (q.resolve_left (by omega))
    · split
      · exact h.1 (q.resolve_left (by omega))
      · rfl
  · intro q
    split
    · exact h.2 fun u => q (Or.inr u)
    · split
      · exact h.2 fun u => q (Or.inr u)
      · exact absurd (Or.inl ⟨by omega, by omega⟩) q
theorem own_V.one {c k v : Int32} {P : Prop} {a : Int} (ha : k.toInt = a) (h : own_V v P) : own_V (if c = k then (1 : Int32) else v) (c.toInt = a ∨ P) := by
  simp only [← Int32.toInt_inj, ha]
  constructor
  · intro q
    split
    · rfl
    · exact h.1 (q.resolve_left (by omega))
  · intro q
    split
    · exact absurd (Or.inl (by omega)) q
    · exact h.2 fun u => q (Or.inr u)
theorem own_V.bool {v : Int32} {P : Prop} (h : own_V v P) : v = 0 ∨ v = 1 := by
  by_cases q : P
  · exact Or.inr (h.1 q)
  · exact Or.inl (h.2 q)
theorem own_exc_202 (q1 : Int32) : own_V (exc_202 q1) False := ⟨fun h => h.elim, fun _ => rfl⟩
theorem own_exc_194 (q1 : Int32) : own_V (exc_194 q1) (983039 < q1.toInt ∨ False) := by
  have h := own_exc_202 q1
  show own_V (if (983039 : Int32) < q1 then ((1 : Int32)) else (exc_202 q1)) _
  simp only [Int32.lt_iff_toInt_lt, Int32.reduceToInt]
  constructor
  · intro q
    split
    · rfl
    · exact h.1 (q.resolve_left (by omega))
  · intro q
    split
    · exact absurd (Or.inl (by omega)) q
    · exact h.2 fun u => q (Or.inr u)
theorem own_exc_180 (q1 : Int32) : own_V (exc_180 q1) ((65534 ≤ q1.toInt ∧ q1.toInt ≤ 65535) ∨ (983039 < q1.toInt ∨ False)) := (own_exc_194 q1).range rfl rfl
theorem own_exc_166 (q1 : Int32) : own_V (exc_166 q1) ((64976 ≤ q1.toInt ∧ q1.toInt ≤ 65007) ∨ ((65534 ≤ q1.toInt ∧ q1.toInt ≤ 65535) ∨ (983039 < q1.toInt ∨ False))) := (own_exc_180 q1).range rfl rfl
theorem own_exc_152 (q1 : Int32) : own_V (exc_152 q1) ((55296 ≤ q1.toInt ∧ q1.toInt ≤ 63743) ∨ ((64976 ≤ q1.toInt ∧ q1.toInt ≤ 65007) ∨ ((65534 ≤ q1.toInt ∧ q1.toInt ≤ 65535) ∨ (983039 < q1.toInt ∨ False)))) := (own_exc_166 q1).range rfl rfl
theorem own_exc_136 (q1 : Int32) : own_V (exc_136 q1) ((12272 ≤ q1.toInt ∧ q1.toInt ≤ 12288) ∨ ((55296 ≤ q1.toInt ∧ q1.toInt ≤ 63743) ∨ ((64976 ≤ q1.toInt ∧ q1.toInt ≤ 65007) ∨ ((65534 ≤ q1.toInt ∧ q1.toInt ≤ 65535) ∨ (983039 < q1.toInt ∨ False))))) := (own_exc_152 q1).range rfl rfl
theorem own_exc_120 (q1 : Int32) : own_V (exc_120 q1) ((8592 ≤ q1.toInt ∧ q1.toInt ≤ 11263) ∨ ((12272 ≤ q1.toInt ∧ q1.toInt ≤ 12288) ∨ ((55296 ≤ q1.toInt ∧ q1.toInt ≤ 63743) ∨ ((64976 ≤ q1.toInt ∧ q1.toInt ≤ 65007) ∨ ((65534 ≤ q1.toInt ∧ q1.toInt ≤ 65535) ∨ (983039 < q1.toInt ∨ False)))))) := (own_exc_136 q1).range rfl rfl
theorem own_exc_104 (q1 : Int32) : own_V (exc_104 q1) ((8206 ≤ q1.toInt ∧ q1.toInt ≤ 8303) ∨ ((8592 ≤ q1.toInt ∧ q1.toInt ≤ 11263) ∨ ((12272 ≤ q1.toInt ∧ q1.toInt ≤ 12288) ∨ ((55296 ≤ q1.toInt ∧ q1.toInt ≤ 63743) ∨ ((64976 ≤ q1.toInt ∧ q1.toInt ≤ 65007) ∨ ((65534 ≤ q1.toInt ∧ q1.toInt ≤ 65535) ∨ (983039 < q1.toInt ∨ False))))))) := (own_exc_120 q1).range rfl rfl
theorem own_exc_88 (q1 : Int32) : own_V (exc_88 q1) ((8192 ≤ q1.toInt ∧ q1.toInt ≤ 8203) ∨ ((8206 ≤ q1.toInt ∧ q1.toInt ≤ 8303) ∨ ((8592 ≤ q1.toInt ∧ q1.toInt ≤ 11263) ∨ ((12272 ≤ q1.toInt ∧ q1.toInt ≤ 12288) ∨ ((55296 ≤ q1.toInt ∧ q1.toInt ≤ 63743) ∨ ((64976 ≤ q1.toInt ∧ q1.toInt ≤ 65007) ∨ ((65534 ≤ q1.toInt ∧ q1.toInt ≤ 65535) ∨ (983039 < q1.toInt ∨ False)))))))) := (own_exc_104 q1).range rfl rfl
theorem own_exc_79 (q1 : Int32) : own_V (exc_79 q1) (q1.toInt = 894 ∨ ((8192 ≤ q1.toInt ∧ q1.toInt ≤ 8203) ∨ ((8206 ≤ q1.toInt ∧ q1.toInt ≤ 8303) ∨ ((8592 ≤ q1.toInt ∧ q1.toInt ≤ 11263) ∨ ((12272 ≤ q1.toInt ∧ q1.toInt ≤ 12288) ∨ ((55296 ≤ q1.toInt ∧ q1.toInt ≤ 63743) ∨ ((64976 ≤ q1.toInt ∧ q1.toInt ≤ 65007) ∨ ((65534 ≤ q1.toInt ∧ q1.toInt ≤ 65535) ∨ (983039 < q1.toInt ∨ False))))))))) := (own_exc_88 q1).one rfl
theorem own_exc_63 (q1 : Int32) : own_V (exc_63 q1) ((768 ≤ q1.toInt ∧ q1.toInt ≤ 879) ∨ (q1.toInt = 894 ∨ ((8192 ≤ q1.toInt ∧ q1.toInt ≤ 8203) ∨ ((8206 ≤ q1.toInt ∧ q1.toInt ≤ 8303) ∨ ((8592 ≤ q1.toInt ∧ q1.toInt ≤ 11263) ∨ ((12272 ≤ q1.toInt ∧ q1.toInt ≤ 12288) ∨ ((55296 ≤ q1.toInt ∧ q1.toInt ≤ 63743) ∨ ((64976 ≤ q1.toInt ∧ q1.toInt ≤ 65007) ∨ ((65534 ≤ q1.toInt ∧ q1.toInt ≤ 65535) ∨ (983039 < q1.toInt ∨ False)))))))))) := (own_exc_79 q1).range rfl rfl
theorem own_exc_54 (q1 : Int32) : own_V (exc_54 q1) (q1.toInt = 247 ∨ ((768 ≤ q1.toInt ∧ q1.toInt ≤ 879) ∨ (q1.toInt = 894 ∨ ((8192 ≤ q1.toInt ∧ q1.toInt ≤ 8203) ∨ ((8206 ≤ q1.toInt ∧ q1.toInt ≤ 8303) ∨ ((8592 ≤ q1.toInt ∧ q1.toInt ≤ 11263) ∨ ((12272 ≤ q1.toInt ∧ q1.toInt ≤ 12288) ∨ ((55296 ≤ q1.toInt ∧ q1.toInt ≤ 63743) ∨ ((64976 ≤ q1.toInt ∧ q1.toInt ≤ 65007) ∨ ((65534 ≤ q1.toInt ∧ q1.toInt ≤ 65535) ∨ (983039 < q1.toInt ∨ False))))))))))) := (own_exc_63 q1).one rfl
theorem own_exc_45 (q1 : Int32) : own_V (exc_45 q1) (q1.toInt = 215 ∨ (q1.toInt = 247 ∨ ((768 ≤ q1.toInt ∧ q1.toInt ≤ 879) ∨ (q1.toInt = 894 ∨ ((8192 ≤ q1.toInt ∧ q1.toInt ≤ 8203) ∨ ((8206 ≤ q1.toInt ∧ q1.toInt ≤ 8303) ∨ ((8592 ≤ q1.toInt ∧ q1.toInt ≤ 11263) ∨ ((12272 ≤ q1.toInt ∧ q1.toInt ≤ 12288) ∨ ((55296 ≤ q1.toInt ∧ q1.toInt ≤ 63743) ∨ ((64976 ≤ q1.toInt ∧ q1.toInt ≤ 65007) ∨ ((65534 ≤ q1.toInt ∧ q1.toInt ≤ 65535) ∨ (983039 < q1.toInt ∨ False)))))))))))) := (own_exc_54 q1).one rfl
theorem own_exc_30 (q1 : Int32) : own_V (exc_30 q1) ((123 ≤ q1.toInt ∧ q1.toInt ≤ 191) ∨ (q1.toInt = 215 ∨ (q1.toInt = 247 ∨ ((768 ≤ q1.toInt ∧ q1.toInt ≤ 879) ∨ (q1.toInt = 894 ∨ ((8192 ≤ q1.toInt ∧ q1.toInt ≤ 8203) ∨ ((8206 ≤ q1.toInt ∧ q1.toInt ≤ 8303) ∨ ((8592 ≤ q1.toInt ∧ q1.toInt ≤ 11263) ∨ ((12272 ≤ q1.toInt ∧ q1.toInt ≤ 12288) ∨ ((55296 ≤ q1.toInt ∧ q1.toInt ≤ 63743) ∨ ((64976 ≤ q1.toInt ∧ q1.toInt ≤ 65007) ∨ ((65534 ≤ q1.toInt ∧ q1.toInt ≤ 65535) ∨ (983039 < q1.toInt ∨ False))))))))))))) := (own_exc_45 q1).range rfl rfl
theorem own_exc_22 (q1 : Int32) : own_V (exc_22 q1) (q1.toInt = 96 ∨ ((123 ≤ q1.toInt ∧ q1.toInt ≤ 191) ∨ (q1.toInt = 215 ∨ (q1.toInt = 247 ∨ ((768 ≤ q1.toInt ∧ q1.toInt ≤ 879) ∨ (q1.toInt = 894 ∨ ((8192 ≤ q1.toInt ∧ q1.toInt ≤ 8203) ∨ ((8206 ≤ q1.toInt ∧ q1.toInt ≤ 8303) ∨ ((8592 ≤ q1.toInt ∧ q1.toInt ≤ 11263) ∨ ((12272 ≤ q1.toInt ∧ q1.toInt ≤ 12288) ∨ ((55296 ≤ q1.toInt ∧ q1.toInt ≤ 63743) ∨ ((64976 ≤ q1.toInt ∧ q1.toInt ≤ 65007) ∨ ((65534 ≤ q1.toInt ∧ q1.toInt ≤ 65535) ∨ (983039 < q1.toInt ∨ False)))))))))))))) := (own_exc_30 q1).one rfl
theorem own_exc_8 (q1 : Int32) : own_V (exc_8 q1) ((91 ≤ q1.toInt ∧ q1.toInt ≤ 94) ∨ (q1.toInt = 96 ∨ ((123 ≤ q1.toInt ∧ q1.toInt ≤ 191) ∨ (q1.toInt = 215 ∨ (q1.toInt = 247 ∨ ((768 ≤ q1.toInt ∧ q1.toInt ≤ 879) ∨ (q1.toInt = 894 ∨ ((8192 ≤ q1.toInt ∧ q1.toInt ≤ 8203) ∨ ((8206 ≤ q1.toInt ∧ q1.toInt ≤ 8303) ∨ ((8592 ≤ q1.toInt ∧ q1.toInt ≤ 11263) ∨ ((12272 ≤ q1.toInt ∧ q1.toInt ≤ 12288) ∨ ((55296 ≤ q1.toInt ∧ q1.toInt ≤ 63743) ∨ ((64976 ≤ q1.toInt ∧ q1.toInt ≤ 65007) ∨ ((65534 ≤ q1.toInt ∧ q1.toInt ≤ 65535) ∨ (983039 < q1.toInt ∨ False))))))))))))))) := (own_exc_22 q1).range rfl rfl
theorem own_exc_0 (q1 : Int32) : own_V (exc_0 q1) (q1.toInt < 65 ∨ ((91 ≤ q1.toInt ∧ q1.toInt ≤ 94) ∨ (q1.toInt = 96 ∨ ((123 ≤ q1.toInt ∧ q1.toInt ≤ 191) ∨ (q1.toInt = 215 ∨ (q1.toInt = 247 ∨ ((768 ≤ q1.toInt ∧ q1.toInt ≤ 879) ∨ (q1.toInt = 894 ∨ ((8192 ≤ q1.toInt ∧ q1.toInt ≤ 8203) ∨ ((8206 ≤ q1.toInt ∧ q1.toInt ≤ 8303) ∨ ((8592 ≤ q1.toInt ∧ q1.toInt ≤ 11263) ∨ ((12272 ≤ q1.toInt ∧ q1.toInt ≤ 12288) ∨ ((55296 ≤ q1.toInt ∧ q1.toInt ≤ 63743) ∨ ((64976 ≤ q1.toInt ∧ q1.toInt ≤ 65007) ∨ ((65534 ≤ q1.toInt ∧ q1.toInt ≤ 65535) ∨ (983039 < q1.toInt ∨ False)))))))))))))))) := by
  have h := own_exc_8 q1
  show own_V (if q1 < (65 : Int32) then ((1 : Int32)) else (exc_8 q1)) _
  simp only [Int32.lt_iff_toInt_lt, Int32.reduceToInt]
  constructor
  · intro q
    split
    · rfl
    · exact h.1 (q.resolve_left (by omega))
  · intro q
    split
    · exact absurd (Or.inl (by omega)) q
    · exact h.2 fun u => q (Or.inr u)
theorem own_nsc_195 (q1 : Int32) : own_V (nsc_195 q1) False := ⟨fun h => h.elim, fun _ => rfl⟩
theorem own_nsc_179 (q1 : Int32) : own_V (nsc_179 q1) ((65536 ≤ q1.toInt ∧ q1.toInt ≤ 983039) ∨ False) := (own_nsc_195 q1).range rfl rfl
theorem own_nsc_167 (q1 : Int32) : own_V (nsc_167 q1) ((65008 ≤ q1.toInt ∧ q1.toInt ≤ 65533) ∨ ((65536 ≤ q1.toInt ∧ q1.toInt ≤ 983039) ∨ False)) := (own_nsc_179 q1).range rfl rfl
theorem own_nsc_155 (q1 : Int32) : own_V (nsc_155 q1) ((63744 ≤ q1.toInt ∧ q1.toInt ≤ 64975) ∨ ((65008 ≤ q1.toInt ∧ q1.toInt ≤ 65533) ∨ ((65536 ≤ q1.toInt ∧ q1.toInt ≤ 983039) ∨ False))) := (own_nsc_167 q1).range rfl rfl
theorem own_nsc_142 (q1 : Int32) : own_V (nsc_142 q1) ((12289 ≤ q1.toInt ∧ q1.toInt ≤ 55295) ∨ ((63744 ≤ q1.toInt ∧ q1.toInt ≤ 64975) ∨ ((65008 ≤ q1.toInt ∧ q1.toInt ≤ 65533) ∨ ((65536 ≤ q1.toInt ∧ q1.toInt ≤ 983039) ∨ False)))) := (own_nsc_155 q1).range rfl rfl
theorem own_nsc_128 (q1 : Int32) : own_V (nsc_128 q1) ((11264 ≤ q1.toInt ∧ q1.toInt ≤ 12271) ∨ ((12289 ≤ q1.toInt ∧ q1.toInt ≤ 55295) ∨ ((63744 ≤ q1.toInt ∧ q1.toInt ≤ 64975) ∨ ((65008 ≤ q1.toInt ∧ q1.toInt ≤ 65533) ∨ ((65536 ≤ q1.toInt ∧ q1.toInt ≤ 983039) ∨ False))))) := (own_nsc_142 q1).range rfl rfl
theorem own_nsc_114 (q1 : Int32) : own_V (nsc_114 q1) ((8304 ≤ q1.toInt ∧ q1.toInt ≤ 8591) ∨ ((11264 ≤ q1.toInt ∧ q1.toInt ≤ 12271) ∨ ((12289 ≤ q1.toInt ∧ q1.toInt ≤ 55295) ∨ ((63744 ≤ q1.toInt ∧ q1.toInt ≤ 64975) ∨ ((65008 ≤ q1.toInt ∧ q1.toInt ≤ 65533) ∨ ((65536 ≤ q1.toInt ∧ q1.toInt ≤ 983039) ∨ False)))))) := (own_nsc_128 q1).range rfl rfl
theorem own_nsc_100 (q1 : Int32) : own_V (nsc_100 q1) ((8204 ≤ q1.toInt ∧ q1.toInt ≤ 8205) ∨ ((8304 ≤ q1.toInt ∧ q1.toInt ≤ 8591) ∨ ((11264 ≤ q1.toInt ∧ q1.toInt ≤ 12271) ∨ ((12289 ≤ q1.toInt ∧ q1.toInt ≤ 55295) ∨ ((63744 ≤ q1.toInt ∧ q1.toInt ≤ 64975) ∨ ((65008 ≤ q1.toInt ∧ q1.toInt ≤ 65533) ∨ ((65536 ≤ q1.toInt ∧ q1.toInt ≤ 983039) ∨ False))))))) := (own_nsc_114 q1).range rfl rfl
theorem own_nsc_86 (q1 : Int32) : own_V (nsc_86 q1) ((895 ≤ q1.toInt ∧ q1.toInt ≤ 8191) ∨ ((8204 ≤ q1.toInt ∧ q1.toInt ≤ 8205) ∨ ((8304 ≤ q1.toInt ∧ q1.toInt ≤ 8591) ∨ ((11264 ≤ q1.toInt ∧ q1.toInt ≤ 12271) ∨ ((12289 ≤ q1.toInt ∧ q1.toInt ≤ 55295) ∨ ((63744 ≤ q1.toInt ∧ q1.toInt ≤ 64975) ∨ ((65008 ≤ q1.toInt ∧ q1.toInt ≤ 65533) ∨ ((65536 ≤ q1.toInt ∧ q1.toInt ≤ 983039) ∨ False)))))))) := (own_nsc_100 q1).range rfl rfl
theorem own_nsc_72 (q1 : Int32) : own_V (nsc_72 q1) ((880 ≤ q1.toInt ∧ q1.toInt ≤ 893) ∨ ((895 ≤ q1.toInt ∧ q1.toInt ≤ 8191) ∨ ((8204 ≤ q1.toInt ∧ q1.toInt ≤ 8205) ∨ ((8304 ≤ q1.toInt ∧ q1.toInt ≤ 8591) ∨ ((11264 ≤ q1.toInt ∧ q1.toInt ≤ 12271) ∨ ((12289 ≤ q1.toInt ∧ q1.toInt ≤ 55295) ∨ ((63744 ≤ q1.toInt ∧ q1.toInt ≤ 64975) ∨ ((65008 ≤ q1.toInt ∧ q1.toInt ≤ 65533) ∨ ((65536 ≤ q1.toInt ∧ q1.toInt ≤ 983039) ∨ False))))))))) := (own_nsc_86 q1).range rfl rfl
theorem own_nsc_58 (q1 : Int32) : own_V (nsc_58 q1) ((248 ≤ q1.toInt ∧ q1.toInt ≤ 767) ∨ ((880 ≤ q1.toInt ∧ q1.toInt ≤ 893) ∨ ((895 ≤ q1.toInt ∧ q1.toInt ≤ 8191) ∨ ((8204 ≤ q1.toInt ∧ q1.toInt ≤ 8205) ∨ ((8304 ≤ q1.toInt ∧ q1.toInt ≤ 8591) ∨ ((11264 ≤ q1.toInt ∧ q1.toInt ≤ 12271) ∨ ((12289 ≤ q1.toInt ∧ q1.toInt ≤ 55295) ∨ ((63744 ≤ q1.toInt ∧ q1.toInt ≤ 64975) ∨ ((65008 ≤ q1.toInt ∧ q1.toInt ≤ 65533) ∨ ((65536 ≤ q1.toInt ∧ q1.toInt ≤ 983039) ∨ False)))))))))) := (own_nsc_72 q1).range rfl rfl
theorem own_nsc_44 (q1 : Int32) : own_V (nsc_44 q1) ((216 ≤ q1.toInt ∧ q1.toInt ≤ 246) ∨ ((248 ≤ q1.toInt ∧ q1.toInt ≤ 767) ∨ ((880 ≤ q1.toInt ∧ q1.toInt ≤ 893) ∨ ((895 ≤ q1.toInt ∧ q1.toInt ≤ 8191) ∨ ((8204 ≤ q1.toInt ∧ q1.toInt ≤ 8205) ∨ ((8304 ≤ q1.toInt ∧ q1.toInt ≤ 8591) ∨ ((11264 ≤ q1.toInt ∧ q1.toInt ≤ 12271) ∨ ((12289 ≤ q1.toInt ∧ q1.toInt ≤ 55295) ∨ ((63744 ≤ q1.toInt ∧ q1.toInt ≤ 64975) ∨ ((65008 ≤ q1.toInt ∧ q1.toInt ≤ 65533) ∨ ((65536 ≤ q1.toInt ∧ q1.toInt ≤ 983039) ∨ False))))))))))) := (own_nsc_58 q1).range rfl rfl
theorem own_nsc_24 (q1 : Int32) : own_V (nsc_24 q1) (q1.toInt = 95 ∨ (192 ≤ q1.toInt ∧ q1.toInt ≤ 214) ∨ ((216 ≤ q1.toInt ∧ q1.toInt ≤ 246) ∨ ((248 ≤ q1.toInt ∧ q1.toInt ≤ 767) ∨ ((880 ≤ q1.toInt ∧ q1.toInt ≤ 893) ∨ ((895 ≤ q1.toInt ∧ q1.toInt ≤ 8191) ∨ ((8204 ≤ q1.toInt ∧ q1.toInt ≤ 8205) ∨ ((8304 ≤ q1.toInt ∧ q1.toInt ≤ 8591) ∨ ((11264 ≤ q1.toInt ∧ q1.toInt ≤ 12271) ∨ ((12289 ≤ q1.toInt ∧ q1.toInt ≤ 55295) ∨ ((63744 ≤ q1.toInt ∧ q1.toInt ≤ 64975) ∨ ((65008 ≤ q1.toInt ∧ q1.toInt ≤ 65533) ∨ ((65536 ≤ q1.toInt ∧ q1.toInt ≤ 983039) ∨ False)))))))))))) := ((own_nsc_44 q1).range rfl rfl).one rfl
theorem own_nsc_12 (q1 : Int32) : own_V (nsc_12 q1) ((65 ≤ q1.toInt ∧ q1.toInt ≤ 90) ∨ (q1.toInt = 95 ∨ (192 ≤ q1.toInt ∧ q1.toInt ≤ 214) ∨ ((216 ≤ q1.toInt ∧ q1.toInt ≤ 246) ∨ ((248 ≤ q1.toInt ∧ q1.toInt ≤ 767) ∨ ((880 ≤ q1.toInt ∧ q1.toInt ≤ 893) ∨ ((895 ≤ q1.toInt ∧ q1.toInt ≤ 8191) ∨ ((8204 ≤ q1.toInt ∧ q1.toInt ≤ 8205) ∨ ((8304 ≤ q1.toInt ∧ q1.toInt ≤ 8591) ∨ ((11264 ≤ q1.toInt ∧ q1.toInt ≤ 12271) ∨ ((12289 ≤ q1.toInt ∧ q1.toInt ≤ 55295) ∨ ((63744 ≤ q1.toInt ∧ q1.toInt ≤ 64975) ∨ ((65008 ≤ q1.toInt ∧ q1.toInt ≤ 65533) ∨ ((65536 ≤ q1.toInt ∧ q1.toInt ≤ 983039) ∨ False))))))))))))) := (own_nsc_24 q1).range rfl rfl
theorem own_nsc_0 (q1 : Int32) : own_V (nsc_0 q1) ((97 ≤ q1.toInt ∧ q1.toInt ≤ 122) ∨ ((65 ≤ q1.toInt ∧ q1.toInt ≤ 90) ∨ (q1.toInt = 95 ∨ (192 ≤ q1.toInt ∧ q1.toInt ≤ 214) ∨ ((216 ≤ q1.toInt ∧ q1.toInt ≤ 246) ∨ ((248 ≤ q1.toInt ∧ q1.toInt ≤ 767) ∨ ((880 ≤ q1.toInt ∧ q1.toInt ≤ 893) ∨ ((895 ≤ q1.toInt ∧ q1.toInt ≤ 8191) ∨ ((8204 ≤ q1.toInt ∧ q1.toInt ≤ 8205) ∨ ((8304 ≤ q1.toInt ∧ q1.toInt ≤ 8591) ∨ ((11264 ≤ q1.toInt ∧ q1.toInt ≤ 12271) ∨ ((12289 ≤ q1.toInt ∧ q1.toInt ≤ 55295) ∨ ((63744 ≤ q1.toInt ∧ q1.toInt ≤ 64975) ∨ ((65008 ≤ q1.toInt ∧ q1.toInt ≤ 65533) ∨ ((65536 ≤ q1.toInt ∧ q1.toInt ≤ 983039) ∨ False)))))))))))))) := (own_nsc_12 q1).range rfl rfl
theorem exc_bool (q1 : Int32) : exc_0 q1 = 0 ∨ exc_0 q1 = 1 := (own_exc_0 q1).bool
theorem nsc_bool (q1 : Int32) : nsc_0 q1 = 0 ∨ nsc_0 q1 = 1 := (own_nsc_0 q1).bool
theorem own_cover (z : Int) : ¬ (z < 65 ∨ ((91 ≤ z ∧ z ≤ 94) ∨ (z = 96 ∨ ((123 ≤ z ∧ z ≤ 191) ∨ (z = 215 ∨ (z = 247 ∨ ((768 ≤ z ∧ z ≤ 879) ∨ (z = 894 ∨ ((8192 ≤ z ∧ z ≤ 8203) ∨ ((8206 ≤ z ∧ z ≤ 8303) ∨ ((8592 ≤ z ∧ z ≤ 11263) ∨ ((12272 ≤ z ∧ z ≤ 12288) ∨ ((55296 ≤ z ∧ z ≤ 63743) ∨ ((64976 ≤ z ∧ z ≤ 65007) ∨ ((65534 ≤ z ∧ z ≤ 65535) ∨ (983039 < z ∨ False)))))))))))))))) → ((97 ≤ z ∧ z ≤ 122) ∨ ((65 ≤ z ∧ z ≤ 90) ∨ (z = 95 ∨ (192 ≤ z ∧ z ≤ 214) ∨ ((216 ≤ z ∧ z ≤ 246) ∨ ((248 ≤ z ∧ z ≤ 767) ∨ ((880 ≤ z ∧ z ≤ 893) ∨ ((895 ≤ z ∧ z ≤ 8191) ∨ ((8204 ≤ z ∧ z ≤ 8205) ∨ ((8304 ≤ z ∧ z ≤ 8591) ∨ ((11264 ≤ z ∧ z ≤ 12271) ∨ ((12289 ≤ z ∧ z ≤ 55295) ∨ ((63744 ≤ z ∧ z ≤ 64975) ∨ ((65008 ≤ z ∧ z ≤ 65533) ∨ ((65536 ≤ z ∧ z ≤ 983039) ∨ False)))))))))))))) := by omega
theorem own_apart (z : Int) : (z < 65 ∨ ((91 ≤ z ∧ z ≤ 94) ∨ (z = 96 ∨ ((123 ≤ z ∧ z ≤ 191) ∨ (z = 215 ∨ (z = 247 ∨ ((768 ≤ z ∧ z ≤ 879) ∨ (z = 894 ∨ ((8192 ≤ z ∧ z ≤ 8203) ∨ ((8206 ≤ z ∧ z ≤ 8303) ∨ ((8592 ≤ z ∧ z ≤ 11263) ∨ ((12272 ≤ z ∧ z ≤ 12288) ∨ ((55296 ≤ z ∧ z ≤ 63743) ∨ ((64976 ≤ z ∧ z ≤ 65007) ∨ ((65534 ≤ z ∧ z ≤ 65535) ∨ (983039 < z ∨ False)))))))))))))))) → ¬ ((97 ≤ z ∧ z ≤ 122) ∨ ((65 ≤ z ∧ z ≤ 90) ∨ (z = 95 ∨ (192 ≤ z ∧ z ≤ 214) ∨ ((216 ≤ z ∧ z ≤ 246) ∨ ((248 ≤ z ∧ z ≤ 767) ∨ ((880 ≤ z ∧ z ≤ 893) ∨ ((895 ≤ z ∧ z ≤ 8191) ∨ ((8204 ≤ z ∧ z ≤ 8205) ∨ ((8304 ≤ z ∧ z ≤ 8591) ∨ ((11264 ≤ z ∧ z ≤ 12271) ∨ ((12289 ≤ z ∧ z ≤ 55295) ∨ ((63744 ≤ z ∧ z ≤ 64975) ∨ ((65008 ≤ z ∧ z ≤ 65533) ∨ ((65536 ≤ z ∧ z ≤ 983039) ∨ False)))))))))))))) := by
  intro h q
  simp only [or_false] at h q
  omega
theorem own_in (q1 : Int32) (h : exc_0 q1 = 0) : nsc_0 q1 = 1 := (own_nsc_0 q1).1 (own_cover q1.toInt fun q => absurd (((own_exc_0 q1).1 q).symm.trans h) (by decide))
theorem own_out (q1 : Int32) (h : ¬ exc_0 q1 = 0) : nsc_0 q1 = 0 := (own_nsc_0 q1).2 (own_apart q1.toInt (Decidable.byContradiction fun q => h ((own_exc_0 q1).2 q)))
def Q1 (Z : State) (q1 : Int32) (h0 : Heap) (n0 : Nat) (v : Option Value) (h : Heap) (L : List Loc) : Prop := v = some (.int (exc_0 q1)) ∧ Fr n0 L ∧ h = h0
set_option maxRecDepth 65536 in
set_option maxHeartbeats 40000000 in
theorem rm1 (l : Launch) (Z : State) (a0 : Array Value) (hw : ∀ d ∈ tables_1, d.before a0 Z = true) (ws : List Jvm.Cond) (q1 : Int32) (h0 : Heap) (n0 : Nat) (Z0 : n0 ≤ h0.size) :
    MetFree l (⟨"transept/model/XmlCharsIsNameStartCharPinLaw", "excluded", "(I)Z"⟩ : MethodName) (head1 (Jvm.Cond.code (⟨"transept/model/XmlCharsIsNameStartCharPinLaw", "excluded", "(I)Z"⟩ : MethodName) method_2_code 1 (some .boolean) :: ws) ({ frames := 0, cells := 0, slots := 0, locals := 0 } : Room)) (fun a U => a = #[(.int q1)] ∧ Z.Warmed39 U.vm ∧ U.heap = h0) (fun _ _ _ _ _ => True) (fun _ U o U' => ∃ v L, o = .returned v ∧ Q1 Z q1 h0 n0 v U'.heap L ∧ FrameEnd U o U' L ({ frames := 0, cells := 0, slots := 0, locals := 0 } : Room).cells ({ frames := 0, cells := 0, slots := 0, locals := 0 } : Room).slots) := by
  refine MetFree.of_bodySF (plainFor_of_name pn_1) hisR ?_
  intro p e s m args below meth c s₁ Bd hml0 hP hK
  obtain ⟨rfl, hZ, hh⟩ := hP
  have hx := Bd.exec
  have hby := Bd.bytes
  have hown : s.vm.findClass "transept/model/XmlCharsIsNameStartCharPinLaw" = some m.cls := findClass_of_methodNamed Bd.named
  have X0 : Stand p l e ({ frames := 0, cells := 0, slots := 0, locals := 0 } : Room) s m #[(.int q1)] below meth c s₁ [] 0 0 := Stand.of_body Bd
  have e0 : s₁.heap = h0 := by rw [← hh, Bd.state]; rfl
  have pre0 : ∀ t, Steps p.tables e below (s₁.setTop (mkF m 0 #[.val (.int q1)] [])) t → Steps p.tables e below (s₁.setTop (entryFrame m #[(.int q1)] 1)) t := fun t k => castTop (ef_1 m q1) k
  obtain ⟨r, hr0⟩ : ∃ r : Int32, exc_0 q1 = r := ⟨_, rfl⟩
  have hnar : nar .boolean r = r := by rcases exc_bool q1 with q | q <;> rw [hr0] at q <;> rw [q] <;> rfl
  obtain ⟨fs, hr, hrun, hended, hW, hsame⟩ := X0.leave (v := some (.int r)) (fun h => by rw [Bd.returns] at h; cases h)
  have kret : ∀ (pc : Nat) (Ls : Array Slot) (z : Int32), decode c.code pc = .ok (.ireturn, 1) → z = r → Steps p.tables e below (s₁.setTop (mkF m pc Ls [(.int z)])) (s₁.setFrames fs) := fun pc Ls z hd hz => retN X0 hx (t := .boolean) Bd.returns (by simp) hd (by rw [hz, hnar]; exact hr)
  have k202 : exc_202 q1 = r → Steps p.tables e below (s₁.setTop (mkF m 202 #[.val (.int q1)] [])) (s₁.setFrames fs) := by
    intro hh
    show Steps p.tables e below (s₁.setTop (mkF m 202 #[.val (.int q1)] [])) _
    refine XS.iconst X0.here hx rfl (hb hby d1_202) ?_
    show Steps p.tables e below (s₁.setTop (mkF m 203 #[.val (.int q1)] [(.int (0 : Int32))])) _
    exact kret 203 _ _ (hb hby d1_203) hh
  have k194 : exc_194 q1 = r → Steps p.tables e below (s₁.setTop (mkF m 194 #[.val (.int q1)] [])) (s₁.setFrames fs) := by
    intro hh
    show Steps p.tables e below (s₁.setTop (mkF m 194 #[.val (.int q1)] [])) _
    refine XS.iloadN X0.here hx rfl (hb hby d1_194) rfl ?_
    show Steps p.tables e below (s₁.setTop (mkF m 195 #[.val (.int q1)] [(.int q1)])) _
    refine X0.ldcInt hx hown (mvT hZ (hw _ (List.mem_of_getElem? (i := 7) rfl))) (g := (mkF m 195 #[.val (.int q1)] [(.int q1)])) rfl (hb hby d1_195) _ ?_
    have hh : (if (983039 : Int32) < q1 then ((1 : Int32)) else (exc_202 q1)) = r := hh
    by_cases c197 : (983039 : Int32) < q1
    · rw [if_pos c197] at hh
      show Steps p.tables e below (s₁.setTop (mkF m 197 #[.val (.int q1)] [(.int (983039 : Int32)), (.int q1)])) _
      refine XS.icmpNo X0.here hx rfl (hb hby d1_197) rfl (tlt c197).2.2.2 ?_
      show Steps p.tables e below (s₁.setTop (mkF m 200 #[.val (.int q1)] [])) _
      refine XS.iconst X0.here hx rfl (hb hby d1_200) ?_
      show Steps p.tables e below (s₁.setTop (mkF m 201 #[.val (.int q1)] [(.int (1 : Int32))])) _
      exact kret 201 _ _ (hb hby d1_201) hh
    · rw [if_neg c197] at hh
      show Steps p.tables e below (s₁.setTop (mkF m 197 #[.val (.int q1)] [(.int (983039 : Int32)), (.int q1)])) _
      refine XS.icmpYes X0.here hx rfl (pc0 := 197) (pc' := 202) rfl (hb hby d1_197) rfl (flt c197).2.2.2 (by decide) (by decide) ?_
      show Steps p.tables e below (s₁.setTop (mkF m 202 #[.val (.int q1)] [])) _
      exact k202 hh
  have k180 : exc_180 q1 = r → Steps p.tables e below (s₁.setTop (mkF m 180 #[.val (.int q1)] [])) (s₁.setFrames fs) := by
    intro hh
    show Steps p.tables e below (s₁.setTop (mkF m 180 #[.val (.int q1)] [])) _
    refine XS.iloadN X0.here hx rfl (hb hby d1_180) rfl ?_
    show Steps p.tables e below (s₁.setTop (mkF m 181 #[.val (.int q1)] [(.int q1)])) _
    refine X0.ldcInt hx hown (mvT hZ (hw _ (List.mem_of_getElem? (i := 25) rfl))) (g := (mkF m 181 #[.val (.int q1)] [(.int q1)])) rfl (hb hby d1_181) _ ?_
    have hh : (if q1 < (65534 : Int32) then (exc_194 q1) else (if (65535 : Int32) < q1 then (exc_194 q1) else ((1 : Int32)))) = r := hh
    by_cases c183 : q1 < (65534 : Int32)
    · rw [if_pos c183] at hh
      show Steps p.tables e below (s₁.setTop (mkF m 183 #[.val (.int q1)] [(.int (65534 : Int32)), (.int q1)])) _
      refine XS.icmpYes X0.here hx rfl (pc0 := 183) (pc' := 194) rfl (hb hby d1_183) rfl (tlt c183).1 (by decide) (by decide) ?_
      show Steps p.tables e below (s₁.setTop (mkF m 194 #[.val (.int q1)] [])) _
      exact k194 hh
    · rw [if_neg c183] at hh
      show Steps p.tables e below (s₁.setTop (mkF m 183 #[.val (.int q1)] [(.int (65534 : Int32)), (.int q1)])) _
      refine XS.icmpNo X0.here hx rfl (hb hby d1_183) rfl (flt c183).1 ?_
      show Steps p.tables e below (s₁.setTop (mkF m 186 #[.val (.int q1)] [])) _
      refine XS.iloadN X0.here hx rfl (hb hby d1_186) rfl ?_
      show Steps p.tables e below (s₁.setTop (mkF m 187 #[.val (.int q1)] [(.int q1)])) _
      refine X0.ldcInt hx hown (mvT hZ (hw _ (List.mem_of_getElem? (i := 22) rfl))) (g := (mkF m 187 #[.val (.int q1)] [(.int q1)])) rfl (hb hby d1_187) _ ?_
      have hh : (if (65535 : Int32) < q1 then (exc_194 q1) else ((1 : Int32))) = r := hh
      by_cases c189 : (65535 : Int32) < q1
      · rw [if_pos c189] at hh
        show Steps p.tables e below (s₁.setTop (mkF m 189 #[.val (.int q1)] [(.int (65535 : Int32)), (.int q1)])) _
        refine XS.icmpYes X0.here hx rfl (pc0 := 189) (pc' := 194) rfl (hb hby d1_189) rfl (tlt c189).2.2.1 (by decide) (by decide) ?_
        show Steps p.tables e below (s₁.setTop (mkF m 194 #[.val (.int q1)] [])) _
        exact k194 hh
      · rw [if_neg c189] at hh
        show Steps p.tables e below (s₁.setTop (mkF m 189 #[.val (.int q1)] [(.int (65535 : Int32)), (.int q1)])) _
        refine XS.icmpNo X0.here hx rfl (hb hby d1_189) rfl (flt c189).2.2.1 ?_
        show Steps p.tables e below (s₁.setTop (mkF m 192 #[.val (.int q1)] [])) _
        refine XS.iconst X0.here hx rfl (hb hby d1_192) ?_
        show Steps p.tables e below (s₁.setTop (mkF m 193 #[.val (.int q1)] [(.int (1 : Int32))])) _
        exact kret 193 _ _ (hb hby d1_193) hh
  have k166 : exc_166 q1 = r → Steps p.tables e below (s₁.setTop (mkF m 166 #[.val (.int q1)] [])) (s₁.setFrames fs) := by
    intro hh
    show Steps p.tables e below (s₁.setTop (mkF m 166 #[.val (.int q1)] [])) _
    refine XS.iloadN X0.here hx rfl (hb hby d1_166) rfl ?_
    show Steps p.tables e below (s₁.setTop (mkF m 167 #[.val (.int q1)] [(.int q1)])) _
    refine X0.ldcInt hx hown (mvT hZ (hw _ (List.mem_of_getElem? (i := 24) rfl))) (g := (mkF m 167 #[.val (.int q1)] [(.int q1)])) rfl (hb hby d1_167) _ ?_
    have hh : (if q1 < (64976 : Int32) then (exc_180 q1) else (if (65007 : Int32) < q1 then (exc_180 q1) else ((1 : Int32)))) = r := hh
    by_cases c169 : q1 < (64976 : Int32)
    · rw [if_pos c169] at hh
      show Steps p.tables e below (s₁.setTop (mkF m 169 #[.val (.int q1)] [(.int (64976 : Int32)), (.int q1)])) _
      refine XS.icmpYes X0.here hx rfl (pc0 := 169) (pc' := 180) rfl (hb hby d1_169) rfl (tlt c169).1 (by decide) (by decide) ?_
      show Steps p.tables e below (s₁.setTop (mkF m 180 #[.val (.int q1)] [])) _
      exact k180 hh
    · rw [if_neg c169] at hh
      show Steps p.tables e below (s₁.setTop (mkF m 169 #[.val (.int q1)] [(.int (64976 : Int32)), (.int q1)])) _
      refine XS.icmpNo X0.here hx rfl (hb hby d1_169) rfl (flt c169).1 ?_
      show Steps p.tables e below (s₁.setTop (mkF m 172 #[.val (.int q1)] [])) _
      refine XS.iloadN X0.here hx rfl (hb hby d1_172) rfl ?_
      show Steps p.tables e below (s₁.setTop (mkF m 173 #[.val (.int q1)] [(.int q1)])) _
      refine X0.ldcInt hx hown (mvT hZ (hw _ (List.mem_of_getElem? (i := 27) rfl))) (g := (mkF m 173 #[.val (.int q1)] [(.int q1)])) rfl (hb hby d1_173) _ ?_
      have hh : (if (65007 : Int32) < q1 then (exc_180 q1) else ((1 : Int32))) = r := hh
      by_cases c175 : (65007 : Int32) < q1
      · rw [if_pos c175] at hh
        show Steps p.tables e below (s₁.setTop (mkF m 175 #[.val (.int q1)] [(.int (65007 : Int32)), (.int q1)])) _
        refine XS.icmpYes X0.here hx rfl (pc0 := 175) (pc' := 180) rfl (hb hby d1_175) rfl (tlt c175).2.2.1 (by decide) (by decide) ?_
        show Steps p.tables e below (s₁.setTop (mkF m 180 #[.val (.int q1)] [])) _
        exact k180 hh
      · rw [if_neg c175] at hh
        show Steps p.tables e below (s₁.setTop (mkF m 175 #[.val (.int q1)] [(.int (65007 : Int32)), (.int q1)])) _
        refine XS.icmpNo X0.here hx rfl (hb hby d1_175) rfl (flt c175).2.2.1 ?_
        show Steps p.tables e below (s₁.setTop (mkF m 178 #[.val (.int q1)] [])) _
        refine XS.iconst X0.here hx rfl (hb hby d1_178) ?_
        show Steps p.tables e below (s₁.setTop (mkF m 179 #[.val (.int q1)] [(.int (1 : Int32))])) _
        exact kret 179 _ _ (hb hby d1_179) hh
  have k152 : exc_152 q1 = r → Steps p.tables e below (s₁.setTop (mkF m 152 #[.val (.int q1)] [])) (s₁.setFrames fs) := by
    intro hh
    show Steps p.tables e below (s₁.setTop (mkF m 152 #[.val (.int q1)] [])) _
    refine XS.iloadN X0.here hx rfl (hb hby d1_152) rfl ?_
    show Steps p.tables e below (s₁.setTop (mkF m 153 #[.val (.int q1)] [(.int q1)])) _
    refine X0.ldcInt hx hown (mvT hZ (hw _ (List.mem_of_getElem? (i := 23) rfl))) (g := (mkF m 153 #[.val (.int q1)] [(.int q1)])) rfl (hb hby d1_153) _ ?_
    have hh : (if q1 < (55296 : Int32) then (exc_166 q1) else (if (63743 : Int32) < q1 then (exc_166 q1) else ((1 : Int32)))) = r := hh
    by_cases c155 : q1 < (55296 : Int32)
    · rw [if_pos c155] at hh
      show Steps p.tables e below (s₁.setTop (mkF m 155 #[.val (.int q1)] [(.int (55296 : Int32)), (.int q1)])) _
      refine XS.icmpYes X0.here hx rfl (pc0 := 155) (pc' := 166) rfl (hb hby d1_155) rfl (tlt c155).1 (by decide) (by decide) ?_
      show Steps p.tables e below (s₁.setTop (mkF m 166 #[.val (.int q1)] [])) _
      exact k166 hh
    · rw [if_neg c155] at hh
      show Steps p.tables e below (s₁.setTop (mkF m 155 #[.val (.int q1)] [(.int (55296 : Int32)), (.int q1)])) _
      refine XS.icmpNo X0.here hx rfl (hb hby d1_155) rfl (flt c155).1 ?_
      show Steps p.tables e below (s₁.setTop (mkF m 158 #[.val (.int q1)] [])) _
      refine XS.iloadN X0.here hx rfl (hb hby d1_158) rfl ?_
      show Steps p.tables e below (s₁.setTop (mkF m 159 #[.val (.int q1)] [(.int q1)])) _
      refine X0.ldcInt hx hown (mvT hZ (hw _ (List.mem_of_getElem? (i := 26) rfl))) (g := (mkF m 159 #[.val (.int q1)] [(.int q1)])) rfl (hb hby d1_159) _ ?_
      have hh : (if (63743 : Int32) < q1 then (exc_166 q1) else ((1 : Int32))) = r := hh
      by_cases c161 : (63743 : Int32) < q1
      · rw [if_pos c161] at hh
        show Steps p.tables e below (s₁.setTop (mkF m 161 #[.val (.int q1)] [(.int (63743 : Int32)), (.int q1)])) _
        refine XS.icmpYes X0.here hx rfl (pc0 := 161) (pc' := 166) rfl (hb hby d1_161) rfl (tlt c161).2.2.1 (by decide) (by decide) ?_
        show Steps p.tables e below (s₁.setTop (mkF m 166 #[.val (.int q1)] [])) _
        exact k166 hh
      · rw [if_neg c161] at hh
        show Steps p.tables e below (s₁.setTop (mkF m 161 #[.val (.int q1)] [(.int (63743 : Int32)), (.int q1)])) _
        refine XS.icmpNo X0.here hx rfl (hb hby d1_161) rfl (flt c161).2.2.1 ?_
        show Steps p.tables e below (s₁.setTop (mkF m 164 #[.val (.int q1)] [])) _
        refine XS.iconst X0.here hx rfl (hb hby d1_164) ?_
        show Steps p.tables e below (s₁.setTop (mkF m 165 #[.val (.int q1)] [(.int (1 : Int32))])) _
        exact kret 165 _ _ (hb hby d1_165) hh
  have k136 : exc_136 q1 = r → Steps p.tables e below (s₁.setTop (mkF m 136 #[.val (.int q1)] [])) (s₁.setFrames fs) := by
    intro hh
    show Steps p.tables e below (s₁.setTop (mkF m 136 #[.val (.int q1)] [])) _
    refine XS.iloadN X0.here hx rfl (hb hby d1_136) rfl ?_
    show Steps p.tables e below (s₁.setTop (mkF m 137 #[.val (.int q1)] [(.int q1)])) _
    refine XS.sipush X0.here hx rfl (hb hby d1_137) ?_
    have hh : (if q1 < (12272 : Int32) then (exc_152 q1) else (if (12288 : Int32) < q1 then (exc_152 q1) else ((1 : Int32)))) = r := hh
    by_cases c140 : q1 < (12272 : Int32)
    · rw [if_pos c140] at hh
      show Steps p.tables e below (s₁.setTop (mkF m 140 #[.val (.int q1)] [(.int (12272 : Int32)), (.int q1)])) _
      refine XS.icmpYes X0.here hx rfl (pc0 := 140) (pc' := 152) rfl (hb hby d1_140) rfl (tlt c140).1 (by decide) (by decide) ?_
      show Steps p.tables e below (s₁.setTop (mkF m 152 #[.val (.int q1)] [])) _
      exact k152 hh
    · rw [if_neg c140] at hh
      show Steps p.tables e below (s₁.setTop (mkF m 140 #[.val (.int q1)] [(.int (12272 : Int32)), (.int q1)])) _
      refine XS.icmpNo X0.here hx rfl (hb hby d1_140) rfl (flt c140).1 ?_
      show Steps p.tables e below (s₁.setTop (mkF m 143 #[.val (.int q1)] [])) _
      refine XS.iloadN X0.here hx rfl (hb hby d1_143) rfl ?_
      show Steps p.tables e below (s₁.setTop (mkF m 144 #[.val (.int q1)] [(.int q1)])) _
      refine XS.sipush X0.here hx rfl (hb hby d1_144) ?_
      have hh : (if (12288 : Int32) < q1 then (exc_152 q1) else ((1 : Int32))) = r := hh
      by_cases c147 : (12288 : Int32) < q1
      · rw [if_pos c147] at hh
        show Steps p.tables e below (s₁.setTop (mkF m 147 #[.val (.int q1)] [(.int (12288 : Int32)), (.int q1)])) _
        refine XS.icmpYes X0.here hx rfl (pc0 := 147) (pc' := 152) rfl (hb hby d1_147) rfl (tlt c147).2.2.1 (by decide) (by decide) ?_
        show Steps p.tables e below (s₁.setTop (mkF m 152 #[.val (.int q1)] [])) _
        exact k152 hh
      · rw [if_neg c147] at hh
        show Steps p.tables e below (s₁.setTop (mkF m 147 #[.val (.int q1)] [(.int (12288 : Int32)), (.int q1)])) _
        refine XS.icmpNo X0.here hx rfl (hb hby d1_147) rfl (flt c147).2.2.1 ?_
        show Steps p.tables e below (s₁.setTop (mkF m 150 #[.val (.int q1)] [])) _
        refine XS.iconst X0.here hx rfl (hb hby d1_150) ?_
        show Steps p.tables e below (s₁.setTop (mkF m 151 #[.val (.int q1)] [(.int (1 : Int32))])) _
        exact kret 151 _ _ (hb hby d1_151) hh
  have k120 : exc_120 q1 = r → Steps p.tables e below (s₁.setTop (mkF m 120 #[.val (.int q1)] [])) (s₁.setFrames fs) := by
    intro hh
    show Steps p.tables e below (s₁.setTop (mkF m 120 #[.val (.int q1)] [])) _
    refine XS.iloadN X0.here hx rfl (hb hby d1_120) rfl ?_
    show Steps p.tables e below (s₁.setTop (mkF m 121 #[.val (.int q1)] [(.int q1)])) _
    refine XS.sipush X0.here hx rfl (hb hby d1_121) ?_
    have hh : (if q1 < (8592 : Int32) then (exc_136 q1) else (if (11263 : Int32) < q1 then (exc_136 q1) else ((1 : Int32)))) = r := hh
    by_cases c124 : q1 < (8592 : Int32)
    · rw [if_pos c124] at hh
      show Steps p.tables e below (s₁.setTop (mkF m 124 #[.val (.int q1)] [(.int (8592 : Int32)), (.int q1)])) _
      refine XS.icmpYes X0.here hx rfl (pc0 := 124) (pc' := 136) rfl (hb hby d1_124) rfl (tlt c124).1 (by decide) (by decide) ?_
      show Steps p.tables e below (s₁.setTop (mkF m 136 #[.val (.int q1)] [])) _
      exact k136 hh
    · rw [if_neg c124] at hh
      show Steps p.tables e below (s₁.setTop (mkF m 124 #[.val (.int q1)] [(.int (8592 : Int32)), (.int q1)])) _
      refine XS.icmpNo X0.here hx rfl (hb hby d1_124) rfl (flt c124).1 ?_
      show Steps p.tables e below (s₁.setTop (mkF m 127 #[.val (.int q1)] [])) _
      refine XS.iloadN X0.here hx rfl (hb hby d1_127) rfl ?_
      show Steps p.tables e below (s₁.setTop (mkF m 128 #[.val (.int q1)] [(.int q1)])) _
      refine XS.sipush X0.here hx rfl (hb hby d1_128) ?_
      have hh : (if (11263 : Int32) < q1 then (exc_136 q1) else ((1 : Int32))) = r := hh
      by_cases c131 : (11263 : Int32) < q1
      · rw [if_pos c131] at hh
        show Steps p.tables e below (s₁.setTop (mkF m 131 #[.val (.int q1)] [(.int (11263 : Int32)), (.int q1)])) _
        refine XS.icmpYes X0.here hx rfl (pc0 := 131) (pc' := 136) rfl (hb hby d1_131) rfl (tlt c131).2.2.1 (by decide) (by decide) ?_
        show Steps p.tables e below (s₁.setTop (mkF m 136 #[.val (.int q1)] [])) _
        exact k136 hh
      · rw [if_neg c131] at hh
        show Steps p.tables e below (s₁.setTop (mkF m 131 #[.val (.int q1)] [(.int (11263 : Int32)), (.int q1)])) _
        refine XS.icmpNo X0.here hx rfl (hb hby d1_131) rfl (flt c131).2.2.1 ?_
        show Steps p.tables e below (s₁.setTop (mkF m 134 #[.val (.int q1)] [])) _
        refine XS.iconst X0.here hx rfl (hb hby d1_134) ?_
        show Steps p.tables e below (s₁.setTop (mkF m 135 #[.val (.int q1)] [(.int (1 : Int32))])) _
        exact kret 135 _ _ (hb hby d1_135) hh
  have k104 : exc_104 q1 = r → Steps p.tables e below (s₁.setTop (mkF m 104 #[.val (.int q1)] [])) (s₁.setFrames fs) := by
    intro hh
    show Steps p.tables e below (s₁.setTop (mkF m 104 #[.val (.int q1)] [])) _
    refine XS.iloadN X0.here hx rfl (hb hby d1_104) rfl ?_
    show Steps p.tables e below (s₁.setTop (mkF m 105 #[.val (.int q1)] [(.int q1)])) _
    refine XS.sipush X0.here hx rfl (hb hby d1_105) ?_
    have hh : (if q1 < (8206 : Int32) then (exc_120 q1) else (if (8303 : Int32) < q1 then (exc_120 q1) else ((1 : Int32)))) = r := hh
    by_cases c108 : q1 < (8206 : Int32)
    · rw [if_pos c108] at hh
      show Steps p.tables e below (s₁.setTop (mkF m 108 #[.val (.int q1)] [(.int (8206 : Int32)), (.int q1)])) _
      refine XS.icmpYes X0.here hx rfl (pc0 := 108) (pc' := 120) rfl (hb hby d1_108) rfl (tlt c108).1 (by decide) (by decide) ?_
      show Steps p.tables e below (s₁.setTop (mkF m 120 #[.val (.int q1)] [])) _
      exact k120 hh
    · rw [if_neg c108] at hh
      show Steps p.tables e below (s₁.setTop (mkF m 108 #[.val (.int q1)] [(.int (8206 : Int32)), (.int q1)])) _
      refine XS.icmpNo X0.here hx rfl (hb hby d1_108) rfl (flt c108).1 ?_
      show Steps p.tables e below (s₁.setTop (mkF m 111 #[.val (.int q1)] [])) _
      refine XS.iloadN X0.here hx rfl (hb hby d1_111) rfl ?_
      show Steps p.tables e below (s₁.setTop (mkF m 112 #[.val (.int q1)] [(.int q1)])) _
      refine XS.sipush X0.here hx rfl (hb hby d1_112) ?_
      have hh : (if (8303 : Int32) < q1 then (exc_120 q1) else ((1 : Int32))) = r := hh
      by_cases c115 : (8303 : Int32) < q1
      · rw [if_pos c115] at hh
        show Steps p.tables e below (s₁.setTop (mkF m 115 #[.val (.int q1)] [(.int (8303 : Int32)), (.int q1)])) _
        refine XS.icmpYes X0.here hx rfl (pc0 := 115) (pc' := 120) rfl (hb hby d1_115) rfl (tlt c115).2.2.1 (by decide) (by decide) ?_
        show Steps p.tables e below (s₁.setTop (mkF m 120 #[.val (.int q1)] [])) _
        exact k120 hh
      · rw [if_neg c115] at hh
        show Steps p.tables e below (s₁.setTop (mkF m 115 #[.val (.int q1)] [(.int (8303 : Int32)), (.int q1)])) _
        refine XS.icmpNo X0.here hx rfl (hb hby d1_115) rfl (flt c115).2.2.1 ?_
        show Steps p.tables e below (s₁.setTop (mkF m 118 #[.val (.int q1)] [])) _
        refine XS.iconst X0.here hx rfl (hb hby d1_118) ?_
        show Steps p.tables e below (s₁.setTop (mkF m 119 #[.val (.int q1)] [(.int (1 : Int32))])) _
        exact kret 119 _ _ (hb hby d1_119) hh
  have k88 : exc_88 q1 = r → Steps p.tables e below (s₁.setTop (mkF m 88 #[.val (.int q1)] [])) (s₁.setFrames fs) := by
    intro hh
    show Steps p.tables e below (s₁.setTop (mkF m 88 #[.val (.int q1)] [])) _
    refine XS.iloadN X0.here hx rfl (hb hby d1_88) rfl ?_
    show Steps p.tables e below (s₁.setTop (mkF m 89 #[.val (.int q1)] [(.int q1)])) _
    refine XS.sipush X0.here hx rfl (hb hby d1_89) ?_
    have hh : (if q1 < (8192 : Int32) then (exc_104 q1) else (if (8203 : Int32) < q1 then (exc_104 q1) else ((1 : Int32)))) = r := hh
    by_cases c92 : q1 < (8192 : Int32)
    · rw [if_pos c92] at hh
      show Steps p.tables e below (s₁.setTop (mkF m 92 #[.val (.int q1)] [(.int (8192 : Int32)), (.int q1)])) _
      refine XS.icmpYes X0.here hx rfl (pc0 := 92) (pc' := 104) rfl (hb hby d1_92) rfl (tlt c92).1 (by decide) (by decide) ?_
      show Steps p.tables e below (s₁.setTop (mkF m 104 #[.val (.int q1)] [])) _
      exact k104 hh
    · rw [if_neg c92] at hh
      show Steps p.tables e below (s₁.setTop (mkF m 92 #[.val (.int q1)] [(.int (8192 : Int32)), (.int q1)])) _
      refine XS.icmpNo X0.here hx rfl (hb hby d1_92) rfl (flt c92).1 ?_
      show Steps p.tables e below (s₁.setTop (mkF m 95 #[.val (.int q1)] [])) _
      refine XS.iloadN X0.here hx rfl (hb hby d1_95) rfl ?_
      show Steps p.tables e below (s₁.setTop (mkF m 96 #[.val (.int q1)] [(.int q1)])) _
      refine XS.sipush X0.here hx rfl (hb hby d1_96) ?_
      have hh : (if (8203 : Int32) < q1 then (exc_104 q1) else ((1 : Int32))) = r := hh
      by_cases c99 : (8203 : Int32) < q1
      · rw [if_pos c99] at hh
        show Steps p.tables e below (s₁.setTop (mkF m 99 #[.val (.int q1)] [(.int (8203 : Int32)), (.int q1)])) _
        refine XS.icmpYes X0.here hx rfl (pc0 := 99) (pc' := 104) rfl (hb hby d1_99) rfl (tlt c99).2.2.1 (by decide) (by decide) ?_
        show Steps p.tables e below (s₁.setTop (mkF m 104 #[.val (.int q1)] [])) _
        exact k104 hh
      · rw [if_neg c99] at hh
        show Steps p.tables e below (s₁.setTop (mkF m 99 #[.val (.int q1)] [(.int (8203 : Int32)), (.int q1)])) _
        refine XS.icmpNo X0.here hx rfl (hb hby d1_99) rfl (flt c99).2.2.1 ?_
        show Steps p.tables e below (s₁.setTop (mkF m 102 #[.val (.int q1)] [])) _
        refine XS.iconst X0.here hx rfl (hb hby d1_102) ?_
        show Steps p.tables e below (s₁.setTop (mkF m 103 #[.val (.int q1)] [(.int (1 : Int32))])) _
        exact kret 103 _ _ (hb hby d1_103) hh
  have k79 : exc_79 q1 = r → Steps p.tables e below (s₁.setTop (mkF m 79 #[.val (.int q1)] [])) (s₁.setFrames fs) := by
    intro hh
    show Steps p.tables e below (s₁.setTop (mkF m 79 #[.val (.int q1)] [])) _
    refine XS.iloadN X0.here hx rfl (hb hby d1_79) rfl ?_
    show Steps p.tables e below (s₁.setTop (mkF m 80 #[.val (.int q1)] [(.int q1)])) _
    refine XS.sipush X0.here hx rfl (hb hby d1_80) ?_
    have hh : (if q1 = (894 : Int32) then ((1 : Int32)) else (exc_88 q1)) = r := hh
    by_cases c83 : q1 = (894 : Int32)
    · rw [if_pos c83] at hh
      show Steps p.tables e below (s₁.setTop (mkF m 83 #[.val (.int q1)] [(.int (894 : Int32)), (.int q1)])) _
      refine XS.icmpNo X0.here hx rfl (hb hby d1_83) rfl (teq c83).2 ?_
      show Steps p.tables e below (s₁.setTop (mkF m 86 #[.val (.int q1)] [])) _
      refine XS.iconst X0.here hx rfl (hb hby d1_86) ?_
      show Steps p.tables e below (s₁.setTop (mkF m 87 #[.val (.int q1)] [(.int (1 : Int32))])) _
      exact kret 87 _ _ (hb hby d1_87) hh
    · rw [if_neg c83] at hh
      show Steps p.tables e below (s₁.setTop (mkF m 83 #[.val (.int q1)] [(.int (894 : Int32)), (.int q1)])) _
      refine XS.icmpYes X0.here hx rfl (pc0 := 83) (pc' := 88) rfl (hb hby d1_83) rfl (feq c83).2 (by decide) (by decide) ?_
      show Steps p.tables e below (s₁.setTop (mkF m 88 #[.val (.int q1)] [])) _
      exact k88 hh
  have k63 : exc_63 q1 = r → Steps p.tables e below (s₁.setTop (mkF m 63 #[.val (.int q1)] [])) (s₁.setFrames fs) := by
    intro hh
    show Steps p.tables e below (s₁.setTop (mkF m 63 #[.val (.int q1)] [])) _
    refine XS.iloadN X0.here hx rfl (hb hby d1_63) rfl ?_
    show Steps p.tables e below (s₁.setTop (mkF m 64 #[.val (.int q1)] [(.int q1)])) _
    refine XS.sipush X0.here hx rfl (hb hby d1_64) ?_
    have hh : (if q1 < (768 : Int32) then (exc_79 q1) else (if (879 : Int32) < q1 then (exc_79 q1) else ((1 : Int32)))) = r := hh
    by_cases c67 : q1 < (768 : Int32)
    · rw [if_pos c67] at hh
      show Steps p.tables e below (s₁.setTop (mkF m 67 #[.val (.int q1)] [(.int (768 : Int32)), (.int q1)])) _
      refine XS.icmpYes X0.here hx rfl (pc0 := 67) (pc' := 79) rfl (hb hby d1_67) rfl (tlt c67).1 (by decide) (by decide) ?_
      show Steps p.tables e below (s₁.setTop (mkF m 79 #[.val (.int q1)] [])) _
      exact k79 hh
    · rw [if_neg c67] at hh
      show Steps p.tables e below (s₁.setTop (mkF m 67 #[.val (.int q1)] [(.int (768 : Int32)), (.int q1)])) _
      refine XS.icmpNo X0.here hx rfl (hb hby d1_67) rfl (flt c67).1 ?_
      show Steps p.tables e below (s₁.setTop (mkF m 70 #[.val (.int q1)] [])) _
      refine XS.iloadN X0.here hx rfl (hb hby d1_70) rfl ?_
      show Steps p.tables e below (s₁.setTop (mkF m 71 #[.val (.int q1)] [(.int q1)])) _
      refine XS.sipush X0.here hx rfl (hb hby d1_71) ?_
      have hh : (if (879 : Int32) < q1 then (exc_79 q1) else ((1 : Int32))) = r := hh
      by_cases c74 : (879 : Int32) < q1
      · rw [if_pos c74] at hh
        show Steps p.tables e below (s₁.setTop (mkF m 74 #[.val (.int q1)] [(.int (879 : Int32)), (.int q1)])) _
        refine XS.icmpYes X0.here hx rfl (pc0 := 74) (pc' := 79) rfl (hb hby d1_74) rfl (tlt c74).2.2.1 (by decide) (by decide) ?_
        show Steps p.tables e below (s₁.setTop (mkF m 79 #[.val (.int q1)] [])) _
        exact k79 hh
      · rw [if_neg c74] at hh
        show Steps p.tables e below (s₁.setTop (mkF m 74 #[.val (.int q1)] [(.int (879 : Int32)), (.int q1)])) _
        refine XS.icmpNo X0.here hx rfl (hb hby d1_74) rfl (flt c74).2.2.1 ?_
        show Steps p.tables e below (s₁.setTop (mkF m 77 #[.val (.int q1)] [])) _
        refine XS.iconst X0.here hx rfl (hb hby d1_77) ?_
        show Steps p.tables e below (s₁.setTop (mkF m 78 #[.val (.int q1)] [(.int (1 : Int32))])) _
        exact kret 78 _ _ (hb hby d1_78) hh
  have k54 : exc_54 q1 = r → Steps p.tables e below (s₁.setTop (mkF m 54 #[.val (.int q1)] [])) (s₁.setFrames fs) := by
    intro hh
    show Steps p.tables e below (s₁.setTop (mkF m 54 #[.val (.int q1)] [])) _
    refine XS.iloadN X0.here hx rfl (hb hby d1_54) rfl ?_
    show Steps p.tables e below (s₁.setTop (mkF m 55 #[.val (.int q1)] [(.int q1)])) _
    refine XS.sipush X0.here hx rfl (hb hby d1_55) ?_
    have hh : (if q1 = (247 : Int32) then ((1 : Int32)) else (exc_63 q1)) = r := hh
    by_cases c58 : q1 = (247 : Int32)
    · rw [if_pos c58] at hh
      show Steps p.tables e below (s₁.setTop (mkF m 58 #[.val (.int q1)] [(.int (247 : Int32)), (.int q1)])) _
      refine XS.icmpNo X0.here hx rfl (hb hby d1_58) rfl (teq c58).2 ?_
      show Steps p.tables e below (s₁.setTop (mkF m 61 #[.val (.int q1)] [])) _
      refine XS.iconst X0.here hx rfl (hb hby d1_61) ?_
      show Steps p.tables e below (s₁.setTop (mkF m 62 #[.val (.int q1)] [(.int (1 : Int32))])) _
      exact kret 62 _ _ (hb hby d1_62) hh
    · rw [if_neg c58] at hh
      show Steps p.tables e below (s₁.setTop (mkF m 58 #[.val (.int q1)] [(.int (247 : Int32)), (.int q1)])) _
      refine XS.icmpYes X0.here hx rfl (pc0 := 58) (pc' := 63) rfl (hb hby d1_58) rfl (feq c58).2 (by decide) (by decide) ?_
      show Steps p.tables e below (s₁.setTop (mkF m 63 #[.val (.int q1)] [])) _
      exact k63 hh
  have k45 : exc_45 q1 = r → Steps p.tables e below (s₁.setTop (mkF m 45 #[.val (.int q1)] [])) (s₁.setFrames fs) := by
    intro hh
    show Steps p.tables e below (s₁.setTop (mkF m 45 #[.val (.int q1)] [])) _
    refine XS.iloadN X0.here hx rfl (hb hby d1_45) rfl ?_
    show Steps p.tables e below (s₁.setTop (mkF m 46 #[.val (.int q1)] [(.int q1)])) _
    refine XS.sipush X0.here hx rfl (hb hby d1_46) ?_
    have hh : (if q1 = (215 : Int32) then ((1 : Int32)) else (exc_54 q1)) = r := hh
    by_cases c49 : q1 = (215 : Int32)
    · rw [if_pos c49] at hh
      show Steps p.tables e below (s₁.setTop (mkF m 49 #[.val (.int q1)] [(.int (215 : Int32)), (.int q1)])) _
      refine XS.icmpNo X0.here hx rfl (hb hby d1_49) rfl (teq c49).2 ?_
      show Steps p.tables e below (s₁.setTop (mkF m 52 #[.val (.int q1)] [])) _
      refine XS.iconst X0.here hx rfl (hb hby d1_52) ?_
      show Steps p.tables e below (s₁.setTop (mkF m 53 #[.val (.int q1)] [(.int (1 : Int32))])) _
      exact kret 53 _ _ (hb hby d1_53) hh
    · rw [if_neg c49] at hh
      show Steps p.tables e below (s₁.setTop (mkF m 49 #[.val (.int q1)] [(.int (215 : Int32)), (.int q1)])) _
      refine XS.icmpYes X0.here hx rfl (pc0 := 49) (pc' := 54) rfl (hb hby d1_49) rfl (feq c49).2 (by decide) (by decide) ?_
      show Steps p.tables e below (s₁.setTop (mkF m 54 #[.val (.int q1)] [])) _
      exact k54 hh
  have k30 : exc_30 q1 = r → Steps p.tables e below (s₁.setTop (mkF m 30 #[.val (.int q1)] [])) (s₁.setFrames fs) := by
    intro hh
    show Steps p.tables e below (s₁.setTop (mkF m 30 #[.val (.int q1)] [])) _
    refine XS.iloadN X0.here hx rfl (hb hby d1_30) rfl ?_
    show Steps p.tables e below (s₁.setTop (mkF m 31 #[.val (.int q1)] [(.int q1)])) _
    refine XS.bipush X0.here hx rfl (hb hby d1_31) ?_
    have hh : (if q1 < (123 : Int32) then (exc_45 q1) else (if (191 : Int32) < q1 then (exc_45 q1) else ((1 : Int32)))) = r := hh
    by_cases c33 : q1 < (123 : Int32)
    · rw [if_pos c33] at hh
      show Steps p.tables e below (s₁.setTop (mkF m 33 #[.val (.int q1)] [(.int (123 : Int32)), (.int q1)])) _
      refine XS.icmpYes X0.here hx rfl (pc0 := 33) (pc' := 45) rfl (hb hby d1_33) rfl (tlt c33).1 (by decide) (by decide) ?_
      show Steps p.tables e below (s₁.setTop (mkF m 45 #[.val (.int q1)] [])) _
      exact k45 hh
    · rw [if_neg c33] at hh
      show Steps p.tables e below (s₁.setTop (mkF m 33 #[.val (.int q1)] [(.int (123 : Int32)), (.int q1)])) _
      refine XS.icmpNo X0.here hx rfl (hb hby d1_33) rfl (flt c33).1 ?_
      show Steps p.tables e below (s₁.setTop (mkF m 36 #[.val (.int q1)] [])) _
      refine XS.iloadN X0.here hx rfl (hb hby d1_36) rfl ?_
      show Steps p.tables e below (s₁.setTop (mkF m 37 #[.val (.int q1)] [(.int q1)])) _
      refine XS.sipush X0.here hx rfl (hb hby d1_37) ?_
      have hh : (if (191 : Int32) < q1 then (exc_45 q1) else ((1 : Int32))) = r := hh
      by_cases c40 : (191 : Int32) < q1
      · rw [if_pos c40] at hh
        show Steps p.tables e below (s₁.setTop (mkF m 40 #[.val (.int q1)] [(.int (191 : Int32)), (.int q1)])) _
        refine XS.icmpYes X0.here hx rfl (pc0 := 40) (pc' := 45) rfl (hb hby d1_40) rfl (tlt c40).2.2.1 (by decide) (by decide) ?_
        show Steps p.tables e below (s₁.setTop (mkF m 45 #[.val (.int q1)] [])) _
        exact k45 hh
      · rw [if_neg c40] at hh
        show Steps p.tables e below (s₁.setTop (mkF m 40 #[.val (.int q1)] [(.int (191 : Int32)), (.int q1)])) _
        refine XS.icmpNo X0.here hx rfl (hb hby d1_40) rfl (flt c40).2.2.1 ?_
        show Steps p.tables e below (s₁.setTop (mkF m 43 #[.val (.int q1)] [])) _
        refine XS.iconst X0.here hx rfl (hb hby d1_43) ?_
        show Steps p.tables e below (s₁.setTop (mkF m 44 #[.val (.int q1)] [(.int (1 : Int32))])) _
        exact kret 44 _ _ (hb hby d1_44) hh
  have k22 : exc_22 q1 = r → Steps p.tables e below (s₁.setTop (mkF m 22 #[.val (.int q1)] [])) (s₁.setFrames fs) := by
    intro hh
    show Steps p.tables e below (s₁.setTop (mkF m 22 #[.val (.int q1)] [])) _
    refine XS.iloadN X0.here hx rfl (hb hby d1_22) rfl ?_
    show Steps p.tables e below (s₁.setTop (mkF m 23 #[.val (.int q1)] [(.int q1)])) _
    refine XS.bipush X0.here hx rfl (hb hby d1_23) ?_
    have hh : (if q1 = (96 : Int32) then ((1 : Int32)) else (exc_30 q1)) = r := hh
    by_cases c25 : q1 = (96 : Int32)
    · rw [if_pos c25] at hh
      show Steps p.tables e below (s₁.setTop (mkF m 25 #[.val (.int q1)] [(.int (96 : Int32)), (.int q1)])) _
      refine XS.icmpNo X0.here hx rfl (hb hby d1_25) rfl (teq c25).2 ?_
      show Steps p.tables e below (s₁.setTop (mkF m 28 #[.val (.int q1)] [])) _
      refine XS.iconst X0.here hx rfl (hb hby d1_28) ?_
      show Steps p.tables e below (s₁.setTop (mkF m 29 #[.val (.int q1)] [(.int (1 : Int32))])) _
      exact kret 29 _ _ (hb hby d1_29) hh
    · rw [if_neg c25] at hh
      show Steps p.tables e below (s₁.setTop (mkF m 25 #[.val (.int q1)] [(.int (96 : Int32)), (.int q1)])) _
      refine XS.icmpYes X0.here hx rfl (pc0 := 25) (pc' := 30) rfl (hb hby d1_25) rfl (feq c25).2 (by decide) (by decide) ?_
      show Steps p.tables e below (s₁.setTop (mkF m 30 #[.val (.int q1)] [])) _
      exact k30 hh
  have k8 : exc_8 q1 = r → Steps p.tables e below (s₁.setTop (mkF m 8 #[.val (.int q1)] [])) (s₁.setFrames fs) := by
    intro hh
    show Steps p.tables e below (s₁.setTop (mkF m 8 #[.val (.int q1)] [])) _
    refine XS.iloadN X0.here hx rfl (hb hby d1_8) rfl ?_
    show Steps p.tables e below (s₁.setTop (mkF m 9 #[.val (.int q1)] [(.int q1)])) _
    refine XS.bipush X0.here hx rfl (hb hby d1_9) ?_
    have hh : (if q1 < (91 : Int32) then (exc_22 q1) else (if (94 : Int32) < q1 then (exc_22 q1) else ((1 : Int32)))) = r := hh
    by_cases c11 : q1 < (91 : Int32)
    · rw [if_pos c11] at hh
      show Steps p.tables e below (s₁.setTop (mkF m 11 #[.val (.int q1)] [(.int (91 : Int32)), (.int q1)])) _
      refine XS.icmpYes X0.here hx rfl (pc0 := 11) (pc' := 22) rfl (hb hby d1_11) rfl (tlt c11).1 (by decide) (by decide) ?_
      show Steps p.tables e below (s₁.setTop (mkF m 22 #[.val (.int q1)] [])) _
      exact k22 hh
    · rw [if_neg c11] at hh
      show Steps p.tables e below (s₁.setTop (mkF m 11 #[.val (.int q1)] [(.int (91 : Int32)), (.int q1)])) _
      refine XS.icmpNo X0.here hx rfl (hb hby d1_11) rfl (flt c11).1 ?_
      show Steps p.tables e below (s₁.setTop (mkF m 14 #[.val (.int q1)] [])) _
      refine XS.iloadN X0.here hx rfl (hb hby d1_14) rfl ?_
      show Steps p.tables e below (s₁.setTop (mkF m 15 #[.val (.int q1)] [(.int q1)])) _
      refine XS.bipush X0.here hx rfl (hb hby d1_15) ?_
      have hh : (if (94 : Int32) < q1 then (exc_22 q1) else ((1 : Int32))) = r := hh
      by_cases c17 : (94 : Int32) < q1
      · rw [if_pos c17] at hh
        show Steps p.tables e below (s₁.setTop (mkF m 17 #[.val (.int q1)] [(.int (94 : Int32)), (.int q1)])) _
        refine XS.icmpYes X0.here hx rfl (pc0 := 17) (pc' := 22) rfl (hb hby d1_17) rfl (tlt c17).2.2.1 (by decide) (by decide) ?_
        show Steps p.tables e below (s₁.setTop (mkF m 22 #[.val (.int q1)] [])) _
        exact k22 hh
      · rw [if_neg c17] at hh
        show Steps p.tables e below (s₁.setTop (mkF m 17 #[.val (.int q1)] [(.int (94 : Int32)), (.int q1)])) _
        refine XS.icmpNo X0.here hx rfl (hb hby d1_17) rfl (flt c17).2.2.1 ?_
        show Steps p.tables e below (s₁.setTop (mkF m 20 #[.val (.int q1)] [])) _
        refine XS.iconst X0.here hx rfl (hb hby d1_20) ?_
        show Steps p.tables e below (s₁.setTop (mkF m 21 #[.val (.int q1)] [(.int (1 : Int32))])) _
        exact kret 21 _ _ (hb hby d1_21) hh
  have k0 : exc_0 q1 = r → Steps p.tables e below (s₁.setTop (mkF m 0 #[.val (.int q1)] [])) (s₁.setFrames fs) := by
    intro hh
    show Steps p.tables e below (s₁.setTop (mkF m 0 #[.val (.int q1)] [])) _
    refine XS.iloadN X0.here hx rfl (hb hby d1_0) rfl ?_
    show Steps p.tables e below (s₁.setTop (mkF m 1 #[.val (.int q1)] [(.int q1)])) _
    refine XS.bipush X0.here hx rfl (hb hby d1_1) ?_
    have hh : (if q1 < (65 : Int32) then ((1 : Int32)) else (exc_8 q1)) = r := hh
    by_cases c3 : q1 < (65 : Int32)
    · rw [if_pos c3] at hh
      show Steps p.tables e below (s₁.setTop (mkF m 3 #[.val (.int q1)] [(.int (65 : Int32)), (.int q1)])) _
      refine XS.icmpNo X0.here hx rfl (hb hby d1_3) rfl (tlt c3).2.1 ?_
      show Steps p.tables e below (s₁.setTop (mkF m 6 #[.val (.int q1)] [])) _
      refine XS.iconst X0.here hx rfl (hb hby d1_6) ?_
      show Steps p.tables e below (s₁.setTop (mkF m 7 #[.val (.int q1)] [(.int (1 : Int32))])) _
      exact kret 7 _ _ (hb hby d1_7) hh
    · rw [if_neg c3] at hh
      show Steps p.tables e below (s₁.setTop (mkF m 3 #[.val (.int q1)] [(.int (65 : Int32)), (.int q1)])) _
      refine XS.icmpYes X0.here hx rfl (pc0 := 3) (pc' := 8) rfl (hb hby d1_3) rfl (flt c3).2.1 (by decide) (by decide) ?_
      show Steps p.tables e below (s₁.setTop (mkF m 8 #[.val (.int q1)] [])) _
      exact k8 hh
  refine ⟨_, _, pre0 _ (k0 hr0), hrun, hended, _, _, rfl, ?_, ⟨_, rfl⟩, hW, hsame.mono (by decide) (by decide)⟩
  show Q1 Z q1 h0 n0 _ s₁.heap _
  rw [e0]
  exact ⟨by rw [hr0], Fr.nil n0, rfl⟩
def Q2 (Z : State) (q1 : Int32) (h0 : Heap) (n0 : Nat) (v : Option Value) (h : Heap) (L : List Loc) : Prop := v = some (.int (nsc_0 q1)) ∧ Fr n0 L ∧ h = h0
set_option maxRecDepth 65536 in
set_option maxHeartbeats 40000000 in
theorem rm2 (l : Launch) (Z : State) (a0 : Array Value) (hw : ∀ d ∈ tables_1, d.before a0 Z = true) (ws : List Jvm.Cond) (q1 : Int32) (h0 : Heap) (n0 : Nat) (Z0 : n0 ≤ h0.size) :
    MetFree l (⟨"transept/model/XmlChars", "isNameStartChar", "(I)Z"⟩ : MethodName) (head1 (Jvm.Cond.code (⟨"transept/model/XmlChars", "isNameStartChar", "(I)Z"⟩ : MethodName) prog_132_method_11_code 1 (some .boolean) :: ws) ({ frames := 0, cells := 0, slots := 0, locals := 0 } : Room)) (fun a U => a = #[(.int q1)] ∧ Z.Warmed39 U.vm ∧ U.heap = h0) (fun _ _ _ _ _ => True) (fun _ U o U' => ∃ v L, o = .returned v ∧ Q2 Z q1 h0 n0 v U'.heap L ∧ FrameEnd U o U' L ({ frames := 0, cells := 0, slots := 0, locals := 0 } : Room).cells ({ frames := 0, cells := 0, slots := 0, locals := 0 } : Room).slots) := by
  refine MetFree.of_bodySF (plainFor_of_name pn_2) hisR ?_
  intro p e s m args below meth c s₁ Bd hml0 hP hK
  obtain ⟨rfl, hZ, hh⟩ := hP
  have hx := Bd.exec
  have hby := Bd.bytes
  have hown : s.vm.findClass "transept/model/XmlChars" = some m.cls := findClass_of_methodNamed Bd.named
  have X0 : Stand p l e ({ frames := 0, cells := 0, slots := 0, locals := 0 } : Room) s m #[(.int q1)] below meth c s₁ [] 0 0 := Stand.of_body Bd
  have e0 : s₁.heap = h0 := by rw [← hh, Bd.state]; rfl
  have pre0 : ∀ t, Steps p.tables e below (s₁.setTop (mkF m 0 #[.val (.int q1)] [])) t → Steps p.tables e below (s₁.setTop (entryFrame m #[(.int q1)] 1)) t := fun t k => castTop (ef_2 m q1) k
  obtain ⟨r, hr0⟩ : ∃ r : Int32, nsc_0 q1 = r := ⟨_, rfl⟩
  have hnar : nar .boolean r = r := by rcases nsc_bool q1 with q | q <;> rw [hr0] at q <;> rw [q] <;> rfl
  obtain ⟨fs, hr, hrun, hended, hW, hsame⟩ := X0.leave (v := some (.int r)) (fun h => by rw [Bd.returns] at h; cases h)
  have kret : ∀ (pc : Nat) (Ls : Array Slot) (z : Int32), decode c.code pc = .ok (.ireturn, 1) → z = r → Steps p.tables e below (s₁.setTop (mkF m pc Ls [(.int z)])) (s₁.setFrames fs) := fun pc Ls z hd hz => retN X0 hx (t := .boolean) Bd.returns (by simp) hd (by rw [hz, hnar]; exact hr)
  have k196 : ∀ (z196_0 : Int32), nsc_196 q1 z196_0 = r → Steps p.tables e below (s₁.setTop (mkF m 196 #[.val (.int q1)] [(.int z196_0)])) (s₁.setFrames fs) := by
    intro z196_0 hh
    show Steps p.tables e below (s₁.setTop (mkF m 196 #[.val (.int q1)] [(.int z196_0)])) _
    exact kret 196 _ _ (hb hby d2_196) hh
  have k195 : nsc_195 q1 = r → Steps p.tables e below (s₁.setTop (mkF m 195 #[.val (.int q1)] [])) (s₁.setFrames fs) := by
    intro hh
    show Steps p.tables e below (s₁.setTop (mkF m 195 #[.val (.int q1)] [])) _
    refine XS.iconst X0.here hx rfl (hb hby d2_195) ?_
    show Steps p.tables e below (s₁.setTop (mkF m 196 #[.val (.int q1)] [(.int (0 : Int32))])) _
    exact k196 _ hh
  have k191 : nsc_191 q1 = r → Steps p.tables e below (s₁.setTop (mkF m 191 #[.val (.int q1)] [])) (s₁.setFrames fs) := by
    intro hh
    show Steps p.tables e below (s₁.setTop (mkF m 191 #[.val (.int q1)] [])) _
    refine XS.iconst X0.here hx rfl (hb hby d2_191) ?_
    show Steps p.tables e below (s₁.setTop (mkF m 192 #[.val (.int q1)] [(.int (1 : Int32))])) _
    refine XS.goto X0.here hx rfl (pc0 := 192) (pc' := 196) rfl (hb hby d2_192) (by decide) (by decide) ?_
    show Steps p.tables e below (s₁.setTop (mkF m 196 #[.val (.int q1)] [(.int (1 : Int32))])) _
    exact k196 _ hh
  have k179 : nsc_179 q1 = r → Steps p.tables e below (s₁.setTop (mkF m 179 #[.val (.int q1)] [])) (s₁.setFrames fs) := by
    intro hh
    show Steps p.tables e below (s₁.setTop (mkF m 179 #[.val (.int q1)] [])) _
    refine XS.iloadN X0.here hx rfl (hb hby d2_179) rfl ?_
    show Steps p.tables e below (s₁.setTop (mkF m 180 #[.val (.int q1)] [(.int q1)])) _
    refine X0.ldcInt hx hown (mvT hZ (hw _ (List.mem_of_getElem? (i := 21) rfl))) (g := (mkF m 180 #[.val (.int q1)] [(.int q1)])) rfl (hb hby d2_180) _ ?_
    have hh : (if q1 < (65536 : Int32) then (nsc_195 q1) else (if (983039 : Int32) < q1 then (nsc_195 q1) else (nsc_191 q1))) = r := hh
    by_cases c182 : q1 < (65536 : Int32)
    · rw [if_pos c182] at hh
      show Steps p.tables e below (s₁.setTop (mkF m 182 #[.val (.int q1)] [(.int (65536 : Int32)), (.int q1)])) _
      refine XS.icmpYes X0.here hx rfl (pc0 := 182) (pc' := 195) rfl (hb hby d2_182) rfl (tlt c182).1 (by decide) (by decide) ?_
      show Steps p.tables e below (s₁.setTop (mkF m 195 #[.val (.int q1)] [])) _
      exact k195 hh
    · rw [if_neg c182] at hh
      show Steps p.tables e below (s₁.setTop (mkF m 182 #[.val (.int q1)] [(.int (65536 : Int32)), (.int q1)])) _
      refine XS.icmpNo X0.here hx rfl (hb hby d2_182) rfl (flt c182).1 ?_
      show Steps p.tables e below (s₁.setTop (mkF m 185 #[.val (.int q1)] [])) _
      refine XS.iloadN X0.here hx rfl (hb hby d2_185) rfl ?_
      show Steps p.tables e below (s₁.setTop (mkF m 186 #[.val (.int q1)] [(.int q1)])) _
      refine X0.ldcInt hx hown (mvT hZ (hw _ (List.mem_of_getElem? (i := 31) rfl))) (g := (mkF m 186 #[.val (.int q1)] [(.int q1)])) rfl (hb hby d2_186) _ ?_
      have hh : (if (983039 : Int32) < q1 then (nsc_195 q1) else (nsc_191 q1)) = r := hh
      by_cases c188 : (983039 : Int32) < q1
      · rw [if_pos c188] at hh
        show Steps p.tables e below (s₁.setTop (mkF m 188 #[.val (.int q1)] [(.int (983039 : Int32)), (.int q1)])) _
        refine XS.icmpYes X0.here hx rfl (pc0 := 188) (pc' := 195) rfl (hb hby d2_188) rfl (tlt c188).2.2.1 (by decide) (by decide) ?_
        show Steps p.tables e below (s₁.setTop (mkF m 195 #[.val (.int q1)] [])) _
        exact k195 hh
      · rw [if_neg c188] at hh
        show Steps p.tables e below (s₁.setTop (mkF m 188 #[.val (.int q1)] [(.int (983039 : Int32)), (.int q1)])) _
        refine XS.icmpNo X0.here hx rfl (hb hby d2_188) rfl (flt c188).2.2.1 ?_
        show Steps p.tables e below (s₁.setTop (mkF m 191 #[.val (.int q1)] [])) _
        exact k191 hh
  have k167 : nsc_167 q1 = r → Steps p.tables e below (s₁.setTop (mkF m 167 #[.val (.int q1)] [])) (s₁.setFrames fs) := by
    intro hh
    show Steps p.tables e below (s₁.setTop (mkF m 167 #[.val (.int q1)] [])) _
    refine XS.iloadN X0.here hx rfl (hb hby d2_167) rfl ?_
    show Steps p.tables e below (s₁.setTop (mkF m 168 #[.val (.int q1)] [(.int q1)])) _
    refine X0.ldcInt hx hown (mvT hZ (hw _ (List.mem_of_getElem? (i := 20) rfl))) (g := (mkF m 168 #[.val (.int q1)] [(.int q1)])) rfl (hb hby d2_168) _ ?_
    have hh : (if q1 < (65008 : Int32) then (nsc_179 q1) else (if (65533 : Int32) < q1 then (nsc_179 q1) else (nsc_191 q1))) = r := hh
    by_cases c170 : q1 < (65008 : Int32)
    · rw [if_pos c170] at hh
      show Steps p.tables e below (s₁.setTop (mkF m 170 #[.val (.int q1)] [(.int (65008 : Int32)), (.int q1)])) _
      refine XS.icmpYes X0.here hx rfl (pc0 := 170) (pc' := 179) rfl (hb hby d2_170) rfl (tlt c170).1 (by decide) (by decide) ?_
      show Steps p.tables e below (s₁.setTop (mkF m 179 #[.val (.int q1)] [])) _
      exact k179 hh
    · rw [if_neg c170] at hh
      show Steps p.tables e below (s₁.setTop (mkF m 170 #[.val (.int q1)] [(.int (65008 : Int32)), (.int q1)])) _
      refine XS.icmpNo X0.here hx rfl (hb hby d2_170) rfl (flt c170).1 ?_
      show Steps p.tables e below (s₁.setTop (mkF m 173 #[.val (.int q1)] [])) _
      refine XS.iloadN X0.here hx rfl (hb hby d2_173) rfl ?_
      show Steps p.tables e below (s₁.setTop (mkF m 174 #[.val (.int q1)] [(.int q1)])) _
      refine X0.ldcInt hx hown (mvT hZ (hw _ (List.mem_of_getElem? (i := 30) rfl))) (g := (mkF m 174 #[.val (.int q1)] [(.int q1)])) rfl (hb hby d2_174) _ ?_
      have hh : (if (65533 : Int32) < q1 then (nsc_179 q1) else (nsc_191 q1)) = r := hh
      by_cases c176 : (65533 : Int32) < q1
      · rw [if_pos c176] at hh
        show Steps p.tables e below (s₁.setTop (mkF m 176 #[.val (.int q1)] [(.int (65533 : Int32)), (.int q1)])) _
        refine XS.icmpNo X0.here hx rfl (hb hby d2_176) rfl (tlt c176).2.2.2 ?_
        show Steps p.tables e below (s₁.setTop (mkF m 179 #[.val (.int q1)] [])) _
        exact k179 hh
      · rw [if_neg c176] at hh
        show Steps p.tables e below (s₁.setTop (mkF m 176 #[.val (.int q1)] [(.int (65533 : Int32)), (.int q1)])) _
        refine XS.icmpYes X0.here hx rfl (pc0 := 176) (pc' := 191) rfl (hb hby d2_176) rfl (flt c176).2.2.2 (by decide) (by decide) ?_
        show Steps p.tables e below (s₁.setTop (mkF m 191 #[.val (.int q1)] [])) _
        exact k191 hh
  have k155 : nsc_155 q1 = r → Steps p.tables e below (s₁.setTop (mkF m 155 #[.val (.int q1)] [])) (s₁.setFrames fs) := by
    intro hh
    show Steps p.tables e below (s₁.setTop (mkF m 155 #[.val (.int q1)] [])) _
    refine XS.iloadN X0.here hx rfl (hb hby d2_155) rfl ?_
    show Steps p.tables e below (s₁.setTop (mkF m 156 #[.val (.int q1)] [(.int q1)])) _
    refine X0.ldcInt hx hown (mvT hZ (hw _ (List.mem_of_getElem? (i := 19) rfl))) (g := (mkF m 156 #[.val (.int q1)] [(.int q1)])) rfl (hb hby d2_156) _ ?_
    have hh : (if q1 < (63744 : Int32) then (nsc_167 q1) else (if (64975 : Int32) < q1 then (nsc_167 q1) else (nsc_191 q1))) = r := hh
    by_cases c158 : q1 < (63744 : Int32)
    · rw [if_pos c158] at hh
      show Steps p.tables e below (s₁.setTop (mkF m 158 #[.val (.int q1)] [(.int (63744 : Int32)), (.int q1)])) _
      refine XS.icmpYes X0.here hx rfl (pc0 := 158) (pc' := 167) rfl (hb hby d2_158) rfl (tlt c158).1 (by decide) (by decide) ?_
      show Steps p.tables e below (s₁.setTop (mkF m 167 #[.val (.int q1)] [])) _
      exact k167 hh
    · rw [if_neg c158] at hh
      show Steps p.tables e below (s₁.setTop (mkF m 158 #[.val (.int q1)] [(.int (63744 : Int32)), (.int q1)])) _
      refine XS.icmpNo X0.here hx rfl (hb hby d2_158) rfl (flt c158).1 ?_
      show Steps p.tables e below (s₁.setTop (mkF m 161 #[.val (.int q1)] [])) _
      refine XS.iloadN X0.here hx rfl (hb hby d2_161) rfl ?_
      show Steps p.tables e below (s₁.setTop (mkF m 162 #[.val (.int q1)] [(.int q1)])) _
      refine X0.ldcInt hx hown (mvT hZ (hw _ (List.mem_of_getElem? (i := 29) rfl))) (g := (mkF m 162 #[.val (.int q1)] [(.int q1)])) rfl (hb hby d2_162) _ ?_
      have hh : (if (64975 : Int32) < q1 then (nsc_167 q1) else (nsc_191 q1)) = r := hh
      by_cases c164 : (64975 : Int32) < q1
      · rw [if_pos c164] at hh
        show Steps p.tables e below (s₁.setTop (mkF m 164 #[.val (.int q1)] [(.int (64975 : Int32)), (.int q1)])) _
        refine XS.icmpNo X0.here hx rfl (hb hby d2_164) rfl (tlt c164).2.2.2 ?_
        show Steps p.tables e below (s₁.setTop (mkF m 167 #[.val (.int q1)] [])) _
        exact k167 hh
      · rw [if_neg c164] at hh
        show Steps p.tables e below (s₁.setTop (mkF m 164 #[.val (.int q1)] [(.int (64975 : Int32)), (.int q1)])) _
        refine XS.icmpYes X0.here hx rfl (pc0 := 164) (pc' := 191) rfl (hb hby d2_164) rfl (flt c164).2.2.2 (by decide) (by decide) ?_
        show Steps p.tables e below (s₁.setTop (mkF m 191 #[.val (.int q1)] [])) _
        exact k191 hh
  have k142 : nsc_142 q1 = r → Steps p.tables e below (s₁.setTop (mkF m 142 #[.val (.int q1)] [])) (s₁.setFrames fs) := by
    intro hh
    show Steps p.tables e below (s₁.setTop (mkF m 142 #[.val (.int q1)] [])) _
    refine XS.iloadN X0.here hx rfl (hb hby d2_142) rfl ?_
    show Steps p.tables e below (s₁.setTop (mkF m 143 #[.val (.int q1)] [(.int q1)])) _
    refine XS.sipush X0.here hx rfl (hb hby d2_143) ?_
    have hh : (if q1 < (12289 : Int32) then (nsc_155 q1) else (if (55295 : Int32) < q1 then (nsc_155 q1) else (nsc_191 q1))) = r := hh
    by_cases c146 : q1 < (12289 : Int32)
    · rw [if_pos c146] at hh
      show Steps p.tables e below (s₁.setTop (mkF m 146 #[.val (.int q1)] [(.int (12289 : Int32)), (.int q1)])) _
      refine XS.icmpYes X0.here hx rfl (pc0 := 146) (pc' := 155) rfl (hb hby d2_146) rfl (tlt c146).1 (by decide) (by decide) ?_
      show Steps p.tables e below (s₁.setTop (mkF m 155 #[.val (.int q1)] [])) _
      exact k155 hh
    · rw [if_neg c146] at hh
      show Steps p.tables e below (s₁.setTop (mkF m 146 #[.val (.int q1)] [(.int (12289 : Int32)), (.int q1)])) _
      refine XS.icmpNo X0.here hx rfl (hb hby d2_146) rfl (flt c146).1 ?_
      show Steps p.tables e below (s₁.setTop (mkF m 149 #[.val (.int q1)] [])) _
      refine XS.iloadN X0.here hx rfl (hb hby d2_149) rfl ?_
      show Steps p.tables e below (s₁.setTop (mkF m 150 #[.val (.int q1)] [(.int q1)])) _
      refine X0.ldcInt hx hown (mvT hZ (hw _ (List.mem_of_getElem? (i := 28) rfl))) (g := (mkF m 150 #[.val (.int q1)] [(.int q1)])) rfl (hb hby d2_150) _ ?_
      have hh : (if (55295 : Int32) < q1 then (nsc_155 q1) else (nsc_191 q1)) = r := hh
      by_cases c152 : (55295 : Int32) < q1
      · rw [if_pos c152] at hh
        show Steps p.tables e below (s₁.setTop (mkF m 152 #[.val (.int q1)] [(.int (55295 : Int32)), (.int q1)])) _
        refine XS.icmpNo X0.here hx rfl (hb hby d2_152) rfl (tlt c152).2.2.2 ?_
        show Steps p.tables e below (s₁.setTop (mkF m 155 #[.val (.int q1)] [])) _
        exact k155 hh
      · rw [if_neg c152] at hh
        show Steps p.tables e below (s₁.setTop (mkF m 152 #[.val (.int q1)] [(.int (55295 : Int32)), (.int q1)])) _
        refine XS.icmpYes X0.here hx rfl (pc0 := 152) (pc' := 191) rfl (hb hby d2_152) rfl (flt c152).2.2.2 (by decide) (by decide) ?_
        show Steps p.tables e below (s₁.setTop (mkF m 191 #[.val (.int q1)] [])) _
        exact k191 hh
  have k128 : nsc_128 q1 = r → Steps p.tables e below (s₁.setTop (mkF m 128 #[.val (.int q1)] [])) (s₁.setFrames fs) := by
    intro hh
    show Steps p.tables e below (s₁.setTop (mkF m 128 #[.val (.int q1)] [])) _
    refine XS.iloadN X0.here hx rfl (hb hby d2_128) rfl ?_
    show Steps p.tables e below (s₁.setTop (mkF m 129 #[.val (.int q1)] [(.int q1)])) _
    refine XS.sipush X0.here hx rfl (hb hby d2_129) ?_
    have hh : (if q1 < (11264 : Int32) then (nsc_142 q1) else (if (12271 : Int32) < q1 then (nsc_142 q1) else (nsc_191 q1))) = r := hh
    by_cases c132 : q1 < (11264 : Int32)
    · rw [if_pos c132] at hh
      show Steps p.tables e below (s₁.setTop (mkF m 132 #[.val (.int q1)] [(.int (11264 : Int32)), (.int q1)])) _
      refine XS.icmpYes X0.here hx rfl (pc0 := 132) (pc' := 142) rfl (hb hby d2_132) rfl (tlt c132).1 (by decide) (by decide) ?_
      show Steps p.tables e below (s₁.setTop (mkF m 142 #[.val (.int q1)] [])) _
      exact k142 hh
    · rw [if_neg c132] at hh
      show Steps p.tables e below (s₁.setTop (mkF m 132 #[.val (.int q1)] [(.int (11264 : Int32)), (.int q1)])) _
      refine XS.icmpNo X0.here hx rfl (hb hby d2_132) rfl (flt c132).1 ?_
      show Steps p.tables e below (s₁.setTop (mkF m 135 #[.val (.int q1)] [])) _
      refine XS.iloadN X0.here hx rfl (hb hby d2_135) rfl ?_
      show Steps p.tables e below (s₁.setTop (mkF m 136 #[.val (.int q1)] [(.int q1)])) _
      refine XS.sipush X0.here hx rfl (hb hby d2_136) ?_
      have hh : (if (12271 : Int32) < q1 then (nsc_142 q1) else (nsc_191 q1)) = r := hh
      by_cases c139 : (12271 : Int32) < q1
      · rw [if_pos c139] at hh
        show Steps p.tables e below (s₁.setTop (mkF m 139 #[.val (.int q1)] [(.int (12271 : Int32)), (.int q1)])) _
        refine XS.icmpNo X0.here hx rfl (hb hby d2_139) rfl (tlt c139).2.2.2 ?_
        show Steps p.tables e below (s₁.setTop (mkF m 142 #[.val (.int q1)] [])) _
        exact k142 hh
      · rw [if_neg c139] at hh
        show Steps p.tables e below (s₁.setTop (mkF m 139 #[.val (.int q1)] [(.int (12271 : Int32)), (.int q1)])) _
        refine XS.icmpYes X0.here hx rfl (pc0 := 139) (pc' := 191) rfl (hb hby d2_139) rfl (flt c139).2.2.2 (by decide) (by decide) ?_
        show Steps p.tables e below (s₁.setTop (mkF m 191 #[.val (.int q1)] [])) _
        exact k191 hh
  have k114 : nsc_114 q1 = r → Steps p.tables e below (s₁.setTop (mkF m 114 #[.val (.int q1)] [])) (s₁.setFrames fs) := by
    intro hh
    show Steps p.tables e below (s₁.setTop (mkF m 114 #[.val (.int q1)] [])) _
    refine XS.iloadN X0.here hx rfl (hb hby d2_114) rfl ?_
    show Steps p.tables e below (s₁.setTop (mkF m 115 #[.val (.int q1)] [(.int q1)])) _
    refine XS.sipush X0.here hx rfl (hb hby d2_115) ?_
    have hh : (if q1 < (8304 : Int32) then (nsc_128 q1) else (if (8591 : Int32) < q1 then (nsc_128 q1) else (nsc_191 q1))) = r := hh
    by_cases c118 : q1 < (8304 : Int32)
    · rw [if_pos c118] at hh
      show Steps p.tables e below (s₁.setTop (mkF m 118 #[.val (.int q1)] [(.int (8304 : Int32)), (.int q1)])) _
      refine XS.icmpYes X0.here hx rfl (pc0 := 118) (pc' := 128) rfl (hb hby d2_118) rfl (tlt c118).1 (by decide) (by decide) ?_
      show Steps p.tables e below (s₁.setTop (mkF m 128 #[.val (.int q1)] [])) _
      exact k128 hh
    · rw [if_neg c118] at hh
      show Steps p.tables e below (s₁.setTop (mkF m 118 #[.val (.int q1)] [(.int (8304 : Int32)), (.int q1)])) _
      refine XS.icmpNo X0.here hx rfl (hb hby d2_118) rfl (flt c118).1 ?_
      show Steps p.tables e below (s₁.setTop (mkF m 121 #[.val (.int q1)] [])) _
      refine XS.iloadN X0.here hx rfl (hb hby d2_121) rfl ?_
      show Steps p.tables e below (s₁.setTop (mkF m 122 #[.val (.int q1)] [(.int q1)])) _
      refine XS.sipush X0.here hx rfl (hb hby d2_122) ?_
      have hh : (if (8591 : Int32) < q1 then (nsc_128 q1) else (nsc_191 q1)) = r := hh
      by_cases c125 : (8591 : Int32) < q1
      · rw [if_pos c125] at hh
        show Steps p.tables e below (s₁.setTop (mkF m 125 #[.val (.int q1)] [(.int (8591 : Int32)), (.int q1)])) _
        refine XS.icmpNo X0.here hx rfl (hb hby d2_125) rfl (tlt c125).2.2.2 ?_
        show Steps p.tables e below (s₁.setTop (mkF m 128 #[.val (.int q1)] [])) _
        exact k128 hh
      · rw [if_neg c125] at hh
        show Steps p.tables e below (s₁.setTop (mkF m 125 #[.val (.int q1)] [(.int (8591 : Int32)), (.int q1)])) _
        refine XS.icmpYes X0.here hx rfl (pc0 := 125) (pc' := 191) rfl (hb hby d2_125) rfl (flt c125).2.2.2 (by decide) (by decide) ?_
        show Steps p.tables e below (s₁.setTop (mkF m 191 #[.val (.int q1)] [])) _
        exact k191 hh
  have k100 : nsc_100 q1 = r → Steps p.tables e below (s₁.setTop (mkF m 100 #[.val (.int q1)] [])) (s₁.setFrames fs) := by
    intro hh
    show Steps p.tables e below (s₁.setTop (mkF m 100 #[.val (.int q1)] [])) _
    refine XS.iloadN X0.here hx rfl (hb hby d2_100) rfl ?_
    show Steps p.tables e below (s₁.setTop (mkF m 101 #[.val (.int q1)] [(.int q1)])) _
    refine XS.sipush X0.here hx rfl (hb hby d2_101) ?_
    have hh : (if q1 < (8204 : Int32) then (nsc_114 q1) else (if (8205 : Int32) < q1 then (nsc_114 q1) else (nsc_191 q1))) = r := hh
    by_cases c104 : q1 < (8204 : Int32)
    · rw [if_pos c104] at hh
      show Steps p.tables e below (s₁.setTop (mkF m 104 #[.val (.int q1)] [(.int (8204 : Int32)), (.int q1)])) _
      refine XS.icmpYes X0.here hx rfl (pc0 := 104) (pc' := 114) rfl (hb hby d2_104) rfl (tlt c104).1 (by decide) (by decide) ?_
      show Steps p.tables e below (s₁.setTop (mkF m 114 #[.val (.int q1)] [])) _
      exact k114 hh
    · rw [if_neg c104] at hh
      show Steps p.tables e below (s₁.setTop (mkF m 104 #[.val (.int q1)] [(.int (8204 : Int32)), (.int q1)])) _
      refine XS.icmpNo X0.here hx rfl (hb hby d2_104) rfl (flt c104).1 ?_
      show Steps p.tables e below (s₁.setTop (mkF m 107 #[.val (.int q1)] [])) _
      refine XS.iloadN X0.here hx rfl (hb hby d2_107) rfl ?_
      show Steps p.tables e below (s₁.setTop (mkF m 108 #[.val (.int q1)] [(.int q1)])) _
      refine XS.sipush X0.here hx rfl (hb hby d2_108) ?_
      have hh : (if (8205 : Int32) < q1 then (nsc_114 q1) else (nsc_191 q1)) = r := hh
      by_cases c111 : (8205 : Int32) < q1
      · rw [if_pos c111] at hh
        show Steps p.tables e below (s₁.setTop (mkF m 111 #[.val (.int q1)] [(.int (8205 : Int32)), (.int q1)])) _
        refine XS.icmpNo X0.here hx rfl (hb hby d2_111) rfl (tlt c111).2.2.2 ?_
        show Steps p.tables e below (s₁.setTop (mkF m 114 #[.val (.int q1)] [])) _
        exact k114 hh
      · rw [if_neg c111] at hh
        show Steps p.tables e below (s₁.setTop (mkF m 111 #[.val (.int q1)] [(.int (8205 : Int32)), (.int q1)])) _
        refine XS.icmpYes X0.here hx rfl (pc0 := 111) (pc' := 191) rfl (hb hby d2_111) rfl (flt c111).2.2.2 (by decide) (by decide) ?_
        show Steps p.tables e below (s₁.setTop (mkF m 191 #[.val (.int q1)] [])) _
        exact k191 hh
  have k86 : nsc_86 q1 = r → Steps p.tables e below (s₁.setTop (mkF m 86 #[.val (.int q1)] [])) (s₁.setFrames fs) := by
    intro hh
    show Steps p.tables e below (s₁.setTop (mkF m 86 #[.val (.int q1)] [])) _
    refine XS.iloadN X0.here hx rfl (hb hby d2_86) rfl ?_
    show Steps p.tables e below (s₁.setTop (mkF m 87 #[.val (.int q1)] [(.int q1)])) _
    refine XS.sipush X0.here hx rfl (hb hby d2_87) ?_
    have hh : (if q1 < (895 : Int32) then (nsc_100 q1) else (if (8191 : Int32) < q1 then (nsc_100 q1) else (nsc_191 q1))) = r := hh
    by_cases c90 : q1 < (895 : Int32)
    · rw [if_pos c90] at hh
      show Steps p.tables e below (s₁.setTop (mkF m 90 #[.val (.int q1)] [(.int (895 : Int32)), (.int q1)])) _
      refine XS.icmpYes X0.here hx rfl (pc0 := 90) (pc' := 100) rfl (hb hby d2_90) rfl (tlt c90).1 (by decide) (by decide) ?_
      show Steps p.tables e below (s₁.setTop (mkF m 100 #[.val (.int q1)] [])) _
      exact k100 hh
    · rw [if_neg c90] at hh
      show Steps p.tables e below (s₁.setTop (mkF m 90 #[.val (.int q1)] [(.int (895 : Int32)), (.int q1)])) _
      refine XS.icmpNo X0.here hx rfl (hb hby d2_90) rfl (flt c90).1 ?_
      show Steps p.tables e below (s₁.setTop (mkF m 93 #[.val (.int q1)] [])) _
      refine XS.iloadN X0.here hx rfl (hb hby d2_93) rfl ?_
      show Steps p.tables e below (s₁.setTop (mkF m 94 #[.val (.int q1)] [(.int q1)])) _
      refine XS.sipush X0.here hx rfl (hb hby d2_94) ?_
      have hh : (if (8191 : Int32) < q1 then (nsc_100 q1) else (nsc_191 q1)) = r := hh
      by_cases c97 : (8191 : Int32) < q1
      · rw [if_pos c97] at hh
        show Steps p.tables e below (s₁.setTop (mkF m 97 #[.val (.int q1)] [(.int (8191 : Int32)), (.int q1)])) _
        refine XS.icmpNo X0.here hx rfl (hb hby d2_97) rfl (tlt c97).2.2.2 ?_
        show Steps p.tables e below (s₁.setTop (mkF m 100 #[.val (.int q1)] [])) _
        exact k100 hh
      · rw [if_neg c97] at hh
        show Steps p.tables e below (s₁.setTop (mkF m 97 #[.val (.int q1)] [(.int (8191 : Int32)), (.int q1)])) _
        refine XS.icmpYes X0.here hx rfl (pc0 := 97) (pc' := 191) rfl (hb hby d2_97) rfl (flt c97).2.2.2 (by decide) (by decide) ?_
        show Steps p.tables e below (s₁.setTop (mkF m 191 #[.val (.int q1)] [])) _
        exact k191 hh
  have k72 : nsc_72 q1 = r → Steps p.tables e below (s₁.setTop (mkF m 72 #[.val (.int q1)] [])) (s₁.setFrames fs) := by
    intro hh
    show Steps p.tables e below (s₁.setTop (mkF m 72 #[.val (.int q1)] [])) _
    refine XS.iloadN X0.here hx rfl (hb hby d2_72) rfl ?_
    show Steps p.tables e below (s₁.setTop (mkF m 73 #[.val (.int q1)] [(.int q1)])) _
    refine XS.sipush X0.here hx rfl (hb hby d2_73) ?_
    have hh : (if q1 < (880 : Int32) then (nsc_86 q1) else (if (893 : Int32) < q1 then (nsc_86 q1) else (nsc_191 q1))) = r := hh
    by_cases c76 : q1 < (880 : Int32)
    · rw [if_pos c76] at hh
      show Steps p.tables e below (s₁.setTop (mkF m 76 #[.val (.int q1)] [(.int (880 : Int32)), (.int q1)])) _
      refine XS.icmpYes X0.here hx rfl (pc0 := 76) (pc' := 86) rfl (hb hby d2_76) rfl (tlt c76).1 (by decide) (by decide) ?_
      show Steps p.tables e below (s₁.setTop (mkF m 86 #[.val (.int q1)] [])) _
      exact k86 hh
    · rw [if_neg c76] at hh
      show Steps p.tables e below (s₁.setTop (mkF m 76 #[.val (.int q1)] [(.int (880 : Int32)), (.int q1)])) _
      refine XS.icmpNo X0.here hx rfl (hb hby d2_76) rfl (flt c76).1 ?_
      show Steps p.tables e below (s₁.setTop (mkF m 79 #[.val (.int q1)] [])) _
      refine XS.iloadN X0.here hx rfl (hb hby d2_79) rfl ?_
      show Steps p.tables e below (s₁.setTop (mkF m 80 #[.val (.int q1)] [(.int q1)])) _
      refine XS.sipush X0.here hx rfl (hb hby d2_80) ?_
      have hh : (if (893 : Int32) < q1 then (nsc_86 q1) else (nsc_191 q1)) = r := hh
      by_cases c83 : (893 : Int32) < q1
      · rw [if_pos c83] at hh
        show Steps p.tables e below (s₁.setTop (mkF m 83 #[.val (.int q1)] [(.int (893 : Int32)), (.int q1)])) _
        refine XS.icmpNo X0.here hx rfl (hb hby d2_83) rfl (tlt c83).2.2.2 ?_
        show Steps p.tables e below (s₁.setTop (mkF m 86 #[.val (.int q1)] [])) _
        exact k86 hh
      · rw [if_neg c83] at hh
        show Steps p.tables e below (s₁.setTop (mkF m 83 #[.val (.int q1)] [(.int (893 : Int32)), (.int q1)])) _
        refine XS.icmpYes X0.here hx rfl (pc0 := 83) (pc' := 191) rfl (hb hby d2_83) rfl (flt c83).2.2.2 (by decide) (by decide) ?_
        show Steps p.tables e below (s₁.setTop (mkF m 191 #[.val (.int q1)] [])) _
        exact k191 hh
  have k58 : nsc_58 q1 = r → Steps p.tables e below (s₁.setTop (mkF m 58 #[.val (.int q1)] [])) (s₁.setFrames fs) := by
    intro hh
    show Steps p.tables e below (s₁.setTop (mkF m 58 #[.val (.int q1)] [])) _
    refine XS.iloadN X0.here hx rfl (hb hby d2_58) rfl ?_
    show Steps p.tables e below (s₁.setTop (mkF m 59 #[.val (.int q1)] [(.int q1)])) _
    refine XS.sipush X0.here hx rfl (hb hby d2_59) ?_
    have hh : (if q1 < (248 : Int32) then (nsc_72 q1) else (if (767 : Int32) < q1 then (nsc_72 q1) else (nsc_191 q1))) = r := hh
    by_cases c62 : q1 < (248 : Int32)
    · rw [if_pos c62] at hh
      show Steps p.tables e below (s₁.setTop (mkF m 62 #[.val (.int q1)] [(.int (248 : Int32)), (.int q1)])) _
      refine XS.icmpYes X0.here hx rfl (pc0 := 62) (pc' := 72) rfl (hb hby d2_62) rfl (tlt c62).1 (by decide) (by decide) ?_
      show Steps p.tables e below (s₁.setTop (mkF m 72 #[.val (.int q1)] [])) _
      exact k72 hh
    · rw [if_neg c62] at hh
      show Steps p.tables e below (s₁.setTop (mkF m 62 #[.val (.int q1)] [(.int (248 : Int32)), (.int q1)])) _
      refine XS.icmpNo X0.here hx rfl (hb hby d2_62) rfl (flt c62).1 ?_
      show Steps p.tables e below (s₁.setTop (mkF m 65 #[.val (.int q1)] [])) _
      refine XS.iloadN X0.here hx rfl (hb hby d2_65) rfl ?_
      show Steps p.tables e below (s₁.setTop (mkF m 66 #[.val (.int q1)] [(.int q1)])) _
      refine XS.sipush X0.here hx rfl (hb hby d2_66) ?_
      have hh : (if (767 : Int32) < q1 then (nsc_72 q1) else (nsc_191 q1)) = r := hh
      by_cases c69 : (767 : Int32) < q1
      · rw [if_pos c69] at hh
        show Steps p.tables e below (s₁.setTop (mkF m 69 #[.val (.int q1)] [(.int (767 : Int32)), (.int q1)])) _
        refine XS.icmpNo X0.here hx rfl (hb hby d2_69) rfl (tlt c69).2.2.2 ?_
        show Steps p.tables e below (s₁.setTop (mkF m 72 #[.val (.int q1)] [])) _
        exact k72 hh
      · rw [if_neg c69] at hh
        show Steps p.tables e below (s₁.setTop (mkF m 69 #[.val (.int q1)] [(.int (767 : Int32)), (.int q1)])) _
        refine XS.icmpYes X0.here hx rfl (pc0 := 69) (pc' := 191) rfl (hb hby d2_69) rfl (flt c69).2.2.2 (by decide) (by decide) ?_
        show Steps p.tables e below (s₁.setTop (mkF m 191 #[.val (.int q1)] [])) _
        exact k191 hh
  have k44 : nsc_44 q1 = r → Steps p.tables e below (s₁.setTop (mkF m 44 #[.val (.int q1)] [])) (s₁.setFrames fs) := by
    intro hh
    show Steps p.tables e below (s₁.setTop (mkF m 44 #[.val (.int q1)] [])) _
    refine XS.iloadN X0.here hx rfl (hb hby d2_44) rfl ?_
    show Steps p.tables e below (s₁.setTop (mkF m 45 #[.val (.int q1)] [(.int q1)])) _
    refine XS.sipush X0.here hx rfl (hb hby d2_45) ?_
    have hh : (if q1 < (216 : Int32) then (nsc_58 q1) else (if (246 : Int32) < q1 then (nsc_58 q1) else (nsc_191 q1))) = r := hh
    by_cases c48 : q1 < (216 : Int32)
    · rw [if_pos c48] at hh
      show Steps p.tables e below (s₁.setTop (mkF m 48 #[.val (.int q1)] [(.int (216 : Int32)), (.int q1)])) _
      refine XS.icmpYes X0.here hx rfl (pc0 := 48) (pc' := 58) rfl (hb hby d2_48) rfl (tlt c48).1 (by decide) (by decide) ?_
      show Steps p.tables e below (s₁.setTop (mkF m 58 #[.val (.int q1)] [])) _
      exact k58 hh
    · rw [if_neg c48] at hh
      show Steps p.tables e below (s₁.setTop (mkF m 48 #[.val (.int q1)] [(.int (216 : Int32)), (.int q1)])) _
      refine XS.icmpNo X0.here hx rfl (hb hby d2_48) rfl (flt c48).1 ?_
      show Steps p.tables e below (s₁.setTop (mkF m 51 #[.val (.int q1)] [])) _
      refine XS.iloadN X0.here hx rfl (hb hby d2_51) rfl ?_
      show Steps p.tables e below (s₁.setTop (mkF m 52 #[.val (.int q1)] [(.int q1)])) _
      refine XS.sipush X0.here hx rfl (hb hby d2_52) ?_
      have hh : (if (246 : Int32) < q1 then (nsc_58 q1) else (nsc_191 q1)) = r := hh
      by_cases c55 : (246 : Int32) < q1
      · rw [if_pos c55] at hh
        show Steps p.tables e below (s₁.setTop (mkF m 55 #[.val (.int q1)] [(.int (246 : Int32)), (.int q1)])) _
        refine XS.icmpNo X0.here hx rfl (hb hby d2_55) rfl (tlt c55).2.2.2 ?_
        show Steps p.tables e below (s₁.setTop (mkF m 58 #[.val (.int q1)] [])) _
        exact k58 hh
      · rw [if_neg c55] at hh
        show Steps p.tables e below (s₁.setTop (mkF m 55 #[.val (.int q1)] [(.int (246 : Int32)), (.int q1)])) _
        refine XS.icmpYes X0.here hx rfl (pc0 := 55) (pc' := 191) rfl (hb hby d2_55) rfl (flt c55).2.2.2 (by decide) (by decide) ?_
        show Steps p.tables e below (s₁.setTop (mkF m 191 #[.val (.int q1)] [])) _
        exact k191 hh
  have k24 : nsc_24 q1 = r → Steps p.tables e below (s₁.setTop (mkF m 24 #[.val (.int q1)] [])) (s₁.setFrames fs) := by
    intro hh
    show Steps p.tables e below (s₁.setTop (mkF m 24 #[.val (.int q1)] [])) _
    refine XS.iloadN X0.here hx rfl (hb hby d2_24) rfl ?_
    show Steps p.tables e below (s₁.setTop (mkF m 25 #[.val (.int q1)] [(.int q1)])) _
    refine XS.bipush X0.here hx rfl (hb hby d2_25) ?_
    have hh : (if q1 = (95 : Int32) then (nsc_191 q1) else (if q1 < (192 : Int32) then (nsc_44 q1) else (if (214 : Int32) < q1 then (nsc_44 q1) else (nsc_191 q1)))) = r := hh
    by_cases c27 : q1 = (95 : Int32)
    · rw [if_pos c27] at hh
      show Steps p.tables e below (s₁.setTop (mkF m 27 #[.val (.int q1)] [(.int (95 : Int32)), (.int q1)])) _
      refine XS.icmpYes X0.here hx rfl (pc0 := 27) (pc' := 191) rfl (hb hby d2_27) rfl (teq c27).1 (by decide) (by decide) ?_
      show Steps p.tables e below (s₁.setTop (mkF m 191 #[.val (.int q1)] [])) _
      exact k191 hh
    · rw [if_neg c27] at hh
      show Steps p.tables e below (s₁.setTop (mkF m 27 #[.val (.int q1)] [(.int (95 : Int32)), (.int q1)])) _
      refine XS.icmpNo X0.here hx rfl (hb hby d2_27) rfl (feq c27).1 ?_
      show Steps p.tables e below (s₁.setTop (mkF m 30 #[.val (.int q1)] [])) _
      refine XS.iloadN X0.here hx rfl (hb hby d2_30) rfl ?_
      show Steps p.tables e below (s₁.setTop (mkF m 31 #[.val (.int q1)] [(.int q1)])) _
      refine XS.sipush X0.here hx rfl (hb hby d2_31) ?_
      have hh : (if q1 < (192 : Int32) then (nsc_44 q1) else (if (214 : Int32) < q1 then (nsc_44 q1) else (nsc_191 q1))) = r := hh
      by_cases c34 : q1 < (192 : Int32)
      · rw [if_pos c34] at hh
        show Steps p.tables e below (s₁.setTop (mkF m 34 #[.val (.int q1)] [(.int (192 : Int32)), (.int q1)])) _
        refine XS.icmpYes X0.here hx rfl (pc0 := 34) (pc' := 44) rfl (hb hby d2_34) rfl (tlt c34).1 (by decide) (by decide) ?_
        show Steps p.tables e below (s₁.setTop (mkF m 44 #[.val (.int q1)] [])) _
        exact k44 hh
      · rw [if_neg c34] at hh
        show Steps p.tables e below (s₁.setTop (mkF m 34 #[.val (.int q1)] [(.int (192 : Int32)), (.int q1)])) _
        refine XS.icmpNo X0.here hx rfl (hb hby d2_34) rfl (flt c34).1 ?_
        show Steps p.tables e below (s₁.setTop (mkF m 37 #[.val (.int q1)] [])) _
        refine XS.iloadN X0.here hx rfl (hb hby d2_37) rfl ?_
        show Steps p.tables e below (s₁.setTop (mkF m 38 #[.val (.int q1)] [(.int q1)])) _
        refine XS.sipush X0.here hx rfl (hb hby d2_38) ?_
        have hh : (if (214 : Int32) < q1 then (nsc_44 q1) else (nsc_191 q1)) = r := hh
        by_cases c41 : (214 : Int32) < q1
        · rw [if_pos c41] at hh
          show Steps p.tables e below (s₁.setTop (mkF m 41 #[.val (.int q1)] [(.int (214 : Int32)), (.int q1)])) _
          refine XS.icmpNo X0.here hx rfl (hb hby d2_41) rfl (tlt c41).2.2.2 ?_
          show Steps p.tables e below (s₁.setTop (mkF m 44 #[.val (.int q1)] [])) _
          exact k44 hh
        · rw [if_neg c41] at hh
          show Steps p.tables e below (s₁.setTop (mkF m 41 #[.val (.int q1)] [(.int (214 : Int32)), (.int q1)])) _
          refine XS.icmpYes X0.here hx rfl (pc0 := 41) (pc' := 191) rfl (hb hby d2_41) rfl (flt c41).2.2.2 (by decide) (by decide) ?_
          show Steps p.tables e below (s₁.setTop (mkF m 191 #[.val (.int q1)] [])) _
          exact k191 hh
  have k12 : nsc_12 q1 = r → Steps p.tables e below (s₁.setTop (mkF m 12 #[.val (.int q1)] [])) (s₁.setFrames fs) := by
    intro hh
    show Steps p.tables e below (s₁.setTop (mkF m 12 #[.val (.int q1)] [])) _
    refine XS.iloadN X0.here hx rfl (hb hby d2_12) rfl ?_
    show Steps p.tables e below (s₁.setTop (mkF m 13 #[.val (.int q1)] [(.int q1)])) _
    refine XS.bipush X0.here hx rfl (hb hby d2_13) ?_
    have hh : (if q1 < (65 : Int32) then (nsc_24 q1) else (if (90 : Int32) < q1 then (nsc_24 q1) else (nsc_191 q1))) = r := hh
    by_cases c15 : q1 < (65 : Int32)
    · rw [if_pos c15] at hh
      show Steps p.tables e below (s₁.setTop (mkF m 15 #[.val (.int q1)] [(.int (65 : Int32)), (.int q1)])) _
      refine XS.icmpYes X0.here hx rfl (pc0 := 15) (pc' := 24) rfl (hb hby d2_15) rfl (tlt c15).1 (by decide) (by decide) ?_
      show Steps p.tables e below (s₁.setTop (mkF m 24 #[.val (.int q1)] [])) _
      exact k24 hh
    · rw [if_neg c15] at hh
      show Steps p.tables e below (s₁.setTop (mkF m 15 #[.val (.int q1)] [(.int (65 : Int32)), (.int q1)])) _
      refine XS.icmpNo X0.here hx rfl (hb hby d2_15) rfl (flt c15).1 ?_
      show Steps p.tables e below (s₁.setTop (mkF m 18 #[.val (.int q1)] [])) _
      refine XS.iloadN X0.here hx rfl (hb hby d2_18) rfl ?_
      show Steps p.tables e below (s₁.setTop (mkF m 19 #[.val (.int q1)] [(.int q1)])) _
      refine XS.bipush X0.here hx rfl (hb hby d2_19) ?_
      have hh : (if (90 : Int32) < q1 then (nsc_24 q1) else (nsc_191 q1)) = r := hh
      by_cases c21 : (90 : Int32) < q1
      · rw [if_pos c21] at hh
        show Steps p.tables e below (s₁.setTop (mkF m 21 #[.val (.int q1)] [(.int (90 : Int32)), (.int q1)])) _
        refine XS.icmpNo X0.here hx rfl (hb hby d2_21) rfl (tlt c21).2.2.2 ?_
        show Steps p.tables e below (s₁.setTop (mkF m 24 #[.val (.int q1)] [])) _
        exact k24 hh
      · rw [if_neg c21] at hh
        show Steps p.tables e below (s₁.setTop (mkF m 21 #[.val (.int q1)] [(.int (90 : Int32)), (.int q1)])) _
        refine XS.icmpYes X0.here hx rfl (pc0 := 21) (pc' := 191) rfl (hb hby d2_21) rfl (flt c21).2.2.2 (by decide) (by decide) ?_
        show Steps p.tables e below (s₁.setTop (mkF m 191 #[.val (.int q1)] [])) _
        exact k191 hh
  have k0 : nsc_0 q1 = r → Steps p.tables e below (s₁.setTop (mkF m 0 #[.val (.int q1)] [])) (s₁.setFrames fs) := by
    intro hh
    show Steps p.tables e below (s₁.setTop (mkF m 0 #[.val (.int q1)] [])) _
    refine XS.iloadN X0.here hx rfl (hb hby d2_0) rfl ?_
    show Steps p.tables e below (s₁.setTop (mkF m 1 #[.val (.int q1)] [(.int q1)])) _
    refine XS.bipush X0.here hx rfl (hb hby d2_1) ?_
    have hh : (if q1 < (97 : Int32) then (nsc_12 q1) else (if (122 : Int32) < q1 then (nsc_12 q1) else (nsc_191 q1))) = r := hh
    by_cases c3 : q1 < (97 : Int32)
    · rw [if_pos c3] at hh
      show Steps p.tables e below (s₁.setTop (mkF m 3 #[.val (.int q1)] [(.int (97 : Int32)), (.int q1)])) _
      refine XS.icmpYes X0.here hx rfl (pc0 := 3) (pc' := 12) rfl (hb hby d2_3) rfl (tlt c3).1 (by decide) (by decide) ?_
      show Steps p.tables e below (s₁.setTop (mkF m 12 #[.val (.int q1)] [])) _
      exact k12 hh
    · rw [if_neg c3] at hh
      show Steps p.tables e below (s₁.setTop (mkF m 3 #[.val (.int q1)] [(.int (97 : Int32)), (.int q1)])) _
      refine XS.icmpNo X0.here hx rfl (hb hby d2_3) rfl (flt c3).1 ?_
      show Steps p.tables e below (s₁.setTop (mkF m 6 #[.val (.int q1)] [])) _
      refine XS.iloadN X0.here hx rfl (hb hby d2_6) rfl ?_
      show Steps p.tables e below (s₁.setTop (mkF m 7 #[.val (.int q1)] [(.int q1)])) _
      refine XS.bipush X0.here hx rfl (hb hby d2_7) ?_
      have hh : (if (122 : Int32) < q1 then (nsc_12 q1) else (nsc_191 q1)) = r := hh
      by_cases c9 : (122 : Int32) < q1
      · rw [if_pos c9] at hh
        show Steps p.tables e below (s₁.setTop (mkF m 9 #[.val (.int q1)] [(.int (122 : Int32)), (.int q1)])) _
        refine XS.icmpNo X0.here hx rfl (hb hby d2_9) rfl (tlt c9).2.2.2 ?_
        show Steps p.tables e below (s₁.setTop (mkF m 12 #[.val (.int q1)] [])) _
        exact k12 hh
      · rw [if_neg c9] at hh
        show Steps p.tables e below (s₁.setTop (mkF m 9 #[.val (.int q1)] [(.int (122 : Int32)), (.int q1)])) _
        refine XS.icmpYes X0.here hx rfl (pc0 := 9) (pc' := 191) rfl (hb hby d2_9) rfl (flt c9).2.2.2 (by decide) (by decide) ?_
        show Steps p.tables e below (s₁.setTop (mkF m 191 #[.val (.int q1)] [])) _
        exact k191 hh
  refine ⟨_, _, pre0 _ (k0 hr0), hrun, hended, _, _, rfl, ?_, ⟨_, rfl⟩, hW, hsame.mono (by decide) (by decide)⟩
  show Q2 Z q1 h0 n0 _ s₁.heap _
  rw [e0]
  exact ⟨by rw [hr0], Fr.nil n0, rfl⟩
theorem pn_0 : plainName "transept/model/XmlCharsIsNameStartCharPinLaw" = true := by first | (simp [plainName, overriddenIn]; done) | decide +kernel
theorem ef_0 (m : MethodId) (p1 p2 p3 p4 : Int32) : entryFrame m #[(.int p1), (.int p2), (.int p3), (.int p4)] maxLocals = mkF m 0 #[.val (.int p1), .val (.int p2), .val (.int p3), .val (.int p4), .unset, .unset, .unset, .unset] [] := by first | (simp [entryFrame, mkF, argsToLocals, Value.category, maxLocals]; done) | rfl
theorem pd_0_0 : parseMethodDescriptor "(I)Z" = some ⟨[.int], some .boolean⟩ := by decide +kernel
def Q0 (Z : State) (h0 : Heap) (n0 : Nat) (v : Option Value) (h : Heap) (L : List Loc) : Prop := v = some (.int (1 : Int32)) ∧ Fr n0 L
set_option maxRecDepth 65536 in
set_option maxHeartbeats 40000000 in
theorem rm0 (l : Launch) (Z : State) (a0 : Array Value) (hw : ∀ d ∈ tables_1, d.before a0 Z = true) (ws : List Jvm.Cond) (p1 p2 p3 p4 : Int32) (h0 : Heap) (n0 : Nat) (Z0 : n0 ≤ h0.size) :
    MetFree l x (head1 (Jvm.Cond.code x code maxLocals ret :: ws) room_1) (fun a U => a = #[(.int p1), (.int p2), (.int p3), (.int p4)] ∧ Z.Warmed39 U.vm ∧ U.heap = h0) (fun _ _ _ _ _ => True) (fun _ U o U' => ∃ v L, o = .returned v ∧ Q0 Z h0 n0 v U'.heap L ∧ FrameEnd U o U' L room_1.cells room_1.slots) := by
  refine MetFree.of_bodySF (plainFor_of_name pn_0) hisR ?_
  intro p e s m args below meth c s₁ Bd hml0 hP hK
  obtain ⟨rfl, hZ, hh⟩ := hP
  have hx := Bd.exec
  have hby := Bd.bytes
  have hml : c.maxLocals = 8 := hml0
  have hown : s.vm.findClass "transept/model/XmlCharsIsNameStartCharPinLaw" = some m.cls := findClass_of_methodNamed Bd.named
  have X0 : Stand p l e room_1 s m #[(.int p1), (.int p2), (.int p3), (.int p4)] below meth c s₁ [] 0 0 := Stand.of_body Bd
  have e0 : s₁.heap = h0 := by rw [← hh, Bd.state]; rfl
  have pre0 : ∀ t, Steps p.tables e below (s₁.setTop (mkF m 0 #[.val (.int p1), .val (.int p2), .val (.int p3), .val (.int p4), .unset, .unset, .unset, .unset] [])) t → Steps p.tables e below (s₁.setTop (entryFrame m #[(.int p1), (.int p2), (.int p3), (.int p4)] maxLocals)) t := fun t k => castTop (ef_0 m p1 p2 p3 p4) k
  have K1 : ∀ t, Steps p.tables e below (s₁.setTop (mkF m 2 #[.val (.int p1), .val (.int p2), .val (.int p3), .val (.int p4), .unset, .unset, .unset, .unset] [(.int (32 : Int32))])) t → Steps p.tables e below (s₁.setTop (mkF m 0 #[.val (.int p1), .val (.int p2), .val (.int p3), .val (.int p4), .unset, .unset, .unset, .unset] [])) t := by
    intro t k
    show Steps p.tables e below (s₁.setTop (mkF m 0 #[.val (.int p1), .val (.int p2), .val (.int p3), .val (.int p4), .unset, .unset, .unset, .unset] [])) _
    refine XS.bipush X0.here hx rfl (hb hby at_0) ?_
    show Steps p.tables e below (s₁.setTop (mkF m 2 #[.val (.int p1), .val (.int p2), .val (.int p3), .val (.int p4), .unset, .unset, .unset, .unset] [(.int (32 : Int32))])) t
    exact k
  obtain ⟨T1, h1, k1, X1, e1, E1, A1, st1⟩ := newP X0 hx hZ (hw _ (List.mem_of_getElem? (i := 0) rfl)) e0 (g := (mkF m 2 #[.val (.int p1), .val (.int p2), .val (.int p3), .val (.int p4), .unset, .unset, .unset, .unset] [(.int (32 : Int32))])) rfl (hb hby at_2) rfl (by decide) (cap := 32) (by decide) (by decide) (by decide) (by decide)
  obtain ⟨b, gb⟩ : ∃ z, z = h0.size := ⟨_, rfl⟩
  rw [← gb] at A1 st1
  have V1 : Arv Z h1 b k1 .int (32 : Int32) ([] ++ List.replicate 32 (.int (0 : Int32))) (.int (0 : Int32)) := (Arv.new A1 (by decide)).pad (pad_rep [] (.int (0 : Int32)) 32)
  have I1 : own_St Z n0 T1.heap [] b (32 : Int32) := ⟨Fr.nil n0, Nat.le_trans Z0 (Nat.le_of_eq gb.symm), by rw [e1]; exact Nat.le_trans Z0 E1.1, k1, _, by rw [e1]; exact V1, by decide⟩
  have K2 : ∀ t, Steps p.tables e below (T1.setTop (mkF m 8 #[.val (.int p1), .val (.int p2), .val (.int p3), .val (.int p4), .unset, .unset, .unset, .unset] [(.int (65 : Int32)), (.int (0 : Int32)), (.ref b), (.ref b)])) t → Steps p.tables e below (T1.setTop (mkF m 4 #[.val (.int p1), .val (.int p2), .val (.int p3), .val (.int p4), .unset, .unset, .unset, .unset] [(.ref b)])) t := by
    intro t k
    show Steps p.tables e below (T1.setTop (mkF m 4 #[.val (.int p1), .val (.int p2), .val (.int p3), .val (.int p4), .unset, .unset, .unset, .unset] [(.ref b)])) _
    refine XS.dup X1.here hx rfl (hb hby at_4) rfl rfl ?_
    show Steps p.tables e below (T1.setTop (mkF m 5 #[.val (.int p1), .val (.int p2), .val (.int p3), .val (.int p4), .unset, .unset, .unset, .unset] [(.ref b), (.ref b)])) _
    refine XS.iconst X1.here hx rfl (hb hby at_5) ?_
    show Steps p.tables e below (T1.setTop (mkF m 6 #[.val (.int p1), .val (.int p2), .val (.int p3), .val (.int p4), .unset, .unset, .unset, .unset] [(.int (0 : Int32)), (.ref b), (.ref b)])) _
    refine XS.bipush X1.here hx rfl (hb hby at_6) ?_
    show Steps p.tables e below (T1.setTop (mkF m 8 #[.val (.int p1), .val (.int p2), .val (.int p3), .val (.int p4), .unset, .unset, .unset, .unset] [(.int (65 : Int32)), (.int (0 : Int32)), (.ref b), (.ref b)])) t
    exact k
  obtain ⟨T2, L2, X2, I2, st2⟩ := own_store X1 hx hZ I1 (j := (0 : Int32)) (by decide) (g := (mkF m 8 #[.val (.int p1), .val (.int p2), .val (.int p3), .val (.int p4), .unset, .unset, .unset, .unset] [(.int (65 : Int32)), (.int (0 : Int32)), (.ref b), (.ref b)])) rfl rfl (hb hby at_8)
  have K3 : ∀ t, Steps p.tables e below (T2.setTop (mkF m 13 #[.val (.int p1), .val (.int p2), .val (.int p3), .val (.int p4), .unset, .unset, .unset, .unset] [(.int (90 : Int32)), (.int (1 : Int32)), (.ref b), (.ref b)])) t → Steps p.tables e below (T2.setTop (mkF m 9 #[.val (.int p1), .val (.int p2), .val (.int p3), .val (.int p4), .unset, .unset, .unset, .unset] [(.ref b)])) t := by
    intro t k
    show Steps p.tables e below (T2.setTop (mkF m 9 #[.val (.int p1), .val (.int p2), .val (.int p3), .val (.int p4), .unset, .unset, .unset, .unset] [(.ref b)])) _
    refine XS.dup X2.here hx rfl (hb hby at_9) rfl rfl ?_
    show Steps p.tables e below (T2.setTop (mkF m 10 #[.val (.int p1), .val (.int p2), .val (.int p3), .val (.int p4), .unset, .unset, .unset, .unset] [(.ref b), (.ref b)])) _
    refine XS.iconst X2.here hx rfl (hb hby at_10) ?_
    show Steps p.tables e below (T2.setTop (mkF m 11 #[.val (.int p1), .val (.int p2), .val (.int p3), .val (.int p4), .unset, .unset, .unset, .unset] [(.int (1 : Int32)), (.ref b), (.ref b)])) _
    refine XS.bipush X2.here hx rfl (hb hby at_11) ?_
    show Steps p.tables e below (T2.setTop (mkF m 13 #[.val (.int p1), .val (.int p2), .val (.int p3), .val (.int p4), .unset, .unset, .unset, .unset] [(.int (90 : Int32)), (.int (1 : Int32)), (.ref b), (.ref b)])) t
    exact k
  obtain ⟨T3, L3, X3, I3, st3⟩ := own_store X2 hx hZ I2 (j := (1 : Int32)) (by decide) (g := (mkF m 13 #[.val (.int p1), .val (.int p2), .val (.int p3), .val (.int p4), .unset, .unset, .unset, .unset] [(.int (90 : Int32)), (.int (1 : Int32)), (.ref b), (.ref b)])) rfl rfl (hb hby at_13)
  have K4 : ∀ t, Steps p.tables e below (T3.setTop (mkF m 18 #[.val (.int p1), .val (.int p2), .val (.int p3), .val (.int p4), .unset, .unset, .unset, .unset] [(.int (95 : Int32)), (.int (2 : Int32)), (.ref b), (.ref b)])) t → Steps p.tables e below (T3.setTop (mkF m 14 #[.val (.int p1), .val (.int p2), .val (.int p3), .val (.int p4), .unset, .unset, .unset, .unset] [(.ref b)])) t := by
    intro t k
    show Steps p.tables e below (T3.setTop (mkF m 14 #[.val (.int p1), .val (.int p2), .val (.int p3), .val (.int p4), .unset, .unset, .unset, .unset] [(.ref b)])) _
    refine XS.dup X3.here hx rfl (hb hby at_14) rfl rfl ?_
    show Steps p.tables e below (T3.setTop (mkF m 15 #[.val (.int p1), .val (.int p2), .val (.int p3), .val (.int p4), .unset, .unset, .unset, .unset] [(.ref b), (.ref b)])) _
    refine XS.iconst X3.here hx rfl (hb hby at_15) ?_
    show Steps p.tables e below (T3.setTop (mkF m 16 #[.val (.int p1), .val (.int p2), .val (.int p3), .val (.int p4), .unset, .unset, .unset, .unset] [(.int (2 : Int32)), (.ref b), (.ref b)])) _
    refine XS.bipush X3.here hx rfl (hb hby at_16) ?_
    show Steps p.tables e below (T3.setTop (mkF m 18 #[.val (.int p1), .val (.int p2), .val (.int p3), .val (.int p4), .unset, .unset, .unset, .unset] [(.int (95 : Int32)), (.int (2 : Int32)), (.ref b), (.ref b)])) t
    exact k
  obtain ⟨T4, L4, X4, I4, st4⟩ := own_store X3 hx hZ I3 (j := (2 : Int32)) (by decide) (g := (mkF m 18 #[.val (.int p1), .val (.int p2), .val (.int p3), .val (.int p4), .unset, .unset, .unset, .unset] [(.int (95 : Int32)), (.int (2 : Int32)), (.ref b), (.ref b)])) rfl rfl (hb hby at_18)
  have K5 : ∀ t, Steps p.tables e below (T4.setTop (mkF m 23 #[.val (.int p1), .val (.int p2), .val (.int p3), .val (.int p4), .unset, .unset, .unset, .unset] [(.int (97 : Int32)), (.int (3 : Int32)), (.ref b), (.ref b)])) t → Steps p.tables e below (T4.setTop (mkF m 19 #[.val (.int p1), .val (.int p2), .val (.int p3), .val (.int p4), .unset, .unset, .unset, .unset] [(.ref b)])) t := by
    intro t k
    show Steps p.tables e below (T4.setTop (mkF m 19 #[.val (.int p1), .val (.int p2), .val (.int p3), .val (.int p4), .unset, .unset, .unset, .unset] [(.ref b)])) _
    refine XS.dup X4.here hx rfl (hb hby at_19) rfl rfl ?_
    show Steps p.tables e below (T4.setTop (mkF m 20 #[.val (.int p1), .val (.int p2), .val (.int p3), .val (.int p4), .unset, .unset, .unset, .unset] [(.ref b), (.ref b)])) _
    refine XS.iconst X4.here hx rfl (hb hby at_20) ?_
    show Steps p.tables e below (T4.setTop (mkF m 21 #[.val (.int p1), .val (.int p2), .val (.int p3), .val (.int p4), .unset, .unset, .unset, .unset] [(.int (3 : Int32)), (.ref b), (.ref b)])) _
    refine XS.bipush X4.here hx rfl (hb hby at_21) ?_
    show Steps p.tables e below (T4.setTop (mkF m 23 #[.val (.int p1), .val (.int p2), .val (.int p3), .val (.int p4), .unset, .unset, .unset, .unset] [(.int (97 : Int32)), (.int (3 : Int32)), (.ref b), (.ref b)])) t
    exact k
  obtain ⟨T5, L5, X5, I5, st5⟩ := own_store X4 hx hZ I4 (j := (3 : Int32)) (by decide) (g := (mkF m 23 #[.val (.int p1), .val (.int p2), .val (.int p3), .val (.int p4), .unset, .unset, .unset, .unset] [(.int (97 : Int32)), (.int (3 : Int32)), (.ref b), (.ref b)])) rfl rfl (hb hby at_23)
  have K6 : ∀ t, Steps p.tables e below (T5.setTop (mkF m 28 #[.val (.int p1), .val (.int p2), .val (.int p3), .val (.int p4), .unset, .unset, .unset, .unset] [(.int (122 : Int32)), (.int (4 : Int32)), (.ref b), (.ref b)])) t → Steps p.tables e below (T5.setTop (mkF m 24 #[.val (.int p1), .val (.int p2), .val (.int p3), .val (.int p4), .unset, .unset, .unset, .unset] [(.ref b)])) t := by
    intro t k
    show Steps p.tables e below (T5.setTop (mkF m 24 #[.val (.int p1), .val (.int p2), .val (.int p3), .val (.int p4), .unset, .unset, .unset, .unset] [(.ref b)])) _
    refine XS.dup X5.here hx rfl (hb hby at_24) rfl rfl ?_
    show Steps p.tables e below (T5.setTop (mkF m 25 #[.val (.int p1), .val (.int p2), .val (.int p3), .val (.int p4), .unset, .unset, .unset, .unset] [(.ref b), (.ref b)])) _
    refine XS.iconst X5.here hx rfl (hb hby at_25) ?_
    show Steps p.tables e below (T5.setTop (mkF m 26 #[.val (.int p1), .val (.int p2), .val (.int p3), .val (.int p4), .unset, .unset, .unset, .unset] [(.int (4 : Int32)), (.ref b), (.ref b)])) _
    refine XS.bipush X5.here hx rfl (hb hby at_26) ?_
    show Steps p.tables e below (T5.setTop (mkF m 28 #[.val (.int p1), .val (.int p2), .val (.int p3), .val (.int p4), .unset, .unset, .unset, .unset] [(.int (122 : Int32)), (.int (4 : Int32)), (.ref b), (.ref b)])) t
    exact k
  obtain ⟨T6, L6, X6, I6, st6⟩ := own_store X5 hx hZ I5 (j := (4 : Int32)) (by decide) (g := (mkF m 28 #[.val (.int p1), .val (.int p2), .val (.int p3), .val (.int p4), .unset, .unset, .unset, .unset] [(.int (122 : Int32)), (.int (4 : Int32)), (.ref b), (.ref b)])) rfl rfl (hb hby at_28)
  have K7 : ∀ t, Steps p.tables e below (T6.setTop (mkF m 34 #[.val (.int p1), .val (.int p2), .val (.int p3), .val (.int p4), .unset, .unset, .unset, .unset] [(.int (192 : Int32)), (.int (5 : Int32)), (.ref b), (.ref b)])) t → Steps p.tables e below (T6.setTop (mkF m 29 #[.val (.int p1), .val (.int p2), .val (.int p3), .val (.int p4), .unset, .unset, .unset, .unset] [(.ref b)])) t := by
    intro t k
    show Steps p.tables e below (T6.setTop (mkF m 29 #[.val (.int p1), .val (.int p2), .val (.int p3), .val (.int p4), .unset, .unset, .unset, .unset] [(.ref b)])) _
    refine XS.dup X6.here hx rfl (hb hby at_29) rfl rfl ?_
    show Steps p.tables e below (T6.setTop (mkF m 30 #[.val (.int p1), .val (.int p2), .val (.int p3), .val (.int p4), .unset, .unset, .unset, .unset] [(.ref b), (.ref b)])) _
    refine XS.iconst X6.here hx rfl (hb hby at_30) ?_
    show Steps p.tables e below (T6.setTop (mkF m 31 #[.val (.int p1), .val (.int p2), .val (.int p3), .val (.int p4), .unset, .unset, .unset, .unset] [(.int (5 : Int32)), (.ref b), (.ref b)])) _
    refine XS.sipush X6.here hx rfl (hb hby at_31) ?_
    show Steps p.tables e below (T6.setTop (mkF m 34 #[.val (.int p1), .val (.int p2), .val (.int p3), .val (.int p4), .unset, .unset, .unset, .unset] [(.int (192 : Int32)), (.int (5 : Int32)), (.ref b), (.ref b)])) t
    exact k
  obtain ⟨T7, L7, X7, I7, st7⟩ := own_store X6 hx hZ I6 (j := (5 : Int32)) (by decide) (g := (mkF m 34 #[.val (.int p1), .val (.int p2), .val (.int p3), .val (.int p4), .unset, .unset, .unset, .unset] [(.int (192 : Int32)), (.int (5 : Int32)), (.ref b), (.ref b)])) rfl rfl (hb hby at_34)
  have K8 : ∀ t, Steps p.tables e below (T7.setTop (mkF m 41 #[.val (.int p1), .val (.int p2), .val (.int p3), .val (.int p4), .unset, .unset, .unset, .unset] [(.int (214 : Int32)), (.int (6 : Int32)), (.ref b), (.ref b)])) t → Steps p.tables e below (T7.setTop (mkF m 35 #[.val (.int p1), .val (.int p2), .val (.int p3), .val (.int p4), .unset, .unset, .unset, .unset] [(.ref b)])) t := by
    intro t k
    show Steps p.tables e below (T7.setTop (mkF m 35 #[.val (.int p1), .val (.int p2), .val (.int p3), .val (.int p4), .unset, .unset, .unset, .unset] [(.ref b)])) _
    refine XS.dup X7.here hx rfl (hb hby at_35) rfl rfl ?_
    show Steps p.tables e below (T7.setTop (mkF m 36 #[.val (.int p1), .val (.int p2), .val (.int p3), .val (.int p4), .unset, .unset, .unset, .unset] [(.ref b), (.ref b)])) _
    refine XS.bipush X7.here hx rfl (hb hby at_36) ?_
    show Steps p.tables e below (T7.setTop (mkF m 38 #[.val (.int p1), .val (.int p2), .val (.int p3), .val (.int p4), .unset, .unset, .unset, .unset] [(.int (6 : Int32)), (.ref b), (.ref b)])) _
    refine XS.sipush X7.here hx rfl (hb hby at_38) ?_
    show Steps p.tables e below (T7.setTop (mkF m 41 #[.val (.int p1), .val (.int p2), .val (.int p3), .val (.int p4), .unset, .unset, .unset, .unset] [(.int (214 : Int32)), (.int (6 : Int32)), (.ref b), (.ref b)])) t
    exact k
  obtain ⟨T8, L8, X8, I8, st8⟩ := own_store X7 hx hZ I7 (j := (6 : Int32)) (by decide) (g := (mkF m 41 #[.val (.int p1), .val (.int p2), .val (.int p3), .val (.int p4), .unset, .unset, .unset, .unset] [(.int (214 : Int32)), (.int (6 : Int32)), (.ref b), (.ref b)])) rfl rfl (hb hby at_41)
  have K9 : ∀ t, Steps p.tables e below (T8.setTop (mkF m 48 #[.val (.int p1), .val (.int p2), .val (.int p3), .val (.int p4), .unset, .unset, .unset, .unset] [(.int (216 : Int32)), (.int (7 : Int32)), (.ref b), (.ref b)])) t → Steps p.tables e below (T8.setTop (mkF m 42 #[.val (.int p1), .val (.int p2), .val (.int p3), .val (.int p4), .unset, .unset, .unset, .unset] [(.ref b)])) t := by
    intro t k
    show Steps p.tables e below (T8.setTop (mkF m 42 #[.val (.int p1), .val (.int p2), .val (.int p3), .val (.int p4), .unset, .unset, .unset, .unset] [(.ref b)])) _
    refine XS.dup X8.here hx rfl (hb hby at_42) rfl rfl ?_
    show Steps p.tables e below (T8.setTop (mkF m 43 #[.val (.int p1), .val (.int p2), .val (.int p3), .val (.int p4), .unset, .unset, .unset, .unset] [(.ref b), (.ref b)])) _
    refine XS.bipush X8.here hx rfl (hb hby at_43) ?_
    show Steps p.tables e below (T8.setTop (mkF m 45 #[.val (.int p1), .val (.int p2), .val (.int p3), .val (.int p4), .unset, .unset, .unset, .unset] [(.int (7 : Int32)), (.ref b), (.ref b)])) _
    refine XS.sipush X8.here hx rfl (hb hby at_45) ?_
    show Steps p.tables e below (T8.setTop (mkF m 48 #[.val (.int p1), .val (.int p2), .val (.int p3), .val (.int p4), .unset, .unset, .unset, .unset] [(.int (216 : Int32)), (.int (7 : Int32)), (.ref b), (.ref b)])) t
    exact k
  obtain ⟨T9, L9, X9, I9, st9⟩ := own_store X8 hx hZ I8 (j := (7 : Int32)) (by decide) (g := (mkF m 48 #[.val (.int p1), .val (.int p2), .val (.int p3), .val (.int p4), .unset, .unset, .unset, .unset] [(.int (216 : Int32)), (.int (7 : Int32)), (.ref b), (.ref b)])) rfl rfl (hb hby at_48)
  have K10 : ∀ t, Steps p.tables e below (T9.setTop (mkF m 55 #[.val (.int p1), .val (.int p2), .val (.int p3), .val (.int p4), .unset, .unset, .unset, .unset] [(.int (246 : Int32)), (.int (8 : Int32)), (.ref b), (.ref b)])) t → Steps p.tables e below (T9.setTop (mkF m 49 #[.val (.int p1), .val (.int p2), .val (.int p3), .val (.int p4), .unset, .unset, .unset, .unset] [(.ref b)])) t := by
    intro t k
    show Steps p.tables e below (T9.setTop (mkF m 49 #[.val (.int p1), .val (.int p2), .val (.int p3), .val (.int p4), .unset, .unset, .unset, .unset] [(.ref b)])) _
    refine XS.dup X9.here hx rfl (hb hby at_49) rfl rfl ?_
    show Steps p.tables e below (T9.setTop (mkF m 50 #[.val (.int p1), .val (.int p2), .val (.int p3), .val (.int p4), .unset, .unset, .unset, .unset] [(.ref b), (.ref b)])) _
    refine XS.bipush X9.here hx rfl (hb hby at_50) ?_
    show Steps p.tables e below (T9.setTop (mkF m 52 #[.val (.int p1), .val (.int p2), .val (.int p3), .val (.int p4), .unset, .unset, .unset, .unset] [(.int (8 : Int32)), (.ref b), (.ref b)])) _
    refine XS.sipush X9.here hx rfl (hb hby at_52) ?_
    show Steps p.tables e below (T9.setTop (mkF m 55 #[.val (.int p1), .val (.int p2), .val (.int p3), .val (.int p4), .unset, .unset, .unset, .unset] [(.int (246 : Int32)), (.int (8 : Int32)), (.ref b), (.ref b)])) t
    exact k
  obtain ⟨T10, L10, X10, I10, st10⟩ := own_store X9 hx hZ I9 (j := (8 : Int32)) (by decide) (g := (mkF m 55 #[.val (.int p1), .val (.int p2), .val (.int p3), .val (.int p4), .unset, .unset, .unset, .unset] [(.int (246 : Int32)), (.int (8 : Int32)), (.ref b), (.ref b)])) rfl rfl (hb hby at_55)
  have K11 : ∀ t, Steps p.tables e below (T10.setTop (mkF m 62 #[.val (.int p1), .val (.int p2), .val (.int p3), .val (.int p4), .unset, .unset, .unset, .unset] [(.int (248 : Int32)), (.int (9 : Int32)), (.ref b), (.ref b)])) t → Steps p.tables e below (T10.setTop (mkF m 56 #[.val (.int p1), .val (.int p2), .val (.int p3), .val (.int p4), .unset, .unset, .unset, .unset] [(.ref b)])) t := by
    intro t k
    show Steps p.tables e below (T10.setTop (mkF m 56 #[.val (.int p1), .val (.int p2), .val (.int p3), .val (.int p4), .unset, .unset, .unset, .unset] [(.ref b)])) _
    refine XS.dup X10.here hx rfl (hb hby at_56) rfl rfl ?_
    show Steps p.tables e below (T10.setTop (mkF m 57 #[.val (.int p1), .val (.int p2), .val (.int p3), .val (.int p4), .unset, .unset, .unset, .unset] [(.ref b), (.ref b)])) _
    refine XS.bipush X10.here hx rfl (hb hby at_57) ?_
    show Steps p.tables e below (T10.setTop (mkF m 59 #[.val (.int p1), .val (.int p2), .val (.int p3), .val (.int p4), .unset, .unset, .unset, .unset] [(.int (9 : Int32)), (.ref b), (.ref b)])) _
    refine XS.sipush X10.here hx rfl (hb hby at_59) ?_
    show Steps p.tables e below (T10.setTop (mkF m 62 #[.val (.int p1), .val (.int p2), .val (.int p3), .val (.int p4), .unset, .unset, .unset, .unset] [(.int (248 : Int32)), (.int (9 : Int32)), (.ref b), (.ref b)])) t
    exact k
  obtain ⟨T11, L11, X11, I11, st11⟩ := own_store X10 hx hZ I10 (j := (9 : Int32)) (by decide) (g := (mkF m 62 #[.val (.int p1), .val (.int p2), .val (.int p3), .val (.int p4), .unset, .unset, .unset, .unset] [(.int (248 : Int32)), (.int (9 : Int32)), (.ref b), (.ref b)])) rfl rfl (hb hby at_62)
  have K12 : ∀ t, Steps p.tables e below (T11.setTop (mkF m 69 #[.val (.int p1), .val (.int p2), .val (.int p3), .val (.int p4), .unset, .unset, .unset, .unset] [(.int (767 : Int32)), (.int (10 : Int32)), (.ref b), (.ref b)])) t → Steps p.tables e below (T11.setTop (mkF m 63 #[.val (.int p1), .val (.int p2), .val (.int p3), .val (.int p4), .unset, .unset, .unset, .unset] [(.ref b)])) t := by
    intro t k
    show Steps p.tables e below (T11.setTop (mkF m 63 #[.val (.int p1), .val (.int p2), .val (.int p3), .val (.int p4), .unset, .unset, .unset, .unset] [(.ref b)])) _
    refine XS.dup X11.here hx rfl (hb hby at_63) rfl rfl ?_
    show Steps p.tables e below (T11.setTop (mkF m 64 #[.val (.int p1), .val (.int p2), .val (.int p3), .val (.int p4), .unset, .unset, .unset, .unset] [(.ref b), (.ref b)])) _
    refine XS.bipush X11.here hx rfl (hb hby at_64) ?_
    show Steps p.tables e below (T11.setTop (mkF m 66 #[.val (.int p1), .val (.int p2), .val (.int p3), .val (.int p4), .unset, .unset, .unset, .unset] [(.int (10 : Int32)), (.ref b), (.ref b)])) _
    refine XS.sipush X11.here hx rfl (hb hby at_66) ?_
    show Steps p.tables e below (T11.setTop (mkF m 69 #[.val (.int p1), .val (.int p2), .val (.int p3), .val (.int p4), .unset, .unset, .unset, .unset] [(.int (767 : Int32)), (.int (10 : Int32)), (.ref b), (.ref b)])) t
    exact k
  obtain ⟨T12, L12, X12, I12, st12⟩ := own_store X11 hx hZ I11 (j := (10 : Int32)) (by decide) (g := (mkF m 69 #[.val (.int p1), .val (.int p2), .val (.int p3), .val (.int p4), .unset, .unset, .unset, .unset] [(.int (767 : Int32)), (.int (10 : Int32)), (.ref b), (.ref b)])) rfl rfl (hb hby at_69)
  have K13 : ∀ t, Steps p.tables e below (T12.setTop (mkF m 76 #[.val (.int p1), .val (.int p2), .val (.int p3), .val (.int p4), .unset, .unset, .unset, .unset] [(.int (880 : Int32)), (.int (11 : Int32)), (.ref b), (.ref b)])) t → Steps p.tables e below (T12.setTop (mkF m 70 #[.val (.int p1), .val (.int p2), .val (.int p3), .val (.int p4), .unset, .unset, .unset, .unset] [(.ref b)])) t := by
    intro t k
    show Steps p.tables e below (T12.setTop (mkF m 70 #[.val (.int p1), .val (.int p2), .val (.int p3), .val (.int p4), .unset, .unset, .unset, .unset] [(.ref b)])) _
    refine XS.dup X12.here hx rfl (hb hby at_70) rfl rfl ?_
    show Steps p.tables e below (T12.setTop (mkF m 71 #[.val (.int p1), .val (.int p2), .val (.int p3), .val (.int p4), .unset, .unset, .unset, .unset] [(.ref b), (.ref b)])) _
    refine XS.bipush X12.here hx rfl (hb hby at_71) ?_
    show Steps p.tables e below (T12.setTop (mkF m 73 #[.val (.int p1), .val (.int p2), .val (.int p3), .val (.int p4), .unset, .unset, .unset, .unset] [(.int (11 : Int32)), (.ref b), (.ref b)])) _
    refine XS.sipush X12.here hx rfl (hb hby at_73) ?_
    show Steps p.tables e below (T12.setTop (mkF m 76 #[.val (.int p1), .val (.int p2), .val (.int p3), .val (.int p4), .unset, .unset, .unset, .unset] [(.int (880 : Int32)), (.int (11 : Int32)), (.ref b), (.ref b)])) t
    exact k
  obtain ⟨T13, L13, X13, I13, st13⟩ := own_store X12 hx hZ I12 (j := (11 : Int32)) (by decide) (g := (mkF m 76 #[.val (.int p1), .val (.int p2), .val (.int p3), .val (.int p4), .unset, .unset, .unset, .unset] [(.int (880 : Int32)), (.int (11 : Int32)), (.ref b), (.ref b)])) rfl rfl (hb hby at_76)
  have K14 : ∀ t, Steps p.tables e below (T13.setTop (mkF m 83 #[.val (.int p1), .val (.int p2), .val (.int p3), .val (.int p4), .unset, .unset, .unset, .unset] [(.int (893 : Int32)), (.int (12 : Int32)), (.ref b), (.ref b)])) t → Steps p.tables e below (T13.setTop (mkF m 77 #[.val (.int p1), .val (.int p2), .val (.int p3), .val (.int p4), .unset, .unset, .unset, .unset] [(.ref b)])) t := by
    intro t k
    show Steps p.tables e below (T13.setTop (mkF m 77 #[.val (.int p1), .val (.int p2), .val (.int p3), .val (.int p4), .unset, .unset, .unset, .unset] [(.ref b)])) _
    refine XS.dup X13.here hx rfl (hb hby at_77) rfl rfl ?_
    show Steps p.tables e below (T13.setTop (mkF m 78 #[.val (.int p1), .val (.int p2), .val (.int p3), .val (.int p4), .unset, .unset, .unset, .unset] [(.ref b), (.ref b)])) _
    refine XS.bipush X13.here hx rfl (hb hby at_78) ?_
    show Steps p.tables e below (T13.setTop (mkF m 80 #[.val (.int p1), .val (.int p2), .val (.int p3), .val (.int p4), .unset, .unset, .unset, .unset] [(.int (12 : Int32)), (.ref b), (.ref b)])) _
    refine XS.sipush X13.here hx rfl (hb hby at_80) ?_
    show Steps p.tables e below (T13.setTop (mkF m 83 #[.val (.int p1), .val (.int p2), .val (.int p3), .val (.int p4), .unset, .unset, .unset, .unset] [(.int (893 : Int32)), (.int (12 : Int32)), (.ref b), (.ref b)])) t
    exact k
  obtain ⟨T14, L14, X14, I14, st14⟩ := own_store X13 hx hZ I13 (j := (12 : Int32)) (by decide) (g := (mkF m 83 #[.val (.int p1), .val (.int p2), .val (.int p3), .val (.int p4), .unset, .unset, .unset, .unset] [(.int (893 : Int32)), (.int (12 : Int32)), (.ref b), (.ref b)])) rfl rfl (hb hby at_83)
  have K15 : ∀ t, Steps p.tables e below (T14.setTop (mkF m 90 #[.val (.int p1), .val (.int p2), .val (.int p3), .val (.int p4), .unset, .unset, .unset, .unset] [(.int (895 : Int32)), (.int (13 : Int32)), (.ref b), (.ref b)])) t → Steps p.tables e below (T14.setTop (mkF m 84 #[.val (.int p1), .val (.int p2), .val (.int p3), .val (.int p4), .unset, .unset, .unset, .unset] [(.ref b)])) t := by
    intro t k
    show Steps p.tables e below (T14.setTop (mkF m 84 #[.val (.int p1), .val (.int p2), .val (.int p3), .val (.int p4), .unset, .unset, .unset, .unset] [(.ref b)])) _
    refine XS.dup X14.here hx rfl (hb hby at_84) rfl rfl ?_
    show Steps p.tables e below (T14.setTop (mkF m 85 #[.val (.int p1), .val (.int p2), .val (.int p3), .val (.int p4), .unset, .unset, .unset, .unset] [(.ref b), (.ref b)])) _
    refine XS.bipush X14.here hx rfl (hb hby at_85) ?_
    show Steps p.tables e below (T14.setTop (mkF m 87 #[.val (.int p1), .val (.int p2), .val (.int p3), .val (.int p4), .unset, .unset, .unset, .unset] [(.int (13 : Int32)), (.ref b), (.ref b)])) _
    refine XS.sipush X14.here hx rfl (hb hby at_87) ?_
    show Steps p.tables e below (T14.setTop (mkF m 90 #[.val (.int p1), .val (.int p2), .val (.int p3), .val (.int p4), .unset, .unset, .unset, .unset] [(.int (895 : Int32)), (.int (13 : Int32)), (.ref b), (.ref b)])) t
    exact k
  obtain ⟨T15, L15, X15, I15, st15⟩ := own_store X14 hx hZ I14 (j := (13 : Int32)) (by decide) (g := (mkF m 90 #[.val (.int p1), .val (.int p2), .val (.int p3), .val (.int p4), .unset, .unset, .unset, .unset] [(.int (895 : Int32)), (.int (13 : Int32)), (.ref b), (.ref b)])) rfl rfl (hb hby at_90)
  have K16 : ∀ t, Steps p.tables e below (T15.setTop (mkF m 97 #[.val (.int p1), .val (.int p2), .val (.int p3), .val (.int p4), .unset, .unset, .unset, .unset] [(.int (8191 : Int32)), (.int (14 : Int32)), (.ref b), (.ref b)])) t → Steps p.tables e below (T15.setTop (mkF m 91 #[.val (.int p1), .val (.int p2), .val (.int p3), .val (.int p4), .unset, .unset, .unset, .unset] [(.ref b)])) t := by
    intro t k
    show Steps p.tables e below (T15.setTop (mkF m 91 #[.val (.int p1), .val (.int p2), .val (.int p3), .val (.int p4), .unset, .unset, .unset, .unset] [(.ref b)])) _
    refine XS.dup X15.here hx rfl (hb hby at_91) rfl rfl ?_
    show Steps p.tables e below (T15.setTop (mkF m 92 #[.val (.int p1), .val (.int p2), .val (.int p3), .val (.int p4), .unset, .unset, .unset, .unset] [(.ref b), (.ref b)])) _
    refine XS.bipush X15.here hx rfl (hb hby at_92) ?_
    show Steps p.tables e below (T15.setTop (mkF m 94 #[.val (.int p1), .val (.int p2), .val (.int p3), .val (.int p4), .unset, .unset, .unset, .unset] [(.int (14 : Int32)), (.ref b), (.ref b)])) _
    refine XS.sipush X15.here hx rfl (hb hby at_94) ?_
    show Steps p.tables e below (T15.setTop (mkF m 97 #[.val (.int p1), .val (.int p2), .val (.int p3), .val (.int p4), .unset, .unset, .unset, .unset] [(.int (8191 : Int32)), (.int (14 : Int32)), (.ref b), (.ref b)])) t
    exact k
  obtain ⟨T16, L16, X16, I16, st16⟩ := own_store X15 hx hZ I15 (j := (14 : Int32)) (by decide) (g := (mkF m 97 #[.val (.int p1), .val (.int p2), .val (.int p3), .val (.int p4), .unset, .unset, .unset, .unset] [(.int (8191 : Int32)), (.int (14 : Int32)), (.ref b), (.ref b)])) rfl rfl (hb hby at_97)
  have K17 : ∀ t, Steps p.tables e below (T16.setTop (mkF m 104 #[.val (.int p1), .val (.int p2), .val (.int p3), .val (.int p4), .unset, .unset, .unset, .unset] [(.int (8204 : Int32)), (.int (15 : Int32)), (.ref b), (.ref b)])) t → Steps p.tables e below (T16.setTop (mkF m 98 #[.val (.int p1), .val (.int p2), .val (.int p3), .val (.int p4), .unset, .unset, .unset, .unset] [(.ref b)])) t := by
    intro t k
    show Steps p.tables e below (T16.setTop (mkF m 98 #[.val (.int p1), .val (.int p2), .val (.int p3), .val (.int p4), .unset, .unset, .unset, .unset] [(.ref b)])) _
    refine XS.dup X16.here hx rfl (hb hby at_98) rfl rfl ?_
    show Steps p.tables e below (T16.setTop (mkF m 99 #[.val (.int p1), .val (.int p2), .val (.int p3), .val (.int p4), .unset, .unset, .unset, .unset] [(.ref b), (.ref b)])) _
    refine XS.bipush X16.here hx rfl (hb hby at_99) ?_
    show Steps p.tables e below (T16.setTop (mkF m 101 #[.val (.int p1), .val (.int p2), .val (.int p3), .val (.int p4), .unset, .unset, .unset, .unset] [(.int (15 : Int32)), (.ref b), (.ref b)])) _
    refine XS.sipush X16.here hx rfl (hb hby at_101) ?_
    show Steps p.tables e below (T16.setTop (mkF m 104 #[.val (.int p1), .val (.int p2), .val (.int p3), .val (.int p4), .unset, .unset, .unset, .unset] [(.int (8204 : Int32)), (.int (15 : Int32)), (.ref b), (.ref b)])) t
    exact k
  obtain ⟨T17, L17, X17, I17, st17⟩ := own_store X16 hx hZ I16 (j := (15 : Int32)) (by decide) (g := (mkF m 104 #[.val (.int p1), .val (.int p2), .val (.int p3), .val (.int p4), .unset, .unset, .unset, .unset] [(.int (8204 : Int32)), (.int (15 : Int32)), (.ref b), (.ref b)])) rfl rfl (hb hby at_104)
  have K18 : ∀ t, Steps p.tables e below (T17.setTop (mkF m 111 #[.val (.int p1), .val (.int p2), .val (.int p3), .val (.int p4), .unset, .unset, .unset, .unset] [(.int (8205 : Int32)), (.int (16 : Int32)), (.ref b), (.ref b)])) t → Steps p.tables e below (T17.setTop (mkF m 105 #[.val (.int p1), .val (.int p2), .val (.int p3), .val (.int p4), .unset, .unset, .unset, .unset] [(.ref b)])) t := by
    intro t k
    show Steps p.tables e below (T17.setTop (mkF m 105 #[.val (.int p1), .val (.int p2), .val (.int p3), .val (.int p4), .unset, .unset, .unset, .unset] [(.ref b)])) _
    refine XS.dup X17.here hx rfl (hb hby at_105) rfl rfl ?_
    show Steps p.tables e below (T17.setTop (mkF m 106 #[.val (.int p1), .val (.int p2), .val (.int p3), .val (.int p4), .unset, .unset, .unset, .unset] [(.ref b), (.ref b)])) _
    refine XS.bipush X17.here hx rfl (hb hby at_106) ?_
    show Steps p.tables e below (T17.setTop (mkF m 108 #[.val (.int p1), .val (.int p2), .val (.int p3), .val (.int p4), .unset, .unset, .unset, .unset] [(.int (16 : Int32)), (.ref b), (.ref b)])) _
    refine XS.sipush X17.here hx rfl (hb hby at_108) ?_
    show Steps p.tables e below (T17.setTop (mkF m 111 #[.val (.int p1), .val (.int p2), .val (.int p3), .val (.int p4), .unset, .unset, .unset, .unset] [(.int (8205 : Int32)), (.int (16 : Int32)), (.ref b), (.ref b)])) t
    exact k
  obtain ⟨T18, L18, X18, I18, st18⟩ := own_store X17 hx hZ I17 (j := (16 : Int32)) (by decide) (g := (mkF m 111 #[.val (.int p1), .val (.int p2), .val (.int p3), .val (.int p4), .unset, .unset, .unset, .unset] [(.int (8205 : Int32)), (.int (16 : Int32)), (.ref b), (.ref b)])) rfl rfl (hb hby at_111)
  have K19 : ∀ t, Steps p.tables e below (T18.setTop (mkF m 118 #[.val (.int p1), .val (.int p2), .val (.int p3), .val (.int p4), .unset, .unset, .unset, .unset] [(.int (8304 : Int32)), (.int (17 : Int32)), (.ref b), (.ref b)])) t → Steps p.tables e below (T18.setTop (mkF m 112 #[.val (.int p1), .val (.int p2), .val (.int p3), .val (.int p4), .unset, .unset, .unset, .unset] [(.ref b)])) t := by
    intro t k
    show Steps p.tables e below (T18.setTop (mkF m 112 #[.val (.int p1), .val (.int p2), .val (.int p3), .val (.int p4), .unset, .unset, .unset, .unset] [(.ref b)])) _
    refine XS.dup X18.here hx rfl (hb hby at_112) rfl rfl ?_
    show Steps p.tables e below (T18.setTop (mkF m 113 #[.val (.int p1), .val (.int p2), .val (.int p3), .val (.int p4), .unset, .unset, .unset, .unset] [(.ref b), (.ref b)])) _
    refine XS.bipush X18.here hx rfl (hb hby at_113) ?_
    show Steps p.tables e below (T18.setTop (mkF m 115 #[.val (.int p1), .val (.int p2), .val (.int p3), .val (.int p4), .unset, .unset, .unset, .unset] [(.int (17 : Int32)), (.ref b), (.ref b)])) _
    refine XS.sipush X18.here hx rfl (hb hby at_115) ?_
    show Steps p.tables e below (T18.setTop (mkF m 118 #[.val (.int p1), .val (.int p2), .val (.int p3), .val (.int p4), .unset, .unset, .unset, .unset] [(.int (8304 : Int32)), (.int (17 : Int32)), (.ref b), (.ref b)])) t
    exact k
  obtain ⟨T19, L19, X19, I19, st19⟩ := own_store X18 hx hZ I18 (j := (17 : Int32)) (by decide) (g := (mkF m 118 #[.val (.int p1), .val (.int p2), .val (.int p3), .val (.int p4), .unset, .unset, .unset, .unset] [(.int (8304 : Int32)), (.int (17 : Int32)), (.ref b), (.ref b)])) rfl rfl (hb hby at_118)
  have K20 : ∀ t, Steps p.tables e below (T19.setTop (mkF m 125 #[.val (.int p1), .val (.int p2), .val (.int p3), .val (.int p4), .unset, .unset, .unset, .unset] [(.int (8591 : Int32)), (.int (18 : Int32)), (.ref b), (.ref b)])) t → Steps p.tables e below (T19.setTop (mkF m 119 #[.val (.int p1), .val (.int p2), .val (.int p3), .val (.int p4), .unset, .unset, .unset, .unset] [(.ref b)])) t := by
    intro t k
    show Steps p.tables e below (T19.setTop (mkF m 119 #[.val (.int p1), .val (.int p2), .val (.int p3), .val (.int p4), .unset, .unset, .unset, .unset] [(.ref b)])) _
    refine XS.dup X19.here hx rfl (hb hby at_119) rfl rfl ?_
    show Steps p.tables e below (T19.setTop (mkF m 120 #[.val (.int p1), .val (.int p2), .val (.int p3), .val (.int p4), .unset, .unset, .unset, .unset] [(.ref b), (.ref b)])) _
    refine XS.bipush X19.here hx rfl (hb hby at_120) ?_
    show Steps p.tables e below (T19.setTop (mkF m 122 #[.val (.int p1), .val (.int p2), .val (.int p3), .val (.int p4), .unset, .unset, .unset, .unset] [(.int (18 : Int32)), (.ref b), (.ref b)])) _
    refine XS.sipush X19.here hx rfl (hb hby at_122) ?_
    show Steps p.tables e below (T19.setTop (mkF m 125 #[.val (.int p1), .val (.int p2), .val (.int p3), .val (.int p4), .unset, .unset, .unset, .unset] [(.int (8591 : Int32)), (.int (18 : Int32)), (.ref b), (.ref b)])) t
    exact k
  obtain ⟨T20, L20, X20, I20, st20⟩ := own_store X19 hx hZ I19 (j := (18 : Int32)) (by decide) (g := (mkF m 125 #[.val (.int p1), .val (.int p2), .val (.int p3), .val (.int p4), .unset, .unset, .unset, .unset] [(.int (8591 : Int32)), (.int (18 : Int32)), (.ref b), (.ref b)])) rfl rfl (hb hby at_125)
  have K21 : ∀ t, Steps p.tables e below (T20.setTop (mkF m 132 #[.val (.int p1), .val (.int p2), .val (.int p3), .val (.int p4), .unset, .unset, .unset, .unset] [(.int (11264 : Int32)), (.int (19 : Int32)), (.ref b), (.ref b)])) t → Steps p.tables e below (T20.setTop (mkF m 126 #[.val (.int p1), .val (.int p2), .val (.int p3), .val (.int p4), .unset, .unset, .unset, .unset] [(.ref b)])) t := by
    intro t k
    show Steps p.tables e below (T20.setTop (mkF m 126 #[.val (.int p1), .val (.int p2), .val (.int p3), .val (.int p4), .unset, .unset, .unset, .unset] [(.ref b)])) _
    refine XS.dup X20.here hx rfl (hb hby at_126) rfl rfl ?_
    show Steps p.tables e below (T20.setTop (mkF m 127 #[.val (.int p1), .val (.int p2), .val (.int p3), .val (.int p4), .unset, .unset, .unset, .unset] [(.ref b), (.ref b)])) _
    refine XS.bipush X20.here hx rfl (hb hby at_127) ?_
    show Steps p.tables e below (T20.setTop (mkF m 129 #[.val (.int p1), .val (.int p2), .val (.int p3), .val (.int p4), .unset, .unset, .unset, .unset] [(.int (19 : Int32)), (.ref b), (.ref b)])) _
    refine XS.sipush X20.here hx rfl (hb hby at_129) ?_
    show Steps p.tables e below (T20.setTop (mkF m 132 #[.val (.int p1), .val (.int p2), .val (.int p3), .val (.int p4), .unset, .unset, .unset, .unset] [(.int (11264 : Int32)), (.int (19 : Int32)), (.ref b), (.ref b)])) t
    exact k
  obtain ⟨T21, L21, X21, I21, st21⟩ := own_store X20 hx hZ I20 (j := (19 : Int32)) (by decide) (g := (mkF m 132 #[.val (.int p1), .val (.int p2), .val (.int p3), .val (.int p4), .unset, .unset, .unset, .unset] [(.int (11264 : Int32)), (.int (19 : Int32)), (.ref b), (.ref b)])) rfl rfl (hb hby at_132)
  have K22 : ∀ t, Steps p.tables e below (T21.setTop (mkF m 139 #[.val (.int p1), .val (.int p2), .val (.int p3), .val (.int p4), .unset, .unset, .unset, .unset] [(.int (12271 : Int32)), (.int (20 : Int32)), (.ref b), (.ref b)])) t → Steps p.tables e below (T21.setTop (mkF m 133 #[.val (.int p1), .val (.int p2), .val (.int p3), .val (.int p4), .unset, .unset, .unset, .unset] [(.ref b)])) t := by
    intro t k
    show Steps p.tables e below (T21.setTop (mkF m 133 #[.val (.int p1), .val (.int p2), .val (.int p3), .val (.int p4), .unset, .unset, .unset, .unset] [(.ref b)])) _
    refine XS.dup X21.here hx rfl (hb hby at_133) rfl rfl ?_
    show Steps p.tables e below (T21.setTop (mkF m 134 #[.val (.int p1), .val (.int p2), .val (.int p3), .val (.int p4), .unset, .unset, .unset, .unset] [(.ref b), (.ref b)])) _
    refine XS.bipush X21.here hx rfl (hb hby at_134) ?_
    show Steps p.tables e below (T21.setTop (mkF m 136 #[.val (.int p1), .val (.int p2), .val (.int p3), .val (.int p4), .unset, .unset, .unset, .unset] [(.int (20 : Int32)), (.ref b), (.ref b)])) _
    refine XS.sipush X21.here hx rfl (hb hby at_136) ?_
    show Steps p.tables e below (T21.setTop (mkF m 139 #[.val (.int p1), .val (.int p2), .val (.int p3), .val (.int p4), .unset, .unset, .unset, .unset] [(.int (12271 : Int32)), (.int (20 : Int32)), (.ref b), (.ref b)])) t
    exact k
  obtain ⟨T22, L22, X22, I22, st22⟩ := own_store X21 hx hZ I21 (j := (20 : Int32)) (by decide) (g := (mkF m 139 #[.val (.int p1), .val (.int p2), .val (.int p3), .val (.int p4), .unset, .unset, .unset, .unset] [(.int (12271 : Int32)), (.int (20 : Int32)), (.ref b), (.ref b)])) rfl rfl (hb hby at_139)
  have K23 : ∀ t, Steps p.tables e below (T22.setTop (mkF m 146 #[.val (.int p1), .val (.int p2), .val (.int p3), .val (.int p4), .unset, .unset, .unset, .unset] [(.int (12289 : Int32)), (.int (21 : Int32)), (.ref b), (.ref b)])) t → Steps p.tables e below (T22.setTop (mkF m 140 #[.val (.int p1), .val (.int p2), .val (.int p3), .val (.int p4), .unset, .unset, .unset, .unset] [(.ref b)])) t := by
    intro t k
    show Steps p.tables e below (T22.setTop (mkF m 140 #[.val (.int p1), .val (.int p2), .val (.int p3), .val (.int p4), .unset, .unset, .unset, .unset] [(.ref b)])) _
    refine XS.dup X22.here hx rfl (hb hby at_140) rfl rfl ?_
    show Steps p.tables e below (T22.setTop (mkF m 141 #[.val (.int p1), .val (.int p2), .val (.int p3), .val (.int p4), .unset, .unset, .unset, .unset] [(.ref b), (.ref b)])) _
    refine XS.bipush X22.here hx rfl (hb hby at_141) ?_
    show Steps p.tables e below (T22.setTop (mkF m 143 #[.val (.int p1), .val (.int p2), .val (.int p3), .val (.int p4), .unset, .unset, .unset, .unset] [(.int (21 : Int32)), (.ref b), (.ref b)])) _
    refine XS.sipush X22.here hx rfl (hb hby at_143) ?_
    show Steps p.tables e below (T22.setTop (mkF m 146 #[.val (.int p1), .val (.int p2), .val (.int p3), .val (.int p4), .unset, .unset, .unset, .unset] [(.int (12289 : Int32)), (.int (21 : Int32)), (.ref b), (.ref b)])) t
    exact k
  obtain ⟨T23, L23, X23, I23, st23⟩ := own_store X22 hx hZ I22 (j := (21 : Int32)) (by decide) (g := (mkF m 146 #[.val (.int p1), .val (.int p2), .val (.int p3), .val (.int p4), .unset, .unset, .unset, .unset] [(.int (12289 : Int32)), (.int (21 : Int32)), (.ref b), (.ref b)])) rfl rfl (hb hby at_146)
  have K24 : ∀ t, Steps p.tables e below (T23.setTop (mkF m 152 #[.val (.int p1), .val (.int p2), .val (.int p3), .val (.int p4), .unset, .unset, .unset, .unset] [(.int (55295 : Int32)), (.int (22 : Int32)), (.ref b), (.ref b)])) t → Steps p.tables e below (T23.setTop (mkF m 147 #[.val (.int p1), .val (.int p2), .val (.int p3), .val (.int p4), .unset, .unset, .unset, .unset] [(.ref b)])) t := by
    intro t k
    show Steps p.tables e below (T23.setTop (mkF m 147 #[.val (.int p1), .val (.int p2), .val (.int p3), .val (.int p4), .unset, .unset, .unset, .unset] [(.ref b)])) _
    refine XS.dup X23.here hx rfl (hb hby at_147) rfl rfl ?_
    show Steps p.tables e below (T23.setTop (mkF m 148 #[.val (.int p1), .val (.int p2), .val (.int p3), .val (.int p4), .unset, .unset, .unset, .unset] [(.ref b), (.ref b)])) _
    refine XS.bipush X23.here hx rfl (hb hby at_148) ?_
    show Steps p.tables e below (T23.setTop (mkF m 150 #[.val (.int p1), .val (.int p2), .val (.int p3), .val (.int p4), .unset, .unset, .unset, .unset] [(.int (22 : Int32)), (.ref b), (.ref b)])) _
    refine X23.ldcInt hx hown (mvT hZ (hw _ (List.mem_of_getElem? (i := 1) rfl))) (g := (mkF m 150 #[.val (.int p1), .val (.int p2), .val (.int p3), .val (.int p4), .unset, .unset, .unset, .unset] [(.int (22 : Int32)), (.ref b), (.ref b)])) rfl (hb hby at_150) _ ?_
    show Steps p.tables e below (T23.setTop (mkF m 152 #[.val (.int p1), .val (.int p2), .val (.int p3), .val (.int p4), .unset, .unset, .unset, .unset] [(.int (55295 : Int32)), (.int (22 : Int32)), (.ref b), (.ref b)])) t
    exact k
  obtain ⟨T24, L24, X24, I24, st24⟩ := own_store X23 hx hZ I23 (j := (22 : Int32)) (by decide) (g := (mkF m 152 #[.val (.int p1), .val (.int p2), .val (.int p3), .val (.int p4), .unset, .unset, .unset, .unset] [(.int (55295 : Int32)), (.int (22 : Int32)), (.ref b), (.ref b)])) rfl rfl (hb hby at_152)
  have K25 : ∀ t, Steps p.tables e below (T24.setTop (mkF m 158 #[.val (.int p1), .val (.int p2), .val (.int p3), .val (.int p4), .unset, .unset, .unset, .unset] [(.int (63744 : Int32)), (.int (23 : Int32)), (.ref b), (.ref b)])) t → Steps p.tables e below (T24.setTop (mkF m 153 #[.val (.int p1), .val (.int p2), .val (.int p3), .val (.int p4), .unset, .unset, .unset, .unset] [(.ref b)])) t := by
    intro t k
    show Steps p.tables e below (T24.setTop (mkF m 153 #[.val (.int p1), .val (.int p2), .val (.int p3), .val (.int p4), .unset, .unset, .unset, .unset] [(.ref b)])) _
    refine XS.dup X24.here hx rfl (hb hby at_153) rfl rfl ?_
    show Steps p.tables e below (T24.setTop (mkF m 154 #[.val (.int p1), .val (.int p2), .val (.int p3), .val (.int p4), .unset, .unset, .unset, .unset] [(.ref b), (.ref b)])) _
    refine XS.bipush X24.here hx rfl (hb hby at_154) ?_
    show Steps p.tables e below (T24.setTop (mkF m 156 #[.val (.int p1), .val (.int p2), .val (.int p3), .val (.int p4), .unset, .unset, .unset, .unset] [(.int (23 : Int32)), (.ref b), (.ref b)])) _
    refine X24.ldcInt hx hown (mvT hZ (hw _ (List.mem_of_getElem? (i := 2) rfl))) (g := (mkF m 156 #[.val (.int p1), .val (.int p2), .val (.int p3), .val (.int p4), .unset, .unset, .unset, .unset] [(.int (23 : Int32)), (.ref b), (.ref b)])) rfl (hb hby at_156) _ ?_
    show Steps p.tables e below (T24.setTop (mkF m 158 #[.val (.int p1), .val (.int p2), .val (.int p3), .val (.int p4), .unset, .unset, .unset, .unset] [(.int (63744 : Int32)), (.int (23 : Int32)), (.ref b), (.ref b)])) t
    exact k
  obtain ⟨T25, L25, X25, I25, st25⟩ := own_store X24 hx hZ I24 (j := (23 : Int32)) (by decide) (g := (mkF m 158 #[.val (.int p1), .val (.int p2), .val (.int p3), .val (.int p4), .unset, .unset, .unset, .unset] [(.int (63744 : Int32)), (.int (23 : Int32)), (.ref b), (.ref b)])) rfl rfl (hb hby at_158)
  have K26 : ∀ t, Steps p.tables e below (T25.setTop (mkF m 164 #[.val (.int p1), .val (.int p2), .val (.int p3), .val (.int p4), .unset, .unset, .unset, .unset] [(.int (64975 : Int32)), (.int (24 : Int32)), (.ref b), (.ref b)])) t → Steps p.tables e below (T25.setTop (mkF m 159 #[.val (.int p1), .val (.int p2), .val (.int p3), .val (.int p4), .unset, .unset, .unset, .unset] [(.ref b)])) t := by
    intro t k
    show Steps p.tables e below (T25.setTop (mkF m 159 #[.val (.int p1), .val (.int p2), .val (.int p3), .val (.int p4), .unset, .unset, .unset, .unset] [(.ref b)])) _
    refine XS.dup X25.here hx rfl (hb hby at_159) rfl rfl ?_
    show Steps p.tables e below (T25.setTop (mkF m 160 #[.val (.int p1), .val (.int p2), .val (.int p3), .val (.int p4), .unset, .unset, .unset, .unset] [(.ref b), (.ref b)])) _
    refine XS.bipush X25.here hx rfl (hb hby at_160) ?_
    show Steps p.tables e below (T25.setTop (mkF m 162 #[.val (.int p1), .val (.int p2), .val (.int p3), .val (.int p4), .unset, .unset, .unset, .unset] [(.int (24 : Int32)), (.ref b), (.ref b)])) _
    refine X25.ldcInt hx hown (mvT hZ (hw _ (List.mem_of_getElem? (i := 3) rfl))) (g := (mkF m 162 #[.val (.int p1), .val (.int p2), .val (.int p3), .val (.int p4), .unset, .unset, .unset, .unset] [(.int (24 : Int32)), (.ref b), (.ref b)])) rfl (hb hby at_162) _ ?_
    show Steps p.tables e below (T25.setTop (mkF m 164 #[.val (.int p1), .val (.int p2), .val (.int p3), .val (.int p4), .unset, .unset, .unset, .unset] [(.int (64975 : Int32)), (.int (24 : Int32)), (.ref b), (.ref b)])) t
    exact k
  obtain ⟨T26, L26, X26, I26, st26⟩ := own_store X25 hx hZ I25 (j := (24 : Int32)) (by decide) (g := (mkF m 164 #[.val (.int p1), .val (.int p2), .val (.int p3), .val (.int p4), .unset, .unset, .unset, .unset] [(.int (64975 : Int32)), (.int (24 : Int32)), (.ref b), (.ref b)])) rfl rfl (hb hby at_164)
  have K27 : ∀ t, Steps p.tables e below (T26.setTop (mkF m 170 #[.val (.int p1), .val (.int p2), .val (.int p3), .val (.int p4), .unset, .unset, .unset, .unset] [(.int (65008 : Int32)), (.int (25 : Int32)), (.ref b), (.ref b)])) t → Steps p.tables e below (T26.setTop (mkF m 165 #[.val (.int p1), .val (.int p2), .val (.int p3), .val (.int p4), .unset, .unset, .unset, .unset] [(.ref b)])) t := by
    intro t k
    show Steps p.tables e below (T26.setTop (mkF m 165 #[.val (.int p1), .val (.int p2), .val (.int p3), .val (.int p4), .unset, .unset, .unset, .unset] [(.ref b)])) _
    refine XS.dup X26.here hx rfl (hb hby at_165) rfl rfl ?_
    show Steps p.tables e below (T26.setTop (mkF m 166 #[.val (.int p1), .val (.int p2), .val (.int p3), .val (.int p4), .unset, .unset, .unset, .unset] [(.ref b), (.ref b)])) _
    refine XS.bipush X26.here hx rfl (hb hby at_166) ?_
    show Steps p.tables e below (T26.setTop (mkF m 168 #[.val (.int p1), .val (.int p2), .val (.int p3), .val (.int p4), .unset, .unset, .unset, .unset] [(.int (25 : Int32)), (.ref b), (.ref b)])) _
    refine X26.ldcInt hx hown (mvT hZ (hw _ (List.mem_of_getElem? (i := 4) rfl))) (g := (mkF m 168 #[.val (.int p1), .val (.int p2), .val (.int p3), .val (.int p4), .unset, .unset, .unset, .unset] [(.int (25 : Int32)), (.ref b), (.ref b)])) rfl (hb hby at_168) _ ?_
    show Steps p.tables e below (T26.setTop (mkF m 170 #[.val (.int p1), .val (.int p2), .val (.int p3), .val (.int p4), .unset, .unset, .unset, .unset] [(.int (65008 : Int32)), (.int (25 : Int32)), (.ref b), (.ref b)])) t
    exact k
  obtain ⟨T27, L27, X27, I27, st27⟩ := own_store X26 hx hZ I26 (j := (25 : Int32)) (by decide) (g := (mkF m 170 #[.val (.int p1), .val (.int p2), .val (.int p3), .val (.int p4), .unset, .unset, .unset, .unset] [(.int (65008 : Int32)), (.int (25 : Int32)), (.ref b), (.ref b)])) rfl rfl (hb hby at_170)
  have K28 : ∀ t, Steps p.tables e below (T27.setTop (mkF m 176 #[.val (.int p1), .val (.int p2), .val (.int p3), .val (.int p4), .unset, .unset, .unset, .unset] [(.int (65533 : Int32)), (.int (26 : Int32)), (.ref b), (.ref b)])) t → Steps p.tables e below (T27.setTop (mkF m 171 #[.val (.int p1), .val (.int p2), .val (.int p3), .val (.int p4), .unset, .unset, .unset, .unset] [(.ref b)])) t := by
    intro t k
    show Steps p.tables e below (T27.setTop (mkF m 171 #[.val (.int p1), .val (.int p2), .val (.int p3), .val (.int p4), .unset, .unset, .unset, .unset] [(.ref b)])) _
    refine XS.dup X27.here hx rfl (hb hby at_171) rfl rfl ?_
    show Steps p.tables e below (T27.setTop (mkF m 172 #[.val (.int p1), .val (.int p2), .val (.int p3), .val (.int p4), .unset, .unset, .unset, .unset] [(.ref b), (.ref b)])) _
    refine XS.bipush X27.here hx rfl (hb hby at_172) ?_
    show Steps p.tables e below (T27.setTop (mkF m 174 #[.val (.int p1), .val (.int p2), .val (.int p3), .val (.int p4), .unset, .unset, .unset, .unset] [(.int (26 : Int32)), (.ref b), (.ref b)])) _
    refine X27.ldcInt hx hown (mvT hZ (hw _ (List.mem_of_getElem? (i := 5) rfl))) (g := (mkF m 174 #[.val (.int p1), .val (.int p2), .val (.int p3), .val (.int p4), .unset, .unset, .unset, .unset] [(.int (26 : Int32)), (.ref b), (.ref b)])) rfl (hb hby at_174) _ ?_
    show Steps p.tables e below (T27.setTop (mkF m 176 #[.val (.int p1), .val (.int p2), .val (.int p3), .val (.int p4), .unset, .unset, .unset, .unset] [(.int (65533 : Int32)), (.int (26 : Int32)), (.ref b), (.ref b)])) t
    exact k
  obtain ⟨T28, L28, X28, I28, st28⟩ := own_store X27 hx hZ I27 (j := (26 : Int32)) (by decide) (g := (mkF m 176 #[.val (.int p1), .val (.int p2), .val (.int p3), .val (.int p4), .unset, .unset, .unset, .unset] [(.int (65533 : Int32)), (.int (26 : Int32)), (.ref b), (.ref b)])) rfl rfl (hb hby at_176)
  have K29 : ∀ t, Steps p.tables e below (T28.setTop (mkF m 182 #[.val (.int p1), .val (.int p2), .val (.int p3), .val (.int p4), .unset, .unset, .unset, .unset] [(.int (65536 : Int32)), (.int (27 : Int32)), (.ref b), (.ref b)])) t → Steps p.tables e below (T28.setTop (mkF m 177 #[.val (.int p1), .val (.int p2), .val (.int p3), .val (.int p4), .unset, .unset, .unset, .unset] [(.ref b)])) t := by
    intro t k
    show Steps p.tables e below (T28.setTop (mkF m 177 #[.val (.int p1), .val (.int p2), .val (.int p3), .val (.int p4), .unset, .unset, .unset, .unset] [(.ref b)])) _
    refine XS.dup X28.here hx rfl (hb hby at_177) rfl rfl ?_
    show Steps p.tables e below (T28.setTop (mkF m 178 #[.val (.int p1), .val (.int p2), .val (.int p3), .val (.int p4), .unset, .unset, .unset, .unset] [(.ref b), (.ref b)])) _
    refine XS.bipush X28.here hx rfl (hb hby at_178) ?_
    show Steps p.tables e below (T28.setTop (mkF m 180 #[.val (.int p1), .val (.int p2), .val (.int p3), .val (.int p4), .unset, .unset, .unset, .unset] [(.int (27 : Int32)), (.ref b), (.ref b)])) _
    refine X28.ldcInt hx hown (mvT hZ (hw _ (List.mem_of_getElem? (i := 6) rfl))) (g := (mkF m 180 #[.val (.int p1), .val (.int p2), .val (.int p3), .val (.int p4), .unset, .unset, .unset, .unset] [(.int (27 : Int32)), (.ref b), (.ref b)])) rfl (hb hby at_180) _ ?_
    show Steps p.tables e below (T28.setTop (mkF m 182 #[.val (.int p1), .val (.int p2), .val (.int p3), .val (.int p4), .unset, .unset, .unset, .unset] [(.int (65536 : Int32)), (.int (27 : Int32)), (.ref b), (.ref b)])) t
    exact k
  obtain ⟨T29, L29, X29, I29, st29⟩ := own_store X28 hx hZ I28 (j := (27 : Int32)) (by decide) (g := (mkF m 182 #[.val (.int p1), .val (.int p2), .val (.int p3), .val (.int p4), .unset, .unset, .unset, .unset] [(.int (65536 : Int32)), (.int (27 : Int32)), (.ref b), (.ref b)])) rfl rfl (hb hby at_182)
  have K30 : ∀ t, Steps p.tables e below (T29.setTop (mkF m 188 #[.val (.int p1), .val (.int p2), .val (.int p3), .val (.int p4), .unset, .unset, .unset, .unset] [(.int (983039 : Int32)), (.int (28 : Int32)), (.ref b), (.ref b)])) t → Steps p.tables e below (T29.setTop (mkF m 183 #[.val (.int p1), .val (.int p2), .val (.int p3), .val (.int p4), .unset, .unset, .unset, .unset] [(.ref b)])) t := by
    intro t k
    show Steps p.tables e below (T29.setTop (mkF m 183 #[.val (.int p1), .val (.int p2), .val (.int p3), .val (.int p4), .unset, .unset, .unset, .unset] [(.ref b)])) _
    refine XS.dup X29.here hx rfl (hb hby at_183) rfl rfl ?_
    show Steps p.tables e below (T29.setTop (mkF m 184 #[.val (.int p1), .val (.int p2), .val (.int p3), .val (.int p4), .unset, .unset, .unset, .unset] [(.ref b), (.ref b)])) _
    refine XS.bipush X29.here hx rfl (hb hby at_184) ?_
    show Steps p.tables e below (T29.setTop (mkF m 186 #[.val (.int p1), .val (.int p2), .val (.int p3), .val (.int p4), .unset, .unset, .unset, .unset] [(.int (28 : Int32)), (.ref b), (.ref b)])) _
    refine X29.ldcInt hx hown (mvT hZ (hw _ (List.mem_of_getElem? (i := 7) rfl))) (g := (mkF m 186 #[.val (.int p1), .val (.int p2), .val (.int p3), .val (.int p4), .unset, .unset, .unset, .unset] [(.int (28 : Int32)), (.ref b), (.ref b)])) rfl (hb hby at_186) _ ?_
    show Steps p.tables e below (T29.setTop (mkF m 188 #[.val (.int p1), .val (.int p2), .val (.int p3), .val (.int p4), .unset, .unset, .unset, .unset] [(.int (983039 : Int32)), (.int (28 : Int32)), (.ref b), (.ref b)])) t
    exact k
  obtain ⟨T30, L30, X30, I30, st30⟩ := own_store X29 hx hZ I29 (j := (28 : Int32)) (by decide) (g := (mkF m 188 #[.val (.int p1), .val (.int p2), .val (.int p3), .val (.int p4), .unset, .unset, .unset, .unset] [(.int (983039 : Int32)), (.int (28 : Int32)), (.ref b), (.ref b)])) rfl rfl (hb hby at_188)
  have K31 : ∀ t, Steps p.tables e below (T30.setTop (mkF m 193 #[.val (.int p1), .val (.int p2), .val (.int p3), .val (.int p4), .unset, .unset, .unset, .unset] [(.int (0 : Int32)), (.int (29 : Int32)), (.ref b), (.ref b)])) t → Steps p.tables e below (T30.setTop (mkF m 189 #[.val (.int p1), .val (.int p2), .val (.int p3), .val (.int p4), .unset, .unset, .unset, .unset] [(.ref b)])) t := by
    intro t k
    show Steps p.tables e below (T30.setTop (mkF m 189 #[.val (.int p1), .val (.int p2), .val (.int p3), .val (.int p4), .unset, .unset, .unset, .unset] [(.ref b)])) _
    refine XS.dup X30.here hx rfl (hb hby at_189) rfl rfl ?_
    show Steps p.tables e below (T30.setTop (mkF m 190 #[.val (.int p1), .val (.int p2), .val (.int p3), .val (.int p4), .unset, .unset, .unset, .unset] [(.ref b), (.ref b)])) _
    refine XS.bipush X30.here hx rfl (hb hby at_190) ?_
    show Steps p.tables e below (T30.setTop (mkF m 192 #[.val (.int p1), .val (.int p2), .val (.int p3), .val (.int p4), .unset, .unset, .unset, .unset] [(.int (29 : Int32)), (.ref b), (.ref b)])) _
    refine XS.iconst X30.here hx rfl (hb hby at_192) ?_
    show Steps p.tables e below (T30.setTop (mkF m 193 #[.val (.int p1), .val (.int p2), .val (.int p3), .val (.int p4), .unset, .unset, .unset, .unset] [(.int (0 : Int32)), (.int (29 : Int32)), (.ref b), (.ref b)])) t
    exact k
  obtain ⟨T31, L31, X31, I31, st31⟩ := own_store X30 hx hZ I30 (j := (29 : Int32)) (by decide) (g := (mkF m 193 #[.val (.int p1), .val (.int p2), .val (.int p3), .val (.int p4), .unset, .unset, .unset, .unset] [(.int (0 : Int32)), (.int (29 : Int32)), (.ref b), (.ref b)])) rfl rfl (hb hby at_193)
  have K32 : ∀ t, Steps p.tables e below (T31.setTop (mkF m 199 #[.val (.int p1), .val (.int p2), .val (.int p3), .val (.int p4), .unset, .unset, .unset, .unset] [(.int (-2147483648 : Int32)), (.int (30 : Int32)), (.ref b), (.ref b)])) t → Steps p.tables e below (T31.setTop (mkF m 194 #[.val (.int p1), .val (.int p2), .val (.int p3), .val (.int p4), .unset, .unset, .unset, .unset] [(.ref b)])) t := by
    intro t k
    show Steps p.tables e below (T31.setTop (mkF m 194 #[.val (.int p1), .val (.int p2), .val (.int p3), .val (.int p4), .unset, .unset, .unset, .unset] [(.ref b)])) _
    refine XS.dup X31.here hx rfl (hb hby at_194) rfl rfl ?_
    show Steps p.tables e below (T31.setTop (mkF m 195 #[.val (.int p1), .val (.int p2), .val (.int p3), .val (.int p4), .unset, .unset, .unset, .unset] [(.ref b), (.ref b)])) _
    refine XS.bipush X31.here hx rfl (hb hby at_195) ?_
    show Steps p.tables e below (T31.setTop (mkF m 197 #[.val (.int p1), .val (.int p2), .val (.int p3), .val (.int p4), .unset, .unset, .unset, .unset] [(.int (30 : Int32)), (.ref b), (.ref b)])) _
    refine X31.ldcInt hx hown (mvT hZ (hw _ (List.mem_of_getElem? (i := 8) rfl))) (g := (mkF m 197 #[.val (.int p1), .val (.int p2), .val (.int p3), .val (.int p4), .unset, .unset, .unset, .unset] [(.int (30 : Int32)), (.ref b), (.ref b)])) rfl (hb hby at_197) _ ?_
    show Steps p.tables e below (T31.setTop (mkF m 199 #[.val (.int p1), .val (.int p2), .val (.int p3), .val (.int p4), .unset, .unset, .unset, .unset] [(.int (-2147483648 : Int32)), (.int (30 : Int32)), (.ref b), (.ref b)])) t
    exact k
  obtain ⟨T32, L32, X32, I32, st32⟩ := own_store X31 hx hZ I31 (j := (30 : Int32)) (by decide) (g := (mkF m 199 #[.val (.int p1), .val (.int p2), .val (.int p3), .val (.int p4), .unset, .unset, .unset, .unset] [(.int (-2147483648 : Int32)), (.int (30 : Int32)), (.ref b), (.ref b)])) rfl rfl (hb hby at_199)
  have K33 : ∀ t, Steps p.tables e below (T32.setTop (mkF m 205 #[.val (.int p1), .val (.int p2), .val (.int p3), .val (.int p4), .unset, .unset, .unset, .unset] [(.int (2147483647 : Int32)), (.int (31 : Int32)), (.ref b), (.ref b)])) t → Steps p.tables e below (T32.setTop (mkF m 200 #[.val (.int p1), .val (.int p2), .val (.int p3), .val (.int p4), .unset, .unset, .unset, .unset] [(.ref b)])) t := by
    intro t k
    show Steps p.tables e below (T32.setTop (mkF m 200 #[.val (.int p1), .val (.int p2), .val (.int p3), .val (.int p4), .unset, .unset, .unset, .unset] [(.ref b)])) _
    refine XS.dup X32.here hx rfl (hb hby at_200) rfl rfl ?_
    show Steps p.tables e below (T32.setTop (mkF m 201 #[.val (.int p1), .val (.int p2), .val (.int p3), .val (.int p4), .unset, .unset, .unset, .unset] [(.ref b), (.ref b)])) _
    refine XS.bipush X32.here hx rfl (hb hby at_201) ?_
    show Steps p.tables e below (T32.setTop (mkF m 203 #[.val (.int p1), .val (.int p2), .val (.int p3), .val (.int p4), .unset, .unset, .unset, .unset] [(.int (31 : Int32)), (.ref b), (.ref b)])) _
    refine X32.ldcInt hx hown (mvT hZ (hw _ (List.mem_of_getElem? (i := 9) rfl))) (g := (mkF m 203 #[.val (.int p1), .val (.int p2), .val (.int p3), .val (.int p4), .unset, .unset, .unset, .unset] [(.int (31 : Int32)), (.ref b), (.ref b)])) rfl (hb hby at_203) _ ?_
    show Steps p.tables e below (T32.setTop (mkF m 205 #[.val (.int p1), .val (.int p2), .val (.int p3), .val (.int p4), .unset, .unset, .unset, .unset] [(.int (2147483647 : Int32)), (.int (31 : Int32)), (.ref b), (.ref b)])) t
    exact k
  obtain ⟨T33, L33, X33, I33, st33⟩ := own_store X32 hx hZ I32 (j := (31 : Int32)) (by decide) (g := (mkF m 205 #[.val (.int p1), .val (.int p2), .val (.int p3), .val (.int p4), .unset, .unset, .unset, .unset] [(.int (2147483647 : Int32)), (.int (31 : Int32)), (.ref b), (.ref b)])) rfl rfl (hb hby at_205)
  have K34 : ∀ t, Steps p.tables e below (T33.setTop (mkF m 215 #[.val (.int p1), .val (.int p2), .val (.int p3), .val (.int p4), .val (.ref b), .val (.int (p4 &&& (3 : Int32))), .unset, .unset] [(.int (p4 &&& (3 : Int32)))])) t → Steps p.tables e below (T33.setTop (mkF m 206 #[.val (.int p1), .val (.int p2), .val (.int p3), .val (.int p4), .unset, .unset, .unset, .unset] [(.ref b)])) t := by
    intro t k
    show Steps p.tables e below (T33.setTop (mkF m 206 #[.val (.int p1), .val (.int p2), .val (.int p3), .val (.int p4), .unset, .unset, .unset, .unset] [(.ref b)])) _
    refine XS.astore X33.here hx rfl (hb hby at_206) rfl rfl (l' := #[.val (.int p1), .val (.int p2), .val (.int p3), .val (.int p4), .val (.ref b), .unset, .unset, .unset]) rfl ?_
    show Steps p.tables e below (T33.setTop (mkF m 208 #[.val (.int p1), .val (.int p2), .val (.int p3), .val (.int p4), .val (.ref b), .unset, .unset, .unset] [])) _
    refine XS.iloadN X33.here hx rfl (hb hby at_208) rfl ?_
    show Steps p.tables e below (T33.setTop (mkF m 209 #[.val (.int p1), .val (.int p2), .val (.int p3), .val (.int p4), .val (.ref b), .unset, .unset, .unset] [(.int p4)])) _
    refine XS.iconst X33.here hx rfl (hb hby at_209) ?_
    show Steps p.tables e below (T33.setTop (mkF m 210 #[.val (.int p1), .val (.int p2), .val (.int p3), .val (.int p4), .val (.ref b), .unset, .unset, .unset] [(.int (3 : Int32)), (.int p4)])) _
    refine XS.iand X33.here hx rfl (hb hby at_210) rfl ?_
    show Steps p.tables e below (T33.setTop (mkF m 211 #[.val (.int p1), .val (.int p2), .val (.int p3), .val (.int p4), .val (.ref b), .unset, .unset, .unset] [(.int (p4 &&& (3 : Int32)))])) _
    refine XS.istore X33.here hx rfl (hb hby at_211) rfl (l' := #[.val (.int p1), .val (.int p2), .val (.int p3), .val (.int p4), .val (.ref b), .val (.int (p4 &&& (3 : Int32))), .unset, .unset]) rfl ?_
    show Steps p.tables e below (T33.setTop (mkF m 213 #[.val (.int p1), .val (.int p2), .val (.int p3), .val (.int p4), .val (.ref b), .val (.int (p4 &&& (3 : Int32))), .unset, .unset] [])) _
    refine XS.iload X33.here hx rfl (hb hby at_213) rfl ?_
    show Steps p.tables e below (T33.setTop (mkF m 215 #[.val (.int p1), .val (.int p2), .val (.int p3), .val (.int p4), .val (.ref b), .val (.int (p4 &&& (3 : Int32))), .unset, .unset] [(.int (p4 &&& (3 : Int32)))])) t
    exact k
  obtain ⟨wv, stv⟩ := own_at X33 hx hZ I33 (j := (p3 &&& (31 : Int32))) (own_idx31 p3)
  have M : ∃ (cc : Int32) (sl : Slot), (sl = .unset ∨ ∃ w7 : Int32, sl = .val (.int w7)) ∧ ∀ t, Steps p.tables e below (T33.setTop (mkF m 276 #[.val (.int p1), .val (.int p2), .val (.int p3), .val (.int p4), .val (.ref b), .val (.int (p4 &&& (3 : Int32))), .val (.int cc), sl] [])) t → Steps p.tables e below (T33.setTop (mkF m 215 #[.val (.int p1), .val (.int p2), .val (.int p3), .val (.int p4), .val (.ref b), .val (.int (p4 &&& (3 : Int32))), .unset, .unset] [(.int (p4 &&& (3 : Int32)))])) t := by
    by_cases c215 : (p4 &&& (3 : Int32)) = (0 : Int32)
    · refine ⟨p1, .unset, Or.inl rfl, fun t k => ?_⟩
      show Steps p.tables e below (T33.setTop (mkF m 215 #[.val (.int p1), .val (.int p2), .val (.int p3), .val (.int p4), .val (.ref b), .val (.int (p4 &&& (3 : Int32))), .unset, .unset] [(.int (p4 &&& (3 : Int32)))])) _
      refine XS.ifNo X33.here hx rfl (hb hby at_215) rfl ((if0 _ _).trans (teq c215).2) ?_
      show Steps p.tables e below (T33.setTop (mkF m 218 #[.val (.int p1), .val (.int p2), .val (.int p3), .val (.int p4), .val (.ref b), .val (.int (p4 &&& (3 : Int32))), .unset, .unset] [])) _
      refine XS.iloadN X33.here hx rfl (hb hby at_218) rfl ?_
      show Steps p.tables e below (T33.setTop (mkF m 219 #[.val (.int p1), .val (.int p2), .val (.int p3), .val (.int p4), .val (.ref b), .val (.int (p4 &&& (3 : Int32))), .unset, .unset] [(.int p1)])) _
      refine XS.istore X33.here hx rfl (hb hby at_219) rfl (l' := #[.val (.int p1), .val (.int p2), .val (.int p3), .val (.int p4), .val (.ref b), .val (.int (p4 &&& (3 : Int32))), .val (.int p1), .unset]) rfl ?_
      show Steps p.tables e below (T33.setTop (mkF m 221 #[.val (.int p1), .val (.int p2), .val (.int p3), .val (.int p4), .val (.ref b), .val (.int (p4 &&& (3 : Int32))), .val (.int p1), .unset] [])) _
      refine XS.goto X33.here hx rfl (pc0 := 221) (pc' := 276) rfl (hb hby at_221) (by decide) (by decide) ?_
      show Steps p.tables e below (T33.setTop (mkF m 276 #[.val (.int p1), .val (.int p2), .val (.int p3), .val (.int p4), .val (.ref b), .val (.int (p4 &&& (3 : Int32))), .val (.int p1), .unset] [])) _
      exact k
    · by_cases c227 : (p4 &&& (3 : Int32)) = (1 : Int32)
      · refine ⟨(p1 &&& (2097151 : Int32)), .unset, Or.inl rfl, fun t k => ?_⟩
        show Steps p.tables e below (T33.setTop (mkF m 215 #[.val (.int p1), .val (.int p2), .val (.int p3), .val (.int p4), .val (.ref b), .val (.int (p4 &&& (3 : Int32))), .unset, .unset] [(.int (p4 &&& (3 : Int32)))])) _
        refine XS.ifYes X33.here hx rfl (pc0 := 215) (pc' := 224) rfl (hb hby at_215) rfl ((if0 _ _).trans (feq c215).2) (by decide) (by decide) ?_
        show Steps p.tables e below (T33.setTop (mkF m 224 #[.val (.int p1), .val (.int p2), .val (.int p3), .val (.int p4), .val (.ref b), .val (.int (p4 &&& (3 : Int32))), .unset, .unset] [])) _
        refine XS.iload X33.here hx rfl (hb hby at_224) rfl ?_
        show Steps p.tables e below (T33.setTop (mkF m 226 #[.val (.int p1), .val (.int p2), .val (.int p3), .val (.int p4), .val (.ref b), .val (.int (p4 &&& (3 : Int32))), .unset, .unset] [(.int (p4 &&& (3 : Int32)))])) _
        refine XS.iconst X33.here hx rfl (hb hby at_226) ?_
        show Steps p.tables e below (T33.setTop (mkF m 227 #[.val (.int p1), .val (.int p2), .val (.int p3), .val (.int p4), .val (.ref b), .val (.int (p4 &&& (3 : Int32))), .unset, .unset] [(.int (1 : Int32)), (.int (p4 &&& (3 : Int32)))])) _
        refine XS.icmpNo X33.here hx rfl (hb hby at_227) rfl (teq c227).2 ?_
        show Steps p.tables e below (T33.setTop (mkF m 230 #[.val (.int p1), .val (.int p2), .val (.int p3), .val (.int p4), .val (.ref b), .val (.int (p4 &&& (3 : Int32))), .unset, .unset] [])) _
        refine XS.iloadN X33.here hx rfl (hb hby at_230) rfl ?_
        show Steps p.tables e below (T33.setTop (mkF m 231 #[.val (.int p1), .val (.int p2), .val (.int p3), .val (.int p4), .val (.ref b), .val (.int (p4 &&& (3 : Int32))), .unset, .unset] [(.int p1)])) _
        refine X33.ldcInt hx hown (mvT hZ (hw _ (List.mem_of_getElem? (i := 10) rfl))) (g := (mkF m 231 #[.val (.int p1), .val (.int p2), .val (.int p3), .val (.int p4), .val (.ref b), .val (.int (p4 &&& (3 : Int32))), .unset, .unset] [(.int p1)])) rfl (hb hby at_231) _ ?_
        show Steps p.tables e below (T33.setTop (mkF m 233 #[.val (.int p1), .val (.int p2), .val (.int p3), .val (.int p4), .val (.ref b), .val (.int (p4 &&& (3 : Int32))), .unset, .unset] [(.int (2097151 : Int32)), (.int p1)])) _
        refine XS.iand X33.here hx rfl (hb hby at_233) rfl ?_
        show Steps p.tables e below (T33.setTop (mkF m 234 #[.val (.int p1), .val (.int p2), .val (.int p3), .val (.int p4), .val (.ref b), .val (.int (p4 &&& (3 : Int32))), .unset, .unset] [(.int (p1 &&& (2097151 : Int32)))])) _
        refine XS.istore X33.here hx rfl (hb hby at_234) rfl (l' := #[.val (.int p1), .val (.int p2), .val (.int p3), .val (.int p4), .val (.ref b), .val (.int (p4 &&& (3 : Int32))), .val (.int (p1 &&& (2097151 : Int32))), .unset]) rfl ?_
        show Steps p.tables e below (T33.setTop (mkF m 236 #[.val (.int p1), .val (.int p2), .val (.int p3), .val (.int p4), .val (.ref b), .val (.int (p4 &&& (3 : Int32))), .val (.int (p1 &&& (2097151 : Int32))), .unset] [])) _
        refine XS.goto X33.here hx rfl (pc0 := 236) (pc' := 276) rfl (hb hby at_236) (by decide) (by decide) ?_
        show Steps p.tables e below (T33.setTop (mkF m 276 #[.val (.int p1), .val (.int p2), .val (.int p3), .val (.int p4), .val (.ref b), .val (.int (p4 &&& (3 : Int32))), .val (.int (p1 &&& (2097151 : Int32))), .unset] [])) _
        exact k
      · by_cases c242 : (p4 &&& (3 : Int32)) = (2 : Int32)
        · refine ⟨(p1 &&& (65535 : Int32)), .unset, Or.inl rfl, fun t k => ?_⟩
          show Steps p.tables e below (T33.setTop (mkF m 215 #[.val (.int p1), .val (.int p2), .val (.int p3), .val (.int p4), .val (.ref b), .val (.int (p4 &&& (3 : Int32))), .unset, .unset] [(.int (p4 &&& (3 : Int32)))])) _
          refine XS.ifYes X33.here hx rfl (pc0 := 215) (pc' := 224) rfl (hb hby at_215) rfl ((if0 _ _).trans (feq c215).2) (by decide) (by decide) ?_
          show Steps p.tables e below (T33.setTop (mkF m 224 #[.val (.int p1), .val (.int p2), .val (.int p3), .val (.int p4), .val (.ref b), .val (.int (p4 &&& (3 : Int32))), .unset, .unset] [])) _
          refine XS.iload X33.here hx rfl (hb hby at_224) rfl ?_
          show Steps p.tables e below (T33.setTop (mkF m 226 #[.val (.int p1), .val (.int p2), .val (.int p3), .val (.int p4), .val (.ref b), .val (.int (p4 &&& (3 : Int32))), .unset, .unset] [(.int (p4 &&& (3 : Int32)))])) _
          refine XS.iconst X33.here hx rfl (hb hby at_226) ?_
          show Steps p.tables e below (T33.setTop (mkF m 227 #[.val (.int p1), .val (.int p2), .val (.int p3), .val (.int p4), .val (.ref b), .val (.int (p4 &&& (3 : Int32))), .unset, .unset] [(.int (1 : Int32)), (.int (p4 &&& (3 : Int32)))])) _
          refine XS.icmpYes X33.here hx rfl (pc0 := 227) (pc' := 239) rfl (hb hby at_227) rfl (feq c227).2 (by decide) (by decide) ?_
          show Steps p.tables e below (T33.setTop (mkF m 239 #[.val (.int p1), .val (.int p2), .val (.int p3), .val (.int p4), .val (.ref b), .val (.int (p4 &&& (3 : Int32))), .unset, .unset] [])) _
          refine XS.iload X33.here hx rfl (hb hby at_239) rfl ?_
          show Steps p.tables e below (T33.setTop (mkF m 241 #[.val (.int p1), .val (.int p2), .val (.int p3), .val (.int p4), .val (.ref b), .val (.int (p4 &&& (3 : Int32))), .unset, .unset] [(.int (p4 &&& (3 : Int32)))])) _
          refine XS.iconst X33.here hx rfl (hb hby at_241) ?_
          show Steps p.tables e below (T33.setTop (mkF m 242 #[.val (.int p1), .val (.int p2), .val (.int p3), .val (.int p4), .val (.ref b), .val (.int (p4 &&& (3 : Int32))), .unset, .unset] [(.int (2 : Int32)), (.int (p4 &&& (3 : Int32)))])) _
          refine XS.icmpNo X33.here hx rfl (hb hby at_242) rfl (teq c242).2 ?_
          show Steps p.tables e below (T33.setTop (mkF m 245 #[.val (.int p1), .val (.int p2), .val (.int p3), .val (.int p4), .val (.ref b), .val (.int (p4 &&& (3 : Int32))), .unset, .unset] [])) _
          refine XS.iloadN X33.here hx rfl (hb hby at_245) rfl ?_
          show Steps p.tables e below (T33.setTop (mkF m 246 #[.val (.int p1), .val (.int p2), .val (.int p3), .val (.int p4), .val (.ref b), .val (.int (p4 &&& (3 : Int32))), .unset, .unset] [(.int p1)])) _
          refine X33.ldcInt hx hown (mvT hZ (hw _ (List.mem_of_getElem? (i := 22) rfl))) (g := (mkF m 246 #[.val (.int p1), .val (.int p2), .val (.int p3), .val (.int p4), .val (.ref b), .val (.int (p4 &&& (3 : Int32))), .unset, .unset] [(.int p1)])) rfl (hb hby at_246) _ ?_
          show Steps p.tables e below (T33.setTop (mkF m 248 #[.val (.int p1), .val (.int p2), .val (.int p3), .val (.int p4), .val (.ref b), .val (.int (p4 &&& (3 : Int32))), .unset, .unset] [(.int (65535 : Int32)), (.int p1)])) _
          refine XS.iand X33.here hx rfl (hb hby at_248) rfl ?_
          show Steps p.tables e below (T33.setTop (mkF m 249 #[.val (.int p1), .val (.int p2), .val (.int p3), .val (.int p4), .val (.ref b), .val (.int (p4 &&& (3 : Int32))), .unset, .unset] [(.int (p1 &&& (65535 : Int32)))])) _
          refine XS.istore X33.here hx rfl (hb hby at_249) rfl (l' := #[.val (.int p1), .val (.int p2), .val (.int p3), .val (.int p4), .val (.ref b), .val (.int (p4 &&& (3 : Int32))), .val (.int (p1 &&& (65535 : Int32))), .unset]) rfl ?_
          show Steps p.tables e below (T33.setTop (mkF m 251 #[.val (.int p1), .val (.int p2), .val (.int p3), .val (.int p4), .val (.ref b), .val (.int (p4 &&& (3 : Int32))), .val (.int (p1 &&& (65535 : Int32))), .unset] [])) _
          refine XS.goto X33.here hx rfl (pc0 := 251) (pc' := 276) rfl (hb hby at_251) (by decide) (by decide) ?_
          show Steps p.tables e below (T33.setTop (mkF m 276 #[.val (.int p1), .val (.int p2), .val (.int p3), .val (.int p4), .val (.ref b), .val (.int (p4 &&& (3 : Int32))), .val (.int (p1 &&& (65535 : Int32))), .unset] [])) _
          exact k
        · refine ⟨(wv + (((p2 &&& (2147483647 : Int32)) % (5 : Int32)) - (2 : Int32))), .val (.int (((p2 &&& (2147483647 : Int32)) % (5 : Int32)) - (2 : Int32))), Or.inr ⟨_, rfl⟩, fun t k => ?_⟩
          show Steps p.tables e below (T33.setTop (mkF m 215 #[.val (.int p1), .val (.int p2), .val (.int p3), .val (.int p4), .val (.ref b), .val (.int (p4 &&& (3 : Int32))), .unset, .unset] [(.int (p4 &&& (3 : Int32)))])) _
          refine XS.ifYes X33.here hx rfl (pc0 := 215) (pc' := 224) rfl (hb hby at_215) rfl ((if0 _ _).trans (feq c215).2) (by decide) (by decide) ?_
          show Steps p.tables e below (T33.setTop (mkF m 224 #[.val (.int p1), .val (.int p2), .val (.int p3), .val (.int p4), .val (.ref b), .val (.int (p4 &&& (3 : Int32))), .unset, .unset] [])) _
          refine XS.iload X33.here hx rfl (hb hby at_224) rfl ?_
          show Steps p.tables e below (T33.setTop (mkF m 226 #[.val (.int p1), .val (.int p2), .val (.int p3), .val (.int p4), .val (.ref b), .val (.int (p4 &&& (3 : Int32))), .unset, .unset] [(.int (p4 &&& (3 : Int32)))])) _
          refine XS.iconst X33.here hx rfl (hb hby at_226) ?_
          show Steps p.tables e below (T33.setTop (mkF m 227 #[.val (.int p1), .val (.int p2), .val (.int p3), .val (.int p4), .val (.ref b), .val (.int (p4 &&& (3 : Int32))), .unset, .unset] [(.int (1 : Int32)), (.int (p4 &&& (3 : Int32)))])) _
          refine XS.icmpYes X33.here hx rfl (pc0 := 227) (pc' := 239) rfl (hb hby at_227) rfl (feq c227).2 (by decide) (by decide) ?_
          show Steps p.tables e below (T33.setTop (mkF m 239 #[.val (.int p1), .val (.int p2), .val (.int p3), .val (.int p4), .val (.ref b), .val (.int (p4 &&& (3 : Int32))), .unset, .unset] [])) _
          refine XS.iload X33.here hx rfl (hb hby at_239) rfl ?_
          show Steps p.tables e below (T33.setTop (mkF m 241 #[.val (.int p1), .val (.int p2), .val (.int p3), .val (.int p4), .val (.ref b), .val (.int (p4 &&& (3 : Int32))), .unset, .unset] [(.int (p4 &&& (3 : Int32)))])) _
          refine XS.iconst X33.here hx rfl (hb hby at_241) ?_
          show Steps p.tables e below (T33.setTop (mkF m 242 #[.val (.int p1), .val (.int p2), .val (.int p3), .val (.int p4), .val (.ref b), .val (.int (p4 &&& (3 : Int32))), .unset, .unset] [(.int (2 : Int32)), (.int (p4 &&& (3 : Int32)))])) _
          refine XS.icmpYes X33.here hx rfl (pc0 := 242) (pc' := 254) rfl (hb hby at_242) rfl (feq c242).2 (by decide) (by decide) ?_
          show Steps p.tables e below (T33.setTop (mkF m 254 #[.val (.int p1), .val (.int p2), .val (.int p3), .val (.int p4), .val (.ref b), .val (.int (p4 &&& (3 : Int32))), .unset, .unset] [])) _
          refine XS.iloadN X33.here hx rfl (hb hby at_254) rfl ?_
          show Steps p.tables e below (T33.setTop (mkF m 255 #[.val (.int p1), .val (.int p2), .val (.int p3), .val (.int p4), .val (.ref b), .val (.int (p4 &&& (3 : Int32))), .unset, .unset] [(.int p2)])) _
          refine X33.ldcInt hx hown (mvT hZ (hw _ (List.mem_of_getElem? (i := 9) rfl))) (g := (mkF m 255 #[.val (.int p1), .val (.int p2), .val (.int p3), .val (.int p4), .val (.ref b), .val (.int (p4 &&& (3 : Int32))), .unset, .unset] [(.int p2)])) rfl (hb hby at_255) _ ?_
          show Steps p.tables e below (T33.setTop (mkF m 257 #[.val (.int p1), .val (.int p2), .val (.int p3), .val (.int p4), .val (.ref b), .val (.int (p4 &&& (3 : Int32))), .unset, .unset] [(.int (2147483647 : Int32)), (.int p2)])) _
          refine XS.iand X33.here hx rfl (hb hby at_257) rfl ?_
          show Steps p.tables e below (T33.setTop (mkF m 258 #[.val (.int p1), .val (.int p2), .val (.int p3), .val (.int p4), .val (.ref b), .val (.int (p4 &&& (3 : Int32))), .unset, .unset] [(.int (p2 &&& (2147483647 : Int32)))])) _
          refine XS.iconst X33.here hx rfl (hb hby at_258) ?_
          show Steps p.tables e below (T33.setTop (mkF m 259 #[.val (.int p1), .val (.int p2), .val (.int p3), .val (.int p4), .val (.ref b), .val (.int (p4 &&& (3 : Int32))), .unset, .unset] [(.int (5 : Int32)), (.int (p2 &&& (2147483647 : Int32)))])) _
          refine iremM X33 hx rfl (hb hby at_259) rfl (by decide) ?_
          show Steps p.tables e below (T33.setTop (mkF m 260 #[.val (.int p1), .val (.int p2), .val (.int p3), .val (.int p4), .val (.ref b), .val (.int (p4 &&& (3 : Int32))), .unset, .unset] [(.int ((p2 &&& (2147483647 : Int32)) % (5 : Int32)))])) _
          refine XS.iconst X33.here hx rfl (hb hby at_260) ?_
          show Steps p.tables e below (T33.setTop (mkF m 261 #[.val (.int p1), .val (.int p2), .val (.int p3), .val (.int p4), .val (.ref b), .val (.int (p4 &&& (3 : Int32))), .unset, .unset] [(.int (2 : Int32)), (.int ((p2 &&& (2147483647 : Int32)) % (5 : Int32)))])) _
          refine XS.isub X33.here hx rfl (hb hby at_261) rfl ?_
          show Steps p.tables e below (T33.setTop (mkF m 262 #[.val (.int p1), .val (.int p2), .val (.int p3), .val (.int p4), .val (.ref b), .val (.int (p4 &&& (3 : Int32))), .unset, .unset] [(.int (((p2 &&& (2147483647 : Int32)) % (5 : Int32)) - (2 : Int32)))])) _
          refine XS.istore X33.here hx rfl (hb hby at_262) rfl (l' := #[.val (.int p1), .val (.int p2), .val (.int p3), .val (.int p4), .val (.ref b), .val (.int (p4 &&& (3 : Int32))), .unset, .val (.int (((p2 &&& (2147483647 : Int32)) % (5 : Int32)) - (2 : Int32)))]) rfl ?_
          show Steps p.tables e below (T33.setTop (mkF m 264 #[.val (.int p1), .val (.int p2), .val (.int p3), .val (.int p4), .val (.ref b), .val (.int (p4 &&& (3 : Int32))), .unset, .val (.int (((p2 &&& (2147483647 : Int32)) % (5 : Int32)) - (2 : Int32)))] [])) _
          refine XS.aload X33.here hx rfl (hb hby at_264) rfl rfl ?_
          show Steps p.tables e below (T33.setTop (mkF m 266 #[.val (.int p1), .val (.int p2), .val (.int p3), .val (.int p4), .val (.ref b), .val (.int (p4 &&& (3 : Int32))), .unset, .val (.int (((p2 &&& (2147483647 : Int32)) % (5 : Int32)) - (2 : Int32)))] [(.ref b)])) _
          refine XS.iloadN X33.here hx rfl (hb hby at_266) rfl ?_
          show Steps p.tables e below (T33.setTop (mkF m 267 #[.val (.int p1), .val (.int p2), .val (.int p3), .val (.int p4), .val (.ref b), .val (.int (p4 &&& (3 : Int32))), .unset, .val (.int (((p2 &&& (2147483647 : Int32)) % (5 : Int32)) - (2 : Int32)))] [(.int p3), (.ref b)])) _
          refine XS.bipush X33.here hx rfl (hb hby at_267) ?_
          show Steps p.tables e below (T33.setTop (mkF m 269 #[.val (.int p1), .val (.int p2), .val (.int p3), .val (.int p4), .val (.ref b), .val (.int (p4 &&& (3 : Int32))), .unset, .val (.int (((p2 &&& (2147483647 : Int32)) % (5 : Int32)) - (2 : Int32)))] [(.int (31 : Int32)), (.int p3), (.ref b)])) _
          refine XS.iand X33.here hx rfl (hb hby at_269) rfl ?_
          show Steps p.tables e below (T33.setTop (mkF m 270 #[.val (.int p1), .val (.int p2), .val (.int p3), .val (.int p4), .val (.ref b), .val (.int (p4 &&& (3 : Int32))), .unset, .val (.int (((p2 &&& (2147483647 : Int32)) % (5 : Int32)) - (2 : Int32)))] [(.int (p3 &&& (31 : Int32))), (.ref b)])) _
          refine stv (g := (mkF m 270 #[.val (.int p1), .val (.int p2), .val (.int p3), .val (.int p4), .val (.ref b), .val (.int (p4 &&& (3 : Int32))), .unset, .val (.int (((p2 &&& (2147483647 : Int32)) % (5 : Int32)) - (2 : Int32)))] [(.int (p3 &&& (31 : Int32))), (.ref b)])) rfl rfl (hb hby at_270) _ ?_
          show Steps p.tables e below (T33.setTop (mkF m 271 #[.val (.int p1), .val (.int p2), .val (.int p3), .val (.int p4), .val (.ref b), .val (.int (p4 &&& (3 : Int32))), .unset, .val (.int (((p2 &&& (2147483647 : Int32)) % (5 : Int32)) - (2 : Int32)))] [(.int wv)])) _
          refine XS.iload X33.here hx rfl (hb hby at_271) rfl ?_
          show Steps p.tables e below (T33.setTop (mkF m 273 #[.val (.int p1), .val (.int p2), .val (.int p3), .val (.int p4), .val (.ref b), .val (.int (p4 &&& (3 : Int32))), .unset, .val (.int (((p2 &&& (2147483647 : Int32)) % (5 : Int32)) - (2 : Int32)))] [(.int (((p2 &&& (2147483647 : Int32)) % (5 : Int32)) - (2 : Int32))), (.int wv)])) _
          refine XS.iadd X33.here hx rfl (hb hby at_273) rfl ?_
          show Steps p.tables e below (T33.setTop (mkF m 274 #[.val (.int p1), .val (.int p2), .val (.int p3), .val (.int p4), .val (.ref b), .val (.int (p4 &&& (3 : Int32))), .unset, .val (.int (((p2 &&& (2147483647 : Int32)) % (5 : Int32)) - (2 : Int32)))] [(.int (wv + (((p2 &&& (2147483647 : Int32)) % (5 : Int32)) - (2 : Int32))))])) _
          refine XS.istore X33.here hx rfl (hb hby at_274) rfl (l' := #[.val (.int p1), .val (.int p2), .val (.int p3), .val (.int p4), .val (.ref b), .val (.int (p4 &&& (3 : Int32))), .val (.int (wv + (((p2 &&& (2147483647 : Int32)) % (5 : Int32)) - (2 : Int32)))), .val (.int (((p2 &&& (2147483647 : Int32)) % (5 : Int32)) - (2 : Int32)))]) rfl ?_
          show Steps p.tables e below (T33.setTop (mkF m 276 #[.val (.int p1), .val (.int p2), .val (.int p3), .val (.int p4), .val (.ref b), .val (.int (p4 &&& (3 : Int32))), .val (.int (wv + (((p2 &&& (2147483647 : Int32)) % (5 : Int32)) - (2 : Int32)))), .val (.int (((p2 &&& (2147483647 : Int32)) % (5 : Int32)) - (2 : Int32)))] [])) _
          exact k
  obtain ⟨cc, sl, hsl, M⟩ := M
  obtain ⟨N0, -, ZH33, -⟩ := I33
  have K35 : ∀ t, Steps p.tables e below (T33.setTop (mkF m 278 #[.val (.int p1), .val (.int p2), .val (.int p3), .val (.int p4), .val (.ref b), .val (.int (p4 &&& (3 : Int32))), .val (.int cc), sl] [(.int cc)])) t → Steps p.tables e below (T33.setTop (mkF m 276 #[.val (.int p1), .val (.int p2), .val (.int p3), .val (.int p4), .val (.ref b), .val (.int (p4 &&& (3 : Int32))), .val (.int cc), sl] [])) t := by
    intro t k
    show Steps p.tables e below (T33.setTop (mkF m 276 #[.val (.int p1), .val (.int p2), .val (.int p3), .val (.int p4), .val (.ref b), .val (.int (p4 &&& (3 : Int32))), .val (.int cc), sl] [])) _
    refine XS.iload X33.here hx rfl (hb hby at_276) rfl ?_
    show Steps p.tables e below (T33.setTop (mkF m 278 #[.val (.int p1), .val (.int p2), .val (.int p3), .val (.int p4), .val (.ref b), .val (.int (p4 &&& (3 : Int32))), .val (.int cc), sl] [(.int cc)])) t
    exact k
  obtain ⟨_, _, ⟨T34, L34, k34, n34⟩, -, X34, ⟨Lc34, hQ34, l34, y34, z34⟩, st34⟩ := Jvm.LawKit.callS X33 hx (y := (⟨"transept/model/XmlCharsIsNameStartCharPinLaw", "excluded", "(I)Z"⟩ : MethodName)) hown (mvT hZ (hw _ (List.mem_of_getElem? (i := 11) rfl))) (mvT hZ (hw _ (List.mem_of_getElem? (i := 12) rfl))) (mvT hZ (hw _ (List.mem_of_getElem? (i := 13) rfl))) (mvT hZ (hw _ (List.mem_of_getElem? (i := 14) rfl))) (by decide) (backOf (W := 0) (rm1 l Z a0 hw [] cc T33.heap n0 ZH33) hZ (hw _ (List.mem_of_getElem? (i := 14) rfl)) (hw _ (List.mem_of_getElem? (i := 13) rfl)) (by decide) (by decide)) (g := (mkF m 278 #[.val (.int p1), .val (.int p2), .val (.int p3), .val (.int p4), .val (.ref b), .val (.int (p4 &&& (3 : Int32))), .val (.int cc), sl] [(.int cc)])) rfl (by rw [hml]; rfl) (argsL := [(.int cc)]) (rest := []) (lenOf pd_0_0 rfl) rfl (by show 2 * 0 + _ ≤ _; exact Nat.le_of_eq rfl) (hb hby at_278) (fun _ _ => ⟨rfl, rfl, (by decide : 1 + 0 ≤ _), (by decide : 32 + 0 ≤ _)⟩)
  dsimp only [Pt.U, Pt.locs, Pt.cells, Pt.slots] at X34 l34 y34 z34 st34 hQ34
  subst l34 y34 z34
  obtain ⟨rfl, N34q, H34⟩ := hQ34
  have ZH34 : n0 ≤ T34.heap.size := by rw [H34]; exact ZH33
  have N34 := Fr.app N0 N34q
  have F : ∃ ee : Int32, nsc_0 cc = ee ∧ ∀ t, Steps p.tables e below (T34.setTop (mkF m 289 #[.val (.int p1), .val (.int p2), .val (.int p3), .val (.int p4), .val (.ref b), .val (.int (p4 &&& (3 : Int32))), .val (.int cc), sl] [(.int ee)])) t → Steps p.tables e below (T34.setTop (mkF m 281 #[.val (.int p1), .val (.int p2), .val (.int p3), .val (.int p4), .val (.ref b), .val (.int (p4 &&& (3 : Int32))), .val (.int cc), sl] [(.int (exc_0 cc))])) t := by
    by_cases c281 : (exc_0 cc) = (0 : Int32)
    · refine ⟨(1 : Int32), own_in cc c281, fun t k => ?_⟩
      show Steps p.tables e below (T34.setTop (mkF m 281 #[.val (.int p1), .val (.int p2), .val (.int p3), .val (.int p4), .val (.ref b), .val (.int (p4 &&& (3 : Int32))), .val (.int cc), sl] [(.int (exc_0 cc))])) _
      refine XS.ifNo X34.here hx rfl (hb hby at_281) rfl ((if0 _ _).trans (teq c281).2) ?_
      show Steps p.tables e below (T34.setTop (mkF m 284 #[.val (.int p1), .val (.int p2), .val (.int p3), .val (.int p4), .val (.ref b), .val (.int (p4 &&& (3 : Int32))), .val (.int cc), sl] [])) _
      refine XS.iconst X34.here hx rfl (hb hby at_284) ?_
      show Steps p.tables e below (T34.setTop (mkF m 285 #[.val (.int p1), .val (.int p2), .val (.int p3), .val (.int p4), .val (.ref b), .val (.int (p4 &&& (3 : Int32))), .val (.int cc), sl] [(.int (1 : Int32))])) _
      refine XS.goto X34.here hx rfl (pc0 := 285) (pc' := 289) rfl (hb hby at_285) (by decide) (by decide) ?_
      show Steps p.tables e below (T34.setTop (mkF m 289 #[.val (.int p1), .val (.int p2), .val (.int p3), .val (.int p4), .val (.ref b), .val (.int (p4 &&& (3 : Int32))), .val (.int cc), sl] [(.int (1 : Int32))])) _
      exact k
    · refine ⟨(0 : Int32), own_out cc c281, fun t k => ?_⟩
      show Steps p.tables e below (T34.setTop (mkF m 281 #[.val (.int p1), .val (.int p2), .val (.int p3), .val (.int p4), .val (.ref b), .val (.int (p4 &&& (3 : Int32))), .val (.int cc), sl] [(.int (exc_0 cc))])) _
      refine XS.ifYes X34.here hx rfl (pc0 := 281) (pc' := 288) rfl (hb hby at_281) rfl ((if0 _ _).trans (feq c281).2) (by decide) (by decide) ?_
      show Steps p.tables e below (T34.setTop (mkF m 288 #[.val (.int p1), .val (.int p2), .val (.int p3), .val (.int p4), .val (.ref b), .val (.int (p4 &&& (3 : Int32))), .val (.int cc), sl] [])) _
      refine XS.iconst X34.here hx rfl (hb hby at_288) ?_
      show Steps p.tables e below (T34.setTop (mkF m 289 #[.val (.int p1), .val (.int p2), .val (.int p3), .val (.int p4), .val (.ref b), .val (.int (p4 &&& (3 : Int32))), .val (.int cc), sl] [(.int (0 : Int32))])) _
      exact k
  obtain ⟨ee, hE, F⟩ := F
  have K36 : ∀ t, Steps p.tables e below (T34.setTop (mkF m 293 #[.val (.int p1), .val (.int p2), .val (.int p3), .val (.int p4), .val (.ref b), .val (.int (p4 &&& (3 : Int32))), .val (.int cc), .val (.int ee)] [(.int cc)])) t → Steps p.tables e below (T34.setTop (mkF m 289 #[.val (.int p1), .val (.int p2), .val (.int p3), .val (.int p4), .val (.ref b), .val (.int (p4 &&& (3 : Int32))), .val (.int cc), sl] [(.int ee)])) t := by
    intro t k
    show Steps p.tables e below (T34.setTop (mkF m 289 #[.val (.int p1), .val (.int p2), .val (.int p3), .val (.int p4), .val (.ref b), .val (.int (p4 &&& (3 : Int32))), .val (.int cc), sl] [(.int ee)])) _
    refine XS.istore X34.here hx rfl (hb hby at_289) rfl (l' := #[.val (.int p1), .val (.int p2), .val (.int p3), .val (.int p4), .val (.ref b), .val (.int (p4 &&& (3 : Int32))), .val (.int cc), .val (.int ee)]) (by rcases hsl with rfl | ⟨w7, rfl⟩ <;> rfl) ?_
    show Steps p.tables e below (T34.setTop (mkF m 291 #[.val (.int p1), .val (.int p2), .val (.int p3), .val (.int p4), .val (.ref b), .val (.int (p4 &&& (3 : Int32))), .val (.int cc), .val (.int ee)] [])) _
    refine XS.iload X34.here hx rfl (hb hby at_291) rfl ?_
    show Steps p.tables e below (T34.setTop (mkF m 293 #[.val (.int p1), .val (.int p2), .val (.int p3), .val (.int p4), .val (.ref b), .val (.int (p4 &&& (3 : Int32))), .val (.int cc), .val (.int ee)] [(.int cc)])) t
    exact k
  obtain ⟨_, _, ⟨T35, L35, k35, n35⟩, -, X35, ⟨Lc35, hQ35, l35, y35, z35⟩, st35⟩ := Jvm.LawKit.callS X34 hx (y := (⟨"transept/model/XmlChars", "isNameStartChar", "(I)Z"⟩ : MethodName)) hown (mvT hZ (hw _ (List.mem_of_getElem? (i := 15) rfl))) (mvT hZ (hw _ (List.mem_of_getElem? (i := 16) rfl))) (mvT hZ (hw _ (List.mem_of_getElem? (i := 17) rfl))) (mvT hZ (hw _ (List.mem_of_getElem? (i := 18) rfl))) (by decide) (backOf (W := 0) (rm2 l Z a0 hw [] cc T34.heap n0 ZH34) hZ (hw _ (List.mem_of_getElem? (i := 18) rfl)) (hw _ (List.mem_of_getElem? (i := 17) rfl)) (by decide) (by decide)) (g := (mkF m 293 #[.val (.int p1), .val (.int p2), .val (.int p3), .val (.int p4), .val (.ref b), .val (.int (p4 &&& (3 : Int32))), .val (.int cc), .val (.int ee)] [(.int cc)])) rfl (by rw [hml]; rfl) (argsL := [(.int cc)]) (rest := []) (lenOf pd_0_0 rfl) rfl (by show 2 * 0 + _ ≤ _; exact Nat.le_of_eq rfl) (hb hby at_293) (fun _ _ => ⟨rfl, rfl, (by decide : 1 + 0 ≤ _), (by decide : 32 + 0 ≤ _)⟩)
  dsimp only [Pt.U, Pt.locs, Pt.cells, Pt.slots] at X35 l35 y35 z35 st35 hQ35
  subst l35 y35 z35
  obtain ⟨rfl, N35q, H35⟩ := hQ35
  have ZH35 : n0 ≤ T35.heap.size := by rw [H35]; exact ZH34
  have N35 := Fr.app N34 N35q
  have K37 : ∀ t, Steps p.tables e below (T35.setTop (mkF m 306 #[.val (.int p1), .val (.int p2), .val (.int p3), .val (.int p4), .val (.ref b), .val (.int (p4 &&& (3 : Int32))), .val (.int cc), .val (.int ee)] [(.int (1 : Int32))])) t → Steps p.tables e below (T35.setTop (mkF m 296 #[.val (.int p1), .val (.int p2), .val (.int p3), .val (.int p4), .val (.ref b), .val (.int (p4 &&& (3 : Int32))), .val (.int cc), .val (.int ee)] [(.int (nsc_0 cc))])) t := by
    intro t k
    show Steps p.tables e below (T35.setTop (mkF m 296 #[.val (.int p1), .val (.int p2), .val (.int p3), .val (.int p4), .val (.ref b), .val (.int (p4 &&& (3 : Int32))), .val (.int cc), .val (.int ee)] [(.int (nsc_0 cc))])) _
    refine XS.iload X35.here hx rfl (hb hby at_296) rfl ?_
    show Steps p.tables e below (T35.setTop (mkF m 298 #[.val (.int p1), .val (.int p2), .val (.int p3), .val (.int p4), .val (.ref b), .val (.int (p4 &&& (3 : Int32))), .val (.int cc), .val (.int ee)] [(.int ee), (.int (nsc_0 cc))])) _
    refine XS.icmpNo X35.here hx rfl (hb hby at_298) rfl (teq hE).2 ?_
    show Steps p.tables e below (T35.setTop (mkF m 301 #[.val (.int p1), .val (.int p2), .val (.int p3), .val (.int p4), .val (.ref b), .val (.int (p4 &&& (3 : Int32))), .val (.int cc), .val (.int ee)] [])) _
    refine XS.iconst X35.here hx rfl (hb hby at_301) ?_
    show Steps p.tables e below (T35.setTop (mkF m 302 #[.val (.int p1), .val (.int p2), .val (.int p3), .val (.int p4), .val (.ref b), .val (.int (p4 &&& (3 : Int32))), .val (.int cc), .val (.int ee)] [(.int (1 : Int32))])) _
    refine XS.goto X35.here hx rfl (pc0 := 302) (pc' := 306) rfl (hb hby at_302) (by decide) (by decide) ?_
    show Steps p.tables e below (T35.setTop (mkF m 306 #[.val (.int p1), .val (.int p2), .val (.int p3), .val (.int p4), .val (.ref b), .val (.int (p4 &&& (3 : Int32))), .val (.int cc), .val (.int ee)] [(.int (1 : Int32))])) t
    exact k
  obtain ⟨fs, hr, hrun, hended, hW, hsame⟩ := X35.leave (v := some (.int (1 : Int32))) (fun h => by rw [Bd.returns] at h; cases h)
  refine ⟨_, _, pre0 _ ?_, hrun, hended, _, _, rfl, ?_, ⟨_, rfl⟩, hW, hsame.mono (by decide) (by decide)⟩
  · refine K1 _ (st1 _ (K2 _ (st2 _ (K3 _ (st3 _ (K4 _ (st4 _ (K5 _ (st5 _ (K6 _ (st6 _ (K7 _ (st7 _ (K8 _ (st8 _ (K9 _ (st9 _ (K10 _ (st10 _ (K11 _ (st11 _ (K12 _ (st12 _ (K13 _ (st13 _ (K14 _ (st14 _ (K15 _ (st15 _ (K16 _ (st16 _ (K17 _ (st17 _ (K18 _ (st18 _ (K19 _ (st19 _ (K20 _ (st20 _ (K21 _ (st21 _ (K22 _ (st22 _ (K23 _ (st23 _ (K24 _ (st24 _ (K25 _ (st25 _ (K26 _ (st26 _ (K27 _ (st27 _ (K28 _ (st28 _ (K29 _ (st29 _ (K30 _ (st30 _ (K31 _ (st31 _ (K32 _ (st32 _ (K33 _ (st33 _ (K34 _ (M _ (K35 _ (st34 _ (F _ (K36 _ (st35 _ (K37 _ ?_)))))))))))))))))))))))))))))))))))))))))))))))))))))))))))))))))))))))))
    exact retN X35 hx (t := .boolean) Bd.returns (by simp) (hb hby at_306) hr
  · exact ⟨rfl, N35⟩
set_option maxRecDepth 65536 in
set_option maxHeartbeats 40000000 in
theorem comes_1 {Post : Tables → Env → Array Value → State → Outcome → State → Prop} (hpost : ∀ tb e args s v u, (limb_1_1.after args s (.returned v) u = true ∧ limb_1_2.after args s (.returned v) u = true ∧ True) → FrameEnd s (.returned v) u (Jvm.fieldLocs frame_1_writes args s ++ Jvm.arrayLocs frame_1_arrays args s ++ Jvm.staticLocs frame_1_statics s) 16 128 → Post tb e args s (.returned v) u) :
    ArmFor flags0 classFile x code maxLocals ret World_1 tables_1 room_1 Calls_1 rest_1 Pre_1 Post := by
  intro l hfl _ _ p e ha hc hk s m args below hf hA hF happ hP
  obtain ⟨hcalls, hrest, hpre⟩ := hP
  obtain ⟨-, -, -, hnamed, -, -, -, hat⟩ := (Spec.applies_iff hf).mp happ
  obtain ⟨hg, hn⟩ := and_e (Cond.before_iff.mp (show (Jvm.Cond.and given_1 narrow_1).before args s = true from hpre))
  obtain ⟨g0, r0⟩ := and_e hg
  obtain ⟨g1, r1⟩ := and_e r0
  obtain ⟨g2, r2⟩ := and_e r1
  obtain ⟨g3, r3⟩ := and_e r2
  obtain ⟨w0, w1, w2, w3, rfl⟩ : ∃ w0 w1 w2 w3 : Value, args = #[w0, w1, w2, w3] := by
    have hs : args.size = 4 := by simpa [Cond.value, given_1] using g0
    obtain ⟨L⟩ := args
    match L, hs with
    | [w0, w1, w2, w3], _ => exact ⟨w0, w1, w2, w3, rfl⟩
  have hw := fun d (hd : d ∈ tables_1) => atoms_spec (ws := Jvm.Cond.code x code maxLocals ret :: tables_1) hat d (List.mem_cons_of_mem _ hd)
  obtain ⟨i0, ei0⟩ := is_v g1
  obtain rfl : w0 = (.int i0) := Option.some.inj ei0
  obtain ⟨i1, ei1⟩ := is_v g2
  obtain rfl : w1 = (.int i1) := Option.some.inj ei1
  obtain ⟨i2, ei2⟩ := is_v g3
  obtain rfl : w2 = (.int i2) := Option.some.inj ei2
  obtain ⟨i3, ei3⟩ := is_v r3
  obtain rfl : w3 = (.int i3) := Option.some.inj ei3
  obtain ⟨n, o, h1, h2, h3, _, L, rfl, ⟨rfl, N⟩, hq⟩ := rm0 l s _ hw tables_1 i0 i1 i2 i3 s.heap s.heap.size (Nat.le_refl _) p e ha hc hk s m _ below hf ((Spec.applies_iff_loose hf).mp happ).1 ⟨rfl, State.Warmed39.refl s, rfl⟩ trivial
  refine ⟨n, _, h1, h2, h3, hpost _ _ _ _ _ _ ⟨Cond.after_iff.mpr rfl, Cond.after_iff.mpr (eq_i res_at (Term.int_eval (1)) rfl), trivial⟩ ⟨hq.1, hq.2.1, (hq.2.2.sift fun y hy => Or.inr (N y hy)).mono (by decide) (by decide)⟩⟩
theorem main_1_1 : Claimed_1_1 := comes_1 fun _ _ _ _ _ _ h hF => ⟨h.1, hF⟩
theorem main_1_2 : Claimed_1_2 := comes_1 fun _ _ _ _ _ _ h hF => ⟨h.2.1, hF⟩
end Jvm.Pilot.@@N@@
namespace Jvm.Pilot.@@N@@
open Jvm Jvm.ClassFile Sem Op Lib Jvm.Free Jvm.Stand Jvm.Pilot.@@N@@.Jvm.D
/-! MADE BY PROGRAM (witnessworld.py) out of the Statement's table words and the real class files: 9 classes; the members and pool entries that the words name. The judged class is class 1, her method 2. -/
namespace start1
open Jvm.ClassFile
def u (s : String) : CpInfo := .utf8 (stringToUtf16 s)
/-- a pool by its gaps: so many unusable entries, then the entry; so many at the end -/
def gap : Nat → List CpInfo → List CpInfo
  | 0, r => r
  | n + 1, r => .unusable :: gap n r
def poolList (es : List (Nat × CpInfo)) (last : Nat) : List CpInfo := es.foldr (fun e r => gap e.1 (e.2 :: r)) (gap last [])
def pool (es : List (Nat × CpInfo)) (last : Nat) : Array CpInfo := ⟨poolList es last⟩
def fileOf (pool : Array CpInfo) (this : Nat) (attrs : Array Attribute := #[]) (ms : Array MethodInfo := #[]) (fl : Nat := 33) (sup : Nat := 0) (ifs : Array Nat := #[]) (fds : Array FieldInfo := #[]) : ClassFile where
  minorVersion := 0
  majorVersion := 65
  constantPool := pool
  accessFlags := fl
  thisClass := this
  superClass := sup
  interfaces := ifs
  fields := fds
  methods := ms
  attributes := attrs
def plain (name : String) (sup : Option ClassId) : Class where
  name := name
  kind := .ordinary
  loader := none
  accessFlags := 33
  super := sup
  interfaces := #[]
  cf := none
  fields := #[]
  methods := #[]
  instanceTypes := #[]
  staticTypes := #[]
  resolved := #[]
  callSites := []
  init := .initialized
  statics := none
  mirror := none

def pool0 : Array CpInfo := pool [(5, u "<init>"), (0, u "()V"), (1, .class_ 10), (1, u "java/lang/Object")] 113

def k0m0 : Method := { name := "<init>", desc := "()V", sig := { parameters := [], returnType := none }, accessFlags := 1, code := none }
/-- java/lang/Object -/
def k0 : Class := { plain "java/lang/Object" none with
  accessFlags := 33
  interfaces := #[]
  cf := some (fileOf pool0 8 #[] #[{ accessFlags := 1, nameIndex := 5, descriptorIndex := 6, attributes := #[] }] 33 0 #[] #[])
  fields := #[]
  methods := #[k0m0]
  instanceTypes := #[]
  staticTypes := #[]
  resolved := Array.replicate 124 none
  statics := none }

def pool1 : Array CpInfo := pool [(2, .class_ 4), (1, u "java/lang/Object"), (0, u "<init>"), (0, u "()V"), (0, .integer 55296), (0, .integer 63743), (0, .integer 64976), (0, .integer 65007), (0, .integer 65534), (0, .integer 65535), (0, .integer 983039), (0, .integer 55295), (0, .integer 63744), (0, .integer 64975), (0, .integer 65008), (0, .integer 65533), (0, .integer 65536), (2, .integer 2147483648), (0, .integer 2147483647), (0, .integer 2097151), (0, .methodref 26 27), (0, .class_ 28), (0, .nameAndType 29 30), (0, u "transept/model/XmlCharsIsNameStartCharPinLaw"), (0, u "excluded"), (0, u "(I)Z"), (0, .methodref 32 33), (0, .class_ 34), (0, .nameAndType 35 30), (0, u "transept/model/XmlChars"), (0, u "isNameStartChar"), (3, u "law"), (0, u "(IIII)Z")] 4

def k1m0 : Method := { name := "<init>", desc := "()V", sig := { parameters := [], returnType := none }, accessFlags := 2, code := none }
def k1c1 : Code := { maxStack := 2, maxLocals := 1, code := method_2_code, exceptionTable := #[], attributes := #[] }
def k1m1 : Method := { name := "excluded", desc := "(I)Z", sig := { parameters := [.int], returnType := some .boolean }, accessFlags := 10, code := some k1c1 }
def k1c2 : Code := { maxStack := 4, maxLocals := 8, code := code, exceptionTable := #[], attributes := #[] }
def k1m2 : Method := { name := "law", desc := "(IIII)Z", sig := { parameters := [.int, .int, .int, .int], returnType := some .boolean }, accessFlags := 9, code := some k1c2 }
/-- transept/model/XmlCharsIsNameStartCharPinLaw -/
def k1 : Class := { plain "transept/model/XmlCharsIsNameStartCharPinLaw" (some 0) with
  accessFlags := 49
  interfaces := #[]
  cf := some (fileOf pool1 26 #[] #[{ accessFlags := 2, nameIndex := 5, descriptorIndex := 6, attributes := #[] }, { accessFlags := 10, nameIndex := 29, descriptorIndex := 30, attributes := #[] }, { accessFlags := 9, nameIndex := 39, descriptorIndex := 40, attributes := #[] }] 49 2 #[] #[])
  fields := #[]
  methods := #[k1m0, k1m1, k1m2]
  instanceTypes := #[]
  staticTypes := #[]
  resolved := Array.replicate 45 none
  statics := none }

def pool2 : Array CpInfo := pool [(2, .class_ 4), (1, u "java/lang/Object"), (0, u "<init>"), (0, u "()V"), (30, .integer 55295), (1, .integer 65533), (0, .integer 65536), (25, .class_ 68), (1, u "transept/model/XmlChars"), (1, u "(I)Z"), (43, u "isNameStartChar"), (9, .integer 63744), (0, .integer 64975), (0, .integer 65008), (0, .integer 983039)] 38

def k2m0 : Method := { name := "<init>", desc := "()V", sig := { parameters := [], returnType := none }, accessFlags := 2, code := none }
def k2c1 : Code := { maxStack := 2, maxLocals := 1, code := prog_132_method_11_code, exceptionTable := #[], attributes := #[] }
def k2m1 : Method := { name := "isNameStartChar", desc := "(I)Z", sig := { parameters := [.int], returnType := some .boolean }, accessFlags := 9, code := some k2c1 }
/-- transept/model/XmlChars -/
def k2 : Class := { plain "transept/model/XmlChars" (some 0) with
  accessFlags := 49
  interfaces := #[]
  cf := some (fileOf pool2 66 #[] #[{ accessFlags := 2, nameIndex := 5, descriptorIndex := 6, attributes := #[] }, { accessFlags := 9, nameIndex := 114, descriptorIndex := 70, attributes := #[] }] 49 2 #[] #[])
  fields := #[]
  methods := #[k2m0, k2m1]
  instanceTypes := #[]
  staticTypes := #[]
  resolved := Array.replicate 166 none
  statics := none }

def pool3 : Array CpInfo := pool [(1, u "java/lang/Cloneable"), (0, .class_ 1), (0, u "java/lang/Object"), (0, .class_ 3)] 3

/-- java/lang/Cloneable -/
def k3 : Class := { plain "java/lang/Cloneable" (some 0) with
  accessFlags := 1537
  interfaces := #[]
  cf := some (fileOf pool3 2 #[] #[] 1537 4 #[] #[])
  fields := #[]
  methods := #[]
  instanceTypes := #[]
  staticTypes := #[]
  resolved := Array.replicate 8 none
  statics := none }

def pool4 : Array CpInfo := pool [(1, u "java/io/Serializable"), (0, .class_ 1), (0, u "java/lang/Object"), (0, .class_ 3)] 3

/-- java/io/Serializable -/
def k4 : Class := { plain "java/io/Serializable" (some 0) with
  accessFlags := 1537
  interfaces := #[]
  cf := some (fileOf pool4 2 #[] #[] 1537 4 #[] #[])
  fields := #[]
  methods := #[]
  instanceTypes := #[]
  staticTypes := #[]
  resolved := Array.replicate 8 none
  statics := none }

/-- the primitive byte -/
def k5 : Class := { plain "byte" none with kind := .primitive 'B', accessFlags := 0x411 }
/-- [B -/
def k6 : Class := { plain "[B" (some 0) with kind := .array 5 .byte, interfaces := #[3, 4], accessFlags := 1041 }

/-- the primitive int -/
def k7 : Class := { plain "int" none with kind := .primitive 'I', accessFlags := 0x411 }
/-- [I -/
def k8 : Class := { plain "[I" (some 0) with kind := .array 7 .int, interfaces := #[3, 4], accessFlags := 1041 }

def heap : Heap := #[]
def classes : Array Class := #[k0, k1, k2, k3, k4, k5, k6, k7, k8]
def interned : List (Array UInt16 × Addr) := []
def slotsUsed : Nat := 0
def theMethod : MethodId := ⟨1, 2⟩
def args0 : Array Value := #[.int 65, .int 300, .int 7, .int 3]
def aboutOver (below : List Frame) : State where
  vm := { classes := classes, interned := interned.toArray }
  heap := heap
  slotsUsed := slotsUsed
  threads := #[{ frames := .invoking theMethod args0 :: below }]
def below0 : List Frame := [.native { method := ⟨0, 0⟩, args := #[] }]
def about1 : State := aboutOver below0
def p0 : Program := .bare "" "" ""
def e0 : Env := launch0.env 0 0 0
theorem w_frames : about1.frames = Frame.invoking theMethod args0 :: below0 := rfl
set_option maxRecDepth 65536 in
theorem w_args : argsFit about1.vm theMethod args0 = true := by decide +kernel
set_option maxRecDepth 65536 in
theorem w_heap : heapFits about1 = true := by decide +kernel
set_option maxRecDepth 65536 in
theorem w_runnable : about1.curStatus? = some .runnable := by decide +kernel
set_option maxRecDepth 65536 in
theorem w_alone : about1.alone = true := by decide +kernel
set_option maxRecDepth 65536 in
theorem w_named : about1.methodNamed? x = some theMethod := by decide +kernel
set_option maxRecDepth 65536 in
theorem w_hears : about1.hears theMethod below0 = true := by decide +kernel
set_option maxRecDepth 65536 in
theorem w_ripe : about1.ripe theMethod args0 below0 = true := by decide +kernel
theorem w_running : about1.status = .running := rfl
set_option maxRecDepth 65536 in
theorem w_room : about1.hasRoom e0.platform room_1 = true :=
  launch0.hasRoom_least _ room_1 (by decide +kernel) (by decide +kernel) (by decide +kernel) (by decide +kernel) (by decide +kernel) (by decide +kernel)
theorem allAtoms_all (ts : List Jvm.Cond) (a : Array Jvm.Value) (st : Jvm.State) : (allAtoms ts).before a st = ts.all (fun c => c.before a st) := by
  induction ts with
  | nil => rfl
  | cons c t ih =>
    show (Jvm.Cond.and c (allAtoms t)).before a st = _
    rw [Jvm.Cond.before_and, ih, List.all_cons]
def words1 : List Jvm.Cond := Jvm.Cond.code x code maxLocals ret :: tables_1
/-- a 'code' word, met by the world's own term for the bytes: nothing is compared byte by byte -/
theorem code_word {y : MethodName} {bytes : ByteArray} {mx : Nat} {rt : Option FieldType} {a : Array Value} {s : State} {m : MethodId} {meth : Method} {c : Code} (h1 : s.methodNamed? y = some m) (h2 : s.vm.method? m = some meth) (h3 : meth.code = some c) (h4 : c.code = bytes)
    (h5 : (c.maxLocals == mx && c.exceptionTable.isEmpty && decide (c.maxStack ≤ mostOperands) && decide (meth.sig.returnType = rt) && !meth.locks && decide (parseMethodDescriptor y.desc = some meth.sig)) = true) : (Jvm.Cond.code y bytes mx rt).before a s = true := by
  simp only [Bool.and_eq_true, beq_iff_eq, Bool.not_eq_true', decide_eq_true_eq] at h5
  obtain ⟨⟨⟨⟨⟨g1, g2⟩, g3⟩, g4⟩, g5⟩, g6⟩ := h5
  simp [Cond.before, Cond.holds, Cond.value, h1, h2, h3, h4, g1, g2, g3, g4, g5, g6]
def isCode : Jvm.Cond → Bool
  | .code _ _ _ _ => true
  | _ => false
theorem all_split {L : List Jvm.Cond} {P : Jvm.Cond → Bool} (h1 : L.all (fun c => isCode c || P c) = true) (h2 : ∀ c ∈ L.filter isCode, P c = true) : L.all P = true := by
  refine List.all_eq_true.mpr fun c hc => ?_
  have h := List.all_eq_true.mp h1 c hc
  rcases Bool.eq_false_or_eq_true (isCode c) with hi | hi
  · exact h2 c (List.mem_filter.mpr ⟨hc, hi⟩)
  · simpa [hi] using h
set_option maxRecDepth 65536 in
theorem w_c0 : (Jvm.Cond.code x code maxLocals ret).before args0 about1 = true := code_word (m := ⟨1, 2⟩) (meth := k1m2) (c := k1c2) (by decide +kernel) rfl rfl rfl (by decide +kernel)
set_option maxRecDepth 65536 in
theorem w_c1 : (Jvm.Cond.code ({ cls := "transept/model/XmlCharsIsNameStartCharPinLaw", name := "excluded", desc := "(I)Z" } : Jvm.MethodName) method_2_code (1 : Nat) (Option.some Jvm.ClassFile.FieldType.boolean)).before args0 about1 = true := code_word (m := ⟨1, 1⟩) (meth := k1m1) (c := k1c1) (by decide +kernel) rfl rfl rfl (by decide +kernel)
set_option maxRecDepth 65536 in
theorem w_c2 : (Jvm.Cond.code ({ cls := "transept/model/XmlChars", name := "isNameStartChar", desc := "(I)Z" } : Jvm.MethodName) prog_132_method_11_code (1 : Nat) (Option.some Jvm.ClassFile.FieldType.boolean)).before args0 about1 = true := code_word (m := ⟨2, 1⟩) (meth := k2m1) (c := k2c1) (by decide +kernel) rfl rfl rfl (by decide +kernel)
def codes1 : List Jvm.Cond := [Jvm.Cond.code x code maxLocals ret, Jvm.Cond.code ({ cls := "transept/model/XmlCharsIsNameStartCharPinLaw", name := "excluded", desc := "(I)Z" } : Jvm.MethodName) method_2_code (1 : Nat) (Option.some Jvm.ClassFile.FieldType.boolean), Jvm.Cond.code ({ cls := "transept/model/XmlChars", name := "isNameStartChar", desc := "(I)Z" } : Jvm.MethodName) prog_132_method_11_code (1 : Nat) (Option.some Jvm.ClassFile.FieldType.boolean)]
set_option maxRecDepth 65536 in
theorem codes_eq : words1.filter isCode = codes1 := rfl
theorem w_codes : ∀ c ∈ words1.filter isCode, c.before args0 about1 = true := by
  rw [codes_eq]
  intro c hc
  simp only [codes1, List.mem_cons, List.not_mem_nil, or_false] at hc
  rcases hc with rfl | rfl | rfl
  · exact w_c0
  · exact w_c1
  · exact w_c2
set_option maxRecDepth 65536 in
theorem w_t1 : (words1.take 24).all (fun c => isCode c || c.before args0 about1) = true := by decide +kernel
set_option maxRecDepth 65536 in
theorem w_t2 : (words1.drop 24).all (fun c => isCode c || c.before args0 about1) = true := by decide +kernel
theorem w_tables : (allAtoms (Jvm.Cond.code x code maxLocals ret :: tables_1)).before args0 about1 = true := by
  rw [allAtoms_all]
  show words1.all (fun c => c.before args0 about1) = true
  refine all_split ?_ w_codes
  rw [← List.take_append_drop 24 words1, List.all_append, w_t1, w_t2]
  rfl
set_option maxRecDepth 65536 in
theorem w_case : (Jvm.Cond.and given_1 narrow_1).before args0 about1 = true := by decide +kernel
theorem w_applies : (headSpec (Jvm.Cond.code x code maxLocals ret :: tables_1) room_1).applies x e0.platform about1 = true :=
  (Spec.applies_iff w_frames).mpr ⟨w_running, w_runnable, w_alone, w_named, w_hears, w_ripe, w_room, w_tables⟩
theorem atStart : AtStart classFile x code maxLocals ret World_1 tables_1 room_1 Calls_1 rest_1 Pre_1 launch0 p0 e0 about1 theMethod args0 below0 :=
  ⟨lists_1, trivial, launch0.admits_env _ _ _, launch0.least_env, fairChoices_fair.cas, fairChoices_fair.clock, w_frames, w_args, w_heap, w_applies, trivial, trivial, w_case⟩
end start1
theorem witness_1 : WitnessClaimed_1 := ⟨start1.p0, start1.e0, start1.about1, start1.theMethod, start1.args0, start1.below0, start1.atStart⟩
end Jvm.Pilot.@@N@@
