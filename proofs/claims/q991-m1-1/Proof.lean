import JvmDerived
import JvmDerived.Pilot.@@N@@Statement
import JvmDerived.Pilot.@@N@@Code
set_option linter.unusedVariables false
set_option linter.unusedSimpArgs false
namespace Jvm.RoadKit
open Sem ClassFile Op Lib Jvm.Stand Jvm.Free Jvm.LawKit
section New
variable {p : Program} {l : Launch} {e : Env} {R : Room} {s : State} {m : MethodId} {args : Array Value} {below : List Frame} {meth : Method} {c : Code} {T : State} {locs : List Loc} {cells slots : Nat}
theorem retI (X : Stand p l e R s m args below meth c T locs cells slots) (hx : p.tables.exec = Jvm.exec) {pc : Nat} {Ls : Array Slot} {z : Int32} {rest : List Value} (hret : meth.sig.returnType = some .int) (hd : decode c.code pc = .ok (.ireturn, 1)) {fs : List Frame}
    (hl : ∀ (f : JFrame) (acts : List Action), f.method = m → f.locked = none → f.entered = [] → (doReturn e (T.setTop f) acts (some (.int z))).1 = T.setFrames fs) : Steps p.tables e below (T.setTop (mkF m pc Ls (.int z :: rest))) (T.setFrames fs) := by
  have hm' : T.vm.method? m = some meth := X.method'
  have hn : narrow .int (.int z) = .int z := rfl
  show Steps p.tables e below (T.setTop { method := m, pc := pc, locals := Ls, stack := _ :: rest, locked := none }) _
  jvm_step X.here [X.here.top, hx, hd, hm', hret, hn]
  first | (intro acts; rw [hl _ acts rfl rfl rfl]) | rw [hl _ _ rfl rfl rfl]
  exact Steps.refl _
theorem retJ (X : Stand p l e R s m args below meth c T locs cells slots) (hx : p.tables.exec = Jvm.exec) {pc : Nat} {Ls : Array Slot} {z : Int64} {rest : List Value} (hret : meth.sig.returnType = some .long) (hd : decode c.code pc = .ok (.lreturn, 1)) {fs : List Frame}
    (hl : ∀ (f : JFrame) (acts : List Action), f.method = m → f.locked = none → f.entered = [] → (doReturn e (T.setTop f) acts (some (.long z))).1 = T.setFrames fs) : Steps p.tables e below (T.setTop (mkF m pc Ls (.long z :: rest))) (T.setFrames fs) := by
  have hm' : T.vm.method? m = some meth := X.method'
  have hn : narrow .long (.long z) = .long z := rfl
  show Steps p.tables e below (T.setTop { method := m, pc := pc, locals := Ls, stack := _ :: rest, locked := none }) _
  jvm_step X.here [X.here.top, hx, hd, hm', hret, hn]
  first | (intro acts; rw [hl _ acts rfl rfl rfl]) | rw [hl _ _ rfl rfl rfl]
  exact Steps.refl _
theorem retR (X : Stand p l e R s m args below meth c T locs cells slots) (hx : p.tables.exec = Jvm.exec) {pc : Nat} {Ls : Array Slot} {v : Value} {rest : List Value} (hv : v.isRef = true) {ty : FieldType} (hret : meth.sig.returnType = some ty) (ht : ty.isReference = true) (hd : decode c.code pc = .ok (.areturn, 1)) {fs : List Frame}
    (hl : ∀ (f : JFrame) (acts : List Action), f.method = m → f.locked = none → f.entered = [] → (doReturn e (T.setTop f) acts (some v)).1 = T.setFrames fs) : Steps p.tables e below (T.setTop (mkF m pc Ls (v :: rest))) (T.setFrames fs) := by
  have hm' : T.vm.method? m = some meth := X.method'
  show Steps p.tables e below (T.setTop { method := m, pc := pc, locals := Ls, stack := _ :: rest, locked := none }) _
  jvm_step X.here [X.here.top, hx, hd, hm', hret, hv, ht]
  first | (intro acts; rw [hl _ acts rfl rfl rfl]) | rw [hl _ _ rfl rfl rfl]
  exact Steps.refl _
end New
end Jvm.RoadKit
namespace Jvm.Pilot.@@N@@
open Jvm Jvm.ClassFile Sem Op Lib Jvm.Free Jvm.Stand Jvm.LawKit Jvm.RoadKit Bundle Jvm.Pilot.@@N@@.Jvm.D
/-- from the state 'cur' on is enough -/
def own_Pre (p : Program) (e : Env) (below : List Frame) (start cur : State) : Prop := ∀ t, Steps p.tables e below cur t → Steps p.tables e below start t
/-- an array of ints (bytes, chars, booleans): its length z, its components ws (at least so many) -/
def own_AI (Z : State) (h : Heap) (a : Addr) (k : ClassId) (ty : FieldType) (z : Int32) (ws : List Int32) : Prop := Arv Z h a k ty z (ws.map Value.int) (.int 0) ∧ z.toNatClampNeg ≤ ws.length
def own_AJ (Z : State) (h : Heap) (a : Addr) (k : ClassId) (ty : FieldType) (z : Int32) (ws : List Int64) : Prop := Arv Z h a k ty z (ws.map Value.long) (.long 0) ∧ z.toNatClampNeg ≤ ws.length
section OwnA
variable {Z : State} {h h' : Heap} {a b : Addr} {k : ClassId} {ty : FieldType} {z : Int32} {ws : List Int32} {wl : List Int64} {sl : Nat} {v : Value} {L : List Addr}
theorem own_AI.lt (F : own_AI Z h a k ty z ws) : a < h.size := Arv.lt F.1
theorem own_AI.ext (F : own_AI Z h a k ty z ws) (E : Ext h h') : own_AI Z h' a k ty z ws := ⟨Arv.ext F.1 E, F.2⟩
theorem own_AI.other (F : own_AI Z h b k ty z ws) (W : Wr h h' a sl v) (q : b ≠ a) : own_AI Z h' b k ty z ws := ⟨Arv.other F.1 W q, F.2⟩
theorem own_AI.keep (F : own_AI Z h a k ty z ws) (K : Keep h h' L) (q : a ∉ L) : own_AI Z h' a k ty z ws := ⟨Arv.keep F.1 K q, F.2⟩
theorem own_AJ.lt (F : own_AJ Z h a k ty z wl) : a < h.size := Arv.lt F.1
theorem own_AJ.ext (F : own_AJ Z h a k ty z wl) (E : Ext h h') : own_AJ Z h' a k ty z wl := ⟨Arv.ext F.1 E, F.2⟩
theorem own_AJ.other (F : own_AJ Z h b k ty z wl) (W : Wr h h' a sl v) (q : b ≠ a) : own_AJ Z h' b k ty z wl := ⟨Arv.other F.1 W q, F.2⟩
theorem own_AJ.keep (F : own_AJ Z h a k ty z wl) (K : Keep h h' L) (q : a ∉ L) : own_AJ Z h' a k ty z wl := ⟨Arv.keep F.1 K q, F.2⟩
theorem own_AI.new (n : Nat) (A : Arr Z h a (newA k ty z) ty) (q : ¬ z < 0) (hn : z.toNatClampNeg ≤ n) (hd : defaultValue ty = .int 0) : own_AI Z h a k ty z (List.replicate n (0 : Int32)) := by
  have := Arv.new A q
  rw [hd] at this
  have r := this.pad (pad_rep [] (.int 0) n)
  exact ⟨by simpa [List.map_replicate] using r, by simpa using hn⟩
theorem own_AJ.new (n : Nat) (A : Arr Z h a (newA k ty z) ty) (q : ¬ z < 0) (hn : z.toNatClampNeg ≤ n) (hd : defaultValue ty = .long 0) : own_AJ Z h a k ty z (List.replicate n (0 : Int64)) := by
  have := Arv.new A q
  rw [hd] at this
  have r := this.pad (pad_rep [] (.long 0) n)
  exact ⟨by simpa [List.map_replicate] using r, by simpa using hn⟩
theorem own_getI (ws : List Int32) (i : Nat) : (ws.map Value.int).getD i (.int 0) = .int (ws.getD i 0) := by
  simp only [List.getD_eq_getElem?_getD, List.getElem?_map]
  cases ws[i]? <;> rfl
theorem own_getJ (ws : List Int64) (i : Nat) : (ws.map Value.long).getD i (.long 0) = .long (ws.getD i 0) := by
  simp only [List.getD_eq_getElem?_getD, List.getElem?_map]
  cases ws[i]? <;> rfl
theorem own_AI.at (F : own_AI Z h a k ty z ws) {j : Int32} (q : ¬ j < 0 ∧ j < z) : ∃ cl : Cell, Arr Z h a cl ty ∧ ¬ (j < 0 ∨ cl.slots.size ≤ j.toNatClampNeg) ∧ cl.slots[j.toNatClampNeg]? = some (.int (ws.getD j.toNatClampNeg 0)) := by
  obtain ⟨⟨cl, A, -, S, -, H, -⟩, -⟩ := F
  have hin := inb_of S q
  exact ⟨cl, A, hin, H.at hin (own_getI _ _)⟩
theorem own_AJ.at (F : own_AJ Z h a k ty z wl) {j : Int32} (q : ¬ j < 0 ∧ j < z) : ∃ cl : Cell, Arr Z h a cl ty ∧ ¬ (j < 0 ∨ cl.slots.size ≤ j.toNatClampNeg) ∧ cl.slots[j.toNatClampNeg]? = some (.long (wl.getD j.toNatClampNeg 0)) := by
  obtain ⟨⟨cl, A, -, S, -, H, -⟩, -⟩ := F
  have hin := inb_of S q
  exact ⟨cl, A, hin, H.at hin (own_getJ _ _)⟩
theorem own_AI.arr (F : own_AI Z h a k ty z ws) {j : Int32} (q : ¬ j < 0 ∧ j < z) : ∃ cl : Cell, Arr Z h a cl ty ∧ ¬ (j < 0 ∨ cl.slots.size ≤ j.toNatClampNeg) ∧ ∀ (h' : Heap) (x : Int32), fits ty (.int x) = true → Wr h h' a j.toNatClampNeg (.int x) → own_AI Z h' a k ty z (ws.set j.toNatClampNeg x) := by
  obtain ⟨⟨cl, A, q1, S, q3, H, G⟩, ln⟩ := F
  have hin := inb_of S q
  refine ⟨cl, A, hin, fun h' x hv W => ?_⟩
  have hl : j.toNatClampNeg < ws.length := by
    rcases Nat.lt_or_ge j.toNatClampNeg ws.length with u | u
    · exact u
    · exact absurd (Or.inr (by omega)) hin
  have := Arv.set A q1 S q3 H G hv W _ rfl (by simpa using hl)
  rw [← List.map_set] at this
  exact ⟨this, by simpa using ln⟩
theorem own_AJ.arr (F : own_AJ Z h a k ty z wl) {j : Int32} (q : ¬ j < 0 ∧ j < z) : ∃ cl : Cell, Arr Z h a cl ty ∧ ¬ (j < 0 ∨ cl.slots.size ≤ j.toNatClampNeg) ∧ ∀ (h' : Heap) (x : Int64), fits ty (.long x) = true → Wr h h' a j.toNatClampNeg (.long x) → own_AJ Z h' a k ty z (wl.set j.toNatClampNeg x) := by
  obtain ⟨⟨cl, A, q1, S, q3, H, G⟩, ln⟩ := F
  have hin := inb_of S q
  refine ⟨cl, A, hin, fun h' x hv W => ?_⟩
  have hl : j.toNatClampNeg < wl.length := by
    rcases Nat.lt_or_ge j.toNatClampNeg wl.length with u | u
    · exact u
    · exact absurd (Or.inr (by omega)) hin
  have := Arv.set A q1 S q3 H G hv W _ rfl (by simpa using hl)
  rw [← List.map_set] at this
  exact ⟨this, by simpa using ln⟩
theorem own_AI.len (F : own_AI Z h a k ty z ws) : ∃ cl : Cell, Arr Z h a cl ty ∧ cl.slots.size = z.toNatClampNeg ∧ ¬ z < 0 := by
  obtain ⟨⟨cl, A, -, S, q3, -, -⟩, -⟩ := F
  exact ⟨cl, A, S, q3⟩
theorem own_AJ.len (F : own_AJ Z h a k ty z wl) : ∃ cl : Cell, Arr Z h a cl ty ∧ cl.slots.size = z.toNatClampNeg ∧ ¬ z < 0 := by
  obtain ⟨⟨cl, A, -, S, q3, -, -⟩, -⟩ := F
  exact ⟨cl, A, S, q3⟩
end OwnA
/-- a private method selects itself, where another method of its class is known to be no interface's -/
theorem own_selp {s : State} {args args' : Array Value} {y z : MethodName} (hz : (Cond.selects z.cls z z).before args s = true) (hc : z.cls = y.cls) (hpriv : s.PrivateAt y) (hinst : (Cond.instanceMethod y).before args s = true) (hy : y.cls ≠ "java/lang/invoke/MethodHandle" ∧ y.cls ≠ "java/lang/invoke/VarHandle") : (Cond.selects y.cls y y).before args s = true := by
  obtain ⟨c2, r2, m2, -, -, q3, -, kP, hkP, hkPi⟩ := Cond.selects_spec hz
  have hf := findClass_of_methodNamed q3
  rw [hc] at hf
  exact selects_self_of_private hf hkP hkPi hpriv hinst hy
/-- what holds of every byte -/
theorem own_bytes {P : Int32 → Prop} (H : ∀ i : Fin 256, P (Int32.ofInt ((i.1 : Int) - 128))) (x : Int32) : P x.toInt8.toInt32 := by
  obtain ⟨-, h1, h2⟩ := c_i2b x
  have e : x.toInt8.toInt32 = Int32.ofInt (((⟨(x.toInt8.toInt32.toInt + 128).toNat, by omega⟩ : Fin 256).1 : Int) - 128) := by
    apply Int32.toInt_inj.mp
    show _ = (Int32.ofInt (((x.toInt8.toInt32.toInt + 128).toNat : Int) - 128)).toInt
    rw [Int32.toInt_ofInt_of_le (by omega) (by omega)]
    omega
  rw [e]
  exact H _


theorem d1_0 : decode method_2_code 0 = .ok (.bipush 32, 2) := by decide +kernel
theorem d1_2 : decode method_2_code 2 = .ok (.newarray .long, 2) := by decide +kernel
theorem d1_4 : decode method_2_code 4 = .ok (.dup, 1) := by decide +kernel
theorem d1_5 : decode method_2_code 5 = .ok (.iconst 0, 1) := by decide +kernel
theorem d1_6 : decode method_2_code 6 = .ok (.ldc2_w 9, 3) := by decide +kernel
theorem d1_9 : decode method_2_code 9 = .ok (.lastore, 1) := by decide +kernel
theorem d1_10 : decode method_2_code 10 = .ok (.dup, 1) := by decide +kernel
theorem d1_11 : decode method_2_code 11 = .ok (.iconst 1, 1) := by decide +kernel
theorem d1_12 : decode method_2_code 12 = .ok (.ldc2_w 11, 3) := by decide +kernel
theorem d1_15 : decode method_2_code 15 = .ok (.lastore, 1) := by decide +kernel
theorem d1_16 : decode method_2_code 16 = .ok (.dup, 1) := by decide +kernel
theorem d1_17 : decode method_2_code 17 = .ok (.iconst 2, 1) := by decide +kernel
theorem d1_18 : decode method_2_code 18 = .ok (.ldc2_w 13, 3) := by decide +kernel
theorem d1_21 : decode method_2_code 21 = .ok (.lastore, 1) := by decide +kernel
theorem d1_22 : decode method_2_code 22 = .ok (.dup, 1) := by decide +kernel
theorem d1_23 : decode method_2_code 23 = .ok (.iconst 3, 1) := by decide +kernel
theorem d1_24 : decode method_2_code 24 = .ok (.ldc2_w 15, 3) := by decide +kernel
theorem d1_27 : decode method_2_code 27 = .ok (.lastore, 1) := by decide +kernel
theorem d1_28 : decode method_2_code 28 = .ok (.dup, 1) := by decide +kernel
theorem d1_29 : decode method_2_code 29 = .ok (.iconst 4, 1) := by decide +kernel
theorem d1_30 : decode method_2_code 30 = .ok (.ldc2_w 17, 3) := by decide +kernel
theorem d1_33 : decode method_2_code 33 = .ok (.lastore, 1) := by decide +kernel
theorem d1_34 : decode method_2_code 34 = .ok (.dup, 1) := by decide +kernel
theorem d1_35 : decode method_2_code 35 = .ok (.iconst 5, 1) := by decide +kernel
theorem d1_36 : decode method_2_code 36 = .ok (.ldc2_w 19, 3) := by decide +kernel
theorem d1_39 : decode method_2_code 39 = .ok (.lastore, 1) := by decide +kernel
theorem d1_40 : decode method_2_code 40 = .ok (.dup, 1) := by decide +kernel
theorem d1_41 : decode method_2_code 41 = .ok (.bipush 6, 2) := by decide +kernel
theorem d1_43 : decode method_2_code 43 = .ok (.ldc2_w 21, 3) := by decide +kernel
theorem d1_46 : decode method_2_code 46 = .ok (.lastore, 1) := by decide +kernel
theorem d1_47 : decode method_2_code 47 = .ok (.dup, 1) := by decide +kernel
theorem d1_48 : decode method_2_code 48 = .ok (.bipush 7, 2) := by decide +kernel
theorem d1_50 : decode method_2_code 50 = .ok (.ldc2_w 23, 3) := by decide +kernel
theorem d1_53 : decode method_2_code 53 = .ok (.lastore, 1) := by decide +kernel
theorem d1_54 : decode method_2_code 54 = .ok (.dup, 1) := by decide +kernel
theorem d1_55 : decode method_2_code 55 = .ok (.bipush 8, 2) := by decide +kernel
theorem d1_57 : decode method_2_code 57 = .ok (.ldc2_w 25, 3) := by decide +kernel
theorem d1_60 : decode method_2_code 60 = .ok (.lastore, 1) := by decide +kernel
theorem d1_61 : decode method_2_code 61 = .ok (.dup, 1) := by decide +kernel
theorem d1_62 : decode method_2_code 62 = .ok (.bipush 9, 2) := by decide +kernel
theorem d1_64 : decode method_2_code 64 = .ok (.ldc2_w 27, 3) := by decide +kernel
theorem d1_67 : decode method_2_code 67 = .ok (.lastore, 1) := by decide +kernel
theorem d1_68 : decode method_2_code 68 = .ok (.dup, 1) := by decide +kernel
theorem d1_69 : decode method_2_code 69 = .ok (.bipush 10, 2) := by decide +kernel
theorem d1_71 : decode method_2_code 71 = .ok (.ldc2_w 29, 3) := by decide +kernel
theorem d1_74 : decode method_2_code 74 = .ok (.lastore, 1) := by decide +kernel
theorem d1_75 : decode method_2_code 75 = .ok (.dup, 1) := by decide +kernel
theorem d1_76 : decode method_2_code 76 = .ok (.bipush 11, 2) := by decide +kernel
theorem d1_78 : decode method_2_code 78 = .ok (.ldc2_w 31, 3) := by decide +kernel
theorem d1_81 : decode method_2_code 81 = .ok (.lastore, 1) := by decide +kernel
theorem d1_82 : decode method_2_code 82 = .ok (.dup, 1) := by decide +kernel
theorem d1_83 : decode method_2_code 83 = .ok (.bipush 12, 2) := by decide +kernel
theorem d1_85 : decode method_2_code 85 = .ok (.ldc2_w 33, 3) := by decide +kernel
theorem d1_88 : decode method_2_code 88 = .ok (.lastore, 1) := by decide +kernel
theorem d1_89 : decode method_2_code 89 = .ok (.dup, 1) := by decide +kernel
theorem d1_90 : decode method_2_code 90 = .ok (.bipush 13, 2) := by decide +kernel
theorem d1_92 : decode method_2_code 92 = .ok (.ldc2_w 35, 3) := by decide +kernel
theorem d1_95 : decode method_2_code 95 = .ok (.lastore, 1) := by decide +kernel
theorem d1_96 : decode method_2_code 96 = .ok (.dup, 1) := by decide +kernel
theorem d1_97 : decode method_2_code 97 = .ok (.bipush 14, 2) := by decide +kernel
theorem d1_99 : decode method_2_code 99 = .ok (.ldc2_w 37, 3) := by decide +kernel
theorem d1_102 : decode method_2_code 102 = .ok (.lastore, 1) := by decide +kernel
theorem d1_103 : decode method_2_code 103 = .ok (.dup, 1) := by decide +kernel
theorem d1_104 : decode method_2_code 104 = .ok (.bipush 15, 2) := by decide +kernel
theorem d1_106 : decode method_2_code 106 = .ok (.ldc2_w 39, 3) := by decide +kernel
theorem d1_109 : decode method_2_code 109 = .ok (.lastore, 1) := by decide +kernel
theorem d1_110 : decode method_2_code 110 = .ok (.dup, 1) := by decide +kernel
theorem d1_111 : decode method_2_code 111 = .ok (.bipush 16, 2) := by decide +kernel
theorem d1_113 : decode method_2_code 113 = .ok (.ldc2_w 41, 3) := by decide +kernel
theorem d1_116 : decode method_2_code 116 = .ok (.lastore, 1) := by decide +kernel
theorem d1_117 : decode method_2_code 117 = .ok (.dup, 1) := by decide +kernel
theorem d1_118 : decode method_2_code 118 = .ok (.bipush 17, 2) := by decide +kernel
theorem d1_120 : decode method_2_code 120 = .ok (.ldc2_w 43, 3) := by decide +kernel
theorem d1_123 : decode method_2_code 123 = .ok (.lastore, 1) := by decide +kernel
theorem d1_124 : decode method_2_code 124 = .ok (.dup, 1) := by decide +kernel
theorem d1_125 : decode method_2_code 125 = .ok (.bipush 18, 2) := by decide +kernel
theorem d1_127 : decode method_2_code 127 = .ok (.ldc2_w 45, 3) := by decide +kernel
theorem d1_130 : decode method_2_code 130 = .ok (.lastore, 1) := by decide +kernel
theorem d1_131 : decode method_2_code 131 = .ok (.dup, 1) := by decide +kernel
theorem d1_132 : decode method_2_code 132 = .ok (.bipush 19, 2) := by decide +kernel
theorem d1_134 : decode method_2_code 134 = .ok (.ldc2_w 47, 3) := by decide +kernel
theorem d1_137 : decode method_2_code 137 = .ok (.lastore, 1) := by decide +kernel
theorem d1_138 : decode method_2_code 138 = .ok (.dup, 1) := by decide +kernel
theorem d1_139 : decode method_2_code 139 = .ok (.bipush 20, 2) := by decide +kernel
theorem d1_141 : decode method_2_code 141 = .ok (.ldc2_w 49, 3) := by decide +kernel
theorem d1_144 : decode method_2_code 144 = .ok (.lastore, 1) := by decide +kernel
theorem d1_145 : decode method_2_code 145 = .ok (.dup, 1) := by decide +kernel
theorem d1_146 : decode method_2_code 146 = .ok (.bipush 21, 2) := by decide +kernel
theorem d1_148 : decode method_2_code 148 = .ok (.ldc2_w 51, 3) := by decide +kernel
theorem d1_151 : decode method_2_code 151 = .ok (.lastore, 1) := by decide +kernel
theorem d1_152 : decode method_2_code 152 = .ok (.dup, 1) := by decide +kernel
theorem d1_153 : decode method_2_code 153 = .ok (.bipush 22, 2) := by decide +kernel
theorem d1_155 : decode method_2_code 155 = .ok (.ldc2_w 53, 3) := by decide +kernel
theorem d1_158 : decode method_2_code 158 = .ok (.lastore, 1) := by decide +kernel
theorem d1_159 : decode method_2_code 159 = .ok (.dup, 1) := by decide +kernel
theorem d1_160 : decode method_2_code 160 = .ok (.bipush 23, 2) := by decide +kernel
theorem d1_162 : decode method_2_code 162 = .ok (.ldc2_w 55, 3) := by decide +kernel
theorem d1_165 : decode method_2_code 165 = .ok (.lastore, 1) := by decide +kernel
theorem d1_166 : decode method_2_code 166 = .ok (.dup, 1) := by decide +kernel
theorem d1_167 : decode method_2_code 167 = .ok (.bipush 24, 2) := by decide +kernel
theorem d1_169 : decode method_2_code 169 = .ok (.ldc2_w 57, 3) := by decide +kernel
theorem d1_172 : decode method_2_code 172 = .ok (.lastore, 1) := by decide +kernel
theorem d1_173 : decode method_2_code 173 = .ok (.dup, 1) := by decide +kernel
theorem d1_174 : decode method_2_code 174 = .ok (.bipush 25, 2) := by decide +kernel
theorem d1_176 : decode method_2_code 176 = .ok (.ldc2_w 59, 3) := by decide +kernel
theorem d1_179 : decode method_2_code 179 = .ok (.lastore, 1) := by decide +kernel
theorem d1_180 : decode method_2_code 180 = .ok (.dup, 1) := by decide +kernel
theorem d1_181 : decode method_2_code 181 = .ok (.bipush 26, 2) := by decide +kernel
theorem d1_183 : decode method_2_code 183 = .ok (.ldc2_w 61, 3) := by decide +kernel
theorem d1_186 : decode method_2_code 186 = .ok (.lastore, 1) := by decide +kernel
theorem d1_187 : decode method_2_code 187 = .ok (.dup, 1) := by decide +kernel
theorem d1_188 : decode method_2_code 188 = .ok (.bipush 27, 2) := by decide +kernel
theorem d1_190 : decode method_2_code 190 = .ok (.ldc2_w 63, 3) := by decide +kernel
theorem d1_193 : decode method_2_code 193 = .ok (.lastore, 1) := by decide +kernel
theorem d1_194 : decode method_2_code 194 = .ok (.dup, 1) := by decide +kernel
theorem d1_195 : decode method_2_code 195 = .ok (.bipush 28, 2) := by decide +kernel
theorem d1_197 : decode method_2_code 197 = .ok (.ldc2_w 65, 3) := by decide +kernel
theorem d1_200 : decode method_2_code 200 = .ok (.lastore, 1) := by decide +kernel
theorem d1_201 : decode method_2_code 201 = .ok (.dup, 1) := by decide +kernel
theorem d1_202 : decode method_2_code 202 = .ok (.bipush 29, 2) := by decide +kernel
theorem d1_204 : decode method_2_code 204 = .ok (.ldc2_w 67, 3) := by decide +kernel
theorem d1_207 : decode method_2_code 207 = .ok (.lastore, 1) := by decide +kernel
theorem d1_208 : decode method_2_code 208 = .ok (.dup, 1) := by decide +kernel
theorem d1_209 : decode method_2_code 209 = .ok (.bipush 30, 2) := by decide +kernel
theorem d1_211 : decode method_2_code 211 = .ok (.ldc2_w 69, 3) := by decide +kernel
theorem d1_214 : decode method_2_code 214 = .ok (.lastore, 1) := by decide +kernel
theorem d1_215 : decode method_2_code 215 = .ok (.dup, 1) := by decide +kernel
theorem d1_216 : decode method_2_code 216 = .ok (.bipush 31, 2) := by decide +kernel
theorem d1_218 : decode method_2_code 218 = .ok (.ldc2_w 71, 3) := by decide +kernel
theorem d1_221 : decode method_2_code 221 = .ok (.lastore, 1) := by decide +kernel
theorem d1_222 : decode method_2_code 222 = .ok (.areturn, 1) := by decide +kernel
theorem pn_0 : plainName "com/example/trawl/trawl/xml/XmlCharsIsNcNameStartCharPinLaw" = true := by first | (simp [plainName, overriddenIn]; done) | decide +kernel
theorem ef_1 (m : MethodId)  : entryFrame m #[] 0 = mkF m 0 #[] [] := by first | (simp [entryFrame, mkF, argsToLocals, Value.category]; done) | rfl
def own_p1_b : List Int64 := (((((((((((((((((((((((((((((((((((((((((((((((((((((((((((((((((List.replicate 32 (0 : Int64)).set 0 (-2147483648 : Int64))).set 1 (65 : Int64))).set 2 (91 : Int64))).set 3 (95 : Int64))).set 4 (96 : Int64))).set 5 (97 : Int64))).set 6 (123 : Int64))).set 7 (192 : Int64))).set 8 (215 : Int64))).set 9 (216 : Int64))).set 10 (247 : Int64))).set 11 (248 : Int64))).set 12 (768 : Int64))).set 13 (880 : Int64))).set 14 (894 : Int64))).set 15 (895 : Int64))).set 16 (8192 : Int64))).set 17 (8204 : Int64))).set 18 (8206 : Int64))).set 19 (8304 : Int64))).set 20 (8592 : Int64))).set 21 (11264 : Int64))).set 22 (12272 : Int64))).set 23 (12289 : Int64))).set 24 (55296 : Int64))).set 25 (63744 : Int64))).set 26 (64976 : Int64))).set 27 (65008 : Int64))).set 28 (65534 : Int64))).set 29 (65536 : Int64))).set 30 (983040 : Int64))).set 31 (2147483648 : Int64)))
def Q1 (Z : State) (h0 : Heap) (n0 : Nat) (v : Option Value) (h : Heap) (L : List Loc) : Prop := ∃ (b : Addr) (k : ClassId), v = some (.ref b) ∧ Fr n0 L ∧ Keep h0 h [] ∧ h0.size ≤ b ∧ own_AJ Z h b k .long (32 : Int32) (own_p1_b)
set_option maxRecDepth 65536 in
set_option maxHeartbeats 40000000 in
theorem rm1 (l : Launch) (Z : State) (aw : Array Value) (hw : ∀ d ∈ tables_1, d.before aw Z = true) (wq : List Jvm.Cond) (h0 : Heap) (n0 : Nat) (Z0 : n0 ≤ h0.size) :
    MetFree l (⟨"com/example/trawl/trawl/xml/XmlCharsIsNcNameStartCharPinLaw", "bounds", "()[J"⟩ : MethodName) (head1 (Jvm.Cond.code (⟨"com/example/trawl/trawl/xml/XmlCharsIsNcNameStartCharPinLaw", "bounds", "()[J"⟩ : MethodName) method_2_code 0 (some (.array .long)) :: wq) ({ frames := 0, cells := 1, slots := 32, locals := 0 } : Room)) (fun a U => a = #[] ∧ Z.Warmed39 U.vm ∧ U.heap = h0) (fun _ _ _ _ _ => True) (fun _ U o U' => ∃ v L, o = .returned v ∧ Q1 Z h0 n0 v U'.heap L ∧ FrameEnd U o U' L ({ frames := 0, cells := 1, slots := 32, locals := 0 } : Room).cells ({ frames := 0, cells := 1, slots := 32, locals := 0 } : Room).slots) := by
  refine MetFree.of_bodySF (plainFor_of_name pn_0) hisR ?_
  intro p e s m args below meth c s₁ Bd hml0 hP hK
  obtain ⟨rfl, hZ, hh⟩ := hP
  have hx := Bd.exec
  have hby := Bd.bytes
  have hml : c.maxLocals = 0 := hml0
  have hown : s.vm.findClass "com/example/trawl/trawl/xml/XmlCharsIsNcNameStartCharPinLaw" = some m.cls := findClass_of_methodNamed Bd.named
  have hnm := (name_of_methodNamed Bd.named Bd.method).1
  have X0 : Stand p l e ({ frames := 0, cells := 1, slots := 32, locals := 0 } : Room) s m #[] below meth c s₁ [] 0 0 := Stand.of_body Bd
  have e0 : s₁.heap = h0 := by rw [← hh, Bd.state]; rfl
  have N0 := Fr.nil n0
  have pre0 : own_Pre p e below (s₁.setTop (entryFrame m #[] 0)) (s₁.setTop (mkF m 0 #[] [])) := fun t k => castTop (ef_1 m) k
  obtain ⟨T1, h1, k1, X1, e1, E1, A1, st1⟩ := newP X0 hx hZ (hw _ (List.mem_of_getElem? (i := 4) rfl)) e0 (g := (mkF m 2 #[] [(.int (32 : Int32))])) rfl (hb hby d1_2) rfl (by decide) (cap := 32) (by decide) (by decide) (by decide) (by decide)
  obtain ⟨b, gq1⟩ : ∃ z, z = (h0).size := ⟨_, rfl⟩
  rw [← gq1] at A1 st1
  have g_b : n0 ≤ b := Nat.le_trans Z0 (Nat.le_of_eq gq1.symm)
  have sz_b : h0.size ≤ b := Nat.le_trans (Keep.refl h0 []).1 (Nat.le_of_eq gq1.symm)
  have kp2 : Keep h0 h1 [] := (Keep.refl h0 []).ext E1
  have V_b : own_AJ Z h1 b k1 .long (32 : Int32) (List.replicate 32 (0 : Int64)) := own_AJ.new 32 A1 (by decide) (by decide) rfl
  obtain ⟨cl3, Ar3, hin3, set3⟩ := own_AJ.arr V_b (j := (0 : Int32)) ⟨by decide, by decide⟩
  obtain ⟨T3, h3, X3, e3, W3, st3⟩ := stJ X1 hx hZ e1 Ar3 (j := (0 : Int32)) hin3 (g := (mkF m 9 #[] [(.long (-2147483648 : Int64)), (.int (0 : Int32)), (.ref b), (.ref b)])) rfl rfl (hb hby d1_9)
  have V3 : own_AJ Z h3 b k1 .long (32 : Int32) ((List.replicate 32 (0 : Int64)).set 0 (-2147483648 : Int64)) := set3 _ _ rfl W3
  obtain ⟨ws3, hws3⟩ : ∃ z, z = ((List.replicate 32 (0 : Int64)).set 0 (-2147483648 : Int64)) := ⟨_, rfl⟩
  rw [← hws3] at V3
  have N3 := Fr.snoc X3 N0 g_b
  have kp4 : Keep h0 h3 [] := kp2.wr W3 (Or.inr sz_b)
  obtain ⟨cl5, Ar5, hin5, set5⟩ := own_AJ.arr V3 (j := (1 : Int32)) ⟨by decide, by decide⟩
  obtain ⟨T5, h5, X5, e5, W5, st5⟩ := stJ X3 hx hZ e3 Ar5 (j := (1 : Int32)) hin5 (g := (mkF m 15 #[] [(.long (65 : Int64)), (.int (1 : Int32)), (.ref b), (.ref b)])) rfl rfl (hb hby d1_15)
  have V5 : own_AJ Z h5 b k1 .long (32 : Int32) (ws3.set 1 (65 : Int64)) := set5 _ _ rfl W5
  obtain ⟨ws5, hws5⟩ : ∃ z, z = (ws3.set 1 (65 : Int64)) := ⟨_, rfl⟩
  rw [← hws5] at V5
  have N5 := Fr.snoc X5 N3 g_b
  have kp6 : Keep h0 h5 [] := kp4.wr W5 (Or.inr sz_b)
  obtain ⟨cl7, Ar7, hin7, set7⟩ := own_AJ.arr V5 (j := (2 : Int32)) ⟨by decide, by decide⟩
  obtain ⟨T7, h7, X7, e7, W7, st7⟩ := stJ X5 hx hZ e5 Ar7 (j := (2 : Int32)) hin7 (g := (mkF m 21 #[] [(.long (91 : Int64)), (.int (2 : Int32)), (.ref b), (.ref b)])) rfl rfl (hb hby d1_21)
  have V7 : own_AJ Z h7 b k1 .long (32 : Int32) (ws5.set 2 (91 : Int64)) := set7 _ _ rfl W7
  obtain ⟨ws7, hws7⟩ : ∃ z, z = (ws5.set 2 (91 : Int64)) := ⟨_, rfl⟩
  rw [← hws7] at V7
  have N7 := Fr.snoc X7 N5 g_b
  have kp8 : Keep h0 h7 [] := kp6.wr W7 (Or.inr sz_b)
  obtain ⟨cl9, Ar9, hin9, set9⟩ := own_AJ.arr V7 (j := (3 : Int32)) ⟨by decide, by decide⟩
  obtain ⟨T9, h9, X9, e9, W9, st9⟩ := stJ X7 hx hZ e7 Ar9 (j := (3 : Int32)) hin9 (g := (mkF m 27 #[] [(.long (95 : Int64)), (.int (3 : Int32)), (.ref b), (.ref b)])) rfl rfl (hb hby d1_27)
  have V9 : own_AJ Z h9 b k1 .long (32 : Int32) (ws7.set 3 (95 : Int64)) := set9 _ _ rfl W9
  obtain ⟨ws9, hws9⟩ : ∃ z, z = (ws7.set 3 (95 : Int64)) := ⟨_, rfl⟩
  rw [← hws9] at V9
  have N9 := Fr.snoc X9 N7 g_b
  have kp10 : Keep h0 h9 [] := kp8.wr W9 (Or.inr sz_b)
  obtain ⟨cl11, Ar11, hin11, set11⟩ := own_AJ.arr V9 (j := (4 : Int32)) ⟨by decide, by decide⟩
  obtain ⟨T11, h11, X11, e11, W11, st11⟩ := stJ X9 hx hZ e9 Ar11 (j := (4 : Int32)) hin11 (g := (mkF m 33 #[] [(.long (96 : Int64)), (.int (4 : Int32)), (.ref b), (.ref b)])) rfl rfl (hb hby d1_33)
  have V11 : own_AJ Z h11 b k1 .long (32 : Int32) (ws9.set 4 (96 : Int64)) := set11 _ _ rfl W11
  obtain ⟨ws11, hws11⟩ : ∃ z, z = (ws9.set 4 (96 : Int64)) := ⟨_, rfl⟩
  rw [← hws11] at V11
  have N11 := Fr.snoc X11 N9 g_b
  have kp12 : Keep h0 h11 [] := kp10.wr W11 (Or.inr sz_b)
  obtain ⟨cl13, Ar13, hin13, set13⟩ := own_AJ.arr V11 (j := (5 : Int32)) ⟨by decide, by decide⟩
  obtain ⟨T13, h13, X13, e13, W13, st13⟩ := stJ X11 hx hZ e11 Ar13 (j := (5 : Int32)) hin13 (g := (mkF m 39 #[] [(.long (97 : Int64)), (.int (5 : Int32)), (.ref b), (.ref b)])) rfl rfl (hb hby d1_39)
  have V13 : own_AJ Z h13 b k1 .long (32 : Int32) (ws11.set 5 (97 : Int64)) := set13 _ _ rfl W13
  obtain ⟨ws13, hws13⟩ : ∃ z, z = (ws11.set 5 (97 : Int64)) := ⟨_, rfl⟩
  rw [← hws13] at V13
  have N13 := Fr.snoc X13 N11 g_b
  have kp14 : Keep h0 h13 [] := kp12.wr W13 (Or.inr sz_b)
  obtain ⟨cl15, Ar15, hin15, set15⟩ := own_AJ.arr V13 (j := (6 : Int32)) ⟨by decide, by decide⟩
  obtain ⟨T15, h15, X15, e15, W15, st15⟩ := stJ X13 hx hZ e13 Ar15 (j := (6 : Int32)) hin15 (g := (mkF m 46 #[] [(.long (123 : Int64)), (.int (6 : Int32)), (.ref b), (.ref b)])) rfl rfl (hb hby d1_46)
  have V15 : own_AJ Z h15 b k1 .long (32 : Int32) (ws13.set 6 (123 : Int64)) := set15 _ _ rfl W15
  obtain ⟨ws15, hws15⟩ : ∃ z, z = (ws13.set 6 (123 : Int64)) := ⟨_, rfl⟩
  rw [← hws15] at V15
  have N15 := Fr.snoc X15 N13 g_b
  have kp16 : Keep h0 h15 [] := kp14.wr W15 (Or.inr sz_b)
  obtain ⟨cl17, Ar17, hin17, set17⟩ := own_AJ.arr V15 (j := (7 : Int32)) ⟨by decide, by decide⟩
  obtain ⟨T17, h17, X17, e17, W17, st17⟩ := stJ X15 hx hZ e15 Ar17 (j := (7 : Int32)) hin17 (g := (mkF m 53 #[] [(.long (192 : Int64)), (.int (7 : Int32)), (.ref b), (.ref b)])) rfl rfl (hb hby d1_53)
  have V17 : own_AJ Z h17 b k1 .long (32 : Int32) (ws15.set 7 (192 : Int64)) := set17 _ _ rfl W17
  obtain ⟨ws17, hws17⟩ : ∃ z, z = (ws15.set 7 (192 : Int64)) := ⟨_, rfl⟩
  rw [← hws17] at V17
  have N17 := Fr.snoc X17 N15 g_b
  have kp18 : Keep h0 h17 [] := kp16.wr W17 (Or.inr sz_b)
  obtain ⟨cl19, Ar19, hin19, set19⟩ := own_AJ.arr V17 (j := (8 : Int32)) ⟨by decide, by decide⟩
  obtain ⟨T19, h19, X19, e19, W19, st19⟩ := stJ X17 hx hZ e17 Ar19 (j := (8 : Int32)) hin19 (g := (mkF m 60 #[] [(.long (215 : Int64)), (.int (8 : Int32)), (.ref b), (.ref b)])) rfl rfl (hb hby d1_60)
  have V19 : own_AJ Z h19 b k1 .long (32 : Int32) (ws17.set 8 (215 : Int64)) := set19 _ _ rfl W19
  obtain ⟨ws19, hws19⟩ : ∃ z, z = (ws17.set 8 (215 : Int64)) := ⟨_, rfl⟩
  rw [← hws19] at V19
  have N19 := Fr.snoc X19 N17 g_b
  have kp20 : Keep h0 h19 [] := kp18.wr W19 (Or.inr sz_b)
  obtain ⟨cl21, Ar21, hin21, set21⟩ := own_AJ.arr V19 (j := (9 : Int32)) ⟨by decide, by decide⟩
  obtain ⟨T21, h21, X21, e21, W21, st21⟩ := stJ X19 hx hZ e19 Ar21 (j := (9 : Int32)) hin21 (g := (mkF m 67 #[] [(.long (216 : Int64)), (.int (9 : Int32)), (.ref b), (.ref b)])) rfl rfl (hb hby d1_67)
  have V21 : own_AJ Z h21 b k1 .long (32 : Int32) (ws19.set 9 (216 : Int64)) := set21 _ _ rfl W21
  obtain ⟨ws21, hws21⟩ : ∃ z, z = (ws19.set 9 (216 : Int64)) := ⟨_, rfl⟩
  rw [← hws21] at V21
  have N21 := Fr.snoc X21 N19 g_b
  have kp22 : Keep h0 h21 [] := kp20.wr W21 (Or.inr sz_b)
  obtain ⟨cl23, Ar23, hin23, set23⟩ := own_AJ.arr V21 (j := (10 : Int32)) ⟨by decide, by decide⟩
  obtain ⟨T23, h23, X23, e23, W23, st23⟩ := stJ X21 hx hZ e21 Ar23 (j := (10 : Int32)) hin23 (g := (mkF m 74 #[] [(.long (247 : Int64)), (.int (10 : Int32)), (.ref b), (.ref b)])) rfl rfl (hb hby d1_74)
  have V23 : own_AJ Z h23 b k1 .long (32 : Int32) (ws21.set 10 (247 : Int64)) := set23 _ _ rfl W23
  obtain ⟨ws23, hws23⟩ : ∃ z, z = (ws21.set 10 (247 : Int64)) := ⟨_, rfl⟩
  rw [← hws23] at V23
  have N23 := Fr.snoc X23 N21 g_b
  have kp24 : Keep h0 h23 [] := kp22.wr W23 (Or.inr sz_b)
  obtain ⟨cl25, Ar25, hin25, set25⟩ := own_AJ.arr V23 (j := (11 : Int32)) ⟨by decide, by decide⟩
  obtain ⟨T25, h25, X25, e25, W25, st25⟩ := stJ X23 hx hZ e23 Ar25 (j := (11 : Int32)) hin25 (g := (mkF m 81 #[] [(.long (248 : Int64)), (.int (11 : Int32)), (.ref b), (.ref b)])) rfl rfl (hb hby d1_81)
  have V25 : own_AJ Z h25 b k1 .long (32 : Int32) (ws23.set 11 (248 : Int64)) := set25 _ _ rfl W25
  obtain ⟨ws25, hws25⟩ : ∃ z, z = (ws23.set 11 (248 : Int64)) := ⟨_, rfl⟩
  rw [← hws25] at V25
  have N25 := Fr.snoc X25 N23 g_b
  have kp26 : Keep h0 h25 [] := kp24.wr W25 (Or.inr sz_b)
  obtain ⟨cl27, Ar27, hin27, set27⟩ := own_AJ.arr V25 (j := (12 : Int32)) ⟨by decide, by decide⟩
  obtain ⟨T27, h27, X27, e27, W27, st27⟩ := stJ X25 hx hZ e25 Ar27 (j := (12 : Int32)) hin27 (g := (mkF m 88 #[] [(.long (768 : Int64)), (.int (12 : Int32)), (.ref b), (.ref b)])) rfl rfl (hb hby d1_88)
  have V27 : own_AJ Z h27 b k1 .long (32 : Int32) (ws25.set 12 (768 : Int64)) := set27 _ _ rfl W27
  obtain ⟨ws27, hws27⟩ : ∃ z, z = (ws25.set 12 (768 : Int64)) := ⟨_, rfl⟩
  rw [← hws27] at V27
  have N27 := Fr.snoc X27 N25 g_b
  have kp28 : Keep h0 h27 [] := kp26.wr W27 (Or.inr sz_b)
  obtain ⟨cl29, Ar29, hin29, set29⟩ := own_AJ.arr V27 (j := (13 : Int32)) ⟨by decide, by decide⟩
  obtain ⟨T29, h29, X29, e29, W29, st29⟩ := stJ X27 hx hZ e27 Ar29 (j := (13 : Int32)) hin29 (g := (mkF m 95 #[] [(.long (880 : Int64)), (.int (13 : Int32)), (.ref b), (.ref b)])) rfl rfl (hb hby d1_95)
  have V29 : own_AJ Z h29 b k1 .long (32 : Int32) (ws27.set 13 (880 : Int64)) := set29 _ _ rfl W29
  obtain ⟨ws29, hws29⟩ : ∃ z, z = (ws27.set 13 (880 : Int64)) := ⟨_, rfl⟩
  rw [← hws29] at V29
  have N29 := Fr.snoc X29 N27 g_b
  have kp30 : Keep h0 h29 [] := kp28.wr W29 (Or.inr sz_b)
  obtain ⟨cl31, Ar31, hin31, set31⟩ := own_AJ.arr V29 (j := (14 : Int32)) ⟨by decide, by decide⟩
  obtain ⟨T31, h31, X31, e31, W31, st31⟩ := stJ X29 hx hZ e29 Ar31 (j := (14 : Int32)) hin31 (g := (mkF m 102 #[] [(.long (894 : Int64)), (.int (14 : Int32)), (.ref b), (.ref b)])) rfl rfl (hb hby d1_102)
  have V31 : own_AJ Z h31 b k1 .long (32 : Int32) (ws29.set 14 (894 : Int64)) := set31 _ _ rfl W31
  obtain ⟨ws31, hws31⟩ : ∃ z, z = (ws29.set 14 (894 : Int64)) := ⟨_, rfl⟩
  rw [← hws31] at V31
  have N31 := Fr.snoc X31 N29 g_b
  have kp32 : Keep h0 h31 [] := kp30.wr W31 (Or.inr sz_b)
  obtain ⟨cl33, Ar33, hin33, set33⟩ := own_AJ.arr V31 (j := (15 : Int32)) ⟨by decide, by decide⟩
  obtain ⟨T33, h33, X33, e33, W33, st33⟩ := stJ X31 hx hZ e31 Ar33 (j := (15 : Int32)) hin33 (g := (mkF m 109 #[] [(.long (895 : Int64)), (.int (15 : Int32)), (.ref b), (.ref b)])) rfl rfl (hb hby d1_109)
  have V33 : own_AJ Z h33 b k1 .long (32 : Int32) (ws31.set 15 (895 : Int64)) := set33 _ _ rfl W33
  obtain ⟨ws33, hws33⟩ : ∃ z, z = (ws31.set 15 (895 : Int64)) := ⟨_, rfl⟩
  rw [← hws33] at V33
  have N33 := Fr.snoc X33 N31 g_b
  have kp34 : Keep h0 h33 [] := kp32.wr W33 (Or.inr sz_b)
  obtain ⟨cl35, Ar35, hin35, set35⟩ := own_AJ.arr V33 (j := (16 : Int32)) ⟨by decide, by decide⟩
  obtain ⟨T35, h35, X35, e35, W35, st35⟩ := stJ X33 hx hZ e33 Ar35 (j := (16 : Int32)) hin35 (g := (mkF m 116 #[] [(.long (8192 : Int64)), (.int (16 : Int32)), (.ref b), (.ref b)])) rfl rfl (hb hby d1_116)
  have V35 : own_AJ Z h35 b k1 .long (32 : Int32) (ws33.set 16 (8192 : Int64)) := set35 _ _ rfl W35
  obtain ⟨ws35, hws35⟩ : ∃ z, z = (ws33.set 16 (8192 : Int64)) := ⟨_, rfl⟩
  rw [← hws35] at V35
  have N35 := Fr.snoc X35 N33 g_b
  have kp36 : Keep h0 h35 [] := kp34.wr W35 (Or.inr sz_b)
  obtain ⟨cl37, Ar37, hin37, set37⟩ := own_AJ.arr V35 (j := (17 : Int32)) ⟨by decide, by decide⟩
  obtain ⟨T37, h37, X37, e37, W37, st37⟩ := stJ X35 hx hZ e35 Ar37 (j := (17 : Int32)) hin37 (g := (mkF m 123 #[] [(.long (8204 : Int64)), (.int (17 : Int32)), (.ref b), (.ref b)])) rfl rfl (hb hby d1_123)
  have V37 : own_AJ Z h37 b k1 .long (32 : Int32) (ws35.set 17 (8204 : Int64)) := set37 _ _ rfl W37
  obtain ⟨ws37, hws37⟩ : ∃ z, z = (ws35.set 17 (8204 : Int64)) := ⟨_, rfl⟩
  rw [← hws37] at V37
  have N37 := Fr.snoc X37 N35 g_b
  have kp38 : Keep h0 h37 [] := kp36.wr W37 (Or.inr sz_b)
  obtain ⟨cl39, Ar39, hin39, set39⟩ := own_AJ.arr V37 (j := (18 : Int32)) ⟨by decide, by decide⟩
  obtain ⟨T39, h39, X39, e39, W39, st39⟩ := stJ X37 hx hZ e37 Ar39 (j := (18 : Int32)) hin39 (g := (mkF m 130 #[] [(.long (8206 : Int64)), (.int (18 : Int32)), (.ref b), (.ref b)])) rfl rfl (hb hby d1_130)
  have V39 : own_AJ Z h39 b k1 .long (32 : Int32) (ws37.set 18 (8206 : Int64)) := set39 _ _ rfl W39
  obtain ⟨ws39, hws39⟩ : ∃ z, z = (ws37.set 18 (8206 : Int64)) := ⟨_, rfl⟩
  rw [← hws39] at V39
  have N39 := Fr.snoc X39 N37 g_b
  have kp40 : Keep h0 h39 [] := kp38.wr W39 (Or.inr sz_b)
  obtain ⟨cl41, Ar41, hin41, set41⟩ := own_AJ.arr V39 (j := (19 : Int32)) ⟨by decide, by decide⟩
  obtain ⟨T41, h41, X41, e41, W41, st41⟩ := stJ X39 hx hZ e39 Ar41 (j := (19 : Int32)) hin41 (g := (mkF m 137 #[] [(.long (8304 : Int64)), (.int (19 : Int32)), (.ref b), (.ref b)])) rfl rfl (hb hby d1_137)
  have V41 : own_AJ Z h41 b k1 .long (32 : Int32) (ws39.set 19 (8304 : Int64)) := set41 _ _ rfl W41
  obtain ⟨ws41, hws41⟩ : ∃ z, z = (ws39.set 19 (8304 : Int64)) := ⟨_, rfl⟩
  rw [← hws41] at V41
  have N41 := Fr.snoc X41 N39 g_b
  have kp42 : Keep h0 h41 [] := kp40.wr W41 (Or.inr sz_b)
  obtain ⟨cl43, Ar43, hin43, set43⟩ := own_AJ.arr V41 (j := (20 : Int32)) ⟨by decide, by decide⟩
  obtain ⟨T43, h43, X43, e43, W43, st43⟩ := stJ X41 hx hZ e41 Ar43 (j := (20 : Int32)) hin43 (g := (mkF m 144 #[] [(.long (8592 : Int64)), (.int (20 : Int32)), (.ref b), (.ref b)])) rfl rfl (hb hby d1_144)
  have V43 : own_AJ Z h43 b k1 .long (32 : Int32) (ws41.set 20 (8592 : Int64)) := set43 _ _ rfl W43
  obtain ⟨ws43, hws43⟩ : ∃ z, z = (ws41.set 20 (8592 : Int64)) := ⟨_, rfl⟩
  rw [← hws43] at V43
  have N43 := Fr.snoc X43 N41 g_b
  have kp44 : Keep h0 h43 [] := kp42.wr W43 (Or.inr sz_b)
  obtain ⟨cl45, Ar45, hin45, set45⟩ := own_AJ.arr V43 (j := (21 : Int32)) ⟨by decide, by decide⟩
  obtain ⟨T45, h45, X45, e45, W45, st45⟩ := stJ X43 hx hZ e43 Ar45 (j := (21 : Int32)) hin45 (g := (mkF m 151 #[] [(.long (11264 : Int64)), (.int (21 : Int32)), (.ref b), (.ref b)])) rfl rfl (hb hby d1_151)
  have V45 : own_AJ Z h45 b k1 .long (32 : Int32) (ws43.set 21 (11264 : Int64)) := set45 _ _ rfl W45
  obtain ⟨ws45, hws45⟩ : ∃ z, z = (ws43.set 21 (11264 : Int64)) := ⟨_, rfl⟩
  rw [← hws45] at V45
  have N45 := Fr.snoc X45 N43 g_b
  have kp46 : Keep h0 h45 [] := kp44.wr W45 (Or.inr sz_b)
  obtain ⟨cl47, Ar47, hin47, set47⟩ := own_AJ.arr V45 (j := (22 : Int32)) ⟨by decide, by decide⟩
  obtain ⟨T47, h47, X47, e47, W47, st47⟩ := stJ X45 hx hZ e45 Ar47 (j := (22 : Int32)) hin47 (g := (mkF m 158 #[] [(.long (12272 : Int64)), (.int (22 : Int32)), (.ref b), (.ref b)])) rfl rfl (hb hby d1_158)
  have V47 : own_AJ Z h47 b k1 .long (32 : Int32) (ws45.set 22 (12272 : Int64)) := set47 _ _ rfl W47
  obtain ⟨ws47, hws47⟩ : ∃ z, z = (ws45.set 22 (12272 : Int64)) := ⟨_, rfl⟩
  rw [← hws47] at V47
  have N47 := Fr.snoc X47 N45 g_b
  have kp48 : Keep h0 h47 [] := kp46.wr W47 (Or.inr sz_b)
  obtain ⟨cl49, Ar49, hin49, set49⟩ := own_AJ.arr V47 (j := (23 : Int32)) ⟨by decide, by decide⟩
  obtain ⟨T49, h49, X49, e49, W49, st49⟩ := stJ X47 hx hZ e47 Ar49 (j := (23 : Int32)) hin49 (g := (mkF m 165 #[] [(.long (12289 : Int64)), (.int (23 : Int32)), (.ref b), (.ref b)])) rfl rfl (hb hby d1_165)
  have V49 : own_AJ Z h49 b k1 .long (32 : Int32) (ws47.set 23 (12289 : Int64)) := set49 _ _ rfl W49
  obtain ⟨ws49, hws49⟩ : ∃ z, z = (ws47.set 23 (12289 : Int64)) := ⟨_, rfl⟩
  rw [← hws49] at V49
  have N49 := Fr.snoc X49 N47 g_b
  have kp50 : Keep h0 h49 [] := kp48.wr W49 (Or.inr sz_b)
  obtain ⟨cl51, Ar51, hin51, set51⟩ := own_AJ.arr V49 (j := (24 : Int32)) ⟨by decide, by decide⟩
  obtain ⟨T51, h51, X51, e51, W51, st51⟩ := stJ X49 hx hZ e49 Ar51 (j := (24 : Int32)) hin51 (g := (mkF m 172 #[] [(.long (55296 : Int64)), (.int (24 : Int32)), (.ref b), (.ref b)])) rfl rfl (hb hby d1_172)
  have V51 : own_AJ Z h51 b k1 .long (32 : Int32) (ws49.set 24 (55296 : Int64)) := set51 _ _ rfl W51
  obtain ⟨ws51, hws51⟩ : ∃ z, z = (ws49.set 24 (55296 : Int64)) := ⟨_, rfl⟩
  rw [← hws51] at V51
  have N51 := Fr.snoc X51 N49 g_b
  have kp52 : Keep h0 h51 [] := kp50.wr W51 (Or.inr sz_b)
  obtain ⟨cl53, Ar53, hin53, set53⟩ := own_AJ.arr V51 (j := (25 : Int32)) ⟨by decide, by decide⟩
  obtain ⟨T53, h53, X53, e53, W53, st53⟩ := stJ X51 hx hZ e51 Ar53 (j := (25 : Int32)) hin53 (g := (mkF m 179 #[] [(.long (63744 : Int64)), (.int (25 : Int32)), (.ref b), (.ref b)])) rfl rfl (hb hby d1_179)
  have V53 : own_AJ Z h53 b k1 .long (32 : Int32) (ws51.set 25 (63744 : Int64)) := set53 _ _ rfl W53
  obtain ⟨ws53, hws53⟩ : ∃ z, z = (ws51.set 25 (63744 : Int64)) := ⟨_, rfl⟩
  rw [← hws53] at V53
  have N53 := Fr.snoc X53 N51 g_b
  have kp54 : Keep h0 h53 [] := kp52.wr W53 (Or.inr sz_b)
  obtain ⟨cl55, Ar55, hin55, set55⟩ := own_AJ.arr V53 (j := (26 : Int32)) ⟨by decide, by decide⟩
  obtain ⟨T55, h55, X55, e55, W55, st55⟩ := stJ X53 hx hZ e53 Ar55 (j := (26 : Int32)) hin55 (g := (mkF m 186 #[] [(.long (64976 : Int64)), (.int (26 : Int32)), (.ref b), (.ref b)])) rfl rfl (hb hby d1_186)
  have V55 : own_AJ Z h55 b k1 .long (32 : Int32) (ws53.set 26 (64976 : Int64)) := set55 _ _ rfl W55
  obtain ⟨ws55, hws55⟩ : ∃ z, z = (ws53.set 26 (64976 : Int64)) := ⟨_, rfl⟩
  rw [← hws55] at V55
  have N55 := Fr.snoc X55 N53 g_b
  have kp56 : Keep h0 h55 [] := kp54.wr W55 (Or.inr sz_b)
  obtain ⟨cl57, Ar57, hin57, set57⟩ := own_AJ.arr V55 (j := (27 : Int32)) ⟨by decide, by decide⟩
  obtain ⟨T57, h57, X57, e57, W57, st57⟩ := stJ X55 hx hZ e55 Ar57 (j := (27 : Int32)) hin57 (g := (mkF m 193 #[] [(.long (65008 : Int64)), (.int (27 : Int32)), (.ref b), (.ref b)])) rfl rfl (hb hby d1_193)
  have V57 : own_AJ Z h57 b k1 .long (32 : Int32) (ws55.set 27 (65008 : Int64)) := set57 _ _ rfl W57
  obtain ⟨ws57, hws57⟩ : ∃ z, z = (ws55.set 27 (65008 : Int64)) := ⟨_, rfl⟩
  rw [← hws57] at V57
  have N57 := Fr.snoc X57 N55 g_b
  have kp58 : Keep h0 h57 [] := kp56.wr W57 (Or.inr sz_b)
  obtain ⟨cl59, Ar59, hin59, set59⟩ := own_AJ.arr V57 (j := (28 : Int32)) ⟨by decide, by decide⟩
  obtain ⟨T59, h59, X59, e59, W59, st59⟩ := stJ X57 hx hZ e57 Ar59 (j := (28 : Int32)) hin59 (g := (mkF m 200 #[] [(.long (65534 : Int64)), (.int (28 : Int32)), (.ref b), (.ref b)])) rfl rfl (hb hby d1_200)
  have V59 : own_AJ Z h59 b k1 .long (32 : Int32) (ws57.set 28 (65534 : Int64)) := set59 _ _ rfl W59
  obtain ⟨ws59, hws59⟩ : ∃ z, z = (ws57.set 28 (65534 : Int64)) := ⟨_, rfl⟩
  rw [← hws59] at V59
  have N59 := Fr.snoc X59 N57 g_b
  have kp60 : Keep h0 h59 [] := kp58.wr W59 (Or.inr sz_b)
  obtain ⟨cl61, Ar61, hin61, set61⟩ := own_AJ.arr V59 (j := (29 : Int32)) ⟨by decide, by decide⟩
  obtain ⟨T61, h61, X61, e61, W61, st61⟩ := stJ X59 hx hZ e59 Ar61 (j := (29 : Int32)) hin61 (g := (mkF m 207 #[] [(.long (65536 : Int64)), (.int (29 : Int32)), (.ref b), (.ref b)])) rfl rfl (hb hby d1_207)
  have V61 : own_AJ Z h61 b k1 .long (32 : Int32) (ws59.set 29 (65536 : Int64)) := set61 _ _ rfl W61
  obtain ⟨ws61, hws61⟩ : ∃ z, z = (ws59.set 29 (65536 : Int64)) := ⟨_, rfl⟩
  rw [← hws61] at V61
  have N61 := Fr.snoc X61 N59 g_b
  have kp62 : Keep h0 h61 [] := kp60.wr W61 (Or.inr sz_b)
  obtain ⟨cl63, Ar63, hin63, set63⟩ := own_AJ.arr V61 (j := (30 : Int32)) ⟨by decide, by decide⟩
  obtain ⟨T63, h63, X63, e63, W63, st63⟩ := stJ X61 hx hZ e61 Ar63 (j := (30 : Int32)) hin63 (g := (mkF m 214 #[] [(.long (983040 : Int64)), (.int (30 : Int32)), (.ref b), (.ref b)])) rfl rfl (hb hby d1_214)
  have V63 : own_AJ Z h63 b k1 .long (32 : Int32) (ws61.set 30 (983040 : Int64)) := set63 _ _ rfl W63
  obtain ⟨ws63, hws63⟩ : ∃ z, z = (ws61.set 30 (983040 : Int64)) := ⟨_, rfl⟩
  rw [← hws63] at V63
  have N63 := Fr.snoc X63 N61 g_b
  have kp64 : Keep h0 h63 [] := kp62.wr W63 (Or.inr sz_b)
  obtain ⟨cl65, Ar65, hin65, set65⟩ := own_AJ.arr V63 (j := (31 : Int32)) ⟨by decide, by decide⟩
  obtain ⟨T65, h65, X65, e65, W65, st65⟩ := stJ X63 hx hZ e63 Ar65 (j := (31 : Int32)) hin65 (g := (mkF m 221 #[] [(.long (2147483648 : Int64)), (.int (31 : Int32)), (.ref b), (.ref b)])) rfl rfl (hb hby d1_221)
  have V65 : own_AJ Z h65 b k1 .long (32 : Int32) (ws63.set 31 (2147483648 : Int64)) := set65 _ _ rfl W65
  obtain ⟨ws65, hws65⟩ : ∃ z, z = (ws63.set 31 (2147483648 : Int64)) := ⟨_, rfl⟩
  rw [← hws65] at V65
  have N65 := Fr.snoc X65 N63 g_b
  have kp66 : Keep h0 h65 [] := kp64.wr W65 (Or.inr sz_b)
  obtain ⟨fs, hr, hrun, hended, hW, hsame⟩ := X65.leave (v := some (.ref b)) (fun h => by rw [Bd.returns] at h; cases h)
  refine ⟨_, _, pre0 _ ?_, hrun, hended, _, _, rfl, ?_, ⟨_, rfl⟩, hW, hsame.mono (by decide) (by decide)⟩
  · show Steps p.tables e below (s₁.setTop (mkF m 0 #[] [])) _
    refine XS.bipush X0.here hx rfl (hb hby d1_0) ?_
    show Steps p.tables e below (s₁.setTop (mkF m 2 #[] [(.int (32 : Int32))])) _
    refine st1 _ ?_
    show Steps p.tables e below (T1.setTop (mkF m 4 #[] [(.ref b)])) _
    refine XS.dup X1.here hx rfl (hb hby d1_4) rfl rfl ?_
    show Steps p.tables e below (T1.setTop (mkF m 5 #[] [(.ref b), (.ref b)])) _
    refine XS.iconst X1.here hx rfl (hb hby d1_5) ?_
    show Steps p.tables e below (T1.setTop (mkF m 6 #[] [(.int (0 : Int32)), (.ref b), (.ref b)])) _
    refine X1.ldc2Long hx hown (mvT hZ (hw _ (List.mem_of_getElem? (i := 5) rfl))) (g := (mkF m 6 #[] [(.int (0 : Int32)), (.ref b), (.ref b)])) rfl (hb hby d1_6) _ ?_
    show Steps p.tables e below (T1.setTop (mkF m 9 #[] [(.long (-2147483648 : Int64)), (.int (0 : Int32)), (.ref b), (.ref b)])) _
    refine st3 _ ?_
    show Steps p.tables e below (T3.setTop (mkF m 10 #[] [(.ref b)])) _
    refine XS.dup X3.here hx rfl (hb hby d1_10) rfl rfl ?_
    show Steps p.tables e below (T3.setTop (mkF m 11 #[] [(.ref b), (.ref b)])) _
    refine XS.iconst X3.here hx rfl (hb hby d1_11) ?_
    show Steps p.tables e below (T3.setTop (mkF m 12 #[] [(.int (1 : Int32)), (.ref b), (.ref b)])) _
    refine X3.ldc2Long hx hown (mvT hZ (hw _ (List.mem_of_getElem? (i := 6) rfl))) (g := (mkF m 12 #[] [(.int (1 : Int32)), (.ref b), (.ref b)])) rfl (hb hby d1_12) _ ?_
    show Steps p.tables e below (T3.setTop (mkF m 15 #[] [(.long (65 : Int64)), (.int (1 : Int32)), (.ref b), (.ref b)])) _
    refine st5 _ ?_
    show Steps p.tables e below (T5.setTop (mkF m 16 #[] [(.ref b)])) _
    refine XS.dup X5.here hx rfl (hb hby d1_16) rfl rfl ?_
    show Steps p.tables e below (T5.setTop (mkF m 17 #[] [(.ref b), (.ref b)])) _
    refine XS.iconst X5.here hx rfl (hb hby d1_17) ?_
    show Steps p.tables e below (T5.setTop (mkF m 18 #[] [(.int (2 : Int32)), (.ref b), (.ref b)])) _
    refine X5.ldc2Long hx hown (mvT hZ (hw _ (List.mem_of_getElem? (i := 7) rfl))) (g := (mkF m 18 #[] [(.int (2 : Int32)), (.ref b), (.ref b)])) rfl (hb hby d1_18) _ ?_
    show Steps p.tables e below (T5.setTop (mkF m 21 #[] [(.long (91 : Int64)), (.int (2 : Int32)), (.ref b), (.ref b)])) _
    refine st7 _ ?_
    show Steps p.tables e below (T7.setTop (mkF m 22 #[] [(.ref b)])) _
    refine XS.dup X7.here hx rfl (hb hby d1_22) rfl rfl ?_
    show Steps p.tables e below (T7.setTop (mkF m 23 #[] [(.ref b), (.ref b)])) _
    refine XS.iconst X7.here hx rfl (hb hby d1_23) ?_
    show Steps p.tables e below (T7.setTop (mkF m 24 #[] [(.int (3 : Int32)), (.ref b), (.ref b)])) _
    refine X7.ldc2Long hx hown (mvT hZ (hw _ (List.mem_of_getElem? (i := 8) rfl))) (g := (mkF m 24 #[] [(.int (3 : Int32)), (.ref b), (.ref b)])) rfl (hb hby d1_24) _ ?_
    show Steps p.tables e below (T7.setTop (mkF m 27 #[] [(.long (95 : Int64)), (.int (3 : Int32)), (.ref b), (.ref b)])) _
    refine st9 _ ?_
    show Steps p.tables e below (T9.setTop (mkF m 28 #[] [(.ref b)])) _
    refine XS.dup X9.here hx rfl (hb hby d1_28) rfl rfl ?_
    show Steps p.tables e below (T9.setTop (mkF m 29 #[] [(.ref b), (.ref b)])) _
    refine XS.iconst X9.here hx rfl (hb hby d1_29) ?_
    show Steps p.tables e below (T9.setTop (mkF m 30 #[] [(.int (4 : Int32)), (.ref b), (.ref b)])) _
    refine X9.ldc2Long hx hown (mvT hZ (hw _ (List.mem_of_getElem? (i := 9) rfl))) (g := (mkF m 30 #[] [(.int (4 : Int32)), (.ref b), (.ref b)])) rfl (hb hby d1_30) _ ?_
    show Steps p.tables e below (T9.setTop (mkF m 33 #[] [(.long (96 : Int64)), (.int (4 : Int32)), (.ref b), (.ref b)])) _
    refine st11 _ ?_
    show Steps p.tables e below (T11.setTop (mkF m 34 #[] [(.ref b)])) _
    refine XS.dup X11.here hx rfl (hb hby d1_34) rfl rfl ?_
    show Steps p.tables e below (T11.setTop (mkF m 35 #[] [(.ref b), (.ref b)])) _
    refine XS.iconst X11.here hx rfl (hb hby d1_35) ?_
    show Steps p.tables e below (T11.setTop (mkF m 36 #[] [(.int (5 : Int32)), (.ref b), (.ref b)])) _
    refine X11.ldc2Long hx hown (mvT hZ (hw _ (List.mem_of_getElem? (i := 10) rfl))) (g := (mkF m 36 #[] [(.int (5 : Int32)), (.ref b), (.ref b)])) rfl (hb hby d1_36) _ ?_
    show Steps p.tables e below (T11.setTop (mkF m 39 #[] [(.long (97 : Int64)), (.int (5 : Int32)), (.ref b), (.ref b)])) _
    refine st13 _ ?_
    show Steps p.tables e below (T13.setTop (mkF m 40 #[] [(.ref b)])) _
    refine XS.dup X13.here hx rfl (hb hby d1_40) rfl rfl ?_
    show Steps p.tables e below (T13.setTop (mkF m 41 #[] [(.ref b), (.ref b)])) _
    refine XS.bipush X13.here hx rfl (hb hby d1_41) ?_
    show Steps p.tables e below (T13.setTop (mkF m 43 #[] [(.int (6 : Int32)), (.ref b), (.ref b)])) _
    refine X13.ldc2Long hx hown (mvT hZ (hw _ (List.mem_of_getElem? (i := 11) rfl))) (g := (mkF m 43 #[] [(.int (6 : Int32)), (.ref b), (.ref b)])) rfl (hb hby d1_43) _ ?_
    show Steps p.tables e below (T13.setTop (mkF m 46 #[] [(.long (123 : Int64)), (.int (6 : Int32)), (.ref b), (.ref b)])) _
    refine st15 _ ?_
    show Steps p.tables e below (T15.setTop (mkF m 47 #[] [(.ref b)])) _
    refine XS.dup X15.here hx rfl (hb hby d1_47) rfl rfl ?_
    show Steps p.tables e below (T15.setTop (mkF m 48 #[] [(.ref b), (.ref b)])) _
    refine XS.bipush X15.here hx rfl (hb hby d1_48) ?_
    show Steps p.tables e below (T15.setTop (mkF m 50 #[] [(.int (7 : Int32)), (.ref b), (.ref b)])) _
    refine X15.ldc2Long hx hown (mvT hZ (hw _ (List.mem_of_getElem? (i := 12) rfl))) (g := (mkF m 50 #[] [(.int (7 : Int32)), (.ref b), (.ref b)])) rfl (hb hby d1_50) _ ?_
    show Steps p.tables e below (T15.setTop (mkF m 53 #[] [(.long (192 : Int64)), (.int (7 : Int32)), (.ref b), (.ref b)])) _
    refine st17 _ ?_
    show Steps p.tables e below (T17.setTop (mkF m 54 #[] [(.ref b)])) _
    refine XS.dup X17.here hx rfl (hb hby d1_54) rfl rfl ?_
    show Steps p.tables e below (T17.setTop (mkF m 55 #[] [(.ref b), (.ref b)])) _
    refine XS.bipush X17.here hx rfl (hb hby d1_55) ?_
    show Steps p.tables e below (T17.setTop (mkF m 57 #[] [(.int (8 : Int32)), (.ref b), (.ref b)])) _
    refine X17.ldc2Long hx hown (mvT hZ (hw _ (List.mem_of_getElem? (i := 13) rfl))) (g := (mkF m 57 #[] [(.int (8 : Int32)), (.ref b), (.ref b)])) rfl (hb hby d1_57) _ ?_
    show Steps p.tables e below (T17.setTop (mkF m 60 #[] [(.long (215 : Int64)), (.int (8 : Int32)), (.ref b), (.ref b)])) _
    refine st19 _ ?_
    show Steps p.tables e below (T19.setTop (mkF m 61 #[] [(.ref b)])) _
    refine XS.dup X19.here hx rfl (hb hby d1_61) rfl rfl ?_
    show Steps p.tables e below (T19.setTop (mkF m 62 #[] [(.ref b), (.ref b)])) _
    refine XS.bipush X19.here hx rfl (hb hby d1_62) ?_
    show Steps p.tables e below (T19.setTop (mkF m 64 #[] [(.int (9 : Int32)), (.ref b), (.ref b)])) _
    refine X19.ldc2Long hx hown (mvT hZ (hw _ (List.mem_of_getElem? (i := 14) rfl))) (g := (mkF m 64 #[] [(.int (9 : Int32)), (.ref b), (.ref b)])) rfl (hb hby d1_64) _ ?_
    show Steps p.tables e below (T19.setTop (mkF m 67 #[] [(.long (216 : Int64)), (.int (9 : Int32)), (.ref b), (.ref b)])) _
    refine st21 _ ?_
    show Steps p.tables e below (T21.setTop (mkF m 68 #[] [(.ref b)])) _
    refine XS.dup X21.here hx rfl (hb hby d1_68) rfl rfl ?_
    show Steps p.tables e below (T21.setTop (mkF m 69 #[] [(.ref b), (.ref b)])) _
    refine XS.bipush X21.here hx rfl (hb hby d1_69) ?_
    show Steps p.tables e below (T21.setTop (mkF m 71 #[] [(.int (10 : Int32)), (.ref b), (.ref b)])) _
    refine X21.ldc2Long hx hown (mvT hZ (hw _ (List.mem_of_getElem? (i := 15) rfl))) (g := (mkF m 71 #[] [(.int (10 : Int32)), (.ref b), (.ref b)])) rfl (hb hby d1_71) _ ?_
    show Steps p.tables e below (T21.setTop (mkF m 74 #[] [(.long (247 : Int64)), (.int (10 : Int32)), (.ref b), (.ref b)])) _
    refine st23 _ ?_
    show Steps p.tables e below (T23.setTop (mkF m 75 #[] [(.ref b)])) _
    refine XS.dup X23.here hx rfl (hb hby d1_75) rfl rfl ?_
    show Steps p.tables e below (T23.setTop (mkF m 76 #[] [(.ref b), (.ref b)])) _
    refine XS.bipush X23.here hx rfl (hb hby d1_76) ?_
    show Steps p.tables e below (T23.setTop (mkF m 78 #[] [(.int (11 : Int32)), (.ref b), (.ref b)])) _
    refine X23.ldc2Long hx hown (mvT hZ (hw _ (List.mem_of_getElem? (i := 16) rfl))) (g := (mkF m 78 #[] [(.int (11 : Int32)), (.ref b), (.ref b)])) rfl (hb hby d1_78) _ ?_
    show Steps p.tables e below (T23.setTop (mkF m 81 #[] [(.long (248 : Int64)), (.int (11 : Int32)), (.ref b), (.ref b)])) _
    refine st25 _ ?_
    show Steps p.tables e below (T25.setTop (mkF m 82 #[] [(.ref b)])) _
    refine XS.dup X25.here hx rfl (hb hby d1_82) rfl rfl ?_
    show Steps p.tables e below (T25.setTop (mkF m 83 #[] [(.ref b), (.ref b)])) _
    refine XS.bipush X25.here hx rfl (hb hby d1_83) ?_
    show Steps p.tables e below (T25.setTop (mkF m 85 #[] [(.int (12 : Int32)), (.ref b), (.ref b)])) _
    refine X25.ldc2Long hx hown (mvT hZ (hw _ (List.mem_of_getElem? (i := 17) rfl))) (g := (mkF m 85 #[] [(.int (12 : Int32)), (.ref b), (.ref b)])) rfl (hb hby d1_85) _ ?_
    show Steps p.tables e below (T25.setTop (mkF m 88 #[] [(.long (768 : Int64)), (.int (12 : Int32)), (.ref b), (.ref b)])) _
    refine st27 _ ?_
    show Steps p.tables e below (T27.setTop (mkF m 89 #[] [(.ref b)])) _
    refine XS.dup X27.here hx rfl (hb hby d1_89) rfl rfl ?_
    show Steps p.tables e below (T27.setTop (mkF m 90 #[] [(.ref b), (.ref b)])) _
    refine XS.bipush X27.here hx rfl (hb hby d1_90) ?_
    show Steps p.tables e below (T27.setTop (mkF m 92 #[] [(.int (13 : Int32)), (.ref b), (.ref b)])) _
    refine X27.ldc2Long hx hown (mvT hZ (hw _ (List.mem_of_getElem? (i := 18) rfl))) (g := (mkF m 92 #[] [(.int (13 : Int32)), (.ref b), (.ref b)])) rfl (hb hby d1_92) _ ?_
    show Steps p.tables e below (T27.setTop (mkF m 95 #[] [(.long (880 : Int64)), (.int (13 : Int32)), (.ref b), (.ref b)])) _
    refine st29 _ ?_
    show Steps p.tables e below (T29.setTop (mkF m 96 #[] [(.ref b)])) _
    refine XS.dup X29.here hx rfl (hb hby d1_96) rfl rfl ?_
    show Steps p.tables e below (T29.setTop (mkF m 97 #[] [(.ref b), (.ref b)])) _
    refine XS.bipush X29.here hx rfl (hb hby d1_97) ?_
    show Steps p.tables e below (T29.setTop (mkF m 99 #[] [(.int (14 : Int32)), (.ref b), (.ref b)])) _
    refine X29.ldc2Long hx hown (mvT hZ (hw _ (List.mem_of_getElem? (i := 19) rfl))) (g := (mkF m 99 #[] [(.int (14 : Int32)), (.ref b), (.ref b)])) rfl (hb hby d1_99) _ ?_
    show Steps p.tables e below (T29.setTop (mkF m 102 #[] [(.long (894 : Int64)), (.int (14 : Int32)), (.ref b), (.ref b)])) _
    refine st31 _ ?_
    show Steps p.tables e below (T31.setTop (mkF m 103 #[] [(.ref b)])) _
    refine XS.dup X31.here hx rfl (hb hby d1_103) rfl rfl ?_
    show Steps p.tables e below (T31.setTop (mkF m 104 #[] [(.ref b), (.ref b)])) _
    refine XS.bipush X31.here hx rfl (hb hby d1_104) ?_
    show Steps p.tables e below (T31.setTop (mkF m 106 #[] [(.int (15 : Int32)), (.ref b), (.ref b)])) _
    refine X31.ldc2Long hx hown (mvT hZ (hw _ (List.mem_of_getElem? (i := 20) rfl))) (g := (mkF m 106 #[] [(.int (15 : Int32)), (.ref b), (.ref b)])) rfl (hb hby d1_106) _ ?_
    show Steps p.tables e below (T31.setTop (mkF m 109 #[] [(.long (895 : Int64)), (.int (15 : Int32)), (.ref b), (.ref b)])) _
    refine st33 _ ?_
    show Steps p.tables e below (T33.setTop (mkF m 110 #[] [(.ref b)])) _
    refine XS.dup X33.here hx rfl (hb hby d1_110) rfl rfl ?_
    show Steps p.tables e below (T33.setTop (mkF m 111 #[] [(.ref b), (.ref b)])) _
    refine XS.bipush X33.here hx rfl (hb hby d1_111) ?_
    show Steps p.tables e below (T33.setTop (mkF m 113 #[] [(.int (16 : Int32)), (.ref b), (.ref b)])) _
    refine X33.ldc2Long hx hown (mvT hZ (hw _ (List.mem_of_getElem? (i := 21) rfl))) (g := (mkF m 113 #[] [(.int (16 : Int32)), (.ref b), (.ref b)])) rfl (hb hby d1_113) _ ?_
    show Steps p.tables e below (T33.setTop (mkF m 116 #[] [(.long (8192 : Int64)), (.int (16 : Int32)), (.ref b), (.ref b)])) _
    refine st35 _ ?_
    show Steps p.tables e below (T35.setTop (mkF m 117 #[] [(.ref b)])) _
    refine XS.dup X35.here hx rfl (hb hby d1_117) rfl rfl ?_
    show Steps p.tables e below (T35.setTop (mkF m 118 #[] [(.ref b), (.ref b)])) _
    refine XS.bipush X35.here hx rfl (hb hby d1_118) ?_
    show Steps p.tables e below (T35.setTop (mkF m 120 #[] [(.int (17 : Int32)), (.ref b), (.ref b)])) _
    refine X35.ldc2Long hx hown (mvT hZ (hw _ (List.mem_of_getElem? (i := 22) rfl))) (g := (mkF m 120 #[] [(.int (17 : Int32)), (.ref b), (.ref b)])) rfl (hb hby d1_120) _ ?_
    show Steps p.tables e below (T35.setTop (mkF m 123 #[] [(.long (8204 : Int64)), (.int (17 : Int32)), (.ref b), (.ref b)])) _
    refine st37 _ ?_
    show Steps p.tables e below (T37.setTop (mkF m 124 #[] [(.ref b)])) _
    refine XS.dup X37.here hx rfl (hb hby d1_124) rfl rfl ?_
    show Steps p.tables e below (T37.setTop (mkF m 125 #[] [(.ref b), (.ref b)])) _
    refine XS.bipush X37.here hx rfl (hb hby d1_125) ?_
    show Steps p.tables e below (T37.setTop (mkF m 127 #[] [(.int (18 : Int32)), (.ref b), (.ref b)])) _
    refine X37.ldc2Long hx hown (mvT hZ (hw _ (List.mem_of_getElem? (i := 23) rfl))) (g := (mkF m 127 #[] [(.int (18 : Int32)), (.ref b), (.ref b)])) rfl (hb hby d1_127) _ ?_
    show Steps p.tables e below (T37.setTop (mkF m 130 #[] [(.long (8206 : Int64)), (.int (18 : Int32)), (.ref b), (.ref b)])) _
    refine st39 _ ?_
    show Steps p.tables e below (T39.setTop (mkF m 131 #[] [(.ref b)])) _
    refine XS.dup X39.here hx rfl (hb hby d1_131) rfl rfl ?_
    show Steps p.tables e below (T39.setTop (mkF m 132 #[] [(.ref b), (.ref b)])) _
    refine XS.bipush X39.here hx rfl (hb hby d1_132) ?_
    show Steps p.tables e below (T39.setTop (mkF m 134 #[] [(.int (19 : Int32)), (.ref b), (.ref b)])) _
    refine X39.ldc2Long hx hown (mvT hZ (hw _ (List.mem_of_getElem? (i := 24) rfl))) (g := (mkF m 134 #[] [(.int (19 : Int32)), (.ref b), (.ref b)])) rfl (hb hby d1_134) _ ?_
    show Steps p.tables e below (T39.setTop (mkF m 137 #[] [(.long (8304 : Int64)), (.int (19 : Int32)), (.ref b), (.ref b)])) _
    refine st41 _ ?_
    show Steps p.tables e below (T41.setTop (mkF m 138 #[] [(.ref b)])) _
    refine XS.dup X41.here hx rfl (hb hby d1_138) rfl rfl ?_
    show Steps p.tables e below (T41.setTop (mkF m 139 #[] [(.ref b), (.ref b)])) _
    refine XS.bipush X41.here hx rfl (hb hby d1_139) ?_
    show Steps p.tables e below (T41.setTop (mkF m 141 #[] [(.int (20 : Int32)), (.ref b), (.ref b)])) _
    refine X41.ldc2Long hx hown (mvT hZ (hw _ (List.mem_of_getElem? (i := 25) rfl))) (g := (mkF m 141 #[] [(.int (20 : Int32)), (.ref b), (.ref b)])) rfl (hb hby d1_141) _ ?_
    show Steps p.tables e below (T41.setTop (mkF m 144 #[] [(.long (8592 : Int64)), (.int (20 : Int32)), (.ref b), (.ref b)])) _
    refine st43 _ ?_
    show Steps p.tables e below (T43.setTop (mkF m 145 #[] [(.ref b)])) _
    refine XS.dup X43.here hx rfl (hb hby d1_145) rfl rfl ?_
    show Steps p.tables e below (T43.setTop (mkF m 146 #[] [(.ref b), (.ref b)])) _
    refine XS.bipush X43.here hx rfl (hb hby d1_146) ?_
    show Steps p.tables e below (T43.setTop (mkF m 148 #[] [(.int (21 : Int32)), (.ref b), (.ref b)])) _
    refine X43.ldc2Long hx hown (mvT hZ (hw _ (List.mem_of_getElem? (i := 26) rfl))) (g := (mkF m 148 #[] [(.int (21 : Int32)), (.ref b), (.ref b)])) rfl (hb hby d1_148) _ ?_
    show Steps p.tables e below (T43.setTop (mkF m 151 #[] [(.long (11264 : Int64)), (.int (21 : Int32)), (.ref b), (.ref b)])) _
    refine st45 _ ?_
    show Steps p.tables e below (T45.setTop (mkF m 152 #[] [(.ref b)])) _
    refine XS.dup X45.here hx rfl (hb hby d1_152) rfl rfl ?_
    show Steps p.tables e below (T45.setTop (mkF m 153 #[] [(.ref b), (.ref b)])) _
    refine XS.bipush X45.here hx rfl (hb hby d1_153) ?_
    show Steps p.tables e below (T45.setTop (mkF m 155 #[] [(.int (22 : Int32)), (.ref b), (.ref b)])) _
    refine X45.ldc2Long hx hown (mvT hZ (hw _ (List.mem_of_getElem? (i := 27) rfl))) (g := (mkF m 155 #[] [(.int (22 : Int32)), (.ref b), (.ref b)])) rfl (hb hby d1_155) _ ?_
    show Steps p.tables e below (T45.setTop (mkF m 158 #[] [(.long (12272 : Int64)), (.int (22 : Int32)), (.ref b), (.ref b)])) _
    refine st47 _ ?_
    show Steps p.tables e below (T47.setTop (mkF m 159 #[] [(.ref b)])) _
    refine XS.dup X47.here hx rfl (hb hby d1_159) rfl rfl ?_
    show Steps p.tables e below (T47.setTop (mkF m 160 #[] [(.ref b), (.ref b)])) _
    refine XS.bipush X47.here hx rfl (hb hby d1_160) ?_
    show Steps p.tables e below (T47.setTop (mkF m 162 #[] [(.int (23 : Int32)), (.ref b), (.ref b)])) _
    refine X47.ldc2Long hx hown (mvT hZ (hw _ (List.mem_of_getElem? (i := 28) rfl))) (g := (mkF m 162 #[] [(.int (23 : Int32)), (.ref b), (.ref b)])) rfl (hb hby d1_162) _ ?_
    show Steps p.tables e below (T47.setTop (mkF m 165 #[] [(.long (12289 : Int64)), (.int (23 : Int32)), (.ref b), (.ref b)])) _
    refine st49 _ ?_
    show Steps p.tables e below (T49.setTop (mkF m 166 #[] [(.ref b)])) _
    refine XS.dup X49.here hx rfl (hb hby d1_166) rfl rfl ?_
    show Steps p.tables e below (T49.setTop (mkF m 167 #[] [(.ref b), (.ref b)])) _
    refine XS.bipush X49.here hx rfl (hb hby d1_167) ?_
    show Steps p.tables e below (T49.setTop (mkF m 169 #[] [(.int (24 : Int32)), (.ref b), (.ref b)])) _
    refine X49.ldc2Long hx hown (mvT hZ (hw _ (List.mem_of_getElem? (i := 29) rfl))) (g := (mkF m 169 #[] [(.int (24 : Int32)), (.ref b), (.ref b)])) rfl (hb hby d1_169) _ ?_
    show Steps p.tables e below (T49.setTop (mkF m 172 #[] [(.long (55296 : Int64)), (.int (24 : Int32)), (.ref b), (.ref b)])) _
    refine st51 _ ?_
    show Steps p.tables e below (T51.setTop (mkF m 173 #[] [(.ref b)])) _
    refine XS.dup X51.here hx rfl (hb hby d1_173) rfl rfl ?_
    show Steps p.tables e below (T51.setTop (mkF m 174 #[] [(.ref b), (.ref b)])) _
    refine XS.bipush X51.here hx rfl (hb hby d1_174) ?_
    show Steps p.tables e below (T51.setTop (mkF m 176 #[] [(.int (25 : Int32)), (.ref b), (.ref b)])) _
    refine X51.ldc2Long hx hown (mvT hZ (hw _ (List.mem_of_getElem? (i := 30) rfl))) (g := (mkF m 176 #[] [(.int (25 : Int32)), (.ref b), (.ref b)])) rfl (hb hby d1_176) _ ?_
    show Steps p.tables e below (T51.setTop (mkF m 179 #[] [(.long (63744 : Int64)), (.int (25 : Int32)), (.ref b), (.ref b)])) _
    refine st53 _ ?_
    show Steps p.tables e below (T53.setTop (mkF m 180 #[] [(.ref b)])) _
    refine XS.dup X53.here hx rfl (hb hby d1_180) rfl rfl ?_
    show Steps p.tables e below (T53.setTop (mkF m 181 #[] [(.ref b), (.ref b)])) _
    refine XS.bipush X53.here hx rfl (hb hby d1_181) ?_
    show Steps p.tables e below (T53.setTop (mkF m 183 #[] [(.int (26 : Int32)), (.ref b), (.ref b)])) _
    refine X53.ldc2Long hx hown (mvT hZ (hw _ (List.mem_of_getElem? (i := 31) rfl))) (g := (mkF m 183 #[] [(.int (26 : Int32)), (.ref b), (.ref b)])) rfl (hb hby d1_183) _ ?_
    show Steps p.tables e below (T53.setTop (mkF m 186 #[] [(.long (64976 : Int64)), (.int (26 : Int32)), (.ref b), (.ref b)])) _
    refine st55 _ ?_
    show Steps p.tables e below (T55.setTop (mkF m 187 #[] [(.ref b)])) _
    refine XS.dup X55.here hx rfl (hb hby d1_187) rfl rfl ?_
    show Steps p.tables e below (T55.setTop (mkF m 188 #[] [(.ref b), (.ref b)])) _
    refine XS.bipush X55.here hx rfl (hb hby d1_188) ?_
    show Steps p.tables e below (T55.setTop (mkF m 190 #[] [(.int (27 : Int32)), (.ref b), (.ref b)])) _
    refine X55.ldc2Long hx hown (mvT hZ (hw _ (List.mem_of_getElem? (i := 32) rfl))) (g := (mkF m 190 #[] [(.int (27 : Int32)), (.ref b), (.ref b)])) rfl (hb hby d1_190) _ ?_
    show Steps p.tables e below (T55.setTop (mkF m 193 #[] [(.long (65008 : Int64)), (.int (27 : Int32)), (.ref b), (.ref b)])) _
    refine st57 _ ?_
    show Steps p.tables e below (T57.setTop (mkF m 194 #[] [(.ref b)])) _
    refine XS.dup X57.here hx rfl (hb hby d1_194) rfl rfl ?_
    show Steps p.tables e below (T57.setTop (mkF m 195 #[] [(.ref b), (.ref b)])) _
    refine XS.bipush X57.here hx rfl (hb hby d1_195) ?_
    show Steps p.tables e below (T57.setTop (mkF m 197 #[] [(.int (28 : Int32)), (.ref b), (.ref b)])) _
    refine X57.ldc2Long hx hown (mvT hZ (hw _ (List.mem_of_getElem? (i := 33) rfl))) (g := (mkF m 197 #[] [(.int (28 : Int32)), (.ref b), (.ref b)])) rfl (hb hby d1_197) _ ?_
    show Steps p.tables e below (T57.setTop (mkF m 200 #[] [(.long (65534 : Int64)), (.int (28 : Int32)), (.ref b), (.ref b)])) _
    refine st59 _ ?_
    show Steps p.tables e below (T59.setTop (mkF m 201 #[] [(.ref b)])) _
    refine XS.dup X59.here hx rfl (hb hby d1_201) rfl rfl ?_
    show Steps p.tables e below (T59.setTop (mkF m 202 #[] [(.ref b), (.ref b)])) _
    refine XS.bipush X59.here hx rfl (hb hby d1_202) ?_
    show Steps p.tables e below (T59.setTop (mkF m 204 #[] [(.int (29 : Int32)), (.ref b), (.ref b)])) _
    refine X59.ldc2Long hx hown (mvT hZ (hw _ (List.mem_of_getElem? (i := 34) rfl))) (g := (mkF m 204 #[] [(.int (29 : Int32)), (.ref b), (.ref b)])) rfl (hb hby d1_204) _ ?_
    show Steps p.tables e below (T59.setTop (mkF m 207 #[] [(.long (65536 : Int64)), (.int (29 : Int32)), (.ref b), (.ref b)])) _
    refine st61 _ ?_
    show Steps p.tables e below (T61.setTop (mkF m 208 #[] [(.ref b)])) _
    refine XS.dup X61.here hx rfl (hb hby d1_208) rfl rfl ?_
    show Steps p.tables e below (T61.setTop (mkF m 209 #[] [(.ref b), (.ref b)])) _
    refine XS.bipush X61.here hx rfl (hb hby d1_209) ?_
    show Steps p.tables e below (T61.setTop (mkF m 211 #[] [(.int (30 : Int32)), (.ref b), (.ref b)])) _
    refine X61.ldc2Long hx hown (mvT hZ (hw _ (List.mem_of_getElem? (i := 35) rfl))) (g := (mkF m 211 #[] [(.int (30 : Int32)), (.ref b), (.ref b)])) rfl (hb hby d1_211) _ ?_
    show Steps p.tables e below (T61.setTop (mkF m 214 #[] [(.long (983040 : Int64)), (.int (30 : Int32)), (.ref b), (.ref b)])) _
    refine st63 _ ?_
    show Steps p.tables e below (T63.setTop (mkF m 215 #[] [(.ref b)])) _
    refine XS.dup X63.here hx rfl (hb hby d1_215) rfl rfl ?_
    show Steps p.tables e below (T63.setTop (mkF m 216 #[] [(.ref b), (.ref b)])) _
    refine XS.bipush X63.here hx rfl (hb hby d1_216) ?_
    show Steps p.tables e below (T63.setTop (mkF m 218 #[] [(.int (31 : Int32)), (.ref b), (.ref b)])) _
    refine X63.ldc2Long hx hown (mvT hZ (hw _ (List.mem_of_getElem? (i := 36) rfl))) (g := (mkF m 218 #[] [(.int (31 : Int32)), (.ref b), (.ref b)])) rfl (hb hby d1_218) _ ?_
    show Steps p.tables e below (T63.setTop (mkF m 221 #[] [(.long (2147483648 : Int64)), (.int (31 : Int32)), (.ref b), (.ref b)])) _
    refine st65 _ ?_
    show Steps p.tables e below (T65.setTop (mkF m 222 #[] [(.ref b)])) _
    exact retR X65 hx (v := (.ref b)) rfl Bd.returns rfl (hb hby d1_222) hr
  · show Q1 Z h0 n0 _ T65.heap _
    rw [e65]
    unfold Q1
    refine ⟨b, k1, rfl, N65, kp66, sz_b, ?_⟩
    · rw [show (own_p1_b) = ws65 from (by subst hws65 hws63 hws61 hws59 hws57 hws55 hws53 hws51 hws49 hws47 hws45 hws43 hws41 hws39 hws37 hws35 hws33 hws31 hws29 hws27 hws25 hws23 hws21 hws19 hws17 hws15 hws13 hws11 hws9 hws7 hws5 hws3; simp only [own_p1_b])]; exact V65
theorem d2_0 : decode prog_77_method_12_code 0 = .ok (.iload_n 0, 1) := by decide +kernel
theorem d2_1 : decode prog_77_method_12_code 1 = .ok (.bipush 65, 2) := by decide +kernel
theorem d2_3 : decode prog_77_method_12_code 3 = .ok (.if_icmp .lt 9, 3) := by decide +kernel
theorem d2_6 : decode prog_77_method_12_code 6 = .ok (.iload_n 0, 1) := by decide +kernel
theorem d2_7 : decode prog_77_method_12_code 7 = .ok (.bipush 90, 2) := by decide +kernel
theorem d2_9 : decode prog_77_method_12_code 9 = .ok (.if_icmp .le 182, 3) := by decide +kernel
theorem d2_12 : decode prog_77_method_12_code 12 = .ok (.iload_n 0, 1) := by decide +kernel
theorem d2_13 : decode prog_77_method_12_code 13 = .ok (.bipush 95, 2) := by decide +kernel
theorem d2_15 : decode prog_77_method_12_code 15 = .ok (.if_icmp .eq 176, 3) := by decide +kernel
theorem d2_18 : decode prog_77_method_12_code 18 = .ok (.iload_n 0, 1) := by decide +kernel
theorem d2_19 : decode prog_77_method_12_code 19 = .ok (.bipush 97, 2) := by decide +kernel
theorem d2_21 : decode prog_77_method_12_code 21 = .ok (.if_icmp .lt 9, 3) := by decide +kernel
theorem d2_24 : decode prog_77_method_12_code 24 = .ok (.iload_n 0, 1) := by decide +kernel
theorem d2_25 : decode prog_77_method_12_code 25 = .ok (.bipush 122, 2) := by decide +kernel
theorem d2_27 : decode prog_77_method_12_code 27 = .ok (.if_icmp .le 164, 3) := by decide +kernel
theorem d2_30 : decode prog_77_method_12_code 30 = .ok (.iload_n 0, 1) := by decide +kernel
theorem d2_31 : decode prog_77_method_12_code 31 = .ok (.sipush 192, 3) := by decide +kernel
theorem d2_34 : decode prog_77_method_12_code 34 = .ok (.if_icmp .lt 10, 3) := by decide +kernel
theorem d2_37 : decode prog_77_method_12_code 37 = .ok (.iload_n 0, 1) := by decide +kernel
theorem d2_38 : decode prog_77_method_12_code 38 = .ok (.sipush 214, 3) := by decide +kernel
theorem d2_41 : decode prog_77_method_12_code 41 = .ok (.if_icmp .le 150, 3) := by decide +kernel
theorem d2_44 : decode prog_77_method_12_code 44 = .ok (.iload_n 0, 1) := by decide +kernel
theorem d2_45 : decode prog_77_method_12_code 45 = .ok (.sipush 216, 3) := by decide +kernel
theorem d2_48 : decode prog_77_method_12_code 48 = .ok (.if_icmp .lt 10, 3) := by decide +kernel
theorem d2_51 : decode prog_77_method_12_code 51 = .ok (.iload_n 0, 1) := by decide +kernel
theorem d2_52 : decode prog_77_method_12_code 52 = .ok (.sipush 246, 3) := by decide +kernel
theorem d2_55 : decode prog_77_method_12_code 55 = .ok (.if_icmp .le 136, 3) := by decide +kernel
theorem d2_58 : decode prog_77_method_12_code 58 = .ok (.iload_n 0, 1) := by decide +kernel
theorem d2_59 : decode prog_77_method_12_code 59 = .ok (.sipush 248, 3) := by decide +kernel
theorem d2_62 : decode prog_77_method_12_code 62 = .ok (.if_icmp .lt 10, 3) := by decide +kernel
theorem d2_65 : decode prog_77_method_12_code 65 = .ok (.iload_n 0, 1) := by decide +kernel
theorem d2_66 : decode prog_77_method_12_code 66 = .ok (.sipush 767, 3) := by decide +kernel
theorem d2_69 : decode prog_77_method_12_code 69 = .ok (.if_icmp .le 122, 3) := by decide +kernel
theorem d2_72 : decode prog_77_method_12_code 72 = .ok (.iload_n 0, 1) := by decide +kernel
theorem d2_73 : decode prog_77_method_12_code 73 = .ok (.sipush 880, 3) := by decide +kernel
theorem d2_76 : decode prog_77_method_12_code 76 = .ok (.if_icmp .lt 10, 3) := by decide +kernel
theorem d2_79 : decode prog_77_method_12_code 79 = .ok (.iload_n 0, 1) := by decide +kernel
theorem d2_80 : decode prog_77_method_12_code 80 = .ok (.sipush 893, 3) := by decide +kernel
theorem d2_83 : decode prog_77_method_12_code 83 = .ok (.if_icmp .le 108, 3) := by decide +kernel
theorem d2_86 : decode prog_77_method_12_code 86 = .ok (.iload_n 0, 1) := by decide +kernel
theorem d2_87 : decode prog_77_method_12_code 87 = .ok (.sipush 895, 3) := by decide +kernel
theorem d2_90 : decode prog_77_method_12_code 90 = .ok (.if_icmp .lt 10, 3) := by decide +kernel
theorem d2_93 : decode prog_77_method_12_code 93 = .ok (.iload_n 0, 1) := by decide +kernel
theorem d2_94 : decode prog_77_method_12_code 94 = .ok (.sipush 8191, 3) := by decide +kernel
theorem d2_97 : decode prog_77_method_12_code 97 = .ok (.if_icmp .le 94, 3) := by decide +kernel
theorem d2_100 : decode prog_77_method_12_code 100 = .ok (.iload_n 0, 1) := by decide +kernel
theorem d2_101 : decode prog_77_method_12_code 101 = .ok (.sipush 8204, 3) := by decide +kernel
theorem d2_104 : decode prog_77_method_12_code 104 = .ok (.if_icmp .lt 10, 3) := by decide +kernel
theorem d2_107 : decode prog_77_method_12_code 107 = .ok (.iload_n 0, 1) := by decide +kernel
theorem d2_108 : decode prog_77_method_12_code 108 = .ok (.sipush 8205, 3) := by decide +kernel
theorem d2_111 : decode prog_77_method_12_code 111 = .ok (.if_icmp .le 80, 3) := by decide +kernel
theorem d2_114 : decode prog_77_method_12_code 114 = .ok (.iload_n 0, 1) := by decide +kernel
theorem d2_115 : decode prog_77_method_12_code 115 = .ok (.sipush 8304, 3) := by decide +kernel
theorem d2_118 : decode prog_77_method_12_code 118 = .ok (.if_icmp .lt 10, 3) := by decide +kernel
theorem d2_121 : decode prog_77_method_12_code 121 = .ok (.iload_n 0, 1) := by decide +kernel
theorem d2_122 : decode prog_77_method_12_code 122 = .ok (.sipush 8591, 3) := by decide +kernel
theorem d2_125 : decode prog_77_method_12_code 125 = .ok (.if_icmp .le 66, 3) := by decide +kernel
theorem d2_128 : decode prog_77_method_12_code 128 = .ok (.iload_n 0, 1) := by decide +kernel
theorem d2_129 : decode prog_77_method_12_code 129 = .ok (.sipush 11264, 3) := by decide +kernel
theorem d2_132 : decode prog_77_method_12_code 132 = .ok (.if_icmp .lt 10, 3) := by decide +kernel
theorem d2_135 : decode prog_77_method_12_code 135 = .ok (.iload_n 0, 1) := by decide +kernel
theorem d2_136 : decode prog_77_method_12_code 136 = .ok (.sipush 12271, 3) := by decide +kernel
theorem d2_139 : decode prog_77_method_12_code 139 = .ok (.if_icmp .le 52, 3) := by decide +kernel
theorem d2_142 : decode prog_77_method_12_code 142 = .ok (.iload_n 0, 1) := by decide +kernel
theorem d2_143 : decode prog_77_method_12_code 143 = .ok (.sipush 12289, 3) := by decide +kernel
theorem d2_146 : decode prog_77_method_12_code 146 = .ok (.if_icmp .lt 9, 3) := by decide +kernel
theorem d2_149 : decode prog_77_method_12_code 149 = .ok (.iload_n 0, 1) := by decide +kernel
theorem d2_150 : decode prog_77_method_12_code 150 = .ok (.ldc 7, 2) := by decide +kernel
theorem d2_152 : decode prog_77_method_12_code 152 = .ok (.if_icmp .le 39, 3) := by decide +kernel
theorem d2_155 : decode prog_77_method_12_code 155 = .ok (.iload_n 0, 1) := by decide +kernel
theorem d2_156 : decode prog_77_method_12_code 156 = .ok (.ldc 78, 2) := by decide +kernel
theorem d2_158 : decode prog_77_method_12_code 158 = .ok (.if_icmp .lt 9, 3) := by decide +kernel
theorem d2_161 : decode prog_77_method_12_code 161 = .ok (.iload_n 0, 1) := by decide +kernel
theorem d2_162 : decode prog_77_method_12_code 162 = .ok (.ldc 79, 2) := by decide +kernel
theorem d2_164 : decode prog_77_method_12_code 164 = .ok (.if_icmp .le 27, 3) := by decide +kernel
theorem d2_167 : decode prog_77_method_12_code 167 = .ok (.iload_n 0, 1) := by decide +kernel
theorem d2_168 : decode prog_77_method_12_code 168 = .ok (.ldc 80, 2) := by decide +kernel
theorem d2_170 : decode prog_77_method_12_code 170 = .ok (.if_icmp .lt 9, 3) := by decide +kernel
theorem d2_173 : decode prog_77_method_12_code 173 = .ok (.iload_n 0, 1) := by decide +kernel
theorem d2_174 : decode prog_77_method_12_code 174 = .ok (.ldc 9, 2) := by decide +kernel
theorem d2_176 : decode prog_77_method_12_code 176 = .ok (.if_icmp .le 15, 3) := by decide +kernel
theorem d2_179 : decode prog_77_method_12_code 179 = .ok (.iload_n 0, 1) := by decide +kernel
theorem d2_180 : decode prog_77_method_12_code 180 = .ok (.ldc 10, 2) := by decide +kernel
theorem d2_182 : decode prog_77_method_12_code 182 = .ok (.if_icmp .lt 13, 3) := by decide +kernel
theorem d2_185 : decode prog_77_method_12_code 185 = .ok (.iload_n 0, 1) := by decide +kernel
theorem d2_186 : decode prog_77_method_12_code 186 = .ok (.ldc 81, 2) := by decide +kernel
theorem d2_188 : decode prog_77_method_12_code 188 = .ok (.if_icmp .gt 7, 3) := by decide +kernel
theorem d2_191 : decode prog_77_method_12_code 191 = .ok (.iconst 1, 1) := by decide +kernel
theorem d2_192 : decode prog_77_method_12_code 192 = .ok (.goto 4, 3) := by decide +kernel
theorem d2_195 : decode prog_77_method_12_code 195 = .ok (.iconst 0, 1) := by decide +kernel
theorem d2_196 : decode prog_77_method_12_code 196 = .ok (.ireturn, 1) := by decide +kernel
theorem pn_1 : plainName "com/example/trawl/trawl/xml/XmlChars" = true := by first | (simp [plainName, overriddenIn]; done) | decide +kernel
theorem ef_2 (m : MethodId) (p0 : Int32) : entryFrame m #[(.int p0)] 1 = mkF m 0 #[.val (.int p0)] [] := by first | (simp [entryFrame, mkF, argsToLocals, Value.category]; done) | rfl
def own_j_179 (p0 : Int32) : Int32 := (if p0 < (65536 : Int32) then (0 : Int32) else (if (983039 : Int32) < p0 then (0 : Int32) else (1 : Int32)))
def own_j_167 (p0 : Int32) : Int32 := (if p0 < (65008 : Int32) then (own_j_179 p0) else (if (65533 : Int32) < p0 then (own_j_179 p0) else (1 : Int32)))
def own_j_155 (p0 : Int32) : Int32 := (if p0 < (63744 : Int32) then (own_j_167 p0) else (if (64975 : Int32) < p0 then (own_j_167 p0) else (1 : Int32)))
def own_j_142 (p0 : Int32) : Int32 := (if p0 < (12289 : Int32) then (own_j_155 p0) else (if (55295 : Int32) < p0 then (own_j_155 p0) else (1 : Int32)))
def own_j_128 (p0 : Int32) : Int32 := (if p0 < (11264 : Int32) then (own_j_142 p0) else (if (12271 : Int32) < p0 then (own_j_142 p0) else (1 : Int32)))
def own_j_114 (p0 : Int32) : Int32 := (if p0 < (8304 : Int32) then (own_j_128 p0) else (if (8591 : Int32) < p0 then (own_j_128 p0) else (1 : Int32)))
def own_j_100 (p0 : Int32) : Int32 := (if p0 < (8204 : Int32) then (own_j_114 p0) else (if (8205 : Int32) < p0 then (own_j_114 p0) else (1 : Int32)))
def own_j_86 (p0 : Int32) : Int32 := (if p0 < (895 : Int32) then (own_j_100 p0) else (if (8191 : Int32) < p0 then (own_j_100 p0) else (1 : Int32)))
def own_j_72 (p0 : Int32) : Int32 := (if p0 < (880 : Int32) then (own_j_86 p0) else (if (893 : Int32) < p0 then (own_j_86 p0) else (1 : Int32)))
def own_j_58 (p0 : Int32) : Int32 := (if p0 < (248 : Int32) then (own_j_72 p0) else (if (767 : Int32) < p0 then (own_j_72 p0) else (1 : Int32)))
def own_j_44 (p0 : Int32) : Int32 := (if p0 < (216 : Int32) then (own_j_58 p0) else (if (246 : Int32) < p0 then (own_j_58 p0) else (1 : Int32)))
def own_j_30 (p0 : Int32) : Int32 := (if p0 < (192 : Int32) then (own_j_44 p0) else (if (214 : Int32) < p0 then (own_j_44 p0) else (1 : Int32)))
def own_j_18 (p0 : Int32) : Int32 := (if p0 < (97 : Int32) then (own_j_30 p0) else (if (122 : Int32) < p0 then (own_j_30 p0) else (1 : Int32)))
def own_j_12 (p0 : Int32) : Int32 := (if p0 = (95 : Int32) then (1 : Int32) else (own_j_18 p0))
def own_j_0 (p0 : Int32) : Int32 := (if p0 < (65 : Int32) then (own_j_12 p0) else (if (90 : Int32) < p0 then (own_j_12 p0) else (1 : Int32)))
def Q2 (Z : State) (p0 : Int32) (h0 : Heap) (n0 : Nat) (v : Option Value) (h : Heap) (L : List Loc) : Prop := v = some (.int (nar .boolean (own_j_0 p0))) ∧ Fr n0 L ∧ h = h0
set_option maxRecDepth 65536 in
set_option maxHeartbeats 40000000 in
theorem rm2 (l : Launch) (Z : State) (aw : Array Value) (hw : ∀ d ∈ tables_1, d.before aw Z = true) (wq : List Jvm.Cond) (p0 : Int32) (h0 : Heap) (n0 : Nat) (Z0 : n0 ≤ h0.size) :
    MetFree l (⟨"com/example/trawl/trawl/xml/XmlChars", "isNcNameStartChar", "(I)Z"⟩ : MethodName) (head1 (Jvm.Cond.code (⟨"com/example/trawl/trawl/xml/XmlChars", "isNcNameStartChar", "(I)Z"⟩ : MethodName) prog_77_method_12_code 1 (some .boolean) :: wq) ({ frames := 0, cells := 0, slots := 0, locals := 0 } : Room)) (fun a U => a = #[(.int p0)] ∧ Z.Warmed39 U.vm ∧ U.heap = h0) (fun _ _ _ _ _ => True) (fun _ U o U' => ∃ v L, o = .returned v ∧ Q2 Z p0 h0 n0 v U'.heap L ∧ FrameEnd U o U' L ({ frames := 0, cells := 0, slots := 0, locals := 0 } : Room).cells ({ frames := 0, cells := 0, slots := 0, locals := 0 } : Room).slots) := by
  refine MetFree.of_bodySF (plainFor_of_name pn_1) hisR ?_
  intro p e s m args below meth c s₁ Bd hml0 hP hK
  obtain ⟨rfl, hZ, hh⟩ := hP
  have hx := Bd.exec
  have hby := Bd.bytes
  have hml : c.maxLocals = 1 := hml0
  have hown : s.vm.findClass "com/example/trawl/trawl/xml/XmlChars" = some m.cls := findClass_of_methodNamed Bd.named
  have hnm := (name_of_methodNamed Bd.named Bd.method).1
  have X0 : Stand p l e ({ frames := 0, cells := 0, slots := 0, locals := 0 } : Room) s m #[(.int p0)] below meth c s₁ [] 0 0 := Stand.of_body Bd
  have e0 : s₁.heap = h0 := by rw [← hh, Bd.state]; rfl
  have N0 := Fr.nil n0
  have pre0 : own_Pre p e below (s₁.setTop (entryFrame m #[(.int p0)] 1)) (s₁.setTop (mkF m 0 #[.val (.int p0)] [])) := fun t k => castTop (ef_2 m p0) k
  have K179 : own_Pre p e below (s₁.setTop (mkF m 179 #[.val (.int p0)] [])) (s₁.setTop (mkF m 196 #[.val (.int p0)] [(.int (own_j_179 p0))])) := by
    have pr0 : own_Pre p e below (s₁.setTop (mkF m 179 #[.val (.int p0)] [])) (s₁.setTop (mkF m 179 #[.val (.int p0)] [])) := fun t k => k
    have pre1 : own_Pre p e below (s₁.setTop (mkF m 179 #[.val (.int p0)] [])) (s₁.setTop (mkF m 182 #[.val (.int p0)] [(.int (65536 : Int32)), (.int p0)])) := fun t k => pr0 t (by
        show Steps p.tables e below (s₁.setTop (mkF m 179 #[.val (.int p0)] [])) _
        refine XS.iloadN X0.here hx rfl (hb hby d2_179) rfl ?_
        show Steps p.tables e below (s₁.setTop (mkF m 180 #[.val (.int p0)] [(.int p0)])) _
        refine X0.ldcInt hx hown (mvT hZ (hw _ (List.mem_of_getElem? (i := 45) rfl))) (g := (mkF m 180 #[.val (.int p0)] [(.int p0)])) rfl (hb hby d2_180) _ ?_
        exact k)
    by_cases hc182 : p0 < (65536 : Int32)
    · have pre2 : own_Pre p e below (s₁.setTop (mkF m 179 #[.val (.int p0)] [])) (s₁.setTop (mkF m 196 #[.val (.int p0)] [(.int (0 : Int32))])) := fun t k => pre1 t (by
          show Steps p.tables e below (s₁.setTop (mkF m 182 #[.val (.int p0)] [(.int (65536 : Int32)), (.int p0)])) _
          refine XS.icmpYes X0.here hx rfl (pc0 := 182) (pc' := 195) rfl (hb hby d2_182) rfl (tlt hc182).1 (by decide) (by decide) ?_
          show Steps p.tables e below (s₁.setTop (mkF m 195 #[.val (.int p0)] [])) _
          refine XS.iconst X0.here hx rfl (hb hby d2_195) ?_
          exact k)
      rw [show (own_j_179 p0) = (0 : Int32) from (by simp only [own_j_179, if_pos hc182])]
      exact pre2
    · have pre3 : own_Pre p e below (s₁.setTop (mkF m 179 #[.val (.int p0)] [])) (s₁.setTop (mkF m 188 #[.val (.int p0)] [(.int (983039 : Int32)), (.int p0)])) := fun t k => pre1 t (by
          show Steps p.tables e below (s₁.setTop (mkF m 182 #[.val (.int p0)] [(.int (65536 : Int32)), (.int p0)])) _
          refine XS.icmpNo X0.here hx rfl (hb hby d2_182) rfl (flt hc182).1 ?_
          show Steps p.tables e below (s₁.setTop (mkF m 185 #[.val (.int p0)] [])) _
          refine XS.iloadN X0.here hx rfl (hb hby d2_185) rfl ?_
          show Steps p.tables e below (s₁.setTop (mkF m 186 #[.val (.int p0)] [(.int p0)])) _
          refine X0.ldcInt hx hown (mvT hZ (hw _ (List.mem_of_getElem? (i := 49) rfl))) (g := (mkF m 186 #[.val (.int p0)] [(.int p0)])) rfl (hb hby d2_186) _ ?_
          exact k)
      by_cases hc188 : (983039 : Int32) < p0
      · have pre4 : own_Pre p e below (s₁.setTop (mkF m 179 #[.val (.int p0)] [])) (s₁.setTop (mkF m 196 #[.val (.int p0)] [(.int (0 : Int32))])) := fun t k => pre3 t (by
            show Steps p.tables e below (s₁.setTop (mkF m 188 #[.val (.int p0)] [(.int (983039 : Int32)), (.int p0)])) _
            refine XS.icmpYes X0.here hx rfl (pc0 := 188) (pc' := 195) rfl (hb hby d2_188) rfl (tlt hc188).2.2.1 (by decide) (by decide) ?_
            show Steps p.tables e below (s₁.setTop (mkF m 195 #[.val (.int p0)] [])) _
            refine XS.iconst X0.here hx rfl (hb hby d2_195) ?_
            exact k)
        rw [show (own_j_179 p0) = (0 : Int32) from (by simp only [own_j_179, if_neg hc182, if_pos hc188])]
        exact pre4
      · have pre5 : own_Pre p e below (s₁.setTop (mkF m 179 #[.val (.int p0)] [])) (s₁.setTop (mkF m 196 #[.val (.int p0)] [(.int (1 : Int32))])) := fun t k => pre3 t (by
            show Steps p.tables e below (s₁.setTop (mkF m 188 #[.val (.int p0)] [(.int (983039 : Int32)), (.int p0)])) _
            refine XS.icmpNo X0.here hx rfl (hb hby d2_188) rfl (flt hc188).2.2.1 ?_
            show Steps p.tables e below (s₁.setTop (mkF m 191 #[.val (.int p0)] [])) _
            refine XS.iconst X0.here hx rfl (hb hby d2_191) ?_
            show Steps p.tables e below (s₁.setTop (mkF m 192 #[.val (.int p0)] [(.int (1 : Int32))])) _
            refine XS.goto X0.here hx rfl (pc0 := 192) (pc' := 196) rfl (hb hby d2_192) (by decide) (by decide) ?_
            exact k)
        rw [show (own_j_179 p0) = (1 : Int32) from (by simp only [own_j_179, if_neg hc182, if_neg hc188])]
        exact pre5
  have K167 : own_Pre p e below (s₁.setTop (mkF m 167 #[.val (.int p0)] [])) (s₁.setTop (mkF m 196 #[.val (.int p0)] [(.int (own_j_167 p0))])) := by
    have pr0 : own_Pre p e below (s₁.setTop (mkF m 167 #[.val (.int p0)] [])) (s₁.setTop (mkF m 167 #[.val (.int p0)] [])) := fun t k => k
    have pre6 : own_Pre p e below (s₁.setTop (mkF m 167 #[.val (.int p0)] [])) (s₁.setTop (mkF m 170 #[.val (.int p0)] [(.int (65008 : Int32)), (.int p0)])) := fun t k => pr0 t (by
        show Steps p.tables e below (s₁.setTop (mkF m 167 #[.val (.int p0)] [])) _
        refine XS.iloadN X0.here hx rfl (hb hby d2_167) rfl ?_
        show Steps p.tables e below (s₁.setTop (mkF m 168 #[.val (.int p0)] [(.int p0)])) _
        refine X0.ldcInt hx hown (mvT hZ (hw _ (List.mem_of_getElem? (i := 44) rfl))) (g := (mkF m 168 #[.val (.int p0)] [(.int p0)])) rfl (hb hby d2_168) _ ?_
        exact k)
    by_cases hc170 : p0 < (65008 : Int32)
    · have pre7 : own_Pre p e below (s₁.setTop (mkF m 167 #[.val (.int p0)] [])) (s₁.setTop (mkF m 179 #[.val (.int p0)] [])) := fun t k => pre6 t (by
          show Steps p.tables e below (s₁.setTop (mkF m 170 #[.val (.int p0)] [(.int (65008 : Int32)), (.int p0)])) _
          refine XS.icmpYes X0.here hx rfl (pc0 := 170) (pc' := 179) rfl (hb hby d2_170) rfl (tlt hc170).1 (by decide) (by decide) ?_
          exact k)
      rw [show (own_j_167 p0) = (own_j_179 p0) from (by simp only [own_j_167, if_pos hc170])]
      exact fun t k => pre7 t (K179 t k)
    · have pre8 : own_Pre p e below (s₁.setTop (mkF m 167 #[.val (.int p0)] [])) (s₁.setTop (mkF m 176 #[.val (.int p0)] [(.int (65533 : Int32)), (.int p0)])) := fun t k => pre6 t (by
          show Steps p.tables e below (s₁.setTop (mkF m 170 #[.val (.int p0)] [(.int (65008 : Int32)), (.int p0)])) _
          refine XS.icmpNo X0.here hx rfl (hb hby d2_170) rfl (flt hc170).1 ?_
          show Steps p.tables e below (s₁.setTop (mkF m 173 #[.val (.int p0)] [])) _
          refine XS.iloadN X0.here hx rfl (hb hby d2_173) rfl ?_
          show Steps p.tables e below (s₁.setTop (mkF m 174 #[.val (.int p0)] [(.int p0)])) _
          refine X0.ldcInt hx hown (mvT hZ (hw _ (List.mem_of_getElem? (i := 48) rfl))) (g := (mkF m 174 #[.val (.int p0)] [(.int p0)])) rfl (hb hby d2_174) _ ?_
          exact k)
      by_cases hc176 : (65533 : Int32) < p0
      · have pre9 : own_Pre p e below (s₁.setTop (mkF m 167 #[.val (.int p0)] [])) (s₁.setTop (mkF m 179 #[.val (.int p0)] [])) := fun t k => pre8 t (by
            show Steps p.tables e below (s₁.setTop (mkF m 176 #[.val (.int p0)] [(.int (65533 : Int32)), (.int p0)])) _
            refine XS.icmpNo X0.here hx rfl (hb hby d2_176) rfl (tlt hc176).2.2.2 ?_
            exact k)
        rw [show (own_j_167 p0) = (own_j_179 p0) from (by simp only [own_j_167, if_neg hc170, if_pos hc176])]
        exact fun t k => pre9 t (K179 t k)
      · have pre10 : own_Pre p e below (s₁.setTop (mkF m 167 #[.val (.int p0)] [])) (s₁.setTop (mkF m 196 #[.val (.int p0)] [(.int (1 : Int32))])) := fun t k => pre8 t (by
            show Steps p.tables e below (s₁.setTop (mkF m 176 #[.val (.int p0)] [(.int (65533 : Int32)), (.int p0)])) _
            refine XS.icmpYes X0.here hx rfl (pc0 := 176) (pc' := 191) rfl (hb hby d2_176) rfl (flt hc176).2.2.2 (by decide) (by decide) ?_
            show Steps p.tables e below (s₁.setTop (mkF m 191 #[.val (.int p0)] [])) _
            refine XS.iconst X0.here hx rfl (hb hby d2_191) ?_
            show Steps p.tables e below (s₁.setTop (mkF m 192 #[.val (.int p0)] [(.int (1 : Int32))])) _
            refine XS.goto X0.here hx rfl (pc0 := 192) (pc' := 196) rfl (hb hby d2_192) (by decide) (by decide) ?_
            exact k)
        rw [show (own_j_167 p0) = (1 : Int32) from (by simp only [own_j_167, if_neg hc170, if_neg hc176])]
        exact pre10
  have K155 : own_Pre p e below (s₁.setTop (mkF m 155 #[.val (.int p0)] [])) (s₁.setTop (mkF m 196 #[.val (.int p0)] [(.int (own_j_155 p0))])) := by
    have pr0 : own_Pre p e below (s₁.setTop (mkF m 155 #[.val (.int p0)] [])) (s₁.setTop (mkF m 155 #[.val (.int p0)] [])) := fun t k => k
    have pre11 : own_Pre p e below (s₁.setTop (mkF m 155 #[.val (.int p0)] [])) (s₁.setTop (mkF m 158 #[.val (.int p0)] [(.int (63744 : Int32)), (.int p0)])) := fun t k => pr0 t (by
        show Steps p.tables e below (s₁.setTop (mkF m 155 #[.val (.int p0)] [])) _
        refine XS.iloadN X0.here hx rfl (hb hby d2_155) rfl ?_
        show Steps p.tables e below (s₁.setTop (mkF m 156 #[.val (.int p0)] [(.int p0)])) _
        refine X0.ldcInt hx hown (mvT hZ (hw _ (List.mem_of_getElem? (i := 43) rfl))) (g := (mkF m 156 #[.val (.int p0)] [(.int p0)])) rfl (hb hby d2_156) _ ?_
        exact k)
    by_cases hc158 : p0 < (63744 : Int32)
    · have pre12 : own_Pre p e below (s₁.setTop (mkF m 155 #[.val (.int p0)] [])) (s₁.setTop (mkF m 167 #[.val (.int p0)] [])) := fun t k => pre11 t (by
          show Steps p.tables e below (s₁.setTop (mkF m 158 #[.val (.int p0)] [(.int (63744 : Int32)), (.int p0)])) _
          refine XS.icmpYes X0.here hx rfl (pc0 := 158) (pc' := 167) rfl (hb hby d2_158) rfl (tlt hc158).1 (by decide) (by decide) ?_
          exact k)
      rw [show (own_j_155 p0) = (own_j_167 p0) from (by simp only [own_j_155, if_pos hc158])]
      exact fun t k => pre12 t (K167 t k)
    · have pre13 : own_Pre p e below (s₁.setTop (mkF m 155 #[.val (.int p0)] [])) (s₁.setTop (mkF m 164 #[.val (.int p0)] [(.int (64975 : Int32)), (.int p0)])) := fun t k => pre11 t (by
          show Steps p.tables e below (s₁.setTop (mkF m 158 #[.val (.int p0)] [(.int (63744 : Int32)), (.int p0)])) _
          refine XS.icmpNo X0.here hx rfl (hb hby d2_158) rfl (flt hc158).1 ?_
          show Steps p.tables e below (s₁.setTop (mkF m 161 #[.val (.int p0)] [])) _
          refine XS.iloadN X0.here hx rfl (hb hby d2_161) rfl ?_
          show Steps p.tables e below (s₁.setTop (mkF m 162 #[.val (.int p0)] [(.int p0)])) _
          refine X0.ldcInt hx hown (mvT hZ (hw _ (List.mem_of_getElem? (i := 47) rfl))) (g := (mkF m 162 #[.val (.int p0)] [(.int p0)])) rfl (hb hby d2_162) _ ?_
          exact k)
      by_cases hc164 : (64975 : Int32) < p0
      · have pre14 : own_Pre p e below (s₁.setTop (mkF m 155 #[.val (.int p0)] [])) (s₁.setTop (mkF m 167 #[.val (.int p0)] [])) := fun t k => pre13 t (by
            show Steps p.tables e below (s₁.setTop (mkF m 164 #[.val (.int p0)] [(.int (64975 : Int32)), (.int p0)])) _
            refine XS.icmpNo X0.here hx rfl (hb hby d2_164) rfl (tlt hc164).2.2.2 ?_
            exact k)
        rw [show (own_j_155 p0) = (own_j_167 p0) from (by simp only [own_j_155, if_neg hc158, if_pos hc164])]
        exact fun t k => pre14 t (K167 t k)
      · have pre15 : own_Pre p e below (s₁.setTop (mkF m 155 #[.val (.int p0)] [])) (s₁.setTop (mkF m 196 #[.val (.int p0)] [(.int (1 : Int32))])) := fun t k => pre13 t (by
            show Steps p.tables e below (s₁.setTop (mkF m 164 #[.val (.int p0)] [(.int (64975 : Int32)), (.int p0)])) _
            refine XS.icmpYes X0.here hx rfl (pc0 := 164) (pc' := 191) rfl (hb hby d2_164) rfl (flt hc164).2.2.2 (by decide) (by decide) ?_
            show Steps p.tables e below (s₁.setTop (mkF m 191 #[.val (.int p0)] [])) _
            refine XS.iconst X0.here hx rfl (hb hby d2_191) ?_
            show Steps p.tables e below (s₁.setTop (mkF m 192 #[.val (.int p0)] [(.int (1 : Int32))])) _
            refine XS.goto X0.here hx rfl (pc0 := 192) (pc' := 196) rfl (hb hby d2_192) (by decide) (by decide) ?_
            exact k)
        rw [show (own_j_155 p0) = (1 : Int32) from (by simp only [own_j_155, if_neg hc158, if_neg hc164])]
        exact pre15
  have K142 : own_Pre p e below (s₁.setTop (mkF m 142 #[.val (.int p0)] [])) (s₁.setTop (mkF m 196 #[.val (.int p0)] [(.int (own_j_142 p0))])) := by
    have pr0 : own_Pre p e below (s₁.setTop (mkF m 142 #[.val (.int p0)] [])) (s₁.setTop (mkF m 142 #[.val (.int p0)] [])) := fun t k => k
    have pre16 : own_Pre p e below (s₁.setTop (mkF m 142 #[.val (.int p0)] [])) (s₁.setTop (mkF m 146 #[.val (.int p0)] [(.int (12289 : Int32)), (.int p0)])) := fun t k => pr0 t (by
        show Steps p.tables e below (s₁.setTop (mkF m 142 #[.val (.int p0)] [])) _
        refine XS.iloadN X0.here hx rfl (hb hby d2_142) rfl ?_
        show Steps p.tables e below (s₁.setTop (mkF m 143 #[.val (.int p0)] [(.int p0)])) _
        refine XS.sipush X0.here hx rfl (hb hby d2_143) ?_
        exact k)
    by_cases hc146 : p0 < (12289 : Int32)
    · have pre17 : own_Pre p e below (s₁.setTop (mkF m 142 #[.val (.int p0)] [])) (s₁.setTop (mkF m 155 #[.val (.int p0)] [])) := fun t k => pre16 t (by
          show Steps p.tables e below (s₁.setTop (mkF m 146 #[.val (.int p0)] [(.int (12289 : Int32)), (.int p0)])) _
          refine XS.icmpYes X0.here hx rfl (pc0 := 146) (pc' := 155) rfl (hb hby d2_146) rfl (tlt hc146).1 (by decide) (by decide) ?_
          exact k)
      rw [show (own_j_142 p0) = (own_j_155 p0) from (by simp only [own_j_142, if_pos hc146])]
      exact fun t k => pre17 t (K155 t k)
    · have pre18 : own_Pre p e below (s₁.setTop (mkF m 142 #[.val (.int p0)] [])) (s₁.setTop (mkF m 152 #[.val (.int p0)] [(.int (55295 : Int32)), (.int p0)])) := fun t k => pre16 t (by
          show Steps p.tables e below (s₁.setTop (mkF m 146 #[.val (.int p0)] [(.int (12289 : Int32)), (.int p0)])) _
          refine XS.icmpNo X0.here hx rfl (hb hby d2_146) rfl (flt hc146).1 ?_
          show Steps p.tables e below (s₁.setTop (mkF m 149 #[.val (.int p0)] [])) _
          refine XS.iloadN X0.here hx rfl (hb hby d2_149) rfl ?_
          show Steps p.tables e below (s₁.setTop (mkF m 150 #[.val (.int p0)] [(.int p0)])) _
          refine X0.ldcInt hx hown (mvT hZ (hw _ (List.mem_of_getElem? (i := 46) rfl))) (g := (mkF m 150 #[.val (.int p0)] [(.int p0)])) rfl (hb hby d2_150) _ ?_
          exact k)
      by_cases hc152 : (55295 : Int32) < p0
      · have pre19 : own_Pre p e below (s₁.setTop (mkF m 142 #[.val (.int p0)] [])) (s₁.setTop (mkF m 155 #[.val (.int p0)] [])) := fun t k => pre18 t (by
            show Steps p.tables e below (s₁.setTop (mkF m 152 #[.val (.int p0)] [(.int (55295 : Int32)), (.int p0)])) _
            refine XS.icmpNo X0.here hx rfl (hb hby d2_152) rfl (tlt hc152).2.2.2 ?_
            exact k)
        rw [show (own_j_142 p0) = (own_j_155 p0) from (by simp only [own_j_142, if_neg hc146, if_pos hc152])]
        exact fun t k => pre19 t (K155 t k)
      · have pre20 : own_Pre p e below (s₁.setTop (mkF m 142 #[.val (.int p0)] [])) (s₁.setTop (mkF m 196 #[.val (.int p0)] [(.int (1 : Int32))])) := fun t k => pre18 t (by
            show Steps p.tables e below (s₁.setTop (mkF m 152 #[.val (.int p0)] [(.int (55295 : Int32)), (.int p0)])) _
            refine XS.icmpYes X0.here hx rfl (pc0 := 152) (pc' := 191) rfl (hb hby d2_152) rfl (flt hc152).2.2.2 (by decide) (by decide) ?_
            show Steps p.tables e below (s₁.setTop (mkF m 191 #[.val (.int p0)] [])) _
            refine XS.iconst X0.here hx rfl (hb hby d2_191) ?_
            show Steps p.tables e below (s₁.setTop (mkF m 192 #[.val (.int p0)] [(.int (1 : Int32))])) _
            refine XS.goto X0.here hx rfl (pc0 := 192) (pc' := 196) rfl (hb hby d2_192) (by decide) (by decide) ?_
            exact k)
        rw [show (own_j_142 p0) = (1 : Int32) from (by simp only [own_j_142, if_neg hc146, if_neg hc152])]
        exact pre20
  have K128 : own_Pre p e below (s₁.setTop (mkF m 128 #[.val (.int p0)] [])) (s₁.setTop (mkF m 196 #[.val (.int p0)] [(.int (own_j_128 p0))])) := by
    have pr0 : own_Pre p e below (s₁.setTop (mkF m 128 #[.val (.int p0)] [])) (s₁.setTop (mkF m 128 #[.val (.int p0)] [])) := fun t k => k
    have pre21 : own_Pre p e below (s₁.setTop (mkF m 128 #[.val (.int p0)] [])) (s₁.setTop (mkF m 132 #[.val (.int p0)] [(.int (11264 : Int32)), (.int p0)])) := fun t k => pr0 t (by
        show Steps p.tables e below (s₁.setTop (mkF m 128 #[.val (.int p0)] [])) _
        refine XS.iloadN X0.here hx rfl (hb hby d2_128) rfl ?_
        show Steps p.tables e below (s₁.setTop (mkF m 129 #[.val (.int p0)] [(.int p0)])) _
        refine XS.sipush X0.here hx rfl (hb hby d2_129) ?_
        exact k)
    by_cases hc132 : p0 < (11264 : Int32)
    · have pre22 : own_Pre p e below (s₁.setTop (mkF m 128 #[.val (.int p0)] [])) (s₁.setTop (mkF m 142 #[.val (.int p0)] [])) := fun t k => pre21 t (by
          show Steps p.tables e below (s₁.setTop (mkF m 132 #[.val (.int p0)] [(.int (11264 : Int32)), (.int p0)])) _
          refine XS.icmpYes X0.here hx rfl (pc0 := 132) (pc' := 142) rfl (hb hby d2_132) rfl (tlt hc132).1 (by decide) (by decide) ?_
          exact k)
      rw [show (own_j_128 p0) = (own_j_142 p0) from (by simp only [own_j_128, if_pos hc132])]
      exact fun t k => pre22 t (K142 t k)
    · have pre23 : own_Pre p e below (s₁.setTop (mkF m 128 #[.val (.int p0)] [])) (s₁.setTop (mkF m 139 #[.val (.int p0)] [(.int (12271 : Int32)), (.int p0)])) := fun t k => pre21 t (by
          show Steps p.tables e below (s₁.setTop (mkF m 132 #[.val (.int p0)] [(.int (11264 : Int32)), (.int p0)])) _
          refine XS.icmpNo X0.here hx rfl (hb hby d2_132) rfl (flt hc132).1 ?_
          show Steps p.tables e below (s₁.setTop (mkF m 135 #[.val (.int p0)] [])) _
          refine XS.iloadN X0.here hx rfl (hb hby d2_135) rfl ?_
          show Steps p.tables e below (s₁.setTop (mkF m 136 #[.val (.int p0)] [(.int p0)])) _
          refine XS.sipush X0.here hx rfl (hb hby d2_136) ?_
          exact k)
      by_cases hc139 : (12271 : Int32) < p0
      · have pre24 : own_Pre p e below (s₁.setTop (mkF m 128 #[.val (.int p0)] [])) (s₁.setTop (mkF m 142 #[.val (.int p0)] [])) := fun t k => pre23 t (by
            show Steps p.tables e below (s₁.setTop (mkF m 139 #[.val (.int p0)] [(.int (12271 : Int32)), (.int p0)])) _
            refine XS.icmpNo X0.here hx rfl (hb hby d2_139) rfl (tlt hc139).2.2.2 ?_
            exact k)
        rw [show (own_j_128 p0) = (own_j_142 p0) from (by simp only [own_j_128, if_neg hc132, if_pos hc139])]
        exact fun t k => pre24 t (K142 t k)
      · have pre25 : own_Pre p e below (s₁.setTop (mkF m 128 #[.val (.int p0)] [])) (s₁.setTop (mkF m 196 #[.val (.int p0)] [(.int (1 : Int32))])) := fun t k => pre23 t (by
            show Steps p.tables e below (s₁.setTop (mkF m 139 #[.val (.int p0)] [(.int (12271 : Int32)), (.int p0)])) _
            refine XS.icmpYes X0.here hx rfl (pc0 := 139) (pc' := 191) rfl (hb hby d2_139) rfl (flt hc139).2.2.2 (by decide) (by decide) ?_
            show Steps p.tables e below (s₁.setTop (mkF m 191 #[.val (.int p0)] [])) _
            refine XS.iconst X0.here hx rfl (hb hby d2_191) ?_
            show Steps p.tables e below (s₁.setTop (mkF m 192 #[.val (.int p0)] [(.int (1 : Int32))])) _
            refine XS.goto X0.here hx rfl (pc0 := 192) (pc' := 196) rfl (hb hby d2_192) (by decide) (by decide) ?_
            exact k)
        rw [show (own_j_128 p0) = (1 : Int32) from (by simp only [own_j_128, if_neg hc132, if_neg hc139])]
        exact pre25
  have K114 : own_Pre p e below (s₁.setTop (mkF m 114 #[.val (.int p0)] [])) (s₁.setTop (mkF m 196 #[.val (.int p0)] [(.int (own_j_114 p0))])) := by
    have pr0 : own_Pre p e below (s₁.setTop (mkF m 114 #[.val (.int p0)] [])) (s₁.setTop (mkF m 114 #[.val (.int p0)] [])) := fun t k => k
    have pre26 : own_Pre p e below (s₁.setTop (mkF m 114 #[.val (.int p0)] [])) (s₁.setTop (mkF m 118 #[.val (.int p0)] [(.int (8304 : Int32)), (.int p0)])) := fun t k => pr0 t (by
        show Steps p.tables e below (s₁.setTop (mkF m 114 #[.val (.int p0)] [])) _
        refine XS.iloadN X0.here hx rfl (hb hby d2_114) rfl ?_
        show Steps p.tables e below (s₁.setTop (mkF m 115 #[.val (.int p0)] [(.int p0)])) _
        refine XS.sipush X0.here hx rfl (hb hby d2_115) ?_
        exact k)
    by_cases hc118 : p0 < (8304 : Int32)
    · have pre27 : own_Pre p e below (s₁.setTop (mkF m 114 #[.val (.int p0)] [])) (s₁.setTop (mkF m 128 #[.val (.int p0)] [])) := fun t k => pre26 t (by
          show Steps p.tables e below (s₁.setTop (mkF m 118 #[.val (.int p0)] [(.int (8304 : Int32)), (.int p0)])) _
          refine XS.icmpYes X0.here hx rfl (pc0 := 118) (pc' := 128) rfl (hb hby d2_118) rfl (tlt hc118).1 (by decide) (by decide) ?_
          exact k)
      rw [show (own_j_114 p0) = (own_j_128 p0) from (by simp only [own_j_114, if_pos hc118])]
      exact fun t k => pre27 t (K128 t k)
    · have pre28 : own_Pre p e below (s₁.setTop (mkF m 114 #[.val (.int p0)] [])) (s₁.setTop (mkF m 125 #[.val (.int p0)] [(.int (8591 : Int32)), (.int p0)])) := fun t k => pre26 t (by
          show Steps p.tables e below (s₁.setTop (mkF m 118 #[.val (.int p0)] [(.int (8304 : Int32)), (.int p0)])) _
          refine XS.icmpNo X0.here hx rfl (hb hby d2_118) rfl (flt hc118).1 ?_
          show Steps p.tables e below (s₁.setTop (mkF m 121 #[.val (.int p0)] [])) _
          refine XS.iloadN X0.here hx rfl (hb hby d2_121) rfl ?_
          show Steps p.tables e below (s₁.setTop (mkF m 122 #[.val (.int p0)] [(.int p0)])) _
          refine XS.sipush X0.here hx rfl (hb hby d2_122) ?_
          exact k)
      by_cases hc125 : (8591 : Int32) < p0
      · have pre29 : own_Pre p e below (s₁.setTop (mkF m 114 #[.val (.int p0)] [])) (s₁.setTop (mkF m 128 #[.val (.int p0)] [])) := fun t k => pre28 t (by
            show Steps p.tables e below (s₁.setTop (mkF m 125 #[.val (.int p0)] [(.int (8591 : Int32)), (.int p0)])) _
            refine XS.icmpNo X0.here hx rfl (hb hby d2_125) rfl (tlt hc125).2.2.2 ?_
            exact k)
        rw [show (own_j_114 p0) = (own_j_128 p0) from (by simp only [own_j_114, if_neg hc118, if_pos hc125])]
        exact fun t k => pre29 t (K128 t k)
      · have pre30 : own_Pre p e below (s₁.setTop (mkF m 114 #[.val (.int p0)] [])) (s₁.setTop (mkF m 196 #[.val (.int p0)] [(.int (1 : Int32))])) := fun t k => pre28 t (by
            show Steps p.tables e below (s₁.setTop (mkF m 125 #[.val (.int p0)] [(.int (8591 : Int32)), (.int p0)])) _
            refine XS.icmpYes X0.here hx rfl (pc0 := 125) (pc' := 191) rfl (hb hby d2_125) rfl (flt hc125).2.2.2 (by decide) (by decide) ?_
            show Steps p.tables e below (s₁.setTop (mkF m 191 #[.val (.int p0)] [])) _
            refine XS.iconst X0.here hx rfl (hb hby d2_191) ?_
            show Steps p.tables e below (s₁.setTop (mkF m 192 #[.val (.int p0)] [(.int (1 : Int32))])) _
            refine XS.goto X0.here hx rfl (pc0 := 192) (pc' := 196) rfl (hb hby d2_192) (by decide) (by decide) ?_
            exact k)
        rw [show (own_j_114 p0) = (1 : Int32) from (by simp only [own_j_114, if_neg hc118, if_neg hc125])]
        exact pre30
  have K100 : own_Pre p e below (s₁.setTop (mkF m 100 #[.val (.int p0)] [])) (s₁.setTop (mkF m 196 #[.val (.int p0)] [(.int (own_j_100 p0))])) := by
    have pr0 : own_Pre p e below (s₁.setTop (mkF m 100 #[.val (.int p0)] [])) (s₁.setTop (mkF m 100 #[.val (.int p0)] [])) := fun t k => k
    have pre31 : own_Pre p e below (s₁.setTop (mkF m 100 #[.val (.int p0)] [])) (s₁.setTop (mkF m 104 #[.val (.int p0)] [(.int (8204 : Int32)), (.int p0)])) := fun t k => pr0 t (by
        show Steps p.tables e below (s₁.setTop (mkF m 100 #[.val (.int p0)] [])) _
        refine XS.iloadN X0.here hx rfl (hb hby d2_100) rfl ?_
        show Steps p.tables e below (s₁.setTop (mkF m 101 #[.val (.int p0)] [(.int p0)])) _
        refine XS.sipush X0.here hx rfl (hb hby d2_101) ?_
        exact k)
    by_cases hc104 : p0 < (8204 : Int32)
    · have pre32 : own_Pre p e below (s₁.setTop (mkF m 100 #[.val (.int p0)] [])) (s₁.setTop (mkF m 114 #[.val (.int p0)] [])) := fun t k => pre31 t (by
          show Steps p.tables e below (s₁.setTop (mkF m 104 #[.val (.int p0)] [(.int (8204 : Int32)), (.int p0)])) _
          refine XS.icmpYes X0.here hx rfl (pc0 := 104) (pc' := 114) rfl (hb hby d2_104) rfl (tlt hc104).1 (by decide) (by decide) ?_
          exact k)
      rw [show (own_j_100 p0) = (own_j_114 p0) from (by simp only [own_j_100, if_pos hc104])]
      exact fun t k => pre32 t (K114 t k)
    · have pre33 : own_Pre p e below (s₁.setTop (mkF m 100 #[.val (.int p0)] [])) (s₁.setTop (mkF m 111 #[.val (.int p0)] [(.int (8205 : Int32)), (.int p0)])) := fun t k => pre31 t (by
          show Steps p.tables e below (s₁.setTop (mkF m 104 #[.val (.int p0)] [(.int (8204 : Int32)), (.int p0)])) _
          refine XS.icmpNo X0.here hx rfl (hb hby d2_104) rfl (flt hc104).1 ?_
          show Steps p.tables e below (s₁.setTop (mkF m 107 #[.val (.int p0)] [])) _
          refine XS.iloadN X0.here hx rfl (hb hby d2_107) rfl ?_
          show Steps p.tables e below (s₁.setTop (mkF m 108 #[.val (.int p0)] [(.int p0)])) _
          refine XS.sipush X0.here hx rfl (hb hby d2_108) ?_
          exact k)
      by_cases hc111 : (8205 : Int32) < p0
      · have pre34 : own_Pre p e below (s₁.setTop (mkF m 100 #[.val (.int p0)] [])) (s₁.setTop (mkF m 114 #[.val (.int p0)] [])) := fun t k => pre33 t (by
            show Steps p.tables e below (s₁.setTop (mkF m 111 #[.val (.int p0)] [(.int (8205 : Int32)), (.int p0)])) _
            refine XS.icmpNo X0.here hx rfl (hb hby d2_111) rfl (tlt hc111).2.2.2 ?_
            exact k)
        rw [show (own_j_100 p0) = (own_j_114 p0) from (by simp only [own_j_100, if_neg hc104, if_pos hc111])]
        exact fun t k => pre34 t (K114 t k)
      · have pre35 : own_Pre p e below (s₁.setTop (mkF m 100 #[.val (.int p0)] [])) (s₁.setTop (mkF m 196 #[.val (.int p0)] [(.int (1 : Int32))])) := fun t k => pre33 t (by
            show Steps p.tables e below (s₁.setTop (mkF m 111 #[.val (.int p0)] [(.int (8205 : Int32)), (.int p0)])) _
            refine XS.icmpYes X0.here hx rfl (pc0 := 111) (pc' := 191) rfl (hb hby d2_111) rfl (flt hc111).2.2.2 (by decide) (by decide) ?_
            show Steps p.tables e below (s₁.setTop (mkF m 191 #[.val (.int p0)] [])) _
            refine XS.iconst X0.here hx rfl (hb hby d2_191) ?_
            show Steps p.tables e below (s₁.setTop (mkF m 192 #[.val (.int p0)] [(.int (1 : Int32))])) _
            refine XS.goto X0.here hx rfl (pc0 := 192) (pc' := 196) rfl (hb hby d2_192) (by decide) (by decide) ?_
            exact k)
        rw [show (own_j_100 p0) = (1 : Int32) from (by simp only [own_j_100, if_neg hc104, if_neg hc111])]
        exact pre35
  have K86 : own_Pre p e below (s₁.setTop (mkF m 86 #[.val (.int p0)] [])) (s₁.setTop (mkF m 196 #[.val (.int p0)] [(.int (own_j_86 p0))])) := by
    have pr0 : own_Pre p e below (s₁.setTop (mkF m 86 #[.val (.int p0)] [])) (s₁.setTop (mkF m 86 #[.val (.int p0)] [])) := fun t k => k
    have pre36 : own_Pre p e below (s₁.setTop (mkF m 86 #[.val (.int p0)] [])) (s₁.setTop (mkF m 90 #[.val (.int p0)] [(.int (895 : Int32)), (.int p0)])) := fun t k => pr0 t (by
        show Steps p.tables e below (s₁.setTop (mkF m 86 #[.val (.int p0)] [])) _
        refine XS.iloadN X0.here hx rfl (hb hby d2_86) rfl ?_
        show Steps p.tables e below (s₁.setTop (mkF m 87 #[.val (.int p0)] [(.int p0)])) _
        refine XS.sipush X0.here hx rfl (hb hby d2_87) ?_
        exact k)
    by_cases hc90 : p0 < (895 : Int32)
    · have pre37 : own_Pre p e below (s₁.setTop (mkF m 86 #[.val (.int p0)] [])) (s₁.setTop (mkF m 100 #[.val (.int p0)] [])) := fun t k => pre36 t (by
          show Steps p.tables e below (s₁.setTop (mkF m 90 #[.val (.int p0)] [(.int (895 : Int32)), (.int p0)])) _
          refine XS.icmpYes X0.here hx rfl (pc0 := 90) (pc' := 100) rfl (hb hby d2_90) rfl (tlt hc90).1 (by decide) (by decide) ?_
          exact k)
      rw [show (own_j_86 p0) = (own_j_100 p0) from (by simp only [own_j_86, if_pos hc90])]
      exact fun t k => pre37 t (K100 t k)
    · have pre38 : own_Pre p e below (s₁.setTop (mkF m 86 #[.val (.int p0)] [])) (s₁.setTop (mkF m 97 #[.val (.int p0)] [(.int (8191 : Int32)), (.int p0)])) := fun t k => pre36 t (by
          show Steps p.tables e below (s₁.setTop (mkF m 90 #[.val (.int p0)] [(.int (895 : Int32)), (.int p0)])) _
          refine XS.icmpNo X0.here hx rfl (hb hby d2_90) rfl (flt hc90).1 ?_
          show Steps p.tables e below (s₁.setTop (mkF m 93 #[.val (.int p0)] [])) _
          refine XS.iloadN X0.here hx rfl (hb hby d2_93) rfl ?_
          show Steps p.tables e below (s₁.setTop (mkF m 94 #[.val (.int p0)] [(.int p0)])) _
          refine XS.sipush X0.here hx rfl (hb hby d2_94) ?_
          exact k)
      by_cases hc97 : (8191 : Int32) < p0
      · have pre39 : own_Pre p e below (s₁.setTop (mkF m 86 #[.val (.int p0)] [])) (s₁.setTop (mkF m 100 #[.val (.int p0)] [])) := fun t k => pre38 t (by
            show Steps p.tables e below (s₁.setTop (mkF m 97 #[.val (.int p0)] [(.int (8191 : Int32)), (.int p0)])) _
            refine XS.icmpNo X0.here hx rfl (hb hby d2_97) rfl (tlt hc97).2.2.2 ?_
            exact k)
        rw [show (own_j_86 p0) = (own_j_100 p0) from (by simp only [own_j_86, if_neg hc90, if_pos hc97])]
        exact fun t k => pre39 t (K100 t k)
      · have pre40 : own_Pre p e below (s₁.setTop (mkF m 86 #[.val (.int p0)] [])) (s₁.setTop (mkF m 196 #[.val (.int p0)] [(.int (1 : Int32))])) := fun t k => pre38 t (by
            show Steps p.tables e below (s₁.setTop (mkF m 97 #[.val (.int p0)] [(.int (8191 : Int32)), (.int p0)])) _
            refine XS.icmpYes X0.here hx rfl (pc0 := 97) (pc' := 191) rfl (hb hby d2_97) rfl (flt hc97).2.2.2 (by decide) (by decide) ?_
            show Steps p.tables e below (s₁.setTop (mkF m 191 #[.val (.int p0)] [])) _
            refine XS.iconst X0.here hx rfl (hb hby d2_191) ?_
            show Steps p.tables e below (s₁.setTop (mkF m 192 #[.val (.int p0)] [(.int (1 : Int32))])) _
            refine XS.goto X0.here hx rfl (pc0 := 192) (pc' := 196) rfl (hb hby d2_192) (by decide) (by decide) ?_
            exact k)
        rw [show (own_j_86 p0) = (1 : Int32) from (by simp only [own_j_86, if_neg hc90, if_neg hc97])]
        exact pre40
  have K72 : own_Pre p e below (s₁.setTop (mkF m 72 #[.val (.int p0)] [])) (s₁.setTop (mkF m 196 #[.val (.int p0)] [(.int (own_j_72 p0))])) := by
    have pr0 : own_Pre p e below (s₁.setTop (mkF m 72 #[.val (.int p0)] [])) (s₁.setTop (mkF m 72 #[.val (.int p0)] [])) := fun t k => k
    have pre41 : own_Pre p e below (s₁.setTop (mkF m 72 #[.val (.int p0)] [])) (s₁.setTop (mkF m 76 #[.val (.int p0)] [(.int (880 : Int32)), (.int p0)])) := fun t k => pr0 t (by
        show Steps p.tables e below (s₁.setTop (mkF m 72 #[.val (.int p0)] [])) _
        refine XS.iloadN X0.here hx rfl (hb hby d2_72) rfl ?_
        show Steps p.tables e below (s₁.setTop (mkF m 73 #[.val (.int p0)] [(.int p0)])) _
        refine XS.sipush X0.here hx rfl (hb hby d2_73) ?_
        exact k)
    by_cases hc76 : p0 < (880 : Int32)
    · have pre42 : own_Pre p e below (s₁.setTop (mkF m 72 #[.val (.int p0)] [])) (s₁.setTop (mkF m 86 #[.val (.int p0)] [])) := fun t k => pre41 t (by
          show Steps p.tables e below (s₁.setTop (mkF m 76 #[.val (.int p0)] [(.int (880 : Int32)), (.int p0)])) _
          refine XS.icmpYes X0.here hx rfl (pc0 := 76) (pc' := 86) rfl (hb hby d2_76) rfl (tlt hc76).1 (by decide) (by decide) ?_
          exact k)
      rw [show (own_j_72 p0) = (own_j_86 p0) from (by simp only [own_j_72, if_pos hc76])]
      exact fun t k => pre42 t (K86 t k)
    · have pre43 : own_Pre p e below (s₁.setTop (mkF m 72 #[.val (.int p0)] [])) (s₁.setTop (mkF m 83 #[.val (.int p0)] [(.int (893 : Int32)), (.int p0)])) := fun t k => pre41 t (by
          show Steps p.tables e below (s₁.setTop (mkF m 76 #[.val (.int p0)] [(.int (880 : Int32)), (.int p0)])) _
          refine XS.icmpNo X0.here hx rfl (hb hby d2_76) rfl (flt hc76).1 ?_
          show Steps p.tables e below (s₁.setTop (mkF m 79 #[.val (.int p0)] [])) _
          refine XS.iloadN X0.here hx rfl (hb hby d2_79) rfl ?_
          show Steps p.tables e below (s₁.setTop (mkF m 80 #[.val (.int p0)] [(.int p0)])) _
          refine XS.sipush X0.here hx rfl (hb hby d2_80) ?_
          exact k)
      by_cases hc83 : (893 : Int32) < p0
      · have pre44 : own_Pre p e below (s₁.setTop (mkF m 72 #[.val (.int p0)] [])) (s₁.setTop (mkF m 86 #[.val (.int p0)] [])) := fun t k => pre43 t (by
            show Steps p.tables e below (s₁.setTop (mkF m 83 #[.val (.int p0)] [(.int (893 : Int32)), (.int p0)])) _
            refine XS.icmpNo X0.here hx rfl (hb hby d2_83) rfl (tlt hc83).2.2.2 ?_
            exact k)
        rw [show (own_j_72 p0) = (own_j_86 p0) from (by simp only [own_j_72, if_neg hc76, if_pos hc83])]
        exact fun t k => pre44 t (K86 t k)
      · have pre45 : own_Pre p e below (s₁.setTop (mkF m 72 #[.val (.int p0)] [])) (s₁.setTop (mkF m 196 #[.val (.int p0)] [(.int (1 : Int32))])) := fun t k => pre43 t (by
            show Steps p.tables e below (s₁.setTop (mkF m 83 #[.val (.int p0)] [(.int (893 : Int32)), (.int p0)])) _
            refine XS.icmpYes X0.here hx rfl (pc0 := 83) (pc' := 191) rfl (hb hby d2_83) rfl (flt hc83).2.2.2 (by decide) (by decide) ?_
            show Steps p.tables e below (s₁.setTop (mkF m 191 #[.val (.int p0)] [])) _
            refine XS.iconst X0.here hx rfl (hb hby d2_191) ?_
            show Steps p.tables e below (s₁.setTop (mkF m 192 #[.val (.int p0)] [(.int (1 : Int32))])) _
            refine XS.goto X0.here hx rfl (pc0 := 192) (pc' := 196) rfl (hb hby d2_192) (by decide) (by decide) ?_
            exact k)
        rw [show (own_j_72 p0) = (1 : Int32) from (by simp only [own_j_72, if_neg hc76, if_neg hc83])]
        exact pre45
  have K58 : own_Pre p e below (s₁.setTop (mkF m 58 #[.val (.int p0)] [])) (s₁.setTop (mkF m 196 #[.val (.int p0)] [(.int (own_j_58 p0))])) := by
    have pr0 : own_Pre p e below (s₁.setTop (mkF m 58 #[.val (.int p0)] [])) (s₁.setTop (mkF m 58 #[.val (.int p0)] [])) := fun t k => k
    have pre46 : own_Pre p e below (s₁.setTop (mkF m 58 #[.val (.int p0)] [])) (s₁.setTop (mkF m 62 #[.val (.int p0)] [(.int (248 : Int32)), (.int p0)])) := fun t k => pr0 t (by
        show Steps p.tables e below (s₁.setTop (mkF m 58 #[.val (.int p0)] [])) _
        refine XS.iloadN X0.here hx rfl (hb hby d2_58) rfl ?_
        show Steps p.tables e below (s₁.setTop (mkF m 59 #[.val (.int p0)] [(.int p0)])) _
        refine XS.sipush X0.here hx rfl (hb hby d2_59) ?_
        exact k)
    by_cases hc62 : p0 < (248 : Int32)
    · have pre47 : own_Pre p e below (s₁.setTop (mkF m 58 #[.val (.int p0)] [])) (s₁.setTop (mkF m 72 #[.val (.int p0)] [])) := fun t k => pre46 t (by
          show Steps p.tables e below (s₁.setTop (mkF m 62 #[.val (.int p0)] [(.int (248 : Int32)), (.int p0)])) _
          refine XS.icmpYes X0.here hx rfl (pc0 := 62) (pc' := 72) rfl (hb hby d2_62) rfl (tlt hc62).1 (by decide) (by decide) ?_
          exact k)
      rw [show (own_j_58 p0) = (own_j_72 p0) from (by simp only [own_j_58, if_pos hc62])]
      exact fun t k => pre47 t (K72 t k)
    · have pre48 : own_Pre p e below (s₁.setTop (mkF m 58 #[.val (.int p0)] [])) (s₁.setTop (mkF m 69 #[.val (.int p0)] [(.int (767 : Int32)), (.int p0)])) := fun t k => pre46 t (by
          show Steps p.tables e below (s₁.setTop (mkF m 62 #[.val (.int p0)] [(.int (248 : Int32)), (.int p0)])) _
          refine XS.icmpNo X0.here hx rfl (hb hby d2_62) rfl (flt hc62).1 ?_
          show Steps p.tables e below (s₁.setTop (mkF m 65 #[.val (.int p0)] [])) _
          refine XS.iloadN X0.here hx rfl (hb hby d2_65) rfl ?_
          show Steps p.tables e below (s₁.setTop (mkF m 66 #[.val (.int p0)] [(.int p0)])) _
          refine XS.sipush X0.here hx rfl (hb hby d2_66) ?_
          exact k)
      by_cases hc69 : (767 : Int32) < p0
      · have pre49 : own_Pre p e below (s₁.setTop (mkF m 58 #[.val (.int p0)] [])) (s₁.setTop (mkF m 72 #[.val (.int p0)] [])) := fun t k => pre48 t (by
            show Steps p.tables e below (s₁.setTop (mkF m 69 #[.val (.int p0)] [(.int (767 : Int32)), (.int p0)])) _
            refine XS.icmpNo X0.here hx rfl (hb hby d2_69) rfl (tlt hc69).2.2.2 ?_
            exact k)
        rw [show (own_j_58 p0) = (own_j_72 p0) from (by simp only [own_j_58, if_neg hc62, if_pos hc69])]
        exact fun t k => pre49 t (K72 t k)
      · have pre50 : own_Pre p e below (s₁.setTop (mkF m 58 #[.val (.int p0)] [])) (s₁.setTop (mkF m 196 #[.val (.int p0)] [(.int (1 : Int32))])) := fun t k => pre48 t (by
            show Steps p.tables e below (s₁.setTop (mkF m 69 #[.val (.int p0)] [(.int (767 : Int32)), (.int p0)])) _
            refine XS.icmpYes X0.here hx rfl (pc0 := 69) (pc' := 191) rfl (hb hby d2_69) rfl (flt hc69).2.2.2 (by decide) (by decide) ?_
            show Steps p.tables e below (s₁.setTop (mkF m 191 #[.val (.int p0)] [])) _
            refine XS.iconst X0.here hx rfl (hb hby d2_191) ?_
            show Steps p.tables e below (s₁.setTop (mkF m 192 #[.val (.int p0)] [(.int (1 : Int32))])) _
            refine XS.goto X0.here hx rfl (pc0 := 192) (pc' := 196) rfl (hb hby d2_192) (by decide) (by decide) ?_
            exact k)
        rw [show (own_j_58 p0) = (1 : Int32) from (by simp only [own_j_58, if_neg hc62, if_neg hc69])]
        exact pre50
  have K44 : own_Pre p e below (s₁.setTop (mkF m 44 #[.val (.int p0)] [])) (s₁.setTop (mkF m 196 #[.val (.int p0)] [(.int (own_j_44 p0))])) := by
    have pr0 : own_Pre p e below (s₁.setTop (mkF m 44 #[.val (.int p0)] [])) (s₁.setTop (mkF m 44 #[.val (.int p0)] [])) := fun t k => k
    have pre51 : own_Pre p e below (s₁.setTop (mkF m 44 #[.val (.int p0)] [])) (s₁.setTop (mkF m 48 #[.val (.int p0)] [(.int (216 : Int32)), (.int p0)])) := fun t k => pr0 t (by
        show Steps p.tables e below (s₁.setTop (mkF m 44 #[.val (.int p0)] [])) _
        refine XS.iloadN X0.here hx rfl (hb hby d2_44) rfl ?_
        show Steps p.tables e below (s₁.setTop (mkF m 45 #[.val (.int p0)] [(.int p0)])) _
        refine XS.sipush X0.here hx rfl (hb hby d2_45) ?_
        exact k)
    by_cases hc48 : p0 < (216 : Int32)
    · have pre52 : own_Pre p e below (s₁.setTop (mkF m 44 #[.val (.int p0)] [])) (s₁.setTop (mkF m 58 #[.val (.int p0)] [])) := fun t k => pre51 t (by
          show Steps p.tables e below (s₁.setTop (mkF m 48 #[.val (.int p0)] [(.int (216 : Int32)), (.int p0)])) _
          refine XS.icmpYes X0.here hx rfl (pc0 := 48) (pc' := 58) rfl (hb hby d2_48) rfl (tlt hc48).1 (by decide) (by decide) ?_
          exact k)
      rw [show (own_j_44 p0) = (own_j_58 p0) from (by simp only [own_j_44, if_pos hc48])]
      exact fun t k => pre52 t (K58 t k)
    · have pre53 : own_Pre p e below (s₁.setTop (mkF m 44 #[.val (.int p0)] [])) (s₁.setTop (mkF m 55 #[.val (.int p0)] [(.int (246 : Int32)), (.int p0)])) := fun t k => pre51 t (by
          show Steps p.tables e below (s₁.setTop (mkF m 48 #[.val (.int p0)] [(.int (216 : Int32)), (.int p0)])) _
          refine XS.icmpNo X0.here hx rfl (hb hby d2_48) rfl (flt hc48).1 ?_
          show Steps p.tables e below (s₁.setTop (mkF m 51 #[.val (.int p0)] [])) _
          refine XS.iloadN X0.here hx rfl (hb hby d2_51) rfl ?_
          show Steps p.tables e below (s₁.setTop (mkF m 52 #[.val (.int p0)] [(.int p0)])) _
          refine XS.sipush X0.here hx rfl (hb hby d2_52) ?_
          exact k)
      by_cases hc55 : (246 : Int32) < p0
      · have pre54 : own_Pre p e below (s₁.setTop (mkF m 44 #[.val (.int p0)] [])) (s₁.setTop (mkF m 58 #[.val (.int p0)] [])) := fun t k => pre53 t (by
            show Steps p.tables e below (s₁.setTop (mkF m 55 #[.val (.int p0)] [(.int (246 : Int32)), (.int p0)])) _
            refine XS.icmpNo X0.here hx rfl (hb hby d2_55) rfl (tlt hc55).2.2.2 ?_
            exact k)
        rw [show (own_j_44 p0) = (own_j_58 p0) from (by simp only [own_j_44, if_neg hc48, if_pos hc55])]
        exact fun t k => pre54 t (K58 t k)
      · have pre55 : own_Pre p e below (s₁.setTop (mkF m 44 #[.val (.int p0)] [])) (s₁.setTop (mkF m 196 #[.val (.int p0)] [(.int (1 : Int32))])) := fun t k => pre53 t (by
            show Steps p.tables e below (s₁.setTop (mkF m 55 #[.val (.int p0)] [(.int (246 : Int32)), (.int p0)])) _
            refine XS.icmpYes X0.here hx rfl (pc0 := 55) (pc' := 191) rfl (hb hby d2_55) rfl (flt hc55).2.2.2 (by decide) (by decide) ?_
            show Steps p.tables e below (s₁.setTop (mkF m 191 #[.val (.int p0)] [])) _
            refine XS.iconst X0.here hx rfl (hb hby d2_191) ?_
            show Steps p.tables e below (s₁.setTop (mkF m 192 #[.val (.int p0)] [(.int (1 : Int32))])) _
            refine XS.goto X0.here hx rfl (pc0 := 192) (pc' := 196) rfl (hb hby d2_192) (by decide) (by decide) ?_
            exact k)
        rw [show (own_j_44 p0) = (1 : Int32) from (by simp only [own_j_44, if_neg hc48, if_neg hc55])]
        exact pre55
  have K30 : own_Pre p e below (s₁.setTop (mkF m 30 #[.val (.int p0)] [])) (s₁.setTop (mkF m 196 #[.val (.int p0)] [(.int (own_j_30 p0))])) := by
    have pr0 : own_Pre p e below (s₁.setTop (mkF m 30 #[.val (.int p0)] [])) (s₁.setTop (mkF m 30 #[.val (.int p0)] [])) := fun t k => k
    have pre56 : own_Pre p e below (s₁.setTop (mkF m 30 #[.val (.int p0)] [])) (s₁.setTop (mkF m 34 #[.val (.int p0)] [(.int (192 : Int32)), (.int p0)])) := fun t k => pr0 t (by
        show Steps p.tables e below (s₁.setTop (mkF m 30 #[.val (.int p0)] [])) _
        refine XS.iloadN X0.here hx rfl (hb hby d2_30) rfl ?_
        show Steps p.tables e below (s₁.setTop (mkF m 31 #[.val (.int p0)] [(.int p0)])) _
        refine XS.sipush X0.here hx rfl (hb hby d2_31) ?_
        exact k)
    by_cases hc34 : p0 < (192 : Int32)
    · have pre57 : own_Pre p e below (s₁.setTop (mkF m 30 #[.val (.int p0)] [])) (s₁.setTop (mkF m 44 #[.val (.int p0)] [])) := fun t k => pre56 t (by
          show Steps p.tables e below (s₁.setTop (mkF m 34 #[.val (.int p0)] [(.int (192 : Int32)), (.int p0)])) _
          refine XS.icmpYes X0.here hx rfl (pc0 := 34) (pc' := 44) rfl (hb hby d2_34) rfl (tlt hc34).1 (by decide) (by decide) ?_
          exact k)
      rw [show (own_j_30 p0) = (own_j_44 p0) from (by simp only [own_j_30, if_pos hc34])]
      exact fun t k => pre57 t (K44 t k)
    · have pre58 : own_Pre p e below (s₁.setTop (mkF m 30 #[.val (.int p0)] [])) (s₁.setTop (mkF m 41 #[.val (.int p0)] [(.int (214 : Int32)), (.int p0)])) := fun t k => pre56 t (by
          show Steps p.tables e below (s₁.setTop (mkF m 34 #[.val (.int p0)] [(.int (192 : Int32)), (.int p0)])) _
          refine XS.icmpNo X0.here hx rfl (hb hby d2_34) rfl (flt hc34).1 ?_
          show Steps p.tables e below (s₁.setTop (mkF m 37 #[.val (.int p0)] [])) _
          refine XS.iloadN X0.here hx rfl (hb hby d2_37) rfl ?_
          show Steps p.tables e below (s₁.setTop (mkF m 38 #[.val (.int p0)] [(.int p0)])) _
          refine XS.sipush X0.here hx rfl (hb hby d2_38) ?_
          exact k)
      by_cases hc41 : (214 : Int32) < p0
      · have pre59 : own_Pre p e below (s₁.setTop (mkF m 30 #[.val (.int p0)] [])) (s₁.setTop (mkF m 44 #[.val (.int p0)] [])) := fun t k => pre58 t (by
            show Steps p.tables e below (s₁.setTop (mkF m 41 #[.val (.int p0)] [(.int (214 : Int32)), (.int p0)])) _
            refine XS.icmpNo X0.here hx rfl (hb hby d2_41) rfl (tlt hc41).2.2.2 ?_
            exact k)
        rw [show (own_j_30 p0) = (own_j_44 p0) from (by simp only [own_j_30, if_neg hc34, if_pos hc41])]
        exact fun t k => pre59 t (K44 t k)
      · have pre60 : own_Pre p e below (s₁.setTop (mkF m 30 #[.val (.int p0)] [])) (s₁.setTop (mkF m 196 #[.val (.int p0)] [(.int (1 : Int32))])) := fun t k => pre58 t (by
            show Steps p.tables e below (s₁.setTop (mkF m 41 #[.val (.int p0)] [(.int (214 : Int32)), (.int p0)])) _
            refine XS.icmpYes X0.here hx rfl (pc0 := 41) (pc' := 191) rfl (hb hby d2_41) rfl (flt hc41).2.2.2 (by decide) (by decide) ?_
            show Steps p.tables e below (s₁.setTop (mkF m 191 #[.val (.int p0)] [])) _
            refine XS.iconst X0.here hx rfl (hb hby d2_191) ?_
            show Steps p.tables e below (s₁.setTop (mkF m 192 #[.val (.int p0)] [(.int (1 : Int32))])) _
            refine XS.goto X0.here hx rfl (pc0 := 192) (pc' := 196) rfl (hb hby d2_192) (by decide) (by decide) ?_
            exact k)
        rw [show (own_j_30 p0) = (1 : Int32) from (by simp only [own_j_30, if_neg hc34, if_neg hc41])]
        exact pre60
  have K18 : own_Pre p e below (s₁.setTop (mkF m 18 #[.val (.int p0)] [])) (s₁.setTop (mkF m 196 #[.val (.int p0)] [(.int (own_j_18 p0))])) := by
    have pr0 : own_Pre p e below (s₁.setTop (mkF m 18 #[.val (.int p0)] [])) (s₁.setTop (mkF m 18 #[.val (.int p0)] [])) := fun t k => k
    have pre61 : own_Pre p e below (s₁.setTop (mkF m 18 #[.val (.int p0)] [])) (s₁.setTop (mkF m 21 #[.val (.int p0)] [(.int (97 : Int32)), (.int p0)])) := fun t k => pr0 t (by
        show Steps p.tables e below (s₁.setTop (mkF m 18 #[.val (.int p0)] [])) _
        refine XS.iloadN X0.here hx rfl (hb hby d2_18) rfl ?_
        show Steps p.tables e below (s₁.setTop (mkF m 19 #[.val (.int p0)] [(.int p0)])) _
        refine XS.bipush X0.here hx rfl (hb hby d2_19) ?_
        exact k)
    by_cases hc21 : p0 < (97 : Int32)
    · have pre62 : own_Pre p e below (s₁.setTop (mkF m 18 #[.val (.int p0)] [])) (s₁.setTop (mkF m 30 #[.val (.int p0)] [])) := fun t k => pre61 t (by
          show Steps p.tables e below (s₁.setTop (mkF m 21 #[.val (.int p0)] [(.int (97 : Int32)), (.int p0)])) _
          refine XS.icmpYes X0.here hx rfl (pc0 := 21) (pc' := 30) rfl (hb hby d2_21) rfl (tlt hc21).1 (by decide) (by decide) ?_
          exact k)
      rw [show (own_j_18 p0) = (own_j_30 p0) from (by simp only [own_j_18, if_pos hc21])]
      exact fun t k => pre62 t (K30 t k)
    · have pre63 : own_Pre p e below (s₁.setTop (mkF m 18 #[.val (.int p0)] [])) (s₁.setTop (mkF m 27 #[.val (.int p0)] [(.int (122 : Int32)), (.int p0)])) := fun t k => pre61 t (by
          show Steps p.tables e below (s₁.setTop (mkF m 21 #[.val (.int p0)] [(.int (97 : Int32)), (.int p0)])) _
          refine XS.icmpNo X0.here hx rfl (hb hby d2_21) rfl (flt hc21).1 ?_
          show Steps p.tables e below (s₁.setTop (mkF m 24 #[.val (.int p0)] [])) _
          refine XS.iloadN X0.here hx rfl (hb hby d2_24) rfl ?_
          show Steps p.tables e below (s₁.setTop (mkF m 25 #[.val (.int p0)] [(.int p0)])) _
          refine XS.bipush X0.here hx rfl (hb hby d2_25) ?_
          exact k)
      by_cases hc27 : (122 : Int32) < p0
      · have pre64 : own_Pre p e below (s₁.setTop (mkF m 18 #[.val (.int p0)] [])) (s₁.setTop (mkF m 30 #[.val (.int p0)] [])) := fun t k => pre63 t (by
            show Steps p.tables e below (s₁.setTop (mkF m 27 #[.val (.int p0)] [(.int (122 : Int32)), (.int p0)])) _
            refine XS.icmpNo X0.here hx rfl (hb hby d2_27) rfl (tlt hc27).2.2.2 ?_
            exact k)
        rw [show (own_j_18 p0) = (own_j_30 p0) from (by simp only [own_j_18, if_neg hc21, if_pos hc27])]
        exact fun t k => pre64 t (K30 t k)
      · have pre65 : own_Pre p e below (s₁.setTop (mkF m 18 #[.val (.int p0)] [])) (s₁.setTop (mkF m 196 #[.val (.int p0)] [(.int (1 : Int32))])) := fun t k => pre63 t (by
            show Steps p.tables e below (s₁.setTop (mkF m 27 #[.val (.int p0)] [(.int (122 : Int32)), (.int p0)])) _
            refine XS.icmpYes X0.here hx rfl (pc0 := 27) (pc' := 191) rfl (hb hby d2_27) rfl (flt hc27).2.2.2 (by decide) (by decide) ?_
            show Steps p.tables e below (s₁.setTop (mkF m 191 #[.val (.int p0)] [])) _
            refine XS.iconst X0.here hx rfl (hb hby d2_191) ?_
            show Steps p.tables e below (s₁.setTop (mkF m 192 #[.val (.int p0)] [(.int (1 : Int32))])) _
            refine XS.goto X0.here hx rfl (pc0 := 192) (pc' := 196) rfl (hb hby d2_192) (by decide) (by decide) ?_
            exact k)
        rw [show (own_j_18 p0) = (1 : Int32) from (by simp only [own_j_18, if_neg hc21, if_neg hc27])]
        exact pre65
  have K12 : own_Pre p e below (s₁.setTop (mkF m 12 #[.val (.int p0)] [])) (s₁.setTop (mkF m 196 #[.val (.int p0)] [(.int (own_j_12 p0))])) := by
    have pr0 : own_Pre p e below (s₁.setTop (mkF m 12 #[.val (.int p0)] [])) (s₁.setTop (mkF m 12 #[.val (.int p0)] [])) := fun t k => k
    have pre66 : own_Pre p e below (s₁.setTop (mkF m 12 #[.val (.int p0)] [])) (s₁.setTop (mkF m 15 #[.val (.int p0)] [(.int (95 : Int32)), (.int p0)])) := fun t k => pr0 t (by
        show Steps p.tables e below (s₁.setTop (mkF m 12 #[.val (.int p0)] [])) _
        refine XS.iloadN X0.here hx rfl (hb hby d2_12) rfl ?_
        show Steps p.tables e below (s₁.setTop (mkF m 13 #[.val (.int p0)] [(.int p0)])) _
        refine XS.bipush X0.here hx rfl (hb hby d2_13) ?_
        exact k)
    by_cases hc15 : p0 = (95 : Int32)
    · have pre67 : own_Pre p e below (s₁.setTop (mkF m 12 #[.val (.int p0)] [])) (s₁.setTop (mkF m 196 #[.val (.int p0)] [(.int (1 : Int32))])) := fun t k => pre66 t (by
          show Steps p.tables e below (s₁.setTop (mkF m 15 #[.val (.int p0)] [(.int (95 : Int32)), (.int p0)])) _
          refine XS.icmpYes X0.here hx rfl (pc0 := 15) (pc' := 191) rfl (hb hby d2_15) rfl (teq hc15).1 (by decide) (by decide) ?_
          show Steps p.tables e below (s₁.setTop (mkF m 191 #[.val (.int p0)] [])) _
          refine XS.iconst X0.here hx rfl (hb hby d2_191) ?_
          show Steps p.tables e below (s₁.setTop (mkF m 192 #[.val (.int p0)] [(.int (1 : Int32))])) _
          refine XS.goto X0.here hx rfl (pc0 := 192) (pc' := 196) rfl (hb hby d2_192) (by decide) (by decide) ?_
          exact k)
      rw [show (own_j_12 p0) = (1 : Int32) from (by simp only [own_j_12, if_pos hc15])]
      exact pre67
    · have pre68 : own_Pre p e below (s₁.setTop (mkF m 12 #[.val (.int p0)] [])) (s₁.setTop (mkF m 18 #[.val (.int p0)] [])) := fun t k => pre66 t (by
          show Steps p.tables e below (s₁.setTop (mkF m 15 #[.val (.int p0)] [(.int (95 : Int32)), (.int p0)])) _
          refine XS.icmpNo X0.here hx rfl (hb hby d2_15) rfl (feq hc15).1 ?_
          exact k)
      rw [show (own_j_12 p0) = (own_j_18 p0) from (by simp only [own_j_12, if_neg hc15])]
      exact fun t k => pre68 t (K18 t k)
  have K0 : own_Pre p e below (s₁.setTop (mkF m 0 #[.val (.int p0)] [])) (s₁.setTop (mkF m 196 #[.val (.int p0)] [(.int (own_j_0 p0))])) := by
    have pr0 : own_Pre p e below (s₁.setTop (mkF m 0 #[.val (.int p0)] [])) (s₁.setTop (mkF m 0 #[.val (.int p0)] [])) := fun t k => k
    have pre69 : own_Pre p e below (s₁.setTop (mkF m 0 #[.val (.int p0)] [])) (s₁.setTop (mkF m 3 #[.val (.int p0)] [(.int (65 : Int32)), (.int p0)])) := fun t k => pr0 t (by
        show Steps p.tables e below (s₁.setTop (mkF m 0 #[.val (.int p0)] [])) _
        refine XS.iloadN X0.here hx rfl (hb hby d2_0) rfl ?_
        show Steps p.tables e below (s₁.setTop (mkF m 1 #[.val (.int p0)] [(.int p0)])) _
        refine XS.bipush X0.here hx rfl (hb hby d2_1) ?_
        exact k)
    by_cases hc3 : p0 < (65 : Int32)
    · have pre70 : own_Pre p e below (s₁.setTop (mkF m 0 #[.val (.int p0)] [])) (s₁.setTop (mkF m 12 #[.val (.int p0)] [])) := fun t k => pre69 t (by
          show Steps p.tables e below (s₁.setTop (mkF m 3 #[.val (.int p0)] [(.int (65 : Int32)), (.int p0)])) _
          refine XS.icmpYes X0.here hx rfl (pc0 := 3) (pc' := 12) rfl (hb hby d2_3) rfl (tlt hc3).1 (by decide) (by decide) ?_
          exact k)
      rw [show (own_j_0 p0) = (own_j_12 p0) from (by simp only [own_j_0, if_pos hc3])]
      exact fun t k => pre70 t (K12 t k)
    · have pre71 : own_Pre p e below (s₁.setTop (mkF m 0 #[.val (.int p0)] [])) (s₁.setTop (mkF m 9 #[.val (.int p0)] [(.int (90 : Int32)), (.int p0)])) := fun t k => pre69 t (by
          show Steps p.tables e below (s₁.setTop (mkF m 3 #[.val (.int p0)] [(.int (65 : Int32)), (.int p0)])) _
          refine XS.icmpNo X0.here hx rfl (hb hby d2_3) rfl (flt hc3).1 ?_
          show Steps p.tables e below (s₁.setTop (mkF m 6 #[.val (.int p0)] [])) _
          refine XS.iloadN X0.here hx rfl (hb hby d2_6) rfl ?_
          show Steps p.tables e below (s₁.setTop (mkF m 7 #[.val (.int p0)] [(.int p0)])) _
          refine XS.bipush X0.here hx rfl (hb hby d2_7) ?_
          exact k)
      by_cases hc9 : (90 : Int32) < p0
      · have pre72 : own_Pre p e below (s₁.setTop (mkF m 0 #[.val (.int p0)] [])) (s₁.setTop (mkF m 12 #[.val (.int p0)] [])) := fun t k => pre71 t (by
            show Steps p.tables e below (s₁.setTop (mkF m 9 #[.val (.int p0)] [(.int (90 : Int32)), (.int p0)])) _
            refine XS.icmpNo X0.here hx rfl (hb hby d2_9) rfl (tlt hc9).2.2.2 ?_
            exact k)
        rw [show (own_j_0 p0) = (own_j_12 p0) from (by simp only [own_j_0, if_neg hc3, if_pos hc9])]
        exact fun t k => pre72 t (K12 t k)
      · have pre73 : own_Pre p e below (s₁.setTop (mkF m 0 #[.val (.int p0)] [])) (s₁.setTop (mkF m 196 #[.val (.int p0)] [(.int (1 : Int32))])) := fun t k => pre71 t (by
            show Steps p.tables e below (s₁.setTop (mkF m 9 #[.val (.int p0)] [(.int (90 : Int32)), (.int p0)])) _
            refine XS.icmpYes X0.here hx rfl (pc0 := 9) (pc' := 191) rfl (hb hby d2_9) rfl (flt hc9).2.2.2 (by decide) (by decide) ?_
            show Steps p.tables e below (s₁.setTop (mkF m 191 #[.val (.int p0)] [])) _
            refine XS.iconst X0.here hx rfl (hb hby d2_191) ?_
            show Steps p.tables e below (s₁.setTop (mkF m 192 #[.val (.int p0)] [(.int (1 : Int32))])) _
            refine XS.goto X0.here hx rfl (pc0 := 192) (pc' := 196) rfl (hb hby d2_192) (by decide) (by decide) ?_
            exact k)
        rw [show (own_j_0 p0) = (1 : Int32) from (by simp only [own_j_0, if_neg hc3, if_neg hc9])]
        exact pre73
  have pre74 : own_Pre p e below (s₁.setTop (entryFrame m #[(.int p0)] 1)) (s₁.setTop (mkF m 196 #[.val (.int p0)] [(.int (own_j_0 p0))])) := fun t k => pre0 t (K0 t k)
  obtain ⟨fs, hr, hrun, hended, hW, hsame⟩ := X0.leave (v := some (.int (nar .boolean (own_j_0 p0)))) (fun h => by rw [Bd.returns] at h; cases h)
  refine ⟨_, _, pre74 _ ?_, hrun, hended, _, _, rfl, ?_, ⟨_, rfl⟩, hW, hsame.mono (by decide) (by decide)⟩
  · show Steps p.tables e below (s₁.setTop (mkF m 196 #[.val (.int p0)] [(.int (own_j_0 p0))])) _
    exact retN X0 hx (t := .boolean) Bd.returns (by simp) (hb hby d2_196) hr
  · show Q2 Z p0 h0 n0 _ s₁.heap _
    rw [e0]
    unfold Q2
    refine ⟨rfl, N0, rfl⟩
theorem pd_0 : parseMethodDescriptor "()[J" = some ⟨[], some (.array .long)⟩ := by decide +kernel
theorem pd_1 : parseMethodDescriptor "(I)Z" = some ⟨[.int], some .boolean⟩ := by decide +kernel
theorem ef_0 (m : MethodId) (p0 : Int32) (p1 : Int32) (q2 : Int64) : entryFrame m #[(.int p0), (.int p1), (.long q2)] maxLocals = mkF m 0 #[.val (.int p0), .val (.int p1), .val (.long q2), .second, .unset, .unset, .unset, .unset, .unset, .unset, .unset, .unset, .unset, .unset, .unset] [] := by first | (simp [entryFrame, mkF, argsToLocals, Value.category, maxLocals]; done) | rfl
def own_m0_74_l11 (v0 : Int32) (v1 : Int64) (v2 : Int64) : Int64 := (if v0 = (0 : Int32) then (0 : Int64) else (if v0 = (1 : Int32) then ((v1 - (1 : Int64))) else (((v2 &&& (9223372036854775807 : Int64)) - (v2 &&& (9223372036854775807 : Int64)) / v1 * v1))))
def own_m0_95_s0 (v0 : Int32) : Int32 := (if (v0 &&& (1 : Int32)) = (1 : Int32) then (1 : Int32) else (0 : Int32))
theorem own_J0 (c : Int32) : own_j_0 c = (if c.toInt < 65 then own_j_12 c else (if 90 < c.toInt then own_j_12 c else (1 : Int32))) := by
  unfold own_j_0
  simp only [Int32.lt_iff_toInt_lt, ← Int32.toInt_inj]
  rfl
theorem own_J12 (c : Int32) : own_j_12 c = (if c.toInt = 95 then (1 : Int32) else own_j_18 c) := by
  unfold own_j_12
  simp only [Int32.lt_iff_toInt_lt, ← Int32.toInt_inj]
  rfl
theorem own_J18 (c : Int32) : own_j_18 c = (if c.toInt < 97 then own_j_30 c else (if 122 < c.toInt then own_j_30 c else (1 : Int32))) := by
  unfold own_j_18
  simp only [Int32.lt_iff_toInt_lt, ← Int32.toInt_inj]
  rfl
theorem own_J30 (c : Int32) : own_j_30 c = (if c.toInt < 192 then own_j_44 c else (if 214 < c.toInt then own_j_44 c else (1 : Int32))) := by
  unfold own_j_30
  simp only [Int32.lt_iff_toInt_lt, ← Int32.toInt_inj]
  rfl
theorem own_J44 (c : Int32) : own_j_44 c = (if c.toInt < 216 then own_j_58 c else (if 246 < c.toInt then own_j_58 c else (1 : Int32))) := by
  unfold own_j_44
  simp only [Int32.lt_iff_toInt_lt, ← Int32.toInt_inj]
  rfl
theorem own_J58 (c : Int32) : own_j_58 c = (if c.toInt < 248 then own_j_72 c else (if 767 < c.toInt then own_j_72 c else (1 : Int32))) := by
  unfold own_j_58
  simp only [Int32.lt_iff_toInt_lt, ← Int32.toInt_inj]
  rfl
theorem own_J72 (c : Int32) : own_j_72 c = (if c.toInt < 880 then own_j_86 c else (if 893 < c.toInt then own_j_86 c else (1 : Int32))) := by
  unfold own_j_72
  simp only [Int32.lt_iff_toInt_lt, ← Int32.toInt_inj]
  rfl
theorem own_J86 (c : Int32) : own_j_86 c = (if c.toInt < 895 then own_j_100 c else (if 8191 < c.toInt then own_j_100 c else (1 : Int32))) := by
  unfold own_j_86
  simp only [Int32.lt_iff_toInt_lt, ← Int32.toInt_inj]
  rfl
theorem own_J100 (c : Int32) : own_j_100 c = (if c.toInt < 8204 then own_j_114 c else (if 8205 < c.toInt then own_j_114 c else (1 : Int32))) := by
  unfold own_j_100
  simp only [Int32.lt_iff_toInt_lt, ← Int32.toInt_inj]
  rfl
theorem own_J114 (c : Int32) : own_j_114 c = (if c.toInt < 8304 then own_j_128 c else (if 8591 < c.toInt then own_j_128 c else (1 : Int32))) := by
  unfold own_j_114
  simp only [Int32.lt_iff_toInt_lt, ← Int32.toInt_inj]
  rfl
theorem own_J128 (c : Int32) : own_j_128 c = (if c.toInt < 11264 then own_j_142 c else (if 12271 < c.toInt then own_j_142 c else (1 : Int32))) := by
  unfold own_j_128
  simp only [Int32.lt_iff_toInt_lt, ← Int32.toInt_inj]
  rfl
theorem own_J142 (c : Int32) : own_j_142 c = (if c.toInt < 12289 then own_j_155 c else (if 55295 < c.toInt then own_j_155 c else (1 : Int32))) := by
  unfold own_j_142
  simp only [Int32.lt_iff_toInt_lt, ← Int32.toInt_inj]
  rfl
theorem own_J155 (c : Int32) : own_j_155 c = (if c.toInt < 63744 then own_j_167 c else (if 64975 < c.toInt then own_j_167 c else (1 : Int32))) := by
  unfold own_j_155
  simp only [Int32.lt_iff_toInt_lt, ← Int32.toInt_inj]
  rfl
theorem own_J167 (c : Int32) : own_j_167 c = (if c.toInt < 65008 then own_j_179 c else (if 65533 < c.toInt then own_j_179 c else (1 : Int32))) := by
  unfold own_j_167
  simp only [Int32.lt_iff_toInt_lt, ← Int32.toInt_inj]
  rfl
theorem own_J179 (c : Int32) : own_j_179 c = (if c.toInt < 65536 then (0 : Int32) else (if 983039 < c.toInt then (0 : Int32) else (1 : Int32))) := by
  unfold own_j_179
  simp only [Int32.lt_iff_toInt_lt, ← Int32.toInt_inj]
  rfl
theorem own_seg0 (c : Int32) (h1 : (-2147483648) ≤ c.toInt) (h2 : c.toInt < 65) : own_j_0 c = (0 : Int32) := by
  rw [own_J0, if_pos (by omega), own_J12, if_neg (by omega), own_J18, if_pos (by omega), own_J30, if_pos (by omega), own_J44, if_pos (by omega), own_J58, if_pos (by omega), own_J72, if_pos (by omega), own_J86, if_pos (by omega), own_J100, if_pos (by omega), own_J114, if_pos (by omega), own_J128, if_pos (by omega), own_J142, if_pos (by omega), own_J155, if_pos (by omega), own_J167, if_pos (by omega), own_J179, if_pos (by omega)]
theorem own_seg1 (c : Int32) (h1 : 65 ≤ c.toInt) (h2 : c.toInt < 91) : own_j_0 c = (1 : Int32) := by
  rw [own_J0, if_neg (by omega), if_neg (by omega)]
theorem own_seg2 (c : Int32) (h1 : 91 ≤ c.toInt) (h2 : c.toInt < 95) : own_j_0 c = (0 : Int32) := by
  rw [own_J0, if_neg (by omega), if_pos (by omega), own_J12, if_neg (by omega), own_J18, if_pos (by omega), own_J30, if_pos (by omega), own_J44, if_pos (by omega), own_J58, if_pos (by omega), own_J72, if_pos (by omega), own_J86, if_pos (by omega), own_J100, if_pos (by omega), own_J114, if_pos (by omega), own_J128, if_pos (by omega), own_J142, if_pos (by omega), own_J155, if_pos (by omega), own_J167, if_pos (by omega), own_J179, if_pos (by omega)]
theorem own_seg3 (c : Int32) (h1 : 95 ≤ c.toInt) (h2 : c.toInt < 96) : own_j_0 c = (1 : Int32) := by
  rw [own_J0, if_neg (by omega), if_pos (by omega), own_J12, if_pos (by omega)]
theorem own_seg4 (c : Int32) (h1 : 96 ≤ c.toInt) (h2 : c.toInt < 97) : own_j_0 c = (0 : Int32) := by
  rw [own_J0, if_neg (by omega), if_pos (by omega), own_J12, if_neg (by omega), own_J18, if_pos (by omega), own_J30, if_pos (by omega), own_J44, if_pos (by omega), own_J58, if_pos (by omega), own_J72, if_pos (by omega), own_J86, if_pos (by omega), own_J100, if_pos (by omega), own_J114, if_pos (by omega), own_J128, if_pos (by omega), own_J142, if_pos (by omega), own_J155, if_pos (by omega), own_J167, if_pos (by omega), own_J179, if_pos (by omega)]
theorem own_seg5 (c : Int32) (h1 : 97 ≤ c.toInt) (h2 : c.toInt < 123) : own_j_0 c = (1 : Int32) := by
  rw [own_J0, if_neg (by omega), if_pos (by omega), own_J12, if_neg (by omega), own_J18, if_neg (by omega), if_neg (by omega)]
theorem own_seg6 (c : Int32) (h1 : 123 ≤ c.toInt) (h2 : c.toInt < 192) : own_j_0 c = (0 : Int32) := by
  rw [own_J0, if_neg (by omega), if_pos (by omega), own_J12, if_neg (by omega), own_J18, if_neg (by omega), if_pos (by omega), own_J30, if_pos (by omega), own_J44, if_pos (by omega), own_J58, if_pos (by omega), own_J72, if_pos (by omega), own_J86, if_pos (by omega), own_J100, if_pos (by omega), own_J114, if_pos (by omega), own_J128, if_pos (by omega), own_J142, if_pos (by omega), own_J155, if_pos (by omega), own_J167, if_pos (by omega), own_J179, if_pos (by omega)]
theorem own_seg7 (c : Int32) (h1 : 192 ≤ c.toInt) (h2 : c.toInt < 215) : own_j_0 c = (1 : Int32) := by
  rw [own_J0, if_neg (by omega), if_pos (by omega), own_J12, if_neg (by omega), own_J18, if_neg (by omega), if_pos (by omega), own_J30, if_neg (by omega), if_neg (by omega)]
theorem own_seg8 (c : Int32) (h1 : 215 ≤ c.toInt) (h2 : c.toInt < 216) : own_j_0 c = (0 : Int32) := by
  rw [own_J0, if_neg (by omega), if_pos (by omega), own_J12, if_neg (by omega), own_J18, if_neg (by omega), if_pos (by omega), own_J30, if_neg (by omega), if_pos (by omega), own_J44, if_pos (by omega), own_J58, if_pos (by omega), own_J72, if_pos (by omega), own_J86, if_pos (by omega), own_J100, if_pos (by omega), own_J114, if_pos (by omega), own_J128, if_pos (by omega), own_J142, if_pos (by omega), own_J155, if_pos (by omega), own_J167, if_pos (by omega), own_J179, if_pos (by omega)]
theorem own_seg9 (c : Int32) (h1 : 216 ≤ c.toInt) (h2 : c.toInt < 247) : own_j_0 c = (1 : Int32) := by
  rw [own_J0, if_neg (by omega), if_pos (by omega), own_J12, if_neg (by omega), own_J18, if_neg (by omega), if_pos (by omega), own_J30, if_neg (by omega), if_pos (by omega), own_J44, if_neg (by omega), if_neg (by omega)]
theorem own_seg10 (c : Int32) (h1 : 247 ≤ c.toInt) (h2 : c.toInt < 248) : own_j_0 c = (0 : Int32) := by
  rw [own_J0, if_neg (by omega), if_pos (by omega), own_J12, if_neg (by omega), own_J18, if_neg (by omega), if_pos (by omega), own_J30, if_neg (by omega), if_pos (by omega), own_J44, if_neg (by omega), if_pos (by omega), own_J58, if_pos (by omega), own_J72, if_pos (by omega), own_J86, if_pos (by omega), own_J100, if_pos (by omega), own_J114, if_pos (by omega), own_J128, if_pos (by omega), own_J142, if_pos (by omega), own_J155, if_pos (by omega), own_J167, if_pos (by omega), own_J179, if_pos (by omega)]
theorem own_seg11 (c : Int32) (h1 : 248 ≤ c.toInt) (h2 : c.toInt < 768) : own_j_0 c = (1 : Int32) := by
  rw [own_J0, if_neg (by omega), if_pos (by omega), own_J12, if_neg (by omega), own_J18, if_neg (by omega), if_pos (by omega), own_J30, if_neg (by omega), if_pos (by omega), own_J44, if_neg (by omega), if_pos (by omega), own_J58, if_neg (by omega), if_neg (by omega)]
theorem own_seg12 (c : Int32) (h1 : 768 ≤ c.toInt) (h2 : c.toInt < 880) : own_j_0 c = (0 : Int32) := by
  rw [own_J0, if_neg (by omega), if_pos (by omega), own_J12, if_neg (by omega), own_J18, if_neg (by omega), if_pos (by omega), own_J30, if_neg (by omega), if_pos (by omega), own_J44, if_neg (by omega), if_pos (by omega), own_J58, if_neg (by omega), if_pos (by omega), own_J72, if_pos (by omega), own_J86, if_pos (by omega), own_J100, if_pos (by omega), own_J114, if_pos (by omega), own_J128, if_pos (by omega), own_J142, if_pos (by omega), own_J155, if_pos (by omega), own_J167, if_pos (by omega), own_J179, if_pos (by omega)]
theorem own_seg13 (c : Int32) (h1 : 880 ≤ c.toInt) (h2 : c.toInt < 894) : own_j_0 c = (1 : Int32) := by
  rw [own_J0, if_neg (by omega), if_pos (by omega), own_J12, if_neg (by omega), own_J18, if_neg (by omega), if_pos (by omega), own_J30, if_neg (by omega), if_pos (by omega), own_J44, if_neg (by omega), if_pos (by omega), own_J58, if_neg (by omega), if_pos (by omega), own_J72, if_neg (by omega), if_neg (by omega)]
theorem own_seg14 (c : Int32) (h1 : 894 ≤ c.toInt) (h2 : c.toInt < 895) : own_j_0 c = (0 : Int32) := by
  rw [own_J0, if_neg (by omega), if_pos (by omega), own_J12, if_neg (by omega), own_J18, if_neg (by omega), if_pos (by omega), own_J30, if_neg (by omega), if_pos (by omega), own_J44, if_neg (by omega), if_pos (by omega), own_J58, if_neg (by omega), if_pos (by omega), own_J72, if_neg (by omega), if_pos (by omega), own_J86, if_pos (by omega), own_J100, if_pos (by omega), own_J114, if_pos (by omega), own_J128, if_pos (by omega), own_J142, if_pos (by omega), own_J155, if_pos (by omega), own_J167, if_pos (by omega), own_J179, if_pos (by omega)]
theorem own_seg15 (c : Int32) (h1 : 895 ≤ c.toInt) (h2 : c.toInt < 8192) : own_j_0 c = (1 : Int32) := by
  rw [own_J0, if_neg (by omega), if_pos (by omega), own_J12, if_neg (by omega), own_J18, if_neg (by omega), if_pos (by omega), own_J30, if_neg (by omega), if_pos (by omega), own_J44, if_neg (by omega), if_pos (by omega), own_J58, if_neg (by omega), if_pos (by omega), own_J72, if_neg (by omega), if_pos (by omega), own_J86, if_neg (by omega), if_neg (by omega)]
theorem own_seg16 (c : Int32) (h1 : 8192 ≤ c.toInt) (h2 : c.toInt < 8204) : own_j_0 c = (0 : Int32) := by
  rw [own_J0, if_neg (by omega), if_pos (by omega), own_J12, if_neg (by omega), own_J18, if_neg (by omega), if_pos (by omega), own_J30, if_neg (by omega), if_pos (by omega), own_J44, if_neg (by omega), if_pos (by omega), own_J58, if_neg (by omega), if_pos (by omega), own_J72, if_neg (by omega), if_pos (by omega), own_J86, if_neg (by omega), if_pos (by omega), own_J100, if_pos (by omega), own_J114, if_pos (by omega), own_J128, if_pos (by omega), own_J142, if_pos (by omega), own_J155, if_pos (by omega), own_J167, if_pos (by omega), own_J179, if_pos (by omega)]
theorem own_seg17 (c : Int32) (h1 : 8204 ≤ c.toInt) (h2 : c.toInt < 8206) : own_j_0 c = (1 : Int32) := by
  rw [own_J0, if_neg (by omega), if_pos (by omega), own_J12, if_neg (by omega), own_J18, if_neg (by omega), if_pos (by omega), own_J30, if_neg (by omega), if_pos (by omega), own_J44, if_neg (by omega), if_pos (by omega), own_J58, if_neg (by omega), if_pos (by omega), own_J72, if_neg (by omega), if_pos (by omega), own_J86, if_neg (by omega), if_pos (by omega), own_J100, if_neg (by omega), if_neg (by omega)]
theorem own_seg18 (c : Int32) (h1 : 8206 ≤ c.toInt) (h2 : c.toInt < 8304) : own_j_0 c = (0 : Int32) := by
  rw [own_J0, if_neg (by omega), if_pos (by omega), own_J12, if_neg (by omega), own_J18, if_neg (by omega), if_pos (by omega), own_J30, if_neg (by omega), if_pos (by omega), own_J44, if_neg (by omega), if_pos (by omega), own_J58, if_neg (by omega), if_pos (by omega), own_J72, if_neg (by omega), if_pos (by omega), own_J86, if_neg (by omega), if_pos (by omega), own_J100, if_neg (by omega), if_pos (by omega), own_J114, if_pos (by omega), own_J128, if_pos (by omega), own_J142, if_pos (by omega), own_J155, if_pos (by omega), own_J167, if_pos (by omega), own_J179, if_pos (by omega)]
theorem own_seg19 (c : Int32) (h1 : 8304 ≤ c.toInt) (h2 : c.toInt < 8592) : own_j_0 c = (1 : Int32) := by
  rw [own_J0, if_neg (by omega), if_pos (by omega), own_J12, if_neg (by omega), own_J18, if_neg (by omega), if_pos (by omega), own_J30, if_neg (by omega), if_pos (by omega), own_J44, if_neg (by omega), if_pos (by omega), own_J58, if_neg (by omega), if_pos (by omega), own_J72, if_neg (by omega), if_pos (by omega), own_J86, if_neg (by omega), if_pos (by omega), own_J100, if_neg (by omega), if_pos (by omega), own_J114, if_neg (by omega), if_neg (by omega)]
theorem own_seg20 (c : Int32) (h1 : 8592 ≤ c.toInt) (h2 : c.toInt < 11264) : own_j_0 c = (0 : Int32) := by
  rw [own_J0, if_neg (by omega), if_pos (by omega), own_J12, if_neg (by omega), own_J18, if_neg (by omega), if_pos (by omega), own_J30, if_neg (by omega), if_pos (by omega), own_J44, if_neg (by omega), if_pos (by omega), own_J58, if_neg (by omega), if_pos (by omega), own_J72, if_neg (by omega), if_pos (by omega), own_J86, if_neg (by omega), if_pos (by omega), own_J100, if_neg (by omega), if_pos (by omega), own_J114, if_neg (by omega), if_pos (by omega), own_J128, if_pos (by omega), own_J142, if_pos (by omega), own_J155, if_pos (by omega), own_J167, if_pos (by omega), own_J179, if_pos (by omega)]
theorem own_seg21 (c : Int32) (h1 : 11264 ≤ c.toInt) (h2 : c.toInt < 12272) : own_j_0 c = (1 : Int32) := by
  rw [own_J0, if_neg (by omega), if_pos (by omega), own_J12, if_neg (by omega), own_J18, if_neg (by omega), if_pos (by omega), own_J30, if_neg (by omega), if_pos (by omega), own_J44, if_neg (by omega), if_pos (by omega), own_J58, if_neg (by omega), if_pos (by omega), own_J72, if_neg (by omega), if_pos (by omega), own_J86, if_neg (by omega), if_pos (by omega), own_J100, if_neg (by omega), if_pos (by omega), own_J114, if_neg (by omega), if_pos (by omega), own_J128, if_neg (by omega), if_neg (by omega)]
theorem own_seg22 (c : Int32) (h1 : 12272 ≤ c.toInt) (h2 : c.toInt < 12289) : own_j_0 c = (0 : Int32) := by
  rw [own_J0, if_neg (by omega), if_pos (by omega), own_J12, if_neg (by omega), own_J18, if_neg (by omega), if_pos (by omega), own_J30, if_neg (by omega), if_pos (by omega), own_J44, if_neg (by omega), if_pos (by omega), own_J58, if_neg (by omega), if_pos (by omega), own_J72, if_neg (by omega), if_pos (by omega), own_J86, if_neg (by omega), if_pos (by omega), own_J100, if_neg (by omega), if_pos (by omega), own_J114, if_neg (by omega), if_pos (by omega), own_J128, if_neg (by omega), if_pos (by omega), own_J142, if_pos (by omega), own_J155, if_pos (by omega), own_J167, if_pos (by omega), own_J179, if_pos (by omega)]
theorem own_seg23 (c : Int32) (h1 : 12289 ≤ c.toInt) (h2 : c.toInt < 55296) : own_j_0 c = (1 : Int32) := by
  rw [own_J0, if_neg (by omega), if_pos (by omega), own_J12, if_neg (by omega), own_J18, if_neg (by omega), if_pos (by omega), own_J30, if_neg (by omega), if_pos (by omega), own_J44, if_neg (by omega), if_pos (by omega), own_J58, if_neg (by omega), if_pos (by omega), own_J72, if_neg (by omega), if_pos (by omega), own_J86, if_neg (by omega), if_pos (by omega), own_J100, if_neg (by omega), if_pos (by omega), own_J114, if_neg (by omega), if_pos (by omega), own_J128, if_neg (by omega), if_pos (by omega), own_J142, if_neg (by omega), if_neg (by omega)]
theorem own_seg24 (c : Int32) (h1 : 55296 ≤ c.toInt) (h2 : c.toInt < 63744) : own_j_0 c = (0 : Int32) := by
  rw [own_J0, if_neg (by omega), if_pos (by omega), own_J12, if_neg (by omega), own_J18, if_neg (by omega), if_pos (by omega), own_J30, if_neg (by omega), if_pos (by omega), own_J44, if_neg (by omega), if_pos (by omega), own_J58, if_neg (by omega), if_pos (by omega), own_J72, if_neg (by omega), if_pos (by omega), own_J86, if_neg (by omega), if_pos (by omega), own_J100, if_neg (by omega), if_pos (by omega), own_J114, if_neg (by omega), if_pos (by omega), own_J128, if_neg (by omega), if_pos (by omega), own_J142, if_neg (by omega), if_pos (by omega), own_J155, if_pos (by omega), own_J167, if_pos (by omega), own_J179, if_pos (by omega)]
theorem own_seg25 (c : Int32) (h1 : 63744 ≤ c.toInt) (h2 : c.toInt < 64976) : own_j_0 c = (1 : Int32) := by
  rw [own_J0, if_neg (by omega), if_pos (by omega), own_J12, if_neg (by omega), own_J18, if_neg (by omega), if_pos (by omega), own_J30, if_neg (by omega), if_pos (by omega), own_J44, if_neg (by omega), if_pos (by omega), own_J58, if_neg (by omega), if_pos (by omega), own_J72, if_neg (by omega), if_pos (by omega), own_J86, if_neg (by omega), if_pos (by omega), own_J100, if_neg (by omega), if_pos (by omega), own_J114, if_neg (by omega), if_pos (by omega), own_J128, if_neg (by omega), if_pos (by omega), own_J142, if_neg (by omega), if_pos (by omega), own_J155, if_neg (by omega), if_neg (by omega)]
theorem own_seg26 (c : Int32) (h1 : 64976 ≤ c.toInt) (h2 : c.toInt < 65008) : own_j_0 c = (0 : Int32) := by
  rw [own_J0, if_neg (by omega), if_pos (by omega), own_J12, if_neg (by omega), own_J18, if_neg (by omega), if_pos (by omega), own_J30, if_neg (by omega), if_pos (by omega), own_J44, if_neg (by omega), if_pos (by omega), own_J58, if_neg (by omega), if_pos (by omega), own_J72, if_neg (by omega), if_pos (by omega), own_J86, if_neg (by omega), if_pos (by omega), own_J100, if_neg (by omega), if_pos (by omega), own_J114, if_neg (by omega), if_pos (by omega), own_J128, if_neg (by omega), if_pos (by omega), own_J142, if_neg (by omega), if_pos (by omega), own_J155, if_neg (by omega), if_pos (by omega), own_J167, if_pos (by omega), own_J179, if_pos (by omega)]
theorem own_seg27 (c : Int32) (h1 : 65008 ≤ c.toInt) (h2 : c.toInt < 65534) : own_j_0 c = (1 : Int32) := by
  rw [own_J0, if_neg (by omega), if_pos (by omega), own_J12, if_neg (by omega), own_J18, if_neg (by omega), if_pos (by omega), own_J30, if_neg (by omega), if_pos (by omega), own_J44, if_neg (by omega), if_pos (by omega), own_J58, if_neg (by omega), if_pos (by omega), own_J72, if_neg (by omega), if_pos (by omega), own_J86, if_neg (by omega), if_pos (by omega), own_J100, if_neg (by omega), if_pos (by omega), own_J114, if_neg (by omega), if_pos (by omega), own_J128, if_neg (by omega), if_pos (by omega), own_J142, if_neg (by omega), if_pos (by omega), own_J155, if_neg (by omega), if_pos (by omega), own_J167, if_neg (by omega), if_neg (by omega)]
theorem own_seg28 (c : Int32) (h1 : 65534 ≤ c.toInt) (h2 : c.toInt < 65536) : own_j_0 c = (0 : Int32) := by
  rw [own_J0, if_neg (by omega), if_pos (by omega), own_J12, if_neg (by omega), own_J18, if_neg (by omega), if_pos (by omega), own_J30, if_neg (by omega), if_pos (by omega), own_J44, if_neg (by omega), if_pos (by omega), own_J58, if_neg (by omega), if_pos (by omega), own_J72, if_neg (by omega), if_pos (by omega), own_J86, if_neg (by omega), if_pos (by omega), own_J100, if_neg (by omega), if_pos (by omega), own_J114, if_neg (by omega), if_pos (by omega), own_J128, if_neg (by omega), if_pos (by omega), own_J142, if_neg (by omega), if_pos (by omega), own_J155, if_neg (by omega), if_pos (by omega), own_J167, if_neg (by omega), if_pos (by omega), own_J179, if_pos (by omega)]
theorem own_seg29 (c : Int32) (h1 : 65536 ≤ c.toInt) (h2 : c.toInt < 983040) : own_j_0 c = (1 : Int32) := by
  rw [own_J0, if_neg (by omega), if_pos (by omega), own_J12, if_neg (by omega), own_J18, if_neg (by omega), if_pos (by omega), own_J30, if_neg (by omega), if_pos (by omega), own_J44, if_neg (by omega), if_pos (by omega), own_J58, if_neg (by omega), if_pos (by omega), own_J72, if_neg (by omega), if_pos (by omega), own_J86, if_neg (by omega), if_pos (by omega), own_J100, if_neg (by omega), if_pos (by omega), own_J114, if_neg (by omega), if_pos (by omega), own_J128, if_neg (by omega), if_pos (by omega), own_J142, if_neg (by omega), if_pos (by omega), own_J155, if_neg (by omega), if_pos (by omega), own_J167, if_neg (by omega), if_pos (by omega), own_J179, if_neg (by omega), if_neg (by omega)]
theorem own_seg30 (c : Int32) (h1 : 983040 ≤ c.toInt) (h2 : c.toInt < 2147483648) : own_j_0 c = (0 : Int32) := by
  rw [own_J0, if_neg (by omega), if_pos (by omega), own_J12, if_neg (by omega), own_J18, if_neg (by omega), if_pos (by omega), own_J30, if_neg (by omega), if_pos (by omega), own_J44, if_neg (by omega), if_pos (by omega), own_J58, if_neg (by omega), if_pos (by omega), own_J72, if_neg (by omega), if_pos (by omega), own_J86, if_neg (by omega), if_pos (by omega), own_J100, if_neg (by omega), if_pos (by omega), own_J114, if_neg (by omega), if_pos (by omega), own_J128, if_neg (by omega), if_pos (by omega), own_J142, if_neg (by omega), if_pos (by omega), own_J155, if_neg (by omega), if_pos (by omega), own_J167, if_neg (by omega), if_pos (by omega), own_J179, if_neg (by omega), if_pos (by omega)]
theorem own_range {p : Int32} (x : Int32) (hx : x = (p &&& (2147483647 : Int32)) % (31 : Int32)) : x = (0 : Int32) ∨ x = (1 : Int32) ∨ x = (2 : Int32) ∨ x = (3 : Int32) ∨ x = (4 : Int32) ∨ x = (5 : Int32) ∨ x = (6 : Int32) ∨ x = (7 : Int32) ∨ x = (8 : Int32) ∨ x = (9 : Int32) ∨ x = (10 : Int32) ∨ x = (11 : Int32) ∨ x = (12 : Int32) ∨ x = (13 : Int32) ∨ x = (14 : Int32) ∨ x = (15 : Int32) ∨ x = (16 : Int32) ∨ x = (17 : Int32) ∨ x = (18 : Int32) ∨ x = (19 : Int32) ∨ x = (20 : Int32) ∨ x = (21 : Int32) ∨ x = (22 : Int32) ∨ x = (23 : Int32) ∨ x = (24 : Int32) ∨ x = (25 : Int32) ∨ x = (26 : Int32) ∨ x = (27 : Int32) ∨ x = (28 : Int32) ∨ x = (29 : Int32) ∨ x = (30 : Int32) := by
  have h1 := c_mask p 2147483647 31 (by decide) (by decide)
  have h2 := (c_irem (p &&& (2147483647 : Int32)) (31 : Int32) 31 rfl).1 (by omega)
  rw [← hx] at h2
  have h3 : x.toInt = 0 ∨ x.toInt = 1 ∨ x.toInt = 2 ∨ x.toInt = 3 ∨ x.toInt = 4 ∨ x.toInt = 5 ∨ x.toInt = 6 ∨ x.toInt = 7 ∨ x.toInt = 8 ∨ x.toInt = 9 ∨ x.toInt = 10 ∨ x.toInt = 11 ∨ x.toInt = 12 ∨ x.toInt = 13 ∨ x.toInt = 14 ∨ x.toInt = 15 ∨ x.toInt = 16 ∨ x.toInt = 17 ∨ x.toInt = 18 ∨ x.toInt = 19 ∨ x.toInt = 20 ∨ x.toInt = 21 ∨ x.toInt = 22 ∨ x.toInt = 23 ∨ x.toInt = 24 ∨ x.toInt = 25 ∨ x.toInt = 26 ∨ x.toInt = 27 ∨ x.toInt = 28 ∨ x.toInt = 29 ∨ x.toInt = 30 := by omega
  simp only [← Int32.toInt_inj]
  exact h3
theorem own_ix {p : Int32} (x : Int32) (hx : x = (p &&& (2147483647 : Int32)) % (31 : Int32)) : (¬ x < 0 ∧ x < (32 : Int32)) ∧ (¬ (x + (1 : Int32)) < 0 ∧ (x + (1 : Int32)) < (32 : Int32)) := by
  rcases own_range x hx with rfl | rfl | rfl | rfl | rfl | rfl | rfl | rfl | rfl | rfl | rfl | rfl | rfl | rfl | rfl | rfl | rfl | rfl | rfl | rfl | rfl | rfl | rfl | rfl | rfl | rfl | rfl | rfl | rfl | rfl | rfl <;> decide
theorem own_sz {p : Int32} (x : Int32) (hx : x = (p &&& (2147483647 : Int32)) % (31 : Int32)) (lo sz : Int64) (hlo : lo = (own_p1_b).getD (x).toNatClampNeg (0 : Int64)) (hsz : sz = (own_p1_b).getD (x + (1 : Int32)).toNatClampNeg (0 : Int64) - lo) : sz ≠ 0 := by
  subst hlo; subst hsz
  rcases own_range x hx with rfl | rfl | rfl | rfl | rfl | rfl | rfl | rfl | rfl | rfl | rfl | rfl | rfl | rfl | rfl | rfl | rfl | rfl | rfl | rfl | rfl | rfl | rfl | rfl | rfl | rfl | rfl | rfl | rfl | rfl | rfl <;> decide +kernel
theorem own_pos (md : Int32) (sz off : Int64) (h : 0 < sz.toInt) (h2 : sz.toInt < 8589934592) : 0 ≤ (own_m0_74_l11 md sz off).toInt ∧ (own_m0_74_l11 md sz off).toInt < sz.toInt := by
  unfold own_m0_74_l11
  split
  · exact ⟨by decide, h⟩
  · split
    · have := c_lsub sz 1
      have e : (1 : Int64).toInt = 1 := rfl
      have r := rng64 (sz - 1)
      omega
    · have m := c_maskL off 9223372036854775807 63 (by decide) (by decide)
      have e := (c_lrem (off &&& (9223372036854775807 : Int64)) sz sz.toInt rfl).1 (by omega)
      rw [e]
      exact ⟨Int.emod_nonneg _ (by omega), Int.emod_lt_of_pos _ h⟩
theorem own_cc (lo sz off : Int64) (md : Int32) (a b : Int) (ha : lo.toInt = a) (hs : sz.toInt = b - a) (hr : -2147483648 ≤ a ∧ b ≤ 2147483648 ∧ a < b) : a ≤ ((lo + own_m0_74_l11 md sz off).toInt32).toInt ∧ ((lo + own_m0_74_l11 md sz off).toInt32).toInt < b := by
  have hp := own_pos md sz off (by omega) (by omega)
  generalize own_m0_74_l11 md sz off = pos at *
  have h1 := c_ladd lo pos
  have h2 := c_l2i (lo + pos)
  have r1 := rng64 (lo + pos)
  have r2 := rng32 ((lo + pos).toInt32)
  omega
theorem own_plain {p : Int32} (x : Int32) (hx : x = (p &&& (2147483647 : Int32)) % (31 : Int32)) (lo sz off : Int64) (md : Int32) (hlo : lo = (own_p1_b).getD (x).toNatClampNeg (0 : Int64)) (hsz : sz = (own_p1_b).getD (x + (1 : Int32)).toNatClampNeg (0 : Int64) - lo) : nar .boolean (own_j_0 ((lo + own_m0_74_l11 md sz off).toInt32)) = own_m0_95_s0 x := by
  rcases own_range x hx with rfl | rfl | rfl | rfl | rfl | rfl | rfl | rfl | rfl | rfl | rfl | rfl | rfl | rfl | rfl | rfl | rfl | rfl | rfl | rfl | rfl | rfl | rfl | rfl | rfl | rfl | rfl | rfl | rfl | rfl | rfl
  · obtain ⟨c1, c2⟩ := own_cc lo sz off md (-2147483648) 65 (by rw [hlo]; decide +kernel) (by rw [hsz, hlo]; decide +kernel) (by decide)
    rw [own_seg0 _ c1 c2]; decide
  · obtain ⟨c1, c2⟩ := own_cc lo sz off md 65 91 (by rw [hlo]; decide +kernel) (by rw [hsz, hlo]; decide +kernel) (by decide)
    rw [own_seg1 _ c1 c2]; decide
  · obtain ⟨c1, c2⟩ := own_cc lo sz off md 91 95 (by rw [hlo]; decide +kernel) (by rw [hsz, hlo]; decide +kernel) (by decide)
    rw [own_seg2 _ c1 c2]; decide
  · obtain ⟨c1, c2⟩ := own_cc lo sz off md 95 96 (by rw [hlo]; decide +kernel) (by rw [hsz, hlo]; decide +kernel) (by decide)
    rw [own_seg3 _ c1 c2]; decide
  · obtain ⟨c1, c2⟩ := own_cc lo sz off md 96 97 (by rw [hlo]; decide +kernel) (by rw [hsz, hlo]; decide +kernel) (by decide)
    rw [own_seg4 _ c1 c2]; decide
  · obtain ⟨c1, c2⟩ := own_cc lo sz off md 97 123 (by rw [hlo]; decide +kernel) (by rw [hsz, hlo]; decide +kernel) (by decide)
    rw [own_seg5 _ c1 c2]; decide
  · obtain ⟨c1, c2⟩ := own_cc lo sz off md 123 192 (by rw [hlo]; decide +kernel) (by rw [hsz, hlo]; decide +kernel) (by decide)
    rw [own_seg6 _ c1 c2]; decide
  · obtain ⟨c1, c2⟩ := own_cc lo sz off md 192 215 (by rw [hlo]; decide +kernel) (by rw [hsz, hlo]; decide +kernel) (by decide)
    rw [own_seg7 _ c1 c2]; decide
  · obtain ⟨c1, c2⟩ := own_cc lo sz off md 215 216 (by rw [hlo]; decide +kernel) (by rw [hsz, hlo]; decide +kernel) (by decide)
    rw [own_seg8 _ c1 c2]; decide
  · obtain ⟨c1, c2⟩ := own_cc lo sz off md 216 247 (by rw [hlo]; decide +kernel) (by rw [hsz, hlo]; decide +kernel) (by decide)
    rw [own_seg9 _ c1 c2]; decide
  · obtain ⟨c1, c2⟩ := own_cc lo sz off md 247 248 (by rw [hlo]; decide +kernel) (by rw [hsz, hlo]; decide +kernel) (by decide)
    rw [own_seg10 _ c1 c2]; decide
  · obtain ⟨c1, c2⟩ := own_cc lo sz off md 248 768 (by rw [hlo]; decide +kernel) (by rw [hsz, hlo]; decide +kernel) (by decide)
    rw [own_seg11 _ c1 c2]; decide
  · obtain ⟨c1, c2⟩ := own_cc lo sz off md 768 880 (by rw [hlo]; decide +kernel) (by rw [hsz, hlo]; decide +kernel) (by decide)
    rw [own_seg12 _ c1 c2]; decide
  · obtain ⟨c1, c2⟩ := own_cc lo sz off md 880 894 (by rw [hlo]; decide +kernel) (by rw [hsz, hlo]; decide +kernel) (by decide)
    rw [own_seg13 _ c1 c2]; decide
  · obtain ⟨c1, c2⟩ := own_cc lo sz off md 894 895 (by rw [hlo]; decide +kernel) (by rw [hsz, hlo]; decide +kernel) (by decide)
    rw [own_seg14 _ c1 c2]; decide
  · obtain ⟨c1, c2⟩ := own_cc lo sz off md 895 8192 (by rw [hlo]; decide +kernel) (by rw [hsz, hlo]; decide +kernel) (by decide)
    rw [own_seg15 _ c1 c2]; decide
  · obtain ⟨c1, c2⟩ := own_cc lo sz off md 8192 8204 (by rw [hlo]; decide +kernel) (by rw [hsz, hlo]; decide +kernel) (by decide)
    rw [own_seg16 _ c1 c2]; decide
  · obtain ⟨c1, c2⟩ := own_cc lo sz off md 8204 8206 (by rw [hlo]; decide +kernel) (by rw [hsz, hlo]; decide +kernel) (by decide)
    rw [own_seg17 _ c1 c2]; decide
  · obtain ⟨c1, c2⟩ := own_cc lo sz off md 8206 8304 (by rw [hlo]; decide +kernel) (by rw [hsz, hlo]; decide +kernel) (by decide)
    rw [own_seg18 _ c1 c2]; decide
  · obtain ⟨c1, c2⟩ := own_cc lo sz off md 8304 8592 (by rw [hlo]; decide +kernel) (by rw [hsz, hlo]; decide +kernel) (by decide)
    rw [own_seg19 _ c1 c2]; decide
  · obtain ⟨c1, c2⟩ := own_cc lo sz off md 8592 11264 (by rw [hlo]; decide +kernel) (by rw [hsz, hlo]; decide +kernel) (by decide)
    rw [own_seg20 _ c1 c2]; decide
  · obtain ⟨c1, c2⟩ := own_cc lo sz off md 11264 12272 (by rw [hlo]; decide +kernel) (by rw [hsz, hlo]; decide +kernel) (by decide)
    rw [own_seg21 _ c1 c2]; decide
  · obtain ⟨c1, c2⟩ := own_cc lo sz off md 12272 12289 (by rw [hlo]; decide +kernel) (by rw [hsz, hlo]; decide +kernel) (by decide)
    rw [own_seg22 _ c1 c2]; decide
  · obtain ⟨c1, c2⟩ := own_cc lo sz off md 12289 55296 (by rw [hlo]; decide +kernel) (by rw [hsz, hlo]; decide +kernel) (by decide)
    rw [own_seg23 _ c1 c2]; decide
  · obtain ⟨c1, c2⟩ := own_cc lo sz off md 55296 63744 (by rw [hlo]; decide +kernel) (by rw [hsz, hlo]; decide +kernel) (by decide)
    rw [own_seg24 _ c1 c2]; decide
  · obtain ⟨c1, c2⟩ := own_cc lo sz off md 63744 64976 (by rw [hlo]; decide +kernel) (by rw [hsz, hlo]; decide +kernel) (by decide)
    rw [own_seg25 _ c1 c2]; decide
  · obtain ⟨c1, c2⟩ := own_cc lo sz off md 64976 65008 (by rw [hlo]; decide +kernel) (by rw [hsz, hlo]; decide +kernel) (by decide)
    rw [own_seg26 _ c1 c2]; decide
  · obtain ⟨c1, c2⟩ := own_cc lo sz off md 65008 65534 (by rw [hlo]; decide +kernel) (by rw [hsz, hlo]; decide +kernel) (by decide)
    rw [own_seg27 _ c1 c2]; decide
  · obtain ⟨c1, c2⟩ := own_cc lo sz off md 65534 65536 (by rw [hlo]; decide +kernel) (by rw [hsz, hlo]; decide +kernel) (by decide)
    rw [own_seg28 _ c1 c2]; decide
  · obtain ⟨c1, c2⟩ := own_cc lo sz off md 65536 983040 (by rw [hlo]; decide +kernel) (by rw [hsz, hlo]; decide +kernel) (by decide)
    rw [own_seg29 _ c1 c2]; decide
  · obtain ⟨c1, c2⟩ := own_cc lo sz off md 983040 2147483648 (by rw [hlo]; decide +kernel) (by rw [hsz, hlo]; decide +kernel) (by decide)
    rw [own_seg30 _ c1 c2]; decide
def Q0 (Z : State) (p0 : Int32) (p1 : Int32) (q2 : Int64) (h0 : Heap) (n0 : Nat) (v : Option Value) (h : Heap) (L : List Loc) : Prop := v = some (.int (1 : Int32)) ∧ Fr n0 L
set_option maxRecDepth 65536 in
set_option maxHeartbeats 40000000 in
theorem rm0 (l : Launch) (Z : State) (aw : Array Value) (hw : ∀ d ∈ tables_1, d.before aw Z = true) (wq : List Jvm.Cond) (p0 : Int32) (p1 : Int32) (q2 : Int64) (h0 : Heap) (n0 : Nat) (Z0 : n0 ≤ h0.size) :
    MetFree l x (head1 (Jvm.Cond.code x code maxLocals ret :: wq) room_1) (fun a U => a = #[(.int p0), (.int p1), (.long q2)] ∧ Z.Warmed39 U.vm ∧ U.heap = h0) (fun _ _ _ _ _ => True) (fun _ U o U' => ∃ v L, o = .returned v ∧ Q0 Z p0 p1 q2 h0 n0 v U'.heap L ∧ FrameEnd U o U' L 1 32) := by
  refine MetFree.of_bodySF (plainFor_of_name pn_0) hisR ?_
  intro p e s m args below meth c s₁ Bd hml0 hP hK
  obtain ⟨rfl, hZ, hh⟩ := hP
  have hx := Bd.exec
  have hby := Bd.bytes
  have hml : c.maxLocals = 15 := hml0
  have hown : s.vm.findClass "com/example/trawl/trawl/xml/XmlCharsIsNcNameStartCharPinLaw" = some m.cls := findClass_of_methodNamed Bd.named
  have hnm := (name_of_methodNamed Bd.named Bd.method).1
  have X0 : Stand p l e room_1 s m #[(.int p0), (.int p1), (.long q2)] below meth c s₁ [] 0 0 := Stand.of_body Bd
  have e0 : s₁.heap = h0 := by rw [← hh, Bd.state]; rfl
  have N0 := Fr.nil n0
  have pre0 : own_Pre p e below (s₁.setTop (entryFrame m #[(.int p0), (.int p1), (.long q2)] maxLocals)) (s₁.setTop (mkF m 0 #[.val (.int p0), .val (.int p1), .val (.long q2), .second, .unset, .unset, .unset, .unset, .unset, .unset, .unset, .unset, .unset, .unset, .unset] [])) := fun t k => castTop (ef_0 m p0 p1 q2) k
  obtain ⟨_, _, ⟨T1, L1, k1, n1⟩, -, X1, ⟨Lc1, hQ1, l1, y1, z1⟩, st1⟩ := Jvm.LawKit.callS X0 hx (y := (⟨"com/example/trawl/trawl/xml/XmlCharsIsNcNameStartCharPinLaw", "bounds", "()[J"⟩ : MethodName)) hown (mvT hZ (hw _ (List.mem_of_getElem? (i := 0) rfl))) (mvT hZ (hw _ (List.mem_of_getElem? (i := 1) rfl))) (mvT hZ (hw _ (List.mem_of_getElem? (i := 2) rfl))) (mvT hZ (hw _ (List.mem_of_getElem? (i := 3) rfl))) (by decide) (backOf (W := 0) (rm1 l Z aw hw []  (h0) n0 Z0) hZ (hw _ (List.mem_of_getElem? (i := 3) rfl)) (hw _ (List.mem_of_getElem? (i := 2) rfl)) (by decide) (by decide)) (g := (mkF m 0 #[.val (.int p0), .val (.int p1), .val (.long q2), .second, .unset, .unset, .unset, .unset, .unset, .unset, .unset, .unset, .unset, .unset, .unset] [])) rfl (by rw [hml]; rfl) (argsL := []) (rest := []) (lenOf pd_0 rfl) rfl (by show 2 * 0 + _ ≤ _; exact Nat.le_of_eq rfl) (hb hby at_0) (fun _ _ => ⟨rfl, e0, (by decide : 0 + 1 ≤ _), (by decide : 0 + 32 ≤ _)⟩)
  dsimp only [Pt.U, Pt.locs, Pt.cells, Pt.slots] at X1 l1 y1 z1 st1 hQ1
  subst l1 y1 z1
  obtain ⟨b1, k1, rfl, Nq1, K1, po1_0, po1_1⟩ := hQ1
  have N1 := Fr.app N0 Nq1
  have g_b1 : n0 ≤ b1 := Nat.le_trans Z0 po1_0
  obtain ⟨x5_14, hx5_14, pre2⟩ : ∃ z : Int32, z = ((p0 &&& (2147483647 : Int32)) % (31 : Int32)) ∧ own_Pre p e below (s₁.setTop (entryFrame m #[(.int p0), (.int p1), (.long q2)] maxLocals)) (T1.setTop (mkF m 14 #[.val (.int p0), .val (.int p1), .val (.long q2), .second, .val (.ref b1), .val (.int z), .unset, .unset, .unset, .unset, .unset, .unset, .unset, .unset, .unset] [])) := ⟨_, rfl, fun t k => pre0 t (by
      show Steps p.tables e below (s₁.setTop (mkF m 0 #[.val (.int p0), .val (.int p1), .val (.long q2), .second, .unset, .unset, .unset, .unset, .unset, .unset, .unset, .unset, .unset, .unset, .unset] [])) _
      refine st1 _ ?_
      show Steps p.tables e below (T1.setTop (mkF m 3 #[.val (.int p0), .val (.int p1), .val (.long q2), .second, .unset, .unset, .unset, .unset, .unset, .unset, .unset, .unset, .unset, .unset, .unset] [(.ref b1)])) _
      refine XS.astore X1.here hx rfl (hb hby at_3) rfl rfl (l' := #[.val (.int p0), .val (.int p1), .val (.long q2), .second, .val (.ref b1), .unset, .unset, .unset, .unset, .unset, .unset, .unset, .unset, .unset, .unset]) rfl ?_
      show Steps p.tables e below (T1.setTop (mkF m 5 #[.val (.int p0), .val (.int p1), .val (.long q2), .second, .val (.ref b1), .unset, .unset, .unset, .unset, .unset, .unset, .unset, .unset, .unset, .unset] [])) _
      refine XS.iloadN X1.here hx rfl (hb hby at_5) rfl ?_
      show Steps p.tables e below (T1.setTop (mkF m 6 #[.val (.int p0), .val (.int p1), .val (.long q2), .second, .val (.ref b1), .unset, .unset, .unset, .unset, .unset, .unset, .unset, .unset, .unset, .unset] [(.int p0)])) _
      refine X1.ldcInt hx hown (mvT hZ (hw _ (List.mem_of_getElem? (i := 37) rfl))) (g := (mkF m 6 #[.val (.int p0), .val (.int p1), .val (.long q2), .second, .val (.ref b1), .unset, .unset, .unset, .unset, .unset, .unset, .unset, .unset, .unset, .unset] [(.int p0)])) rfl (hb hby at_6) _ ?_
      show Steps p.tables e below (T1.setTop (mkF m 8 #[.val (.int p0), .val (.int p1), .val (.long q2), .second, .val (.ref b1), .unset, .unset, .unset, .unset, .unset, .unset, .unset, .unset, .unset, .unset] [(.int (2147483647 : Int32)), (.int p0)])) _
      refine XS.iand X1.here hx rfl (hb hby at_8) rfl ?_
      show Steps p.tables e below (T1.setTop (mkF m 9 #[.val (.int p0), .val (.int p1), .val (.long q2), .second, .val (.ref b1), .unset, .unset, .unset, .unset, .unset, .unset, .unset, .unset, .unset, .unset] [(.int (p0 &&& (2147483647 : Int32)))])) _
      refine XS.bipush X1.here hx rfl (hb hby at_9) ?_
      show Steps p.tables e below (T1.setTop (mkF m 11 #[.val (.int p0), .val (.int p1), .val (.long q2), .second, .val (.ref b1), .unset, .unset, .unset, .unset, .unset, .unset, .unset, .unset, .unset, .unset] [(.int (31 : Int32)), (.int (p0 &&& (2147483647 : Int32)))])) _
      refine iremM X1 hx rfl (hb hby at_11) rfl (by decide) ?_
      show Steps p.tables e below (T1.setTop (mkF m 12 #[.val (.int p0), .val (.int p1), .val (.long q2), .second, .val (.ref b1), .unset, .unset, .unset, .unset, .unset, .unset, .unset, .unset, .unset, .unset] [(.int ((p0 &&& (2147483647 : Int32)) % (31 : Int32)))])) _
      refine XS.istore X1.here hx rfl (hb hby at_12) rfl (l' := #[.val (.int p0), .val (.int p1), .val (.long q2), .second, .val (.ref b1), .val (.int ((p0 &&& (2147483647 : Int32)) % (31 : Int32))), .unset, .unset, .unset, .unset, .unset, .unset, .unset, .unset, .unset]) rfl ?_
      exact k)⟩
  obtain ⟨cl3, Ar3, hin3, hat3⟩ := own_AJ.at po1_1 (j := x5_14) ((own_ix x5_14 hx5_14).1)
  obtain ⟨x6_21, hx6_21, pre4⟩ : ∃ z : Int64, z = ((own_p1_b).getD (x5_14).toNatClampNeg (0 : Int64)) ∧ own_Pre p e below (s₁.setTop (entryFrame m #[(.int p0), (.int p1), (.long q2)] maxLocals)) (T1.setTop (mkF m 21 #[.val (.int p0), .val (.int p1), .val (.long q2), .second, .val (.ref b1), .val (.int x5_14), .val (.long z), .second, .unset, .unset, .unset, .unset, .unset, .unset, .unset] [])) := ⟨_, rfl, fun t k => pre2 t (by
      show Steps p.tables e below (T1.setTop (mkF m 14 #[.val (.int p0), .val (.int p1), .val (.long q2), .second, .val (.ref b1), .val (.int x5_14), .unset, .unset, .unset, .unset, .unset, .unset, .unset, .unset, .unset] [])) _
      refine XS.aload X1.here hx rfl (hb hby at_14) rfl rfl ?_
      show Steps p.tables e below (T1.setTop (mkF m 16 #[.val (.int p0), .val (.int p1), .val (.long q2), .second, .val (.ref b1), .val (.int x5_14), .unset, .unset, .unset, .unset, .unset, .unset, .unset, .unset, .unset] [(.ref b1)])) _
      refine XS.iload X1.here hx rfl (hb hby at_16) rfl ?_
      show Steps p.tables e below (T1.setTop (mkF m 18 #[.val (.int p0), .val (.int p1), .val (.long q2), .second, .val (.ref b1), .val (.int x5_14), .unset, .unset, .unset, .unset, .unset, .unset, .unset, .unset, .unset] [(.int x5_14), (.ref b1)])) _
      refine X1.laload hx (j := x5_14) (v := (.long ((own_p1_b).getD (x5_14).toNatClampNeg (0 : Int64)))) Ar3.1 (State.isArrayOf_alike hZ.alike Ar3.2.1) Ar3.2.2 hin3 hat3 (g := (mkF m 18 #[.val (.int p0), .val (.int p1), .val (.long q2), .second, .val (.ref b1), .val (.int x5_14), .unset, .unset, .unset, .unset, .unset, .unset, .unset, .unset, .unset] [(.int x5_14), (.ref b1)])) rfl rfl (hb hby at_18) _ ?_
      show Steps p.tables e below (T1.setTop (mkF m 19 #[.val (.int p0), .val (.int p1), .val (.long q2), .second, .val (.ref b1), .val (.int x5_14), .unset, .unset, .unset, .unset, .unset, .unset, .unset, .unset, .unset] [(.long ((own_p1_b).getD (x5_14).toNatClampNeg (0 : Int64)))])) _
      refine XS.lstore X1.here hx rfl (hb hby at_19) rfl (l' := #[.val (.int p0), .val (.int p1), .val (.long q2), .second, .val (.ref b1), .val (.int x5_14), .val (.long ((own_p1_b).getD (x5_14).toNatClampNeg (0 : Int64))), .second, .unset, .unset, .unset, .unset, .unset, .unset, .unset]) rfl ?_
      exact k)⟩
  obtain ⟨cl5, Ar5, hin5, hat5⟩ := own_AJ.at po1_1 (j := (x5_14 + (1 : Int32))) ((own_ix x5_14 hx5_14).2)
  obtain ⟨x8_33, hx8_33, pre6⟩ : ∃ z : Int64, z = (((own_p1_b).getD ((x5_14 + (1 : Int32))).toNatClampNeg (0 : Int64)) - x6_21) ∧ own_Pre p e below (s₁.setTop (entryFrame m #[(.int p0), (.int p1), (.long q2)] maxLocals)) (T1.setTop (mkF m 33 #[.val (.int p0), .val (.int p1), .val (.long q2), .second, .val (.ref b1), .val (.int x5_14), .val (.long x6_21), .second, .val (.long z), .second, .unset, .unset, .unset, .unset, .unset] [])) := ⟨_, rfl, fun t k => pre4 t (by
      show Steps p.tables e below (T1.setTop (mkF m 21 #[.val (.int p0), .val (.int p1), .val (.long q2), .second, .val (.ref b1), .val (.int x5_14), .val (.long x6_21), .second, .unset, .unset, .unset, .unset, .unset, .unset, .unset] [])) _
      refine XS.aload X1.here hx rfl (hb hby at_21) rfl rfl ?_
      show Steps p.tables e below (T1.setTop (mkF m 23 #[.val (.int p0), .val (.int p1), .val (.long q2), .second, .val (.ref b1), .val (.int x5_14), .val (.long x6_21), .second, .unset, .unset, .unset, .unset, .unset, .unset, .unset] [(.ref b1)])) _
      refine XS.iload X1.here hx rfl (hb hby at_23) rfl ?_
      show Steps p.tables e below (T1.setTop (mkF m 25 #[.val (.int p0), .val (.int p1), .val (.long q2), .second, .val (.ref b1), .val (.int x5_14), .val (.long x6_21), .second, .unset, .unset, .unset, .unset, .unset, .unset, .unset] [(.int x5_14), (.ref b1)])) _
      refine XS.iconst X1.here hx rfl (hb hby at_25) ?_
      show Steps p.tables e below (T1.setTop (mkF m 26 #[.val (.int p0), .val (.int p1), .val (.long q2), .second, .val (.ref b1), .val (.int x5_14), .val (.long x6_21), .second, .unset, .unset, .unset, .unset, .unset, .unset, .unset] [(.int (1 : Int32)), (.int x5_14), (.ref b1)])) _
      refine XS.iadd X1.here hx rfl (hb hby at_26) rfl ?_
      show Steps p.tables e below (T1.setTop (mkF m 27 #[.val (.int p0), .val (.int p1), .val (.long q2), .second, .val (.ref b1), .val (.int x5_14), .val (.long x6_21), .second, .unset, .unset, .unset, .unset, .unset, .unset, .unset] [(.int (x5_14 + (1 : Int32))), (.ref b1)])) _
      refine X1.laload hx (j := (x5_14 + (1 : Int32))) (v := (.long ((own_p1_b).getD ((x5_14 + (1 : Int32))).toNatClampNeg (0 : Int64)))) Ar5.1 (State.isArrayOf_alike hZ.alike Ar5.2.1) Ar5.2.2 hin5 hat5 (g := (mkF m 27 #[.val (.int p0), .val (.int p1), .val (.long q2), .second, .val (.ref b1), .val (.int x5_14), .val (.long x6_21), .second, .unset, .unset, .unset, .unset, .unset, .unset, .unset] [(.int (x5_14 + (1 : Int32))), (.ref b1)])) rfl rfl (hb hby at_27) _ ?_
      show Steps p.tables e below (T1.setTop (mkF m 28 #[.val (.int p0), .val (.int p1), .val (.long q2), .second, .val (.ref b1), .val (.int x5_14), .val (.long x6_21), .second, .unset, .unset, .unset, .unset, .unset, .unset, .unset] [(.long ((own_p1_b).getD ((x5_14 + (1 : Int32))).toNatClampNeg (0 : Int64)))])) _
      refine XS.lload X1.here hx rfl (hb hby at_28) rfl ?_
      show Steps p.tables e below (T1.setTop (mkF m 30 #[.val (.int p0), .val (.int p1), .val (.long q2), .second, .val (.ref b1), .val (.int x5_14), .val (.long x6_21), .second, .unset, .unset, .unset, .unset, .unset, .unset, .unset] [(.long x6_21), (.long ((own_p1_b).getD ((x5_14 + (1 : Int32))).toNatClampNeg (0 : Int64)))])) _
      refine XS.lsub X1.here hx rfl (hb hby at_30) rfl ?_
      show Steps p.tables e below (T1.setTop (mkF m 31 #[.val (.int p0), .val (.int p1), .val (.long q2), .second, .val (.ref b1), .val (.int x5_14), .val (.long x6_21), .second, .unset, .unset, .unset, .unset, .unset, .unset, .unset] [(.long (((own_p1_b).getD ((x5_14 + (1 : Int32))).toNatClampNeg (0 : Int64)) - x6_21))])) _
      refine XS.lstore X1.here hx rfl (hb hby at_31) rfl (l' := #[.val (.int p0), .val (.int p1), .val (.long q2), .second, .val (.ref b1), .val (.int x5_14), .val (.long x6_21), .second, .val (.long (((own_p1_b).getD ((x5_14 + (1 : Int32))).toNatClampNeg (0 : Int64)) - x6_21)), .second, .unset, .unset, .unset, .unset, .unset]) rfl ?_
      exact k)⟩
  obtain ⟨x10_38, hx10_38, pre7⟩ : ∃ z : Int32, z = (p1 &&& (3 : Int32)) ∧ own_Pre p e below (s₁.setTop (entryFrame m #[(.int p0), (.int p1), (.long q2)] maxLocals)) (T1.setTop (mkF m 38 #[.val (.int p0), .val (.int p1), .val (.long q2), .second, .val (.ref b1), .val (.int x5_14), .val (.long x6_21), .second, .val (.long x8_33), .second, .val (.int z), .unset, .unset, .unset, .unset] [])) := ⟨_, rfl, fun t k => pre6 t (by
      show Steps p.tables e below (T1.setTop (mkF m 33 #[.val (.int p0), .val (.int p1), .val (.long q2), .second, .val (.ref b1), .val (.int x5_14), .val (.long x6_21), .second, .val (.long x8_33), .second, .unset, .unset, .unset, .unset, .unset] [])) _
      refine XS.iloadN X1.here hx rfl (hb hby at_33) rfl ?_
      show Steps p.tables e below (T1.setTop (mkF m 34 #[.val (.int p0), .val (.int p1), .val (.long q2), .second, .val (.ref b1), .val (.int x5_14), .val (.long x6_21), .second, .val (.long x8_33), .second, .unset, .unset, .unset, .unset, .unset] [(.int p1)])) _
      refine XS.iconst X1.here hx rfl (hb hby at_34) ?_
      show Steps p.tables e below (T1.setTop (mkF m 35 #[.val (.int p0), .val (.int p1), .val (.long q2), .second, .val (.ref b1), .val (.int x5_14), .val (.long x6_21), .second, .val (.long x8_33), .second, .unset, .unset, .unset, .unset, .unset] [(.int (3 : Int32)), (.int p1)])) _
      refine XS.iand X1.here hx rfl (hb hby at_35) rfl ?_
      show Steps p.tables e below (T1.setTop (mkF m 36 #[.val (.int p0), .val (.int p1), .val (.long q2), .second, .val (.ref b1), .val (.int x5_14), .val (.long x6_21), .second, .val (.long x8_33), .second, .unset, .unset, .unset, .unset, .unset] [(.int (p1 &&& (3 : Int32)))])) _
      refine XS.istore X1.here hx rfl (hb hby at_36) rfl (l' := #[.val (.int p0), .val (.int p1), .val (.long q2), .second, .val (.ref b1), .val (.int x5_14), .val (.long x6_21), .second, .val (.long x8_33), .second, .val (.int (p1 &&& (3 : Int32))), .unset, .unset, .unset, .unset]) rfl ?_
      exact k)⟩
  have pre10 : own_Pre p e below (s₁.setTop (entryFrame m #[(.int p0), (.int p1), (.long q2)] maxLocals)) (T1.setTop (mkF m 40 #[.val (.int p0), .val (.int p1), .val (.long q2), .second, .val (.ref b1), .val (.int x5_14), .val (.long x6_21), .second, .val (.long x8_33), .second, .val (.int x10_38), .unset, .unset, .unset, .unset] [(.int x10_38)])) := fun t k => pre7 t (by
      show Steps p.tables e below (T1.setTop (mkF m 38 #[.val (.int p0), .val (.int p1), .val (.long q2), .second, .val (.ref b1), .val (.int x5_14), .val (.long x6_21), .second, .val (.long x8_33), .second, .val (.int x10_38), .unset, .unset, .unset, .unset] [])) _
      refine XS.iload X1.here hx rfl (hb hby at_38) rfl ?_
      exact k)
  obtain ⟨m74_l11, hm74_l11, pre9⟩ : ∃ (m74_l11 : Int64), m74_l11 = (own_m0_74_l11 x10_38 x8_33 q2) ∧ own_Pre p e below (s₁.setTop (entryFrame m #[(.int p0), (.int p1), (.long q2)] maxLocals)) (T1.setTop (mkF m 74 #[.val (.int p0), .val (.int p1), .val (.long q2), .second, .val (.ref b1), .val (.int x5_14), .val (.long x6_21), .second, .val (.long x8_33), .second, .val (.int x10_38), .val (.long m74_l11), .second, .unset, .unset] [])) := by
    by_cases hc40 : x10_38 = (0 : Int32)
    · have pre11 : own_Pre p e below (s₁.setTop (entryFrame m #[(.int p0), (.int p1), (.long q2)] maxLocals)) (T1.setTop (mkF m 74 #[.val (.int p0), .val (.int p1), .val (.long q2), .second, .val (.ref b1), .val (.int x5_14), .val (.long x6_21), .second, .val (.long x8_33), .second, .val (.int x10_38), .val (.long (0 : Int64)), .second, .unset, .unset] [])) := fun t k => pre10 t (by
          show Steps p.tables e below (T1.setTop (mkF m 40 #[.val (.int p0), .val (.int p1), .val (.long q2), .second, .val (.ref b1), .val (.int x5_14), .val (.long x6_21), .second, .val (.long x8_33), .second, .val (.int x10_38), .unset, .unset, .unset, .unset] [(.int x10_38)])) _
          refine XS.ifNo X1.here hx rfl (hb hby at_40) rfl ((if0 _ _).trans (teq hc40).2) ?_
          show Steps p.tables e below (T1.setTop (mkF m 43 #[.val (.int p0), .val (.int p1), .val (.long q2), .second, .val (.ref b1), .val (.int x5_14), .val (.long x6_21), .second, .val (.long x8_33), .second, .val (.int x10_38), .unset, .unset, .unset, .unset] [])) _
          refine XS.lconst X1.here hx rfl (hb hby at_43) ?_
          show Steps p.tables e below (T1.setTop (mkF m 44 #[.val (.int p0), .val (.int p1), .val (.long q2), .second, .val (.ref b1), .val (.int x5_14), .val (.long x6_21), .second, .val (.long x8_33), .second, .val (.int x10_38), .unset, .unset, .unset, .unset] [(.long (0 : Int64))])) _
          refine XS.lstore X1.here hx rfl (hb hby at_44) rfl (l' := #[.val (.int p0), .val (.int p1), .val (.long q2), .second, .val (.ref b1), .val (.int x5_14), .val (.long x6_21), .second, .val (.long x8_33), .second, .val (.int x10_38), .val (.long (0 : Int64)), .second, .unset, .unset]) rfl ?_
          show Steps p.tables e below (T1.setTop (mkF m 46 #[.val (.int p0), .val (.int p1), .val (.long q2), .second, .val (.ref b1), .val (.int x5_14), .val (.long x6_21), .second, .val (.long x8_33), .second, .val (.int x10_38), .val (.long (0 : Int64)), .second, .unset, .unset] [])) _
          refine XS.goto X1.here hx rfl (pc0 := 46) (pc' := 74) rfl (hb hby at_46) (by decide) (by decide) ?_
          exact k)
      refine ⟨_, ?_, pre11⟩
      all_goals (first | (simp only [own_m0_74_l11, if_pos hc40]; done) | (simp [own_m0_74_l11, if_pos hc40]; done))
    · have pre12 : own_Pre p e below (s₁.setTop (entryFrame m #[(.int p0), (.int p1), (.long q2)] maxLocals)) (T1.setTop (mkF m 52 #[.val (.int p0), .val (.int p1), .val (.long q2), .second, .val (.ref b1), .val (.int x5_14), .val (.long x6_21), .second, .val (.long x8_33), .second, .val (.int x10_38), .unset, .unset, .unset, .unset] [(.int (1 : Int32)), (.int x10_38)])) := fun t k => pre10 t (by
          show Steps p.tables e below (T1.setTop (mkF m 40 #[.val (.int p0), .val (.int p1), .val (.long q2), .second, .val (.ref b1), .val (.int x5_14), .val (.long x6_21), .second, .val (.long x8_33), .second, .val (.int x10_38), .unset, .unset, .unset, .unset] [(.int x10_38)])) _
          refine XS.ifYes X1.here hx rfl (pc0 := 40) (pc' := 49) rfl (hb hby at_40) rfl ((if0 _ _).trans (feq hc40).2) (by decide) (by decide) ?_
          show Steps p.tables e below (T1.setTop (mkF m 49 #[.val (.int p0), .val (.int p1), .val (.long q2), .second, .val (.ref b1), .val (.int x5_14), .val (.long x6_21), .second, .val (.long x8_33), .second, .val (.int x10_38), .unset, .unset, .unset, .unset] [])) _
          refine XS.iload X1.here hx rfl (hb hby at_49) rfl ?_
          show Steps p.tables e below (T1.setTop (mkF m 51 #[.val (.int p0), .val (.int p1), .val (.long q2), .second, .val (.ref b1), .val (.int x5_14), .val (.long x6_21), .second, .val (.long x8_33), .second, .val (.int x10_38), .unset, .unset, .unset, .unset] [(.int x10_38)])) _
          refine XS.iconst X1.here hx rfl (hb hby at_51) ?_
          exact k)
      by_cases hc52 : x10_38 = (1 : Int32)
      · obtain ⟨x11_61, hx11_61, pre13⟩ : ∃ z : Int64, z = (x8_33 - (1 : Int64)) ∧ own_Pre p e below (s₁.setTop (entryFrame m #[(.int p0), (.int p1), (.long q2)] maxLocals)) (T1.setTop (mkF m 61 #[.val (.int p0), .val (.int p1), .val (.long q2), .second, .val (.ref b1), .val (.int x5_14), .val (.long x6_21), .second, .val (.long x8_33), .second, .val (.int x10_38), .val (.long z), .second, .unset, .unset] [])) := ⟨_, rfl, fun t k => pre12 t (by
            show Steps p.tables e below (T1.setTop (mkF m 52 #[.val (.int p0), .val (.int p1), .val (.long q2), .second, .val (.ref b1), .val (.int x5_14), .val (.long x6_21), .second, .val (.long x8_33), .second, .val (.int x10_38), .unset, .unset, .unset, .unset] [(.int (1 : Int32)), (.int x10_38)])) _
            refine XS.icmpNo X1.here hx rfl (hb hby at_52) rfl (teq hc52).2 ?_
            show Steps p.tables e below (T1.setTop (mkF m 55 #[.val (.int p0), .val (.int p1), .val (.long q2), .second, .val (.ref b1), .val (.int x5_14), .val (.long x6_21), .second, .val (.long x8_33), .second, .val (.int x10_38), .unset, .unset, .unset, .unset] [])) _
            refine XS.lload X1.here hx rfl (hb hby at_55) rfl ?_
            show Steps p.tables e below (T1.setTop (mkF m 57 #[.val (.int p0), .val (.int p1), .val (.long q2), .second, .val (.ref b1), .val (.int x5_14), .val (.long x6_21), .second, .val (.long x8_33), .second, .val (.int x10_38), .unset, .unset, .unset, .unset] [(.long x8_33)])) _
            refine XS.lconst X1.here hx rfl (hb hby at_57) ?_
            show Steps p.tables e below (T1.setTop (mkF m 58 #[.val (.int p0), .val (.int p1), .val (.long q2), .second, .val (.ref b1), .val (.int x5_14), .val (.long x6_21), .second, .val (.long x8_33), .second, .val (.int x10_38), .unset, .unset, .unset, .unset] [(.long (1 : Int64)), (.long x8_33)])) _
            refine XS.lsub X1.here hx rfl (hb hby at_58) rfl ?_
            show Steps p.tables e below (T1.setTop (mkF m 59 #[.val (.int p0), .val (.int p1), .val (.long q2), .second, .val (.ref b1), .val (.int x5_14), .val (.long x6_21), .second, .val (.long x8_33), .second, .val (.int x10_38), .unset, .unset, .unset, .unset] [(.long (x8_33 - (1 : Int64)))])) _
            refine XS.lstore X1.here hx rfl (hb hby at_59) rfl (l' := #[.val (.int p0), .val (.int p1), .val (.long q2), .second, .val (.ref b1), .val (.int x5_14), .val (.long x6_21), .second, .val (.long x8_33), .second, .val (.int x10_38), .val (.long (x8_33 - (1 : Int64))), .second, .unset, .unset]) rfl ?_
            exact k)⟩
        have pre14 : own_Pre p e below (s₁.setTop (entryFrame m #[(.int p0), (.int p1), (.long q2)] maxLocals)) (T1.setTop (mkF m 74 #[.val (.int p0), .val (.int p1), .val (.long q2), .second, .val (.ref b1), .val (.int x5_14), .val (.long x6_21), .second, .val (.long x8_33), .second, .val (.int x10_38), .val (.long x11_61), .second, .unset, .unset] [])) := fun t k => pre13 t (by
            show Steps p.tables e below (T1.setTop (mkF m 61 #[.val (.int p0), .val (.int p1), .val (.long q2), .second, .val (.ref b1), .val (.int x5_14), .val (.long x6_21), .second, .val (.long x8_33), .second, .val (.int x10_38), .val (.long x11_61), .second, .unset, .unset] [])) _
            refine XS.goto X1.here hx rfl (pc0 := 61) (pc' := 74) rfl (hb hby at_61) (by decide) (by decide) ?_
            exact k)
        refine ⟨_, ?_, pre14⟩
        all_goals (subst hx11_61; first | (simp only [own_m0_74_l11, if_neg hc40, if_pos hc52]; done) | (simp [own_m0_74_l11, if_neg hc40, if_pos hc52]; done))
      · obtain ⟨x11_74, hx11_74, pre15⟩ : ∃ z : Int64, z = ((q2 &&& (9223372036854775807 : Int64)) - (q2 &&& (9223372036854775807 : Int64)) / x8_33 * x8_33) ∧ own_Pre p e below (s₁.setTop (entryFrame m #[(.int p0), (.int p1), (.long q2)] maxLocals)) (T1.setTop (mkF m 74 #[.val (.int p0), .val (.int p1), .val (.long q2), .second, .val (.ref b1), .val (.int x5_14), .val (.long x6_21), .second, .val (.long x8_33), .second, .val (.int x10_38), .val (.long z), .second, .unset, .unset] [])) := ⟨_, rfl, fun t k => pre12 t (by
            show Steps p.tables e below (T1.setTop (mkF m 52 #[.val (.int p0), .val (.int p1), .val (.long q2), .second, .val (.ref b1), .val (.int x5_14), .val (.long x6_21), .second, .val (.long x8_33), .second, .val (.int x10_38), .unset, .unset, .unset, .unset] [(.int (1 : Int32)), (.int x10_38)])) _
            refine XS.icmpYes X1.here hx rfl (pc0 := 52) (pc' := 64) rfl (hb hby at_52) rfl (feq hc52).2 (by decide) (by decide) ?_
            show Steps p.tables e below (T1.setTop (mkF m 64 #[.val (.int p0), .val (.int p1), .val (.long q2), .second, .val (.ref b1), .val (.int x5_14), .val (.long x6_21), .second, .val (.long x8_33), .second, .val (.int x10_38), .unset, .unset, .unset, .unset] [])) _
            refine XS.lloadN X1.here hx rfl (hb hby at_64) rfl ?_
            show Steps p.tables e below (T1.setTop (mkF m 65 #[.val (.int p0), .val (.int p1), .val (.long q2), .second, .val (.ref b1), .val (.int x5_14), .val (.long x6_21), .second, .val (.long x8_33), .second, .val (.int x10_38), .unset, .unset, .unset, .unset] [(.long q2)])) _
            refine X1.ldc2Long hx hown (mvT hZ (hw _ (List.mem_of_getElem? (i := 38) rfl))) (g := (mkF m 65 #[.val (.int p0), .val (.int p1), .val (.long q2), .second, .val (.ref b1), .val (.int x5_14), .val (.long x6_21), .second, .val (.long x8_33), .second, .val (.int x10_38), .unset, .unset, .unset, .unset] [(.long q2)])) rfl (hb hby at_65) _ ?_
            show Steps p.tables e below (T1.setTop (mkF m 68 #[.val (.int p0), .val (.int p1), .val (.long q2), .second, .val (.ref b1), .val (.int x5_14), .val (.long x6_21), .second, .val (.long x8_33), .second, .val (.int x10_38), .unset, .unset, .unset, .unset] [(.long (9223372036854775807 : Int64)), (.long q2)])) _
            refine XS.land X1.here hx rfl (hb hby at_68) rfl ?_
            show Steps p.tables e below (T1.setTop (mkF m 69 #[.val (.int p0), .val (.int p1), .val (.long q2), .second, .val (.ref b1), .val (.int x5_14), .val (.long x6_21), .second, .val (.long x8_33), .second, .val (.int x10_38), .unset, .unset, .unset, .unset] [(.long (q2 &&& (9223372036854775807 : Int64)))])) _
            refine XS.lload X1.here hx rfl (hb hby at_69) rfl ?_
            show Steps p.tables e below (T1.setTop (mkF m 71 #[.val (.int p0), .val (.int p1), .val (.long q2), .second, .val (.ref b1), .val (.int x5_14), .val (.long x6_21), .second, .val (.long x8_33), .second, .val (.int x10_38), .unset, .unset, .unset, .unset] [(.long x8_33), (.long (q2 &&& (9223372036854775807 : Int64)))])) _
            refine XS.lrem X1.here hx rfl (hb hby at_71) rfl (own_sz x5_14 hx5_14 _ _ hx6_21 hx8_33) ?_
            show Steps p.tables e below (T1.setTop (mkF m 72 #[.val (.int p0), .val (.int p1), .val (.long q2), .second, .val (.ref b1), .val (.int x5_14), .val (.long x6_21), .second, .val (.long x8_33), .second, .val (.int x10_38), .unset, .unset, .unset, .unset] [(.long ((q2 &&& (9223372036854775807 : Int64)) - (q2 &&& (9223372036854775807 : Int64)) / x8_33 * x8_33))])) _
            refine XS.lstore X1.here hx rfl (hb hby at_72) rfl (l' := #[.val (.int p0), .val (.int p1), .val (.long q2), .second, .val (.ref b1), .val (.int x5_14), .val (.long x6_21), .second, .val (.long x8_33), .second, .val (.int x10_38), .val (.long ((q2 &&& (9223372036854775807 : Int64)) - (q2 &&& (9223372036854775807 : Int64)) / x8_33 * x8_33)), .second, .unset, .unset]) rfl ?_
            exact k)⟩
        refine ⟨_, ?_, pre15⟩
        all_goals (subst hx11_74; first | (simp only [own_m0_74_l11, if_neg hc40, if_neg hc52]; done) | (simp [own_m0_74_l11, if_neg hc40, if_neg hc52]; done))
  obtain ⟨x13_82, hx13_82, pre16⟩ : ∃ z : Int32, z = ((x6_21 + m74_l11)).toInt32 ∧ own_Pre p e below (s₁.setTop (entryFrame m #[(.int p0), (.int p1), (.long q2)] maxLocals)) (T1.setTop (mkF m 82 #[.val (.int p0), .val (.int p1), .val (.long q2), .second, .val (.ref b1), .val (.int x5_14), .val (.long x6_21), .second, .val (.long x8_33), .second, .val (.int x10_38), .val (.long m74_l11), .second, .val (.int z), .unset] [])) := ⟨_, rfl, fun t k => pre9 t (by
      show Steps p.tables e below (T1.setTop (mkF m 74 #[.val (.int p0), .val (.int p1), .val (.long q2), .second, .val (.ref b1), .val (.int x5_14), .val (.long x6_21), .second, .val (.long x8_33), .second, .val (.int x10_38), .val (.long m74_l11), .second, .unset, .unset] [])) _
      refine XS.lload X1.here hx rfl (hb hby at_74) rfl ?_
      show Steps p.tables e below (T1.setTop (mkF m 76 #[.val (.int p0), .val (.int p1), .val (.long q2), .second, .val (.ref b1), .val (.int x5_14), .val (.long x6_21), .second, .val (.long x8_33), .second, .val (.int x10_38), .val (.long m74_l11), .second, .unset, .unset] [(.long x6_21)])) _
      refine XS.lload X1.here hx rfl (hb hby at_76) rfl ?_
      show Steps p.tables e below (T1.setTop (mkF m 78 #[.val (.int p0), .val (.int p1), .val (.long q2), .second, .val (.ref b1), .val (.int x5_14), .val (.long x6_21), .second, .val (.long x8_33), .second, .val (.int x10_38), .val (.long m74_l11), .second, .unset, .unset] [(.long m74_l11), (.long x6_21)])) _
      refine XS.ladd X1.here hx rfl (hb hby at_78) rfl ?_
      show Steps p.tables e below (T1.setTop (mkF m 79 #[.val (.int p0), .val (.int p1), .val (.long q2), .second, .val (.ref b1), .val (.int x5_14), .val (.long x6_21), .second, .val (.long x8_33), .second, .val (.int x10_38), .val (.long m74_l11), .second, .unset, .unset] [(.long (x6_21 + m74_l11))])) _
      refine XS.l2i X1.here hx rfl (hb hby at_79) rfl ?_
      show Steps p.tables e below (T1.setTop (mkF m 80 #[.val (.int p0), .val (.int p1), .val (.long q2), .second, .val (.ref b1), .val (.int x5_14), .val (.long x6_21), .second, .val (.long x8_33), .second, .val (.int x10_38), .val (.long m74_l11), .second, .unset, .unset] [(.int ((x6_21 + m74_l11)).toInt32)])) _
      refine XS.istore X1.here hx rfl (hb hby at_80) rfl (l' := #[.val (.int p0), .val (.int p1), .val (.long q2), .second, .val (.ref b1), .val (.int x5_14), .val (.long x6_21), .second, .val (.long x8_33), .second, .val (.int x10_38), .val (.long m74_l11), .second, .val (.int ((x6_21 + m74_l11)).toInt32), .unset]) rfl ?_
      exact k)⟩
  have pre19 : own_Pre p e below (s₁.setTop (entryFrame m #[(.int p0), (.int p1), (.long q2)] maxLocals)) (T1.setTop (mkF m 87 #[.val (.int p0), .val (.int p1), .val (.long q2), .second, .val (.ref b1), .val (.int x5_14), .val (.long x6_21), .second, .val (.long x8_33), .second, .val (.int x10_38), .val (.long m74_l11), .second, .val (.int x13_82), .unset] [(.int (1 : Int32)), (.int (x5_14 &&& (1 : Int32)))])) := fun t k => pre16 t (by
      show Steps p.tables e below (T1.setTop (mkF m 82 #[.val (.int p0), .val (.int p1), .val (.long q2), .second, .val (.ref b1), .val (.int x5_14), .val (.long x6_21), .second, .val (.long x8_33), .second, .val (.int x10_38), .val (.long m74_l11), .second, .val (.int x13_82), .unset] [])) _
      refine XS.iload X1.here hx rfl (hb hby at_82) rfl ?_
      show Steps p.tables e below (T1.setTop (mkF m 84 #[.val (.int p0), .val (.int p1), .val (.long q2), .second, .val (.ref b1), .val (.int x5_14), .val (.long x6_21), .second, .val (.long x8_33), .second, .val (.int x10_38), .val (.long m74_l11), .second, .val (.int x13_82), .unset] [(.int x5_14)])) _
      refine XS.iconst X1.here hx rfl (hb hby at_84) ?_
      show Steps p.tables e below (T1.setTop (mkF m 85 #[.val (.int p0), .val (.int p1), .val (.long q2), .second, .val (.ref b1), .val (.int x5_14), .val (.long x6_21), .second, .val (.long x8_33), .second, .val (.int x10_38), .val (.long m74_l11), .second, .val (.int x13_82), .unset] [(.int (1 : Int32)), (.int x5_14)])) _
      refine XS.iand X1.here hx rfl (hb hby at_85) rfl ?_
      show Steps p.tables e below (T1.setTop (mkF m 86 #[.val (.int p0), .val (.int p1), .val (.long q2), .second, .val (.ref b1), .val (.int x5_14), .val (.long x6_21), .second, .val (.long x8_33), .second, .val (.int x10_38), .val (.long m74_l11), .second, .val (.int x13_82), .unset] [(.int (x5_14 &&& (1 : Int32)))])) _
      refine XS.iconst X1.here hx rfl (hb hby at_86) ?_
      exact k)
  obtain ⟨m95_s0, hm95_s0, pre18⟩ : ∃ (m95_s0 : Int32), m95_s0 = (own_m0_95_s0 x5_14) ∧ own_Pre p e below (s₁.setTop (entryFrame m #[(.int p0), (.int p1), (.long q2)] maxLocals)) (T1.setTop (mkF m 95 #[.val (.int p0), .val (.int p1), .val (.long q2), .second, .val (.ref b1), .val (.int x5_14), .val (.long x6_21), .second, .val (.long x8_33), .second, .val (.int x10_38), .val (.long m74_l11), .second, .val (.int x13_82), .unset] [(.int m95_s0)])) := by
    by_cases hc87 : (x5_14 &&& (1 : Int32)) = (1 : Int32)
    · have pre20 : own_Pre p e below (s₁.setTop (entryFrame m #[(.int p0), (.int p1), (.long q2)] maxLocals)) (T1.setTop (mkF m 95 #[.val (.int p0), .val (.int p1), .val (.long q2), .second, .val (.ref b1), .val (.int x5_14), .val (.long x6_21), .second, .val (.long x8_33), .second, .val (.int x10_38), .val (.long m74_l11), .second, .val (.int x13_82), .unset] [(.int (1 : Int32))])) := fun t k => pre19 t (by
          show Steps p.tables e below (T1.setTop (mkF m 87 #[.val (.int p0), .val (.int p1), .val (.long q2), .second, .val (.ref b1), .val (.int x5_14), .val (.long x6_21), .second, .val (.long x8_33), .second, .val (.int x10_38), .val (.long m74_l11), .second, .val (.int x13_82), .unset] [(.int (1 : Int32)), (.int (x5_14 &&& (1 : Int32)))])) _
          refine XS.icmpNo X1.here hx rfl (hb hby at_87) rfl (teq hc87).2 ?_
          show Steps p.tables e below (T1.setTop (mkF m 90 #[.val (.int p0), .val (.int p1), .val (.long q2), .second, .val (.ref b1), .val (.int x5_14), .val (.long x6_21), .second, .val (.long x8_33), .second, .val (.int x10_38), .val (.long m74_l11), .second, .val (.int x13_82), .unset] [])) _
          refine XS.iconst X1.here hx rfl (hb hby at_90) ?_
          show Steps p.tables e below (T1.setTop (mkF m 91 #[.val (.int p0), .val (.int p1), .val (.long q2), .second, .val (.ref b1), .val (.int x5_14), .val (.long x6_21), .second, .val (.long x8_33), .second, .val (.int x10_38), .val (.long m74_l11), .second, .val (.int x13_82), .unset] [(.int (1 : Int32))])) _
          refine XS.goto X1.here hx rfl (pc0 := 91) (pc' := 95) rfl (hb hby at_91) (by decide) (by decide) ?_
          exact k)
      refine ⟨_, ?_, pre20⟩
      all_goals (first | (simp only [own_m0_95_s0, if_pos hc87]; done) | (simp [own_m0_95_s0, if_pos hc87]; done))
    · have pre21 : own_Pre p e below (s₁.setTop (entryFrame m #[(.int p0), (.int p1), (.long q2)] maxLocals)) (T1.setTop (mkF m 95 #[.val (.int p0), .val (.int p1), .val (.long q2), .second, .val (.ref b1), .val (.int x5_14), .val (.long x6_21), .second, .val (.long x8_33), .second, .val (.int x10_38), .val (.long m74_l11), .second, .val (.int x13_82), .unset] [(.int (0 : Int32))])) := fun t k => pre19 t (by
          show Steps p.tables e below (T1.setTop (mkF m 87 #[.val (.int p0), .val (.int p1), .val (.long q2), .second, .val (.ref b1), .val (.int x5_14), .val (.long x6_21), .second, .val (.long x8_33), .second, .val (.int x10_38), .val (.long m74_l11), .second, .val (.int x13_82), .unset] [(.int (1 : Int32)), (.int (x5_14 &&& (1 : Int32)))])) _
          refine XS.icmpYes X1.here hx rfl (pc0 := 87) (pc' := 94) rfl (hb hby at_87) rfl (feq hc87).2 (by decide) (by decide) ?_
          show Steps p.tables e below (T1.setTop (mkF m 94 #[.val (.int p0), .val (.int p1), .val (.long q2), .second, .val (.ref b1), .val (.int x5_14), .val (.long x6_21), .second, .val (.long x8_33), .second, .val (.int x10_38), .val (.long m74_l11), .second, .val (.int x13_82), .unset] [])) _
          refine XS.iconst X1.here hx rfl (hb hby at_94) ?_
          exact k)
      refine ⟨_, ?_, pre21⟩
      all_goals (first | (simp only [own_m0_95_s0, if_neg hc87]; done) | (simp [own_m0_95_s0, if_neg hc87]; done))
  have z23 : n0 ≤ (T1.heap).size := (Nat.le_trans Z0 K1.1)
  obtain ⟨_, _, ⟨T22, L22, k22, n22⟩, -, X22, ⟨Lc22, hQ22, l22, y22, z22⟩, st22⟩ := Jvm.LawKit.callS X1 hx (y := (⟨"com/example/trawl/trawl/xml/XmlChars", "isNcNameStartChar", "(I)Z"⟩ : MethodName)) hown (mvT hZ (hw _ (List.mem_of_getElem? (i := 39) rfl))) (mvT hZ (hw _ (List.mem_of_getElem? (i := 40) rfl))) (mvT hZ (hw _ (List.mem_of_getElem? (i := 41) rfl))) (mvT hZ (hw _ (List.mem_of_getElem? (i := 42) rfl))) (by decide) (backOf (W := 0) (rm2 l Z aw hw [] (x13_82) (T1.heap) n0 z23) hZ (hw _ (List.mem_of_getElem? (i := 42) rfl)) (hw _ (List.mem_of_getElem? (i := 41) rfl)) (by decide) (by decide)) (g := (mkF m 99 #[.val (.int p0), .val (.int p1), .val (.long q2), .second, .val (.ref b1), .val (.int x5_14), .val (.long x6_21), .second, .val (.long x8_33), .second, .val (.int x10_38), .val (.long m74_l11), .second, .val (.int x13_82), .val (.int m95_s0)] [(.int x13_82)])) rfl (by rw [hml]; rfl) (argsL := [(.int x13_82)]) (rest := []) (lenOf pd_1 rfl) rfl (by show 2 * 0 + _ ≤ _; exact Nat.le_of_eq rfl) (hb hby at_99) (fun _ _ => ⟨rfl, rfl, (by decide : 1 + 0 ≤ _), (by decide : 32 + 0 ≤ _)⟩)
  dsimp only [Pt.U, Pt.locs, Pt.cells, Pt.slots] at X22 l22 y22 z22 st22 hQ22
  subst l22 y22 z22
  obtain ⟨rfl, Nq22, eq22⟩ := hQ22
  have N22 := Fr.app N1 Nq22
  have hc104 : ((nar .boolean (own_j_0 x13_82)) = m95_s0) := by rw [hm95_s0, hx13_82, hm74_l11]; exact own_plain _ hx5_14 _ _ _ _ hx6_21 hx8_33
  obtain ⟨fs, hr, hrun, hended, hW, hsame⟩ := X22.leave (v := some (.int (1 : Int32))) (fun h => by rw [Bd.returns] at h; cases h)
  refine ⟨_, _, pre18 _ ?_, hrun, hended, _, _, rfl, ?_, ⟨_, rfl⟩, hW, hsame.mono (by decide) (by decide)⟩
  · show Steps p.tables e below (T1.setTop (mkF m 95 #[.val (.int p0), .val (.int p1), .val (.long q2), .second, .val (.ref b1), .val (.int x5_14), .val (.long x6_21), .second, .val (.long x8_33), .second, .val (.int x10_38), .val (.long m74_l11), .second, .val (.int x13_82), .unset] [(.int m95_s0)])) _
    refine XS.istore X1.here hx rfl (hb hby at_95) rfl (l' := #[.val (.int p0), .val (.int p1), .val (.long q2), .second, .val (.ref b1), .val (.int x5_14), .val (.long x6_21), .second, .val (.long x8_33), .second, .val (.int x10_38), .val (.long m74_l11), .second, .val (.int x13_82), .val (.int m95_s0)]) rfl ?_
    show Steps p.tables e below (T1.setTop (mkF m 97 #[.val (.int p0), .val (.int p1), .val (.long q2), .second, .val (.ref b1), .val (.int x5_14), .val (.long x6_21), .second, .val (.long x8_33), .second, .val (.int x10_38), .val (.long m74_l11), .second, .val (.int x13_82), .val (.int m95_s0)] [])) _
    refine XS.iload X1.here hx rfl (hb hby at_97) rfl ?_
    show Steps p.tables e below (T1.setTop (mkF m 99 #[.val (.int p0), .val (.int p1), .val (.long q2), .second, .val (.ref b1), .val (.int x5_14), .val (.long x6_21), .second, .val (.long x8_33), .second, .val (.int x10_38), .val (.long m74_l11), .second, .val (.int x13_82), .val (.int m95_s0)] [(.int x13_82)])) _
    refine st22 _ ?_
    show Steps p.tables e below (T22.setTop (mkF m 102 #[.val (.int p0), .val (.int p1), .val (.long q2), .second, .val (.ref b1), .val (.int x5_14), .val (.long x6_21), .second, .val (.long x8_33), .second, .val (.int x10_38), .val (.long m74_l11), .second, .val (.int x13_82), .val (.int m95_s0)] [(.int (nar .boolean (own_j_0 x13_82)))])) _
    refine XS.iload X22.here hx rfl (hb hby at_102) rfl ?_
    show Steps p.tables e below (T22.setTop (mkF m 104 #[.val (.int p0), .val (.int p1), .val (.long q2), .second, .val (.ref b1), .val (.int x5_14), .val (.long x6_21), .second, .val (.long x8_33), .second, .val (.int x10_38), .val (.long m74_l11), .second, .val (.int x13_82), .val (.int m95_s0)] [(.int m95_s0), (.int (nar .boolean (own_j_0 x13_82)))])) _
    refine XS.icmpNo X22.here hx rfl (hb hby at_104) rfl (teq hc104).2 ?_
    show Steps p.tables e below (T22.setTop (mkF m 107 #[.val (.int p0), .val (.int p1), .val (.long q2), .second, .val (.ref b1), .val (.int x5_14), .val (.long x6_21), .second, .val (.long x8_33), .second, .val (.int x10_38), .val (.long m74_l11), .second, .val (.int x13_82), .val (.int m95_s0)] [])) _
    refine XS.iconst X22.here hx rfl (hb hby at_107) ?_
    show Steps p.tables e below (T22.setTop (mkF m 108 #[.val (.int p0), .val (.int p1), .val (.long q2), .second, .val (.ref b1), .val (.int x5_14), .val (.long x6_21), .second, .val (.long x8_33), .second, .val (.int x10_38), .val (.long m74_l11), .second, .val (.int x13_82), .val (.int m95_s0)] [(.int (1 : Int32))])) _
    refine XS.goto X22.here hx rfl (pc0 := 108) (pc' := 112) rfl (hb hby at_108) (by decide) (by decide) ?_
    show Steps p.tables e below (T22.setTop (mkF m 112 #[.val (.int p0), .val (.int p1), .val (.long q2), .second, .val (.ref b1), .val (.int x5_14), .val (.long x6_21), .second, .val (.long x8_33), .second, .val (.int x10_38), .val (.long m74_l11), .second, .val (.int x13_82), .val (.int m95_s0)] [(.int (1 : Int32))])) _
    exact retN X22 hx (t := .boolean) Bd.returns (by simp) (hb hby at_112) hr
  · show Q0 Z p0 p1 q2 h0 n0 _ T22.heap _
    rw [eq22]
    unfold Q0
    refine ⟨rfl, N22⟩
set_option maxRecDepth 65536 in
set_option maxHeartbeats 40000000 in
theorem comes_1 {Post : Tables → Env → Array Value → State → Outcome → State → Prop} (hpost : ∀ tb e args s v u, (limb_1_1.after args s (.returned v) u = true ∧ limb_1_2.after args s (.returned v) u = true ∧ True) → FrameEnd s (.returned v) u (Jvm.fieldLocs frame_1_writes args s ++ Jvm.arrayLocs frame_1_arrays args s ++ Jvm.staticLocs frame_1_statics s) 16 128 → Post tb e args s (.returned v) u) :
    ArmFor flags0 classFile x code maxLocals ret World_1 tables_1 room_1 Calls_1 rest_1 Pre_1 Post := by
  intro l hfl _ _ p e ha hc hk s m args below hf hA hF happ hP
  obtain ⟨hcalls, hrest, hpre⟩ := hP
  obtain ⟨-, -, -, hnamed, -, -, -, hat⟩ := (Spec.applies_iff hf).mp happ
  obtain ⟨hg, hn⟩ := and_e (Cond.before_iff.mp (show (Jvm.Cond.and given_1 narrow_1).before args s = true from hpre))
  obtain ⟨gv1, gv2⟩ := and_e hg
  obtain ⟨gv3, gv4⟩ := and_e gv2
  obtain ⟨gv5, gv6⟩ := and_e gv4
  obtain ⟨w0, w1, w2, rfl⟩ : ∃ w0 w1 w2 : Value, args = #[w0, w1, w2] := by
    have hs : args.size = 3 := by simpa [Cond.value, given_1] using gv1
    obtain ⟨L⟩ := args
    match L, hs with
    | [w0, w1, w2], _ => exact ⟨w0, w1, w2, rfl⟩
  have hw := fun d (hd : d ∈ tables_1) => atoms_spec (ws := Jvm.Cond.code x code maxLocals ret :: tables_1) hat d (List.mem_cons_of_mem _ hd)
  obtain ⟨i0, ei0⟩ := is_v gv3
  obtain rfl : w0 = (.int i0) := Option.some.inj ei0
  obtain ⟨i1, ei1⟩ := is_v gv5
  obtain rfl : w1 = (.int i1) := Option.some.inj ei1
  obtain ⟨i2, ei2⟩ := isL_v gv6
  obtain rfl : w2 = (.long i2) := Option.some.inj ei2
  obtain ⟨n, o, h1, h2, h3, _, L, rfl, ⟨rfl, N⟩, hq⟩ := rm0 l s _ hw tables_1 i0 i1 i2 s.heap s.heap.size (Nat.le_refl _) p e ha hc hk s m _ below hf ((Spec.applies_iff_loose hf).mp happ).1 ⟨rfl, State.Warmed39.refl s, rfl⟩ trivial
  refine ⟨n, _, h1, h2, h3, hpost _ _ _ _ _ _ ⟨Cond.after_iff.mpr rfl, Cond.after_iff.mpr (eq_i res_at (Term.int_eval (1)) rfl), trivial⟩ ⟨hq.1, hq.2.1, (hq.2.2.sift fun y hy => Or.inr (N y hy)).mono (by decide) (by decide)⟩⟩
theorem main_1_1 : Claimed_1_1 := comes_1 fun _ _ _ _ _ _ h hF => ⟨h.1, hF⟩
theorem main_1_2 : Claimed_1_2 := comes_1 fun _ _ _ _ _ _ h hF => ⟨h.2.1, hF⟩
end Jvm.Pilot.@@N@@
namespace Jvm.Pilot.@@N@@
open Jvm Jvm.ClassFile Sem Op Lib Jvm.Free Jvm.Stand Jvm.Pilot.@@N@@.Jvm.D
/-! MADE BY PROGRAM (witnessworld.py) out of the Statement's table words and the real class files: 11 classes; the members and pool entries that the words name. The judged class is class 1, her method 2. -/
namespace start1
open Jvm.ClassFile
def u (s : String) : CpInfo := .utf8 (stringToUtf16 s)
/-- a pool by its gaps: so many unusable entries, then the entry; so many at the end -/
def gap : Nat → List CpInfo → List CpInfo
  | 0, r => r
  | n + 1, r => .unusable :: gap n r
def poolList (es : List (Nat × CpInfo)) (last : Nat) : List CpInfo := es.foldr (fun e r => gap e.1 (e.2 :: r)) (gap last [])
def pool (es : List (Nat × CpInfo)) (last : Nat) : Array CpInfo := ⟨poolList es last⟩
def fileOf (pool : Array CpInfo) (this : Nat) (attrs : Array Attribute := #[]) (ms : Array MethodInfo := #[]) (fl : Nat := 33) (sup : Nat := 0) (ifs : Array Nat := #[]) (fds : Array FieldInfo := #[]) : ClassFile where
  minorVersion := 0
  majorVersion := 65
  constantPool := pool
  accessFlags := fl
  thisClass := this
  superClass := sup
  interfaces := ifs
  fields := fds
  methods := ms
  attributes := attrs
def plain (name : String) (sup : Option ClassId) : Class where
  name := name
  kind := .ordinary
  loader := none
  accessFlags := 33
  super := sup
  interfaces := #[]
  cf := none
  fields := #[]
  methods := #[]
  instanceTypes := #[]
  staticTypes := #[]
  resolved := #[]
  callSites := []
  init := .initialized
  statics := none
  mirror := none

def pool0 : Array CpInfo := pool [(5, u "<init>"), (0, u "()V"), (1, .class_ 10), (1, u "java/lang/Object")] 113

def k0m0 : Method := { name := "<init>", desc := "()V", sig := { parameters := [], returnType := none }, accessFlags := 1, code := none }
/-- java/lang/Object -/
def k0 : Class := { plain "java/lang/Object" none with
  accessFlags := 33
  interfaces := #[]
  cf := some (fileOf pool0 8 #[] #[{ accessFlags := 1, nameIndex := 5, descriptorIndex := 6, attributes := #[] }] 33 0 #[] #[])
  fields := #[]
  methods := #[k0m0]
  instanceTypes := #[]
  staticTypes := #[]
  resolved := Array.replicate 124 none
  statics := none }

def pool1 : Array CpInfo := pool [(2, .class_ 4), (1, u "java/lang/Object"), (0, u "<init>"), (0, u "()V"), (2, .long 18446744071562067968), (1, .long 65), (1, .long 91), (1, .long 95), (1, .long 96), (1, .long 97), (1, .long 123), (1, .long 192), (1, .long 215), (1, .long 216), (1, .long 247), (1, .long 248), (1, .long 768), (1, .long 880), (1, .long 894), (1, .long 895), (1, .long 8192), (1, .long 8204), (1, .long 8206), (1, .long 8304), (1, .long 8592), (1, .long 11264), (1, .long 12272), (1, .long 12289), (1, .long 55296), (1, .long 63744), (1, .long 64976), (1, .long 65008), (1, .long 65534), (1, .long 65536), (1, .long 983040), (1, .long 2147483648), (1, .methodref 74 75), (0, .class_ 76), (0, .nameAndType 77 78), (0, u "com/example/trawl/trawl/xml/XmlCharsIsNcNameStartCharPinLaw"), (0, u "bounds"), (0, u "()[J"), (0, .integer 2147483647), (2, .long 9223372036854775807), (1, .methodref 85 86), (0, .class_ 87), (0, .nameAndType 88 89), (0, u "com/example/trawl/trawl/xml/XmlChars"), (0, u "isNcNameStartChar"), (0, u "(I)Z"), (2, u "law"), (0, u "(IIJ)Z")] 5

def k1m0 : Method := { name := "<init>", desc := "()V", sig := { parameters := [], returnType := none }, accessFlags := 2, code := none }
def k1c1 : Code := { maxStack := 5, maxLocals := 0, code := method_2_code, exceptionTable := #[], attributes := #[] }
def k1m1 : Method := { name := "bounds", desc := "()[J", sig := { parameters := [], returnType := some (.array .long) }, accessFlags := 10, code := some k1c1 }
def k1c2 : Code := { maxStack := 4, maxLocals := 15, code := code, exceptionTable := #[], attributes := #[] }
def k1m2 : Method := { name := "law", desc := "(IIJ)Z", sig := { parameters := [.int, .int, .long], returnType := some .boolean }, accessFlags := 9, code := some k1c2 }
/-- com/example/trawl/trawl/xml/XmlCharsIsNcNameStartCharPinLaw -/
def k1 : Class := { plain "com/example/trawl/trawl/xml/XmlCharsIsNcNameStartCharPinLaw" (some 0) with
  accessFlags := 49
  interfaces := #[]
  cf := some (fileOf pool1 74 #[] #[{ accessFlags := 2, nameIndex := 5, descriptorIndex := 6, attributes := #[] }, { accessFlags := 10, nameIndex := 77, descriptorIndex := 78, attributes := #[] }, { accessFlags := 9, nameIndex := 92, descriptorIndex := 93, attributes := #[] }] 49 2 #[] #[])
  fields := #[]
  methods := #[k1m0, k1m1, k1m2]
  instanceTypes := #[]
  staticTypes := #[]
  resolved := Array.replicate 99 none
  statics := none }

def pool2 : Array CpInfo := pool [(2, .class_ 4), (1, u "java/lang/Object"), (0, u "<init>"), (0, u "()V"), (0, .integer 55295), (1, .integer 65533), (0, .integer 65536), (30, .class_ 43), (1, u "com/example/trawl/trawl/xml/XmlChars"), (7, u "(I)Z"), (15, u "isNcNameStartChar"), (10, .integer 63744), (0, .integer 64975), (0, .integer 65008), (0, .integer 983039)] 11

def k2m0 : Method := { name := "<init>", desc := "()V", sig := { parameters := [], returnType := none }, accessFlags := 2, code := none }
def k2c1 : Code := { maxStack := 2, maxLocals := 1, code := prog_77_method_12_code, exceptionTable := #[], attributes := #[] }
def k2m1 : Method := { name := "isNcNameStartChar", desc := "(I)Z", sig := { parameters := [.int], returnType := some .boolean }, accessFlags := 9, code := some k2c1 }
/-- com/example/trawl/trawl/xml/XmlChars -/
def k2 : Class := { plain "com/example/trawl/trawl/xml/XmlChars" (some 0) with
  accessFlags := 49
  interfaces := #[]
  cf := some (fileOf pool2 41 #[] #[{ accessFlags := 2, nameIndex := 5, descriptorIndex := 6, attributes := #[] }, { accessFlags := 9, nameIndex := 67, descriptorIndex := 51, attributes := #[] }] 49 2 #[] #[])
  fields := #[]
  methods := #[k2m0, k2m1]
  instanceTypes := #[]
  staticTypes := #[]
  resolved := Array.replicate 93 none
  statics := none }

def pool3 : Array CpInfo := pool [(1, u "java/lang/Cloneable"), (0, .class_ 1), (0, u "java/lang/Object"), (0, .class_ 3)] 3

/-- java/lang/Cloneable -/
def k3 : Class := { plain "java/lang/Cloneable" (some 0) with
  accessFlags := 1537
  interfaces := #[]
  cf := some (fileOf pool3 2 #[] #[] 1537 4 #[] #[])
  fields := #[]
  methods := #[]
  instanceTypes := #[]
  staticTypes := #[]
  resolved := Array.replicate 8 none
  statics := none }

def pool4 : Array CpInfo := pool [(1, u "java/io/Serializable"), (0, .class_ 1), (0, u "java/lang/Object"), (0, .class_ 3)] 3

/-- java/io/Serializable -/
def k4 : Class := { plain "java/io/Serializable" (some 0) with
  accessFlags := 1537
  interfaces := #[]
  cf := some (fileOf pool4 2 #[] #[] 1537 4 #[] #[])
  fields := #[]
  methods := #[]
  instanceTypes := #[]
  staticTypes := #[]
  resolved := Array.replicate 8 none
  statics := none }

/-- the primitive byte -/
def k5 : Class := { plain "byte" none with kind := .primitive 'B', accessFlags := 0x411 }
/-- [B -/
def k6 : Class := { plain "[B" (some 0) with kind := .array 5 .byte, interfaces := #[3, 4], accessFlags := 1041 }

/-- the primitive int -/
def k7 : Class := { plain "int" none with kind := .primitive 'I', accessFlags := 0x411 }
/-- [I -/
def k8 : Class := { plain "[I" (some 0) with kind := .array 7 .int, interfaces := #[3, 4], accessFlags := 1041 }

/-- the primitive long -/
def k9 : Class := { plain "long" none with kind := .primitive 'J', accessFlags := 0x411 }
/-- [J -/
def k10 : Class := { plain "[J" (some 0) with kind := .array 9 .long, interfaces := #[3, 4], accessFlags := 1041 }

def heap : Heap := #[]
def classes : Array Class := #[k0, k1, k2, k3, k4, k5, k6, k7, k8, k9, k10]
def interned : List (Array UInt16 × Addr) := []
def slotsUsed : Nat := 0
def theMethod : MethodId := ⟨1, 2⟩
def args0 : Array Value := #[.int 5, .int 6, .long 7]
def aboutOver (below : List Frame) : State where
  vm := { classes := classes, interned := interned.toArray }
  heap := heap
  slotsUsed := slotsUsed
  threads := #[{ frames := .invoking theMethod args0 :: below }]
def below0 : List Frame := [.native { method := ⟨0, 0⟩, args := #[] }]
def about1 : State := aboutOver below0
def p0 : Program := .bare "" "" ""
def e0 : Env := launch0.env 0 0 0
theorem w_frames : about1.frames = Frame.invoking theMethod args0 :: below0 := rfl
set_option maxRecDepth 65536 in
theorem w_args : argsFit about1.vm theMethod args0 = true := by decide +kernel
set_option maxRecDepth 65536 in
theorem w_heap : heapFits about1 = true := by decide +kernel
set_option maxRecDepth 65536 in
theorem w_runnable : about1.curStatus? = some .runnable := by decide +kernel
set_option maxRecDepth 65536 in
theorem w_alone : about1.alone = true := by decide +kernel
set_option maxRecDepth 65536 in
theorem w_named : about1.methodNamed? x = some theMethod := by decide +kernel
set_option maxRecDepth 65536 in
theorem w_hears : about1.hears theMethod below0 = true := by decide +kernel
set_option maxRecDepth 65536 in
theorem w_ripe : about1.ripe theMethod args0 below0 = true := by decide +kernel
theorem w_running : about1.status = .running := rfl
set_option maxRecDepth 65536 in
theorem w_room : about1.hasRoom e0.platform room_1 = true :=
  launch0.hasRoom_least _ room_1 (by decide +kernel) (by decide +kernel) (by decide +kernel) (by decide +kernel) (by decide +kernel) (by decide +kernel)
theorem allAtoms_all (ts : List Jvm.Cond) (a : Array Jvm.Value) (st : Jvm.State) : (allAtoms ts).before a st = ts.all (fun c => c.before a st) := by
  induction ts with
  | nil => rfl
  | cons c t ih =>
    show (Jvm.Cond.and c (allAtoms t)).before a st = _
    rw [Jvm.Cond.before_and, ih, List.all_cons]
def words1 : List Jvm.Cond := Jvm.Cond.code x code maxLocals ret :: tables_1
/-- a 'code' word, met by the world's own term for the bytes: nothing is compared byte by byte -/
theorem code_word {y : MethodName} {bytes : ByteArray} {mx : Nat} {rt : Option FieldType} {a : Array Value} {s : State} {m : MethodId} {meth : Method} {c : Code} (h1 : s.methodNamed? y = some m) (h2 : s.vm.method? m = some meth) (h3 : meth.code = some c) (h4 : c.code = bytes)
    (h5 : (c.maxLocals == mx && c.exceptionTable.isEmpty && decide (c.maxStack ≤ mostOperands) && decide (meth.sig.returnType = rt) && !meth.locks && decide (parseMethodDescriptor y.desc = some meth.sig)) = true) : (Jvm.Cond.code y bytes mx rt).before a s = true := by
  simp only [Bool.and_eq_true, beq_iff_eq, Bool.not_eq_true', decide_eq_true_eq] at h5
  obtain ⟨⟨⟨⟨⟨g1, g2⟩, g3⟩, g4⟩, g5⟩, g6⟩ := h5
  simp [Cond.before, Cond.holds, Cond.value, h1, h2, h3, h4, g1, g2, g3, g4, g5, g6]
def isCode : Jvm.Cond → Bool
  | .code _ _ _ _ => true
  | _ => false
theorem all_split {L : List Jvm.Cond} {P : Jvm.Cond → Bool} (h1 : L.all (fun c => isCode c || P c) = true) (h2 : ∀ c ∈ L.filter isCode, P c = true) : L.all P = true := by
  refine List.all_eq_true.mpr fun c hc => ?_
  have h := List.all_eq_true.mp h1 c hc
  rcases Bool.eq_false_or_eq_true (isCode c) with hi | hi
  · exact h2 c (List.mem_filter.mpr ⟨hc, hi⟩)
  · simpa [hi] using h
set_option maxRecDepth 65536 in
theorem w_c0 : (Jvm.Cond.code x code maxLocals ret).before args0 about1 = true := code_word (m := ⟨1, 2⟩) (meth := k1m2) (c := k1c2) (by decide +kernel) rfl rfl rfl (by decide +kernel)
set_option maxRecDepth 65536 in
theorem w_c1 : (Jvm.Cond.code ({ cls := "com/example/trawl/trawl/xml/XmlCharsIsNcNameStartCharPinLaw", name := "bounds", desc := "()[J" } : Jvm.MethodName) method_2_code (0 : Nat) (Option.some (Jvm.ClassFile.FieldType.array Jvm.ClassFile.FieldType.long))).before args0 about1 = true := code_word (m := ⟨1, 1⟩) (meth := k1m1) (c := k1c1) (by decide +kernel) rfl rfl rfl (by decide +kernel)
set_option maxRecDepth 65536 in
theorem w_c2 : (Jvm.Cond.code ({ cls := "com/example/trawl/trawl/xml/XmlChars", name := "isNcNameStartChar", desc := "(I)Z" } : Jvm.MethodName) prog_77_method_12_code (1 : Nat) (Option.some Jvm.ClassFile.FieldType.boolean)).before args0 about1 = true := code_word (m := ⟨2, 1⟩) (meth := k2m1) (c := k2c1) (by decide +kernel) rfl rfl rfl (by decide +kernel)
def codes1 : List Jvm.Cond := [Jvm.Cond.code x code maxLocals ret, Jvm.Cond.code ({ cls := "com/example/trawl/trawl/xml/XmlCharsIsNcNameStartCharPinLaw", name := "bounds", desc := "()[J" } : Jvm.MethodName) method_2_code (0 : Nat) (Option.some (Jvm.ClassFile.FieldType.array Jvm.ClassFile.FieldType.long)), Jvm.Cond.code ({ cls := "com/example/trawl/trawl/xml/XmlChars", name := "isNcNameStartChar", desc := "(I)Z" } : Jvm.MethodName) prog_77_method_12_code (1 : Nat) (Option.some Jvm.ClassFile.FieldType.boolean)]
set_option maxRecDepth 65536 in
theorem codes_eq : words1.filter isCode = codes1 := rfl
theorem w_codes : ∀ c ∈ words1.filter isCode, c.before args0 about1 = true := by
  rw [codes_eq]
  intro c hc
  simp only [codes1, List.mem_cons, List.not_mem_nil, or_false] at hc
  rcases hc with rfl | rfl | rfl
  · exact w_c0
  · exact w_c1
  · exact w_c2
set_option maxRecDepth 65536 in
theorem w_t1 : (words1.take 24).all (fun c => isCode c || c.before args0 about1) = true := by decide +kernel
set_option maxRecDepth 65536 in
theorem w_t2 : ((words1.drop 24).take 24).all (fun c => isCode c || c.before args0 about1) = true := by decide +kernel
set_option maxRecDepth 65536 in
theorem w_t3 : ((words1.drop 24).drop 24).all (fun c => isCode c || c.before args0 about1) = true := by decide +kernel
theorem w_tables : (allAtoms (Jvm.Cond.code x code maxLocals ret :: tables_1)).before args0 about1 = true := by
  rw [allAtoms_all]
  show words1.all (fun c => c.before args0 about1) = true
  refine all_split ?_ w_codes
  rw [← List.take_append_drop 24 words1, List.all_append, w_t1, ← List.take_append_drop 24 (words1.drop 24), List.all_append, w_t2, w_t3]
  rfl
set_option maxRecDepth 65536 in
theorem w_case : (Jvm.Cond.and given_1 narrow_1).before args0 about1 = true := by decide +kernel
theorem w_applies : (headSpec (Jvm.Cond.code x code maxLocals ret :: tables_1) room_1).applies x e0.platform about1 = true :=
  (Spec.applies_iff w_frames).mpr ⟨w_running, w_runnable, w_alone, w_named, w_hears, w_ripe, w_room, w_tables⟩
theorem atStart : AtStart classFile x code maxLocals ret World_1 tables_1 room_1 Calls_1 rest_1 Pre_1 launch0 p0 e0 about1 theMethod args0 below0 :=
  ⟨lists_1, trivial, launch0.admits_env _ _ _, launch0.least_env, fairChoices_fair.cas, fairChoices_fair.clock, w_frames, w_args, w_heap, w_applies, trivial, trivial, w_case⟩
end start1
theorem witness_1 : WitnessClaimed_1 := ⟨start1.p0, start1.e0, start1.about1, start1.theMethod, start1.args0, start1.below0, start1.atStart⟩
end Jvm.Pilot.@@N@@
