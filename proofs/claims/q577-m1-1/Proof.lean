import JvmDerived
import JvmDerived.Pilot.@@N@@Statement
import JvmDerived.Pilot.@@N@@Code
set_option linter.unusedVariables false
set_option linter.unusedSimpArgs false
namespace Jvm.RoadKit
open Sem ClassFile Op Lib Jvm.Stand Jvm.Free Jvm.LawKit
section New
variable {p : Program} {l : Launch} {e : Env} {R : Room} {s : State} {m : MethodId} {args : Array Value} {below : List Frame} {meth : Method} {c : Code} {T : State} {locs : List Loc} {cells slots : Nat}
theorem retI (X : Stand p l e R s m args below meth c T locs cells slots) (hx : p.tables.exec = Jvm.exec) {pc : Nat} {Ls : Array Slot} {z : Int32} {rest : List Value} (hret : meth.sig.returnType = some .int) (hd : decode c.code pc = .ok (.ireturn, 1)) {fs : List Frame}
    (hl : ∀ (f : JFrame) (acts : List Action), f.method = m → f.locked = none → f.entered = [] → (doReturn e (T.setTop f) acts (some (.int z))).1 = T.setFrames fs) : Steps p.tables e below (T.setTop (mkF m pc Ls (.int z :: rest))) (T.setFrames fs) := by
  have hm' : T.vm.method? m = some meth := X.method'
  have hn : narrow .int (.int z) = .int z := rfl
  show Steps p.tables e below (T.setTop { method := m, pc := pc, locals := Ls, stack := _ :: rest, locked := none }) _
  jvm_step X.here [X.here.top, hx, hd, hm', hret, hn]
  first | (intro acts; rw [hl _ acts rfl rfl rfl]) | rw [hl _ _ rfl rfl rfl]
  exact Steps.refl _
theorem retJ (X : Stand p l e R s m args below meth c T locs cells slots) (hx : p.tables.exec = Jvm.exec) {pc : Nat} {Ls : Array Slot} {z : Int64} {rest : List Value} (hret : meth.sig.returnType = some .long) (hd : decode c.code pc = .ok (.lreturn, 1)) {fs : List Frame}
    (hl : ∀ (f : JFrame) (acts : List Action), f.method = m → f.locked = none → f.entered = [] → (doReturn e (T.setTop f) acts (some (.long z))).1 = T.setFrames fs) : Steps p.tables e below (T.setTop (mkF m pc Ls (.long z :: rest))) (T.setFrames fs) := by
  have hm' : T.vm.method? m = some meth := X.method'
  have hn : narrow .long (.long z) = .long z := rfl
  show Steps p.tables e below (T.setTop { method := m, pc := pc, locals := Ls, stack := _ :: rest, locked := none }) _
  jvm_step X.here [X.here.top, hx, hd, hm', hret, hn]
  first | (intro acts; rw [hl _ acts rfl rfl rfl]) | rw [hl _ _ rfl rfl rfl]
  exact Steps.refl _
theorem retR (X : Stand p l e R s m args below meth c T locs cells slots) (hx : p.tables.exec = Jvm.exec) {pc : Nat} {Ls : Array Slot} {v : Value} {rest : List Value} (hv : v.isRef = true) {ty : FieldType} (hret : meth.sig.returnType = some ty) (ht : ty.isReference = true) (hd : decode c.code pc = .ok (.areturn, 1)) {fs : List Frame}
    (hl : ∀ (f : JFrame) (acts : List Action), f.method = m → f.locked = none → f.entered = [] → (doReturn e (T.setTop f) acts (some v)).1 = T.setFrames fs) : Steps p.tables e below (T.setTop (mkF m pc Ls (v :: rest))) (T.setFrames fs) := by
  have hm' : T.vm.method? m = some meth := X.method'
  show Steps p.tables e below (T.setTop { method := m, pc := pc, locals := Ls, stack := _ :: rest, locked := none }) _
  jvm_step X.here [X.here.top, hx, hd, hm', hret, hv, ht]
  first | (intro acts; rw [hl _ acts rfl rfl rfl]) | rw [hl _ _ rfl rfl rfl]
  exact Steps.refl _
end New
end Jvm.RoadKit
namespace Jvm.Pilot.@@N@@
open Jvm Jvm.ClassFile Sem Op Lib Jvm.Free Jvm.Stand Jvm.LawKit Jvm.RoadKit Bundle Jvm.Pilot.@@N@@.Jvm.D
/-- from the state 'cur' on is enough -/
def own_Pre (p : Program) (e : Env) (below : List Frame) (start cur : State) : Prop := ∀ t, Steps p.tables e below cur t → Steps p.tables e below start t
/-- an array of ints (bytes, chars, booleans): its length z, its components ws (at least so many) -/
def own_AI (Z : State) (h : Heap) (a : Addr) (k : ClassId) (ty : FieldType) (z : Int32) (ws : List Int32) : Prop := Arv Z h a k ty z (ws.map Value.int) (.int 0) ∧ z.toNatClampNeg ≤ ws.length
def own_AJ (Z : State) (h : Heap) (a : Addr) (k : ClassId) (ty : FieldType) (z : Int32) (ws : List Int64) : Prop := Arv Z h a k ty z (ws.map Value.long) (.long 0) ∧ z.toNatClampNeg ≤ ws.length
section OwnA
variable {Z : State} {h h' : Heap} {a b : Addr} {k : ClassId} {ty : FieldType} {z : Int32} {ws : List Int32} {wl : List Int64} {sl : Nat} {v : Value} {L : List Addr}
theorem own_AI.lt (F : own_AI Z h a k ty z ws) : a < h.size := Arv.lt F.1
theorem own_AI.ext (F : own_AI Z h a k ty z ws) (E : Ext h h') : own_AI Z h' a k ty z ws := ⟨Arv.ext F.1 E, F.2⟩
theorem own_AI.other (F : own_AI Z h b k ty z ws) (W : Wr h h' a sl v) (q : b ≠ a) : own_AI Z h' b k ty z ws := ⟨Arv.other F.1 W q, F.2⟩
theorem own_AI.keep (F : own_AI Z h a k ty z ws) (K : Keep h h' L) (q : a ∉ L) : own_AI Z h' a k ty z ws := ⟨Arv.keep F.1 K q, F.2⟩
theorem own_AJ.lt (F : own_AJ Z h a k ty z wl) : a < h.size := Arv.lt F.1
theorem own_AJ.ext (F : own_AJ Z h a k ty z wl) (E : Ext h h') : own_AJ Z h' a k ty z wl := ⟨Arv.ext F.1 E, F.2⟩
theorem own_AJ.other (F : own_AJ Z h b k ty z wl) (W : Wr h h' a sl v) (q : b ≠ a) : own_AJ Z h' b k ty z wl := ⟨Arv.other F.1 W q, F.2⟩
theorem own_AJ.keep (F : own_AJ Z h a k ty z wl) (K : Keep h h' L) (q : a ∉ L) : own_AJ Z h' a k ty z wl := ⟨Arv.keep F.1 K q, F.2⟩
theorem own_AI.new (n : Nat) (A : Arr Z h a (newA k ty z) ty) (q : ¬ z < 0) (hn : z.toNatClampNeg ≤ n) (hd : defaultValue ty = .int 0) : own_AI Z h a k ty z (List.replicate n (0 : Int32)) := by
  have := Arv.new A q
  rw [hd] at this
  have r := this.pad (pad_rep [] (.int 0) n)
  exact ⟨by simpa [List.map_replicate] using r, by simpa using hn⟩
theorem own_AJ.new (n : Nat) (A : Arr Z h a (newA k ty z) ty) (q : ¬ z < 0) (hn : z.toNatClampNeg ≤ n) (hd : defaultValue ty = .long 0) : own_AJ Z h a k ty z (List.replicate n (0 : Int64)) := by
  have := Arv.new A q
  rw [hd] at this
  have r := this.pad (pad_rep [] (.long 0) n)
  exact ⟨by simpa [List.map_replicate] using r, by simpa using hn⟩
theorem own_getI (ws : List Int32) (i : Nat) : (ws.map Value.int).getD i (.int 0) = .int (ws.getD i 0) := by
  simp only [List.getD_eq_getElem?_getD, List.getElem?_map]
  cases ws[i]? <;> rfl
theorem own_getJ (ws : List Int64) (i : Nat) : (ws.map Value.long).getD i (.long 0) = .long (ws.getD i 0) := by
  simp only [List.getD_eq_getElem?_getD, List.getElem?_map]
  cases ws[i]? <;> rfl
theorem own_AI.at (F : own_AI Z h a k ty z ws) {j : Int32} (q : ¬ j < 0 ∧ j < z) : ∃ cl : Cell, Arr Z h a cl ty ∧ ¬ (j < 0 ∨ cl.slots.size ≤ j.toNatClampNeg) ∧ cl.slots[j.toNatClampNeg]? = some (.int (ws.getD j.toNatClampNeg 0)) := by
  obtain ⟨⟨cl, A, -, S, -, H, -⟩, -⟩ := F
  have hin := inb_of S q
  exact ⟨cl, A, hin, H.at hin (own_getI _ _)⟩
theorem own_AJ.at (F : own_AJ Z h a k ty z wl) {j : Int32} (q : ¬ j < 0 ∧ j < z) : ∃ cl : Cell, Arr Z h a cl ty ∧ ¬ (j < 0 ∨ cl.slots.size ≤ j.toNatClampNeg) ∧ cl.slots[j.toNatClampNeg]? = some (.long (wl.getD j.toNatClampNeg 0)) := by
  obtain ⟨⟨cl, A, -, S, -, H, -⟩, -⟩ := F
  have hin := inb_of S q
  exact ⟨cl, A, hin, H.at hin (own_getJ _ _)⟩
theorem own_AI.arr (F : own_AI Z h a k ty z ws) {j : Int32} (q : ¬ j < 0 ∧ j < z) : ∃ cl : Cell, Arr Z h a cl ty ∧ ¬ (j < 0 ∨ cl.slots.size ≤ j.toNatClampNeg) ∧ ∀ (h' : Heap) (x : Int32), fits ty (.int x) = true → Wr h h' a j.toNatClampNeg (.int x) → own_AI Z h' a k ty z (ws.set j.toNatClampNeg x) := by
  obtain ⟨⟨cl, A, q1, S, q3, H, G⟩, ln⟩ := F
  have hin := inb_of S q
  refine ⟨cl, A, hin, fun h' x hv W => ?_⟩
  have hl : j.toNatClampNeg < ws.length := by
    rcases Nat.lt_or_ge j.toNatClampNeg ws.length with u | u
    · exact u
    · exact absurd (Or.inr (by omega)) hin
  have := Arv.set A q1 S q3 H G hv W _ rfl (by simpa using hl)
  rw [← List.map_set] at this
  exact ⟨this, by simpa using ln⟩
theorem own_AJ.arr (F : own_AJ Z h a k ty z wl) {j : Int32} (q : ¬ j < 0 ∧ j < z) : ∃ cl : Cell, Arr Z h a cl ty ∧ ¬ (j < 0 ∨ cl.slots.size ≤ j.toNatClampNeg) ∧ ∀ (h' : Heap) (x : Int64), fits ty (.long x) = true → Wr h h' a j.toNatClampNeg (.long x) → own_AJ Z h' a k ty z (wl.set j.toNatClampNeg x) := by
  obtain ⟨⟨cl, A, q1, S, q3, H, G⟩, ln⟩ := F
  have hin := inb_of S q
  refine ⟨cl, A, hin, fun h' x hv W => ?_⟩
  have hl : j.toNatClampNeg < wl.length := by
    rcases Nat.lt_or_ge j.toNatClampNeg wl.length with u | u
    · exact u
    · exact absurd (Or.inr (by omega)) hin
  have := Arv.set A q1 S q3 H G hv W _ rfl (by simpa using hl)
  rw [← List.map_set] at this
  exact ⟨this, by simpa using ln⟩
theorem own_AI.len (F : own_AI Z h a k ty z ws) : ∃ cl : Cell, Arr Z h a cl ty ∧ cl.slots.size = z.toNatClampNeg ∧ ¬ z < 0 := by
  obtain ⟨⟨cl, A, -, S, q3, -, -⟩, -⟩ := F
  exact ⟨cl, A, S, q3⟩
theorem own_AJ.len (F : own_AJ Z h a k ty z wl) : ∃ cl : Cell, Arr Z h a cl ty ∧ cl.slots.size = z.toNatClampNeg ∧ ¬ z < 0 := by
  obtain ⟨⟨cl, A, -, S, q3, -, -⟩, -⟩ := F
  exact ⟨cl, A, S, q3⟩
end OwnA
/-- a private method selects itself, where another method of its class is known to be no interface's -/
theorem own_selp {s : State} {args args' : Array Value} {y z : MethodName} (hz : (Cond.selects z.cls z z).before args s = true) (hc : z.cls = y.cls) (hpriv : s.PrivateAt y) (hinst : (Cond.instanceMethod y).before args s = true) (hy : y.cls ≠ "java/lang/invoke/MethodHandle" ∧ y.cls ≠ "java/lang/invoke/VarHandle") : (Cond.selects y.cls y y).before args s = true := by
  obtain ⟨c2, r2, m2, -, -, q3, -, kP, hkP, hkPi⟩ := Cond.selects_spec hz
  have hf := findClass_of_methodNamed q3
  rw [hc] at hf
  exact selects_self_of_private hf hkP hkPi hpriv hinst hy
/-- what holds of every byte -/
theorem own_bytes {P : Int32 → Prop} (H : ∀ i : Fin 256, P (Int32.ofInt ((i.1 : Int) - 128))) (x : Int32) : P x.toInt8.toInt32 := by
  obtain ⟨-, h1, h2⟩ := c_i2b x
  have e : x.toInt8.toInt32 = Int32.ofInt (((⟨(x.toInt8.toInt32.toInt + 128).toNat, by omega⟩ : Fin 256).1 : Int) - 128) := by
    apply Int32.toInt_inj.mp
    show _ = (Int32.ofInt (((x.toInt8.toInt32.toInt + 128).toNat : Int) - 128)).toInt
    rw [Int32.toInt_ofInt_of_le (by omega) (by omega)]
    omega
  rw [e]
  exact H _


theorem d1_0 : decode prog_17_method_2_code 0 = .ok (.aload_n 0, 1) := by decide +kernel
theorem d1_1 : decode prog_17_method_2_code 1 = .ok (.iload_n 1, 1) := by decide +kernel
theorem d1_2 : decode prog_17_method_2_code 2 = .ok (.baload, 1) := by decide +kernel
theorem d1_3 : decode prog_17_method_2_code 3 = .ok (.sipush 255, 3) := by decide +kernel
theorem d1_6 : decode prog_17_method_2_code 6 = .ok (.iand, 1) := by decide +kernel
theorem d1_7 : decode prog_17_method_2_code 7 = .ok (.bipush 24, 2) := by decide +kernel
theorem d1_9 : decode prog_17_method_2_code 9 = .ok (.ishl, 1) := by decide +kernel
theorem d1_10 : decode prog_17_method_2_code 10 = .ok (.aload_n 0, 1) := by decide +kernel
theorem d1_11 : decode prog_17_method_2_code 11 = .ok (.iload_n 1, 1) := by decide +kernel
theorem d1_12 : decode prog_17_method_2_code 12 = .ok (.iconst 1, 1) := by decide +kernel
theorem d1_13 : decode prog_17_method_2_code 13 = .ok (.iadd, 1) := by decide +kernel
theorem d1_14 : decode prog_17_method_2_code 14 = .ok (.baload, 1) := by decide +kernel
theorem d1_15 : decode prog_17_method_2_code 15 = .ok (.sipush 255, 3) := by decide +kernel
theorem d1_18 : decode prog_17_method_2_code 18 = .ok (.iand, 1) := by decide +kernel
theorem d1_19 : decode prog_17_method_2_code 19 = .ok (.bipush 16, 2) := by decide +kernel
theorem d1_21 : decode prog_17_method_2_code 21 = .ok (.ishl, 1) := by decide +kernel
theorem d1_22 : decode prog_17_method_2_code 22 = .ok (.ior, 1) := by decide +kernel
theorem d1_23 : decode prog_17_method_2_code 23 = .ok (.aload_n 0, 1) := by decide +kernel
theorem d1_24 : decode prog_17_method_2_code 24 = .ok (.iload_n 1, 1) := by decide +kernel
theorem d1_25 : decode prog_17_method_2_code 25 = .ok (.iconst 2, 1) := by decide +kernel
theorem d1_26 : decode prog_17_method_2_code 26 = .ok (.iadd, 1) := by decide +kernel
theorem d1_27 : decode prog_17_method_2_code 27 = .ok (.baload, 1) := by decide +kernel
theorem d1_28 : decode prog_17_method_2_code 28 = .ok (.sipush 255, 3) := by decide +kernel
theorem d1_31 : decode prog_17_method_2_code 31 = .ok (.iand, 1) := by decide +kernel
theorem d1_32 : decode prog_17_method_2_code 32 = .ok (.bipush 8, 2) := by decide +kernel
theorem d1_34 : decode prog_17_method_2_code 34 = .ok (.ishl, 1) := by decide +kernel
theorem d1_35 : decode prog_17_method_2_code 35 = .ok (.ior, 1) := by decide +kernel
theorem d1_36 : decode prog_17_method_2_code 36 = .ok (.aload_n 0, 1) := by decide +kernel
theorem d1_37 : decode prog_17_method_2_code 37 = .ok (.iload_n 1, 1) := by decide +kernel
theorem d1_38 : decode prog_17_method_2_code 38 = .ok (.iconst 3, 1) := by decide +kernel
theorem d1_39 : decode prog_17_method_2_code 39 = .ok (.iadd, 1) := by decide +kernel
theorem d1_40 : decode prog_17_method_2_code 40 = .ok (.baload, 1) := by decide +kernel
theorem d1_41 : decode prog_17_method_2_code 41 = .ok (.sipush 255, 3) := by decide +kernel
theorem d1_44 : decode prog_17_method_2_code 44 = .ok (.iand, 1) := by decide +kernel
theorem d1_45 : decode prog_17_method_2_code 45 = .ok (.ior, 1) := by decide +kernel
theorem d1_46 : decode prog_17_method_2_code 46 = .ok (.ireturn, 1) := by decide +kernel
theorem pn_0 : plainName "com/example/unicopy/unicopy/Messages" = true := by first | (simp [plainName, overriddenIn]; done) | decide +kernel
theorem ef_1 (m : MethodId) (a0 : Addr) (p1 : Int32) : entryFrame m #[(.ref a0), (.int p1)] 2 = mkF m 0 #[.val (.ref a0), .val (.int p1)] [] := by first | (simp [entryFrame, mkF, argsToLocals, Value.category]; done) | rfl
def own_f1 (p1 : Int32) (ws : List Int32) : Int32 := ((((((ws.getD (p1).toNatClampNeg (0 : Int32)) &&& (255 : Int32)) <<< ((24 : Int32) &&& 31)) ||| (((ws.getD ((p1 + (1 : Int32))).toNatClampNeg (0 : Int32)) &&& (255 : Int32)) <<< ((16 : Int32) &&& 31))) ||| (((ws.getD ((p1 + (2 : Int32))).toNatClampNeg (0 : Int32)) &&& (255 : Int32)) <<< ((8 : Int32) &&& 31))) ||| ((ws.getD ((p1 + (3 : Int32))).toNatClampNeg (0 : Int32)) &&& (255 : Int32)))
def Q1 (Z : State) (a0 : Addr) (p1 : Int32) (k : ClassId) (z : Int32) (ws : List Int32) (h0 : Heap) (n0 : Nat) (v : Option Value) (h : Heap) (L : List Loc) : Prop := v = some (.int (own_f1 p1 ws)) ∧ Fr n0 L ∧ h = h0
set_option maxRecDepth 65536 in
set_option maxHeartbeats 40000000 in
theorem rm1 (l : Launch) (Z : State) (aw : Array Value) (hw : ∀ d ∈ tables_1, d.before aw Z = true) (wq : List Jvm.Cond) (a0 : Addr) (p1 : Int32) (k : ClassId) (z : Int32) (ws : List Int32) (h0 : Heap) (n0 : Nat) (Z0 : n0 ≤ h0.size) (V_a0 : own_AI Z h0 a0 k .byte z ws) (hi0 : ¬ p1 < 0 ∧ p1 < z) (hi1 : ¬ (p1 + (1 : Int32)) < 0 ∧ (p1 + (1 : Int32)) < z) (hi2 : ¬ (p1 + (2 : Int32)) < 0 ∧ (p1 + (2 : Int32)) < z) (hi3 : ¬ (p1 + (3 : Int32)) < 0 ∧ (p1 + (3 : Int32)) < z) :
    MetFree l (⟨"com/example/unicopy/unicopy/Messages", "readInt", "([BI)I"⟩ : MethodName) (head1 (Jvm.Cond.code (⟨"com/example/unicopy/unicopy/Messages", "readInt", "([BI)I"⟩ : MethodName) prog_17_method_2_code 2 (some .int) :: wq) ({ frames := 0, cells := 0, slots := 0, locals := 0 } : Room)) (fun a U => a = #[(.ref a0), (.int p1)] ∧ Z.Warmed39 U.vm ∧ U.heap = h0) (fun _ _ _ _ _ => True) (fun _ U o U' => ∃ v L, o = .returned v ∧ Q1 Z a0 p1 k z ws h0 n0 v U'.heap L ∧ FrameEnd U o U' L ({ frames := 0, cells := 0, slots := 0, locals := 0 } : Room).cells ({ frames := 0, cells := 0, slots := 0, locals := 0 } : Room).slots) := by
  refine MetFree.of_bodySF (plainFor_of_name pn_0) hisR ?_
  intro p e s m args below meth c s₁ Bd hml0 hP hK
  obtain ⟨rfl, hZ, hh⟩ := hP
  have hx := Bd.exec
  have hby := Bd.bytes
  have hml : c.maxLocals = 2 := hml0
  have hown : s.vm.findClass "com/example/unicopy/unicopy/Messages" = some m.cls := findClass_of_methodNamed Bd.named
  have hnm := (name_of_methodNamed Bd.named Bd.method).1
  have X0 : Stand p l e ({ frames := 0, cells := 0, slots := 0, locals := 0 } : Room) s m #[(.ref a0), (.int p1)] below meth c s₁ [] 0 0 := Stand.of_body Bd
  have e0 : s₁.heap = h0 := by rw [← hh, Bd.state]; rfl
  have N0 := Fr.nil n0
  have pre0 : own_Pre p e below (s₁.setTop (entryFrame m #[(.ref a0), (.int p1)] 2)) (s₁.setTop (mkF m 0 #[.val (.ref a0), .val (.int p1)] [])) := fun t k => castTop (ef_1 m a0 p1) k
  obtain ⟨cl1, Ar1, hin1, hat1⟩ := own_AI.at V_a0 (j := p1) hi0
  obtain ⟨cl2, Ar2, hin2, hat2⟩ := own_AI.at V_a0 (j := (p1 + (1 : Int32))) hi1
  obtain ⟨cl3, Ar3, hin3, hat3⟩ := own_AI.at V_a0 (j := (p1 + (2 : Int32))) hi2
  obtain ⟨cl4, Ar4, hin4, hat4⟩ := own_AI.at V_a0 (j := (p1 + (3 : Int32))) hi3
  obtain ⟨fs, hr, hrun, hended, hW, hsame⟩ := X0.leave (v := some (.int ((((((ws.getD (p1).toNatClampNeg (0 : Int32)) &&& (255 : Int32)) <<< ((24 : Int32) &&& 31)) ||| (((ws.getD ((p1 + (1 : Int32))).toNatClampNeg (0 : Int32)) &&& (255 : Int32)) <<< ((16 : Int32) &&& 31))) ||| (((ws.getD ((p1 + (2 : Int32))).toNatClampNeg (0 : Int32)) &&& (255 : Int32)) <<< ((8 : Int32) &&& 31))) ||| ((ws.getD ((p1 + (3 : Int32))).toNatClampNeg (0 : Int32)) &&& (255 : Int32))))) (fun h => by rw [Bd.returns] at h; cases h)
  refine ⟨_, _, pre0 _ ?_, hrun, hended, _, _, rfl, ?_, ⟨_, rfl⟩, hW, hsame.mono (by decide) (by decide)⟩
  · show Steps p.tables e below (s₁.setTop (mkF m 0 #[.val (.ref a0), .val (.int p1)] [])) _
    refine XS.aloadN X0.here hx rfl (hb hby d1_0) rfl rfl ?_
    show Steps p.tables e below (s₁.setTop (mkF m 1 #[.val (.ref a0), .val (.int p1)] [(.ref a0)])) _
    refine XS.iloadN X0.here hx rfl (hb hby d1_1) rfl ?_
    show Steps p.tables e below (s₁.setTop (mkF m 2 #[.val (.ref a0), .val (.int p1)] [(.int p1), (.ref a0)])) _
    refine X0.baloadBytes hx (j := p1) (v := (.int (ws.getD (p1).toNatClampNeg (0 : Int32)))) (by rw [e0]; exact Ar1.1) (State.isArrayOf_alike hZ.alike Ar1.2.1) Ar1.2.2 hin1 hat1 (g := (mkF m 2 #[.val (.ref a0), .val (.int p1)] [(.int p1), (.ref a0)])) rfl rfl (hb hby d1_2) _ ?_
    show Steps p.tables e below (s₁.setTop (mkF m 3 #[.val (.ref a0), .val (.int p1)] [(.int (ws.getD (p1).toNatClampNeg (0 : Int32)))])) _
    refine XS.sipush X0.here hx rfl (hb hby d1_3) ?_
    show Steps p.tables e below (s₁.setTop (mkF m 6 #[.val (.ref a0), .val (.int p1)] [(.int (255 : Int32)), (.int (ws.getD (p1).toNatClampNeg (0 : Int32)))])) _
    refine XS.iand X0.here hx rfl (hb hby d1_6) rfl ?_
    show Steps p.tables e below (s₁.setTop (mkF m 7 #[.val (.ref a0), .val (.int p1)] [(.int ((ws.getD (p1).toNatClampNeg (0 : Int32)) &&& (255 : Int32)))])) _
    refine XS.bipush X0.here hx rfl (hb hby d1_7) ?_
    show Steps p.tables e below (s₁.setTop (mkF m 9 #[.val (.ref a0), .val (.int p1)] [(.int (24 : Int32)), (.int ((ws.getD (p1).toNatClampNeg (0 : Int32)) &&& (255 : Int32)))])) _
    refine XS.ishl X0.here hx rfl (hb hby d1_9) rfl ?_
    show Steps p.tables e below (s₁.setTop (mkF m 10 #[.val (.ref a0), .val (.int p1)] [(.int (((ws.getD (p1).toNatClampNeg (0 : Int32)) &&& (255 : Int32)) <<< ((24 : Int32) &&& 31)))])) _
    refine XS.aloadN X0.here hx rfl (hb hby d1_10) rfl rfl ?_
    show Steps p.tables e below (s₁.setTop (mkF m 11 #[.val (.ref a0), .val (.int p1)] [(.ref a0), (.int (((ws.getD (p1).toNatClampNeg (0 : Int32)) &&& (255 : Int32)) <<< ((24 : Int32) &&& 31)))])) _
    refine XS.iloadN X0.here hx rfl (hb hby d1_11) rfl ?_
    show Steps p.tables e below (s₁.setTop (mkF m 12 #[.val (.ref a0), .val (.int p1)] [(.int p1), (.ref a0), (.int (((ws.getD (p1).toNatClampNeg (0 : Int32)) &&& (255 : Int32)) <<< ((24 : Int32) &&& 31)))])) _
    refine XS.iconst X0.here hx rfl (hb hby d1_12) ?_
    show Steps p.tables e below (s₁.setTop (mkF m 13 #[.val (.ref a0), .val (.int p1)] [(.int (1 : Int32)), (.int p1), (.ref a0), (.int (((ws.getD (p1).toNatClampNeg (0 : Int32)) &&& (255 : Int32)) <<< ((24 : Int32) &&& 31)))])) _
    refine XS.iadd X0.here hx rfl (hb hby d1_13) rfl ?_
    show Steps p.tables e below (s₁.setTop (mkF m 14 #[.val (.ref a0), .val (.int p1)] [(.int (p1 + (1 : Int32))), (.ref a0), (.int (((ws.getD (p1).toNatClampNeg (0 : Int32)) &&& (255 : Int32)) <<< ((24 : Int32) &&& 31)))])) _
    refine X0.baloadBytes hx (j := (p1 + (1 : Int32))) (v := (.int (ws.getD ((p1 + (1 : Int32))).toNatClampNeg (0 : Int32)))) (by rw [e0]; exact Ar2.1) (State.isArrayOf_alike hZ.alike Ar2.2.1) Ar2.2.2 hin2 hat2 (g := (mkF m 14 #[.val (.ref a0), .val (.int p1)] [(.int (p1 + (1 : Int32))), (.ref a0), (.int (((ws.getD (p1).toNatClampNeg (0 : Int32)) &&& (255 : Int32)) <<< ((24 : Int32) &&& 31)))])) rfl rfl (hb hby d1_14) _ ?_
    show Steps p.tables e below (s₁.setTop (mkF m 15 #[.val (.ref a0), .val (.int p1)] [(.int (ws.getD ((p1 + (1 : Int32))).toNatClampNeg (0 : Int32))), (.int (((ws.getD (p1).toNatClampNeg (0 : Int32)) &&& (255 : Int32)) <<< ((24 : Int32) &&& 31)))])) _
    refine XS.sipush X0.here hx rfl (hb hby d1_15) ?_
    show Steps p.tables e below (s₁.setTop (mkF m 18 #[.val (.ref a0), .val (.int p1)] [(.int (255 : Int32)), (.int (ws.getD ((p1 + (1 : Int32))).toNatClampNeg (0 : Int32))), (.int (((ws.getD (p1).toNatClampNeg (0 : Int32)) &&& (255 : Int32)) <<< ((24 : Int32) &&& 31)))])) _
    refine XS.iand X0.here hx rfl (hb hby d1_18) rfl ?_
    show Steps p.tables e below (s₁.setTop (mkF m 19 #[.val (.ref a0), .val (.int p1)] [(.int ((ws.getD ((p1 + (1 : Int32))).toNatClampNeg (0 : Int32)) &&& (255 : Int32))), (.int (((ws.getD (p1).toNatClampNeg (0 : Int32)) &&& (255 : Int32)) <<< ((24 : Int32) &&& 31)))])) _
    refine XS.bipush X0.here hx rfl (hb hby d1_19) ?_
    show Steps p.tables e below (s₁.setTop (mkF m 21 #[.val (.ref a0), .val (.int p1)] [(.int (16 : Int32)), (.int ((ws.getD ((p1 + (1 : Int32))).toNatClampNeg (0 : Int32)) &&& (255 : Int32))), (.int (((ws.getD (p1).toNatClampNeg (0 : Int32)) &&& (255 : Int32)) <<< ((24 : Int32) &&& 31)))])) _
    refine XS.ishl X0.here hx rfl (hb hby d1_21) rfl ?_
    show Steps p.tables e below (s₁.setTop (mkF m 22 #[.val (.ref a0), .val (.int p1)] [(.int (((ws.getD ((p1 + (1 : Int32))).toNatClampNeg (0 : Int32)) &&& (255 : Int32)) <<< ((16 : Int32) &&& 31))), (.int (((ws.getD (p1).toNatClampNeg (0 : Int32)) &&& (255 : Int32)) <<< ((24 : Int32) &&& 31)))])) _
    refine XS.ior X0.here hx rfl (hb hby d1_22) rfl ?_
    show Steps p.tables e below (s₁.setTop (mkF m 23 #[.val (.ref a0), .val (.int p1)] [(.int ((((ws.getD (p1).toNatClampNeg (0 : Int32)) &&& (255 : Int32)) <<< ((24 : Int32) &&& 31)) ||| (((ws.getD ((p1 + (1 : Int32))).toNatClampNeg (0 : Int32)) &&& (255 : Int32)) <<< ((16 : Int32) &&& 31))))])) _
    refine XS.aloadN X0.here hx rfl (hb hby d1_23) rfl rfl ?_
    show Steps p.tables e below (s₁.setTop (mkF m 24 #[.val (.ref a0), .val (.int p1)] [(.ref a0), (.int ((((ws.getD (p1).toNatClampNeg (0 : Int32)) &&& (255 : Int32)) <<< ((24 : Int32) &&& 31)) ||| (((ws.getD ((p1 + (1 : Int32))).toNatClampNeg (0 : Int32)) &&& (255 : Int32)) <<< ((16 : Int32) &&& 31))))])) _
    refine XS.iloadN X0.here hx rfl (hb hby d1_24) rfl ?_
    show Steps p.tables e below (s₁.setTop (mkF m 25 #[.val (.ref a0), .val (.int p1)] [(.int p1), (.ref a0), (.int ((((ws.getD (p1).toNatClampNeg (0 : Int32)) &&& (255 : Int32)) <<< ((24 : Int32) &&& 31)) ||| (((ws.getD ((p1 + (1 : Int32))).toNatClampNeg (0 : Int32)) &&& (255 : Int32)) <<< ((16 : Int32) &&& 31))))])) _
    refine XS.iconst X0.here hx rfl (hb hby d1_25) ?_
    show Steps p.tables e below (s₁.setTop (mkF m 26 #[.val (.ref a0), .val (.int p1)] [(.int (2 : Int32)), (.int p1), (.ref a0), (.int ((((ws.getD (p1).toNatClampNeg (0 : Int32)) &&& (255 : Int32)) <<< ((24 : Int32) &&& 31)) ||| (((ws.getD ((p1 + (1 : Int32))).toNatClampNeg (0 : Int32)) &&& (255 : Int32)) <<< ((16 : Int32) &&& 31))))])) _
    refine XS.iadd X0.here hx rfl (hb hby d1_26) rfl ?_
    show Steps p.tables e below (s₁.setTop (mkF m 27 #[.val (.ref a0), .val (.int p1)] [(.int (p1 + (2 : Int32))), (.ref a0), (.int ((((ws.getD (p1).toNatClampNeg (0 : Int32)) &&& (255 : Int32)) <<< ((24 : Int32) &&& 31)) ||| (((ws.getD ((p1 + (1 : Int32))).toNatClampNeg (0 : Int32)) &&& (255 : Int32)) <<< ((16 : Int32) &&& 31))))])) _
    refine X0.baloadBytes hx (j := (p1 + (2 : Int32))) (v := (.int (ws.getD ((p1 + (2 : Int32))).toNatClampNeg (0 : Int32)))) (by rw [e0]; exact Ar3.1) (State.isArrayOf_alike hZ.alike Ar3.2.1) Ar3.2.2 hin3 hat3 (g := (mkF m 27 #[.val (.ref a0), .val (.int p1)] [(.int (p1 + (2 : Int32))), (.ref a0), (.int ((((ws.getD (p1).toNatClampNeg (0 : Int32)) &&& (255 : Int32)) <<< ((24 : Int32) &&& 31)) ||| (((ws.getD ((p1 + (1 : Int32))).toNatClampNeg (0 : Int32)) &&& (255 : Int32)) <<< ((16 : Int32) &&& 31))))])) rfl rfl (hb hby d1_27) _ ?_
    show Steps p.tables e below (s₁.setTop (mkF m 28 #[.val (.ref a0), .val (.int p1)] [(.int (ws.getD ((p1 + (2 : Int32))).toNatClampNeg (0 : Int32))), (.int ((((ws.getD (p1).toNatClampNeg (0 : Int32)) &&& (255 : Int32)) <<< ((24 : Int32) &&& 31)) ||| (((ws.getD ((p1 + (1 : Int32))).toNatClampNeg (0 : Int32)) &&& (255 : Int32)) <<< ((16 : Int32) &&& 31))))])) _
    refine XS.sipush X0.here hx rfl (hb hby d1_28) ?_
    show Steps p.tables e below (s₁.setTop (mkF m 31 #[.val (.ref a0), .val (.int p1)] [(.int (255 : Int32)), (.int (ws.getD ((p1 + (2 : Int32))).toNatClampNeg (0 : Int32))), (.int ((((ws.getD (p1).toNatClampNeg (0 : Int32)) &&& (255 : Int32)) <<< ((24 : Int32) &&& 31)) ||| (((ws.getD ((p1 + (1 : Int32))).toNatClampNeg (0 : Int32)) &&& (255 : Int32)) <<< ((16 : Int32) &&& 31))))])) _
    refine XS.iand X0.here hx rfl (hb hby d1_31) rfl ?_
    show Steps p.tables e below (s₁.setTop (mkF m 32 #[.val (.ref a0), .val (.int p1)] [(.int ((ws.getD ((p1 + (2 : Int32))).toNatClampNeg (0 : Int32)) &&& (255 : Int32))), (.int ((((ws.getD (p1).toNatClampNeg (0 : Int32)) &&& (255 : Int32)) <<< ((24 : Int32) &&& 31)) ||| (((ws.getD ((p1 + (1 : Int32))).toNatClampNeg (0 : Int32)) &&& (255 : Int32)) <<< ((16 : Int32) &&& 31))))])) _
    refine XS.bipush X0.here hx rfl (hb hby d1_32) ?_
    show Steps p.tables e below (s₁.setTop (mkF m 34 #[.val (.ref a0), .val (.int p1)] [(.int (8 : Int32)), (.int ((ws.getD ((p1 + (2 : Int32))).toNatClampNeg (0 : Int32)) &&& (255 : Int32))), (.int ((((ws.getD (p1).toNatClampNeg (0 : Int32)) &&& (255 : Int32)) <<< ((24 : Int32) &&& 31)) ||| (((ws.getD ((p1 + (1 : Int32))).toNatClampNeg (0 : Int32)) &&& (255 : Int32)) <<< ((16 : Int32) &&& 31))))])) _
    refine XS.ishl X0.here hx rfl (hb hby d1_34) rfl ?_
    show Steps p.tables e below (s₁.setTop (mkF m 35 #[.val (.ref a0), .val (.int p1)] [(.int (((ws.getD ((p1 + (2 : Int32))).toNatClampNeg (0 : Int32)) &&& (255 : Int32)) <<< ((8 : Int32) &&& 31))), (.int ((((ws.getD (p1).toNatClampNeg (0 : Int32)) &&& (255 : Int32)) <<< ((24 : Int32) &&& 31)) ||| (((ws.getD ((p1 + (1 : Int32))).toNatClampNeg (0 : Int32)) &&& (255 : Int32)) <<< ((16 : Int32) &&& 31))))])) _
    refine XS.ior X0.here hx rfl (hb hby d1_35) rfl ?_
    show Steps p.tables e below (s₁.setTop (mkF m 36 #[.val (.ref a0), .val (.int p1)] [(.int (((((ws.getD (p1).toNatClampNeg (0 : Int32)) &&& (255 : Int32)) <<< ((24 : Int32) &&& 31)) ||| (((ws.getD ((p1 + (1 : Int32))).toNatClampNeg (0 : Int32)) &&& (255 : Int32)) <<< ((16 : Int32) &&& 31))) ||| (((ws.getD ((p1 + (2 : Int32))).toNatClampNeg (0 : Int32)) &&& (255 : Int32)) <<< ((8 : Int32) &&& 31))))])) _
    refine XS.aloadN X0.here hx rfl (hb hby d1_36) rfl rfl ?_
    show Steps p.tables e below (s₁.setTop (mkF m 37 #[.val (.ref a0), .val (.int p1)] [(.ref a0), (.int (((((ws.getD (p1).toNatClampNeg (0 : Int32)) &&& (255 : Int32)) <<< ((24 : Int32) &&& 31)) ||| (((ws.getD ((p1 + (1 : Int32))).toNatClampNeg (0 : Int32)) &&& (255 : Int32)) <<< ((16 : Int32) &&& 31))) ||| (((ws.getD ((p1 + (2 : Int32))).toNatClampNeg (0 : Int32)) &&& (255 : Int32)) <<< ((8 : Int32) &&& 31))))])) _
    refine XS.iloadN X0.here hx rfl (hb hby d1_37) rfl ?_
    show Steps p.tables e below (s₁.setTop (mkF m 38 #[.val (.ref a0), .val (.int p1)] [(.int p1), (.ref a0), (.int (((((ws.getD (p1).toNatClampNeg (0 : Int32)) &&& (255 : Int32)) <<< ((24 : Int32) &&& 31)) ||| (((ws.getD ((p1 + (1 : Int32))).toNatClampNeg (0 : Int32)) &&& (255 : Int32)) <<< ((16 : Int32) &&& 31))) ||| (((ws.getD ((p1 + (2 : Int32))).toNatClampNeg (0 : Int32)) &&& (255 : Int32)) <<< ((8 : Int32) &&& 31))))])) _
    refine XS.iconst X0.here hx rfl (hb hby d1_38) ?_
    show Steps p.tables e below (s₁.setTop (mkF m 39 #[.val (.ref a0), .val (.int p1)] [(.int (3 : Int32)), (.int p1), (.ref a0), (.int (((((ws.getD (p1).toNatClampNeg (0 : Int32)) &&& (255 : Int32)) <<< ((24 : Int32) &&& 31)) ||| (((ws.getD ((p1 + (1 : Int32))).toNatClampNeg (0 : Int32)) &&& (255 : Int32)) <<< ((16 : Int32) &&& 31))) ||| (((ws.getD ((p1 + (2 : Int32))).toNatClampNeg (0 : Int32)) &&& (255 : Int32)) <<< ((8 : Int32) &&& 31))))])) _
    refine XS.iadd X0.here hx rfl (hb hby d1_39) rfl ?_
    show Steps p.tables e below (s₁.setTop (mkF m 40 #[.val (.ref a0), .val (.int p1)] [(.int (p1 + (3 : Int32))), (.ref a0), (.int (((((ws.getD (p1).toNatClampNeg (0 : Int32)) &&& (255 : Int32)) <<< ((24 : Int32) &&& 31)) ||| (((ws.getD ((p1 + (1 : Int32))).toNatClampNeg (0 : Int32)) &&& (255 : Int32)) <<< ((16 : Int32) &&& 31))) ||| (((ws.getD ((p1 + (2 : Int32))).toNatClampNeg (0 : Int32)) &&& (255 : Int32)) <<< ((8 : Int32) &&& 31))))])) _
    refine X0.baloadBytes hx (j := (p1 + (3 : Int32))) (v := (.int (ws.getD ((p1 + (3 : Int32))).toNatClampNeg (0 : Int32)))) (by rw [e0]; exact Ar4.1) (State.isArrayOf_alike hZ.alike Ar4.2.1) Ar4.2.2 hin4 hat4 (g := (mkF m 40 #[.val (.ref a0), .val (.int p1)] [(.int (p1 + (3 : Int32))), (.ref a0), (.int (((((ws.getD (p1).toNatClampNeg (0 : Int32)) &&& (255 : Int32)) <<< ((24 : Int32) &&& 31)) ||| (((ws.getD ((p1 + (1 : Int32))).toNatClampNeg (0 : Int32)) &&& (255 : Int32)) <<< ((16 : Int32) &&& 31))) ||| (((ws.getD ((p1 + (2 : Int32))).toNatClampNeg (0 : Int32)) &&& (255 : Int32)) <<< ((8 : Int32) &&& 31))))])) rfl rfl (hb hby d1_40) _ ?_
    show Steps p.tables e below (s₁.setTop (mkF m 41 #[.val (.ref a0), .val (.int p1)] [(.int (ws.getD ((p1 + (3 : Int32))).toNatClampNeg (0 : Int32))), (.int (((((ws.getD (p1).toNatClampNeg (0 : Int32)) &&& (255 : Int32)) <<< ((24 : Int32) &&& 31)) ||| (((ws.getD ((p1 + (1 : Int32))).toNatClampNeg (0 : Int32)) &&& (255 : Int32)) <<< ((16 : Int32) &&& 31))) ||| (((ws.getD ((p1 + (2 : Int32))).toNatClampNeg (0 : Int32)) &&& (255 : Int32)) <<< ((8 : Int32) &&& 31))))])) _
    refine XS.sipush X0.here hx rfl (hb hby d1_41) ?_
    show Steps p.tables e below (s₁.setTop (mkF m 44 #[.val (.ref a0), .val (.int p1)] [(.int (255 : Int32)), (.int (ws.getD ((p1 + (3 : Int32))).toNatClampNeg (0 : Int32))), (.int (((((ws.getD (p1).toNatClampNeg (0 : Int32)) &&& (255 : Int32)) <<< ((24 : Int32) &&& 31)) ||| (((ws.getD ((p1 + (1 : Int32))).toNatClampNeg (0 : Int32)) &&& (255 : Int32)) <<< ((16 : Int32) &&& 31))) ||| (((ws.getD ((p1 + (2 : Int32))).toNatClampNeg (0 : Int32)) &&& (255 : Int32)) <<< ((8 : Int32) &&& 31))))])) _
    refine XS.iand X0.here hx rfl (hb hby d1_44) rfl ?_
    show Steps p.tables e below (s₁.setTop (mkF m 45 #[.val (.ref a0), .val (.int p1)] [(.int ((ws.getD ((p1 + (3 : Int32))).toNatClampNeg (0 : Int32)) &&& (255 : Int32))), (.int (((((ws.getD (p1).toNatClampNeg (0 : Int32)) &&& (255 : Int32)) <<< ((24 : Int32) &&& 31)) ||| (((ws.getD ((p1 + (1 : Int32))).toNatClampNeg (0 : Int32)) &&& (255 : Int32)) <<< ((16 : Int32) &&& 31))) ||| (((ws.getD ((p1 + (2 : Int32))).toNatClampNeg (0 : Int32)) &&& (255 : Int32)) <<< ((8 : Int32) &&& 31))))])) _
    refine XS.ior X0.here hx rfl (hb hby d1_45) rfl ?_
    show Steps p.tables e below (s₁.setTop (mkF m 46 #[.val (.ref a0), .val (.int p1)] [(.int ((((((ws.getD (p1).toNatClampNeg (0 : Int32)) &&& (255 : Int32)) <<< ((24 : Int32) &&& 31)) ||| (((ws.getD ((p1 + (1 : Int32))).toNatClampNeg (0 : Int32)) &&& (255 : Int32)) <<< ((16 : Int32) &&& 31))) ||| (((ws.getD ((p1 + (2 : Int32))).toNatClampNeg (0 : Int32)) &&& (255 : Int32)) <<< ((8 : Int32) &&& 31))) ||| ((ws.getD ((p1 + (3 : Int32))).toNatClampNeg (0 : Int32)) &&& (255 : Int32))))])) _
    exact retI X0 hx Bd.returns (hb hby d1_46) hr
  · show Q1 Z a0 p1 k z ws h0 n0 _ s₁.heap _
    rw [e0]
    unfold Q1
    refine ⟨?_, N0, rfl⟩
    · simp only [own_f1]
theorem pd_0 : parseMethodDescriptor "([BI)I" = some ⟨[(.array .byte), .int], some .int⟩ := by decide +kernel
theorem pn_1 : plainName "com/example/unicopy/unicopy/MessagesReadIntPinLaw" = true := by first | (simp [plainName, overriddenIn]; done) | decide +kernel
theorem ef_0 (m : MethodId) (p0 : Int32) (p1 : Int32) (p2 : Int32) (p3 : Int32) (p4 : Int32) (p5 : Int32) : entryFrame m #[(.int p0), (.int p1), (.int p2), (.int p3), (.int p4), (.int p5)] maxLocals = mkF m 0 #[.val (.int p0), .val (.int p1), .val (.int p2), .val (.int p3), .val (.int p4), .val (.int p5), .unset, .unset, .unset, .unset, .unset, .unset] [] := by first | (simp [entryFrame, mkF, argsToLocals, Value.category, maxLocals]; done) | rfl
theorem own_x5 {p : Int32} (x : Int32) (hx : x = (p &&& (2147483647 : Int32)) % (5 : Int32)) : x = (0 : Int32) ∨ x = (1 : Int32) ∨ x = (2 : Int32) ∨ x = (3 : Int32) ∨ x = (4 : Int32) := by
  have h1 := c_mask p 2147483647 31 (by decide) (by decide)
  have h2 := (c_irem (p &&& (2147483647 : Int32)) (5 : Int32) 5 rfl).1 (by omega)
  rw [← hx] at h2
  have h3 : x.toInt = 0 ∨ x.toInt = 1 ∨ x.toInt = 2 ∨ x.toInt = 3 ∨ x.toInt = 4 := by omega
  rcases h3 with h | h | h | h | h
  · exact Or.inl (Int32.toInt_inj.mp h)
  · exact Or.inr (Or.inl (Int32.toInt_inj.mp h))
  · exact Or.inr (Or.inr (Or.inl (Int32.toInt_inj.mp h)))
  · exact Or.inr (Or.inr (Or.inr (Or.inl (Int32.toInt_inj.mp h))))
  · exact Or.inr (Or.inr (Or.inr (Or.inr (Int32.toInt_inj.mp h))))
theorem own_ix {p : Int32} (x : Int32) (hx : x = (p &&& (2147483647 : Int32)) % (5 : Int32)) : (¬ x < 0 ∧ x < 8) ∧ (¬ (x + (1 : Int32)) < 0 ∧ (x + (1 : Int32)) < 8) ∧ (¬ (x + (2 : Int32)) < 0 ∧ (x + (2 : Int32)) < 8) ∧ (¬ (x + (3 : Int32)) < 0 ∧ (x + (3 : Int32)) < 8) := by
  rcases own_x5 x hx with rfl | rfl | rfl | rfl | rfl <;> decide
theorem own_byte (p : Int32) : ((nar .byte (p.toInt8.toInt32)) &&& (255 : Int32)).toInt = p.toInt % 256 := by
  have h1 := c_mask (nar .byte (p.toInt8.toInt32)) 255 8 (by decide) (by decide)
  have h2 := c_i2b p
  have h3 := c_i2b (p.toInt8.toInt32)
  have e : nar .byte (p.toInt8.toInt32) = (p.toInt8.toInt32).toInt8.toInt32 := rfl
  rw [h1, e]
  omega
theorem own_or (a b c d : Int32) (ha : 0 ≤ a.toInt ∧ a.toInt < 256) (hb : 0 ≤ b.toInt ∧ b.toInt < 256) (hc : 0 ≤ c.toInt ∧ c.toInt < 256) (hd : 0 ≤ d.toInt ∧ d.toInt < 256) :
    (((((a <<< ((24 : Int32) &&& 31)) ||| (b <<< ((16 : Int32) &&& 31))) ||| (c <<< ((8 : Int32) &&& 31))) ||| d).toInt - (a.toInt * 16777216 + b.toInt * 65536 + c.toInt * 256 + d.toInt)) % 4294967296 = 0 := by
  have s1 := c_ishl a 24 24 (by decide)
  have s2 := c_ishl b 16 16 (by decide)
  have s3 := c_ishl c 8 8 (by decide)
  have r2 := rng32 (b <<< ((16 : Int32) &&& 31))
  have r3 := rng32 (c <<< ((8 : Int32) &&& 31))
  generalize a <<< ((24 : Int32) &&& 31) = A at *
  generalize b <<< ((16 : Int32) &&& 31) = B at *
  generalize c <<< ((8 : Int32) &&& 31) = C at *
  have o1 := c_or A B 24 (by decide) 16777216 rfl (by omega) (by omega) (by omega)
  have o2 := c_or (A ||| B) C 16 (by decide) 65536 rfl (by omega) (by omega) (by omega)
  have o3 := c_or (A ||| B ||| C) d 8 (by decide) 256 rfl (by omega) (by omega) (by omega)
  omega
theorem own_plain {p : Int32} (b0 b1 b2 b3 f x : Int32) (hx : x = (p &&& (2147483647 : Int32)) % (5 : Int32)) :
    ((own_f1 x (((((((((((((List.replicate 8 (0 : Int32)).set 0 (nar .byte f)).set 1 (nar .byte f)).set 2 (nar .byte f)).set 3 (nar .byte f)).set 4 (nar .byte f)).set 5 (nar .byte f)).set 6 (nar .byte f)).set 7 (nar .byte f)).set (x).toNatClampNeg (nar .byte (b0).toInt8.toInt32)).set (x + (1 : Int32)).toNatClampNeg (nar .byte (b1).toInt8.toInt32)).set (x + (2 : Int32)).toNatClampNeg (nar .byte (b2).toInt8.toInt32)).set (x + (3 : Int32)).toNatClampNeg (nar .byte (b3).toInt8.toInt32))).toInt64 &&& (4294967295 : Int64))
      = ((((((b0).toInt64 &&& (255 : Int64)) * (16777216 : Int64)) + (((b1).toInt64 &&& (255 : Int64)) * (65536 : Int64))) + (((b2).toInt64 &&& (255 : Int64)) * (256 : Int64))) + ((b3).toInt64 &&& (255 : Int64))) := by
  have e : own_f1 x (((((((((((((List.replicate 8 (0 : Int32)).set 0 (nar .byte f)).set 1 (nar .byte f)).set 2 (nar .byte f)).set 3 (nar .byte f)).set 4 (nar .byte f)).set 5 (nar .byte f)).set 6 (nar .byte f)).set 7 (nar .byte f)).set (x).toNatClampNeg (nar .byte (b0).toInt8.toInt32)).set (x + (1 : Int32)).toNatClampNeg (nar .byte (b1).toInt8.toInt32)).set (x + (2 : Int32)).toNatClampNeg (nar .byte (b2).toInt8.toInt32)).set (x + (3 : Int32)).toNatClampNeg (nar .byte (b3).toInt8.toInt32))
      = (((((nar .byte (b0).toInt8.toInt32) &&& (255 : Int32)) <<< ((24 : Int32) &&& 31)) ||| (((nar .byte (b1).toInt8.toInt32) &&& (255 : Int32)) <<< ((16 : Int32) &&& 31))) ||| (((nar .byte (b2).toInt8.toInt32) &&& (255 : Int32)) <<< ((8 : Int32) &&& 31))) ||| ((nar .byte (b3).toInt8.toInt32) &&& (255 : Int32)) := by
    rcases own_x5 x hx with rfl | rfl | rfl | rfl | rfl <;> rfl
  rw [e]
  have y0 := own_byte b0
  have y1 := own_byte b1
  have y2 := own_byte b2
  have y3 := own_byte b3
  generalize (nar .byte (b0).toInt8.toInt32) &&& (255 : Int32) = B0 at *
  generalize (nar .byte (b1).toInt8.toInt32) &&& (255 : Int32) = B1 at *
  generalize (nar .byte (b2).toInt8.toInt32) &&& (255 : Int32) = B2 at *
  generalize (nar .byte (b3).toInt8.toInt32) &&& (255 : Int32) = B3 at *
  have o := own_or B0 B1 B2 B3 (by omega) (by omega) (by omega) (by omega)
  generalize (((B0 <<< ((24 : Int32) &&& 31)) ||| (B1 <<< ((16 : Int32) &&& 31))) ||| (B2 <<< ((8 : Int32) &&& 31))) ||| B3 = G at *
  apply Int64.toInt_inj.mp
  have m1 := c_maskL G.toInt64 4294967295 32 (by decide) (by decide)
  have l0 := c_maskL b0.toInt64 255 8 (by decide) (by decide)
  have l1 := c_maskL b1.toInt64 255 8 (by decide) (by decide)
  have l2 := c_maskL b2.toInt64 255 8 (by decide) (by decide)
  have l3 := c_maskL b3.toInt64 255 8 (by decide) (by decide)
  rw [c_i2l] at m1 l0 l1 l2 l3
  generalize b0.toInt64 &&& (255 : Int64) = C0 at *
  generalize b1.toInt64 &&& (255 : Int64) = C1 at *
  generalize b2.toInt64 &&& (255 : Int64) = C2 at *
  generalize b3.toInt64 &&& (255 : Int64) = C3 at *
  have e1 : (16777216 : Int64).toInt = 16777216 := rfl
  have e2 : (65536 : Int64).toInt = 65536 := rfl
  have e3 : (256 : Int64).toInt = 256 := rfl
  have n0 := c_lmul C0 16777216
  have n1 := c_lmul C1 65536
  have n2 := c_lmul C2 256
  rw [e1] at n0; rw [e2] at n1; rw [e3] at n2
  have t0 := rng64 (C0 * 16777216)
  have t1 := rng64 (C1 * 65536)
  have t2 := rng64 (C2 * 256)
  generalize C0 * (16777216 : Int64) = D0 at *
  generalize C1 * (65536 : Int64) = D1 at *
  generalize C2 * (256 : Int64) = D2 at *
  have a1 := c_ladd D0 D1
  have a2 := c_ladd (D0 + D1) D2
  have a3 := c_ladd (D0 + D1 + D2) C3
  have u1 := rng64 (D0 + D1)
  have u2 := rng64 (D0 + D1 + D2)
  have u3 := rng64 (D0 + D1 + D2 + C3)
  omega

def Q0 (Z : State) (p0 : Int32) (p1 : Int32) (p2 : Int32) (p3 : Int32) (p4 : Int32) (p5 : Int32) (h0 : Heap) (n0 : Nat) (v : Option Value) (h : Heap) (L : List Loc) : Prop := v = some (.int (1 : Int32)) ∧ Fr n0 L
set_option maxRecDepth 65536 in
set_option maxHeartbeats 40000000 in
theorem rm0 (l : Launch) (Z : State) (aw : Array Value) (hw : ∀ d ∈ tables_1, d.before aw Z = true) (wq : List Jvm.Cond) (p0 : Int32) (p1 : Int32) (p2 : Int32) (p3 : Int32) (p4 : Int32) (p5 : Int32) (h0 : Heap) (n0 : Nat) (Z0 : n0 ≤ h0.size) :
    MetFree l x (head1 (Jvm.Cond.code x code maxLocals ret :: wq) room_1) (fun a U => a = #[(.int p0), (.int p1), (.int p2), (.int p3), (.int p4), (.int p5)] ∧ Z.Warmed39 U.vm ∧ U.heap = h0) (fun _ _ _ _ _ => True) (fun _ U o U' => ∃ v L, o = .returned v ∧ Q0 Z p0 p1 p2 p3 p4 p5 h0 n0 v U'.heap L ∧ FrameEnd U o U' L 1 8) := by
  refine MetFree.of_bodySF (plainFor_of_name pn_1) hisR ?_
  intro p e s m args below meth c s₁ Bd hml0 hP hK
  obtain ⟨rfl, hZ, hh⟩ := hP
  have hx := Bd.exec
  have hby := Bd.bytes
  have hml : c.maxLocals = 12 := hml0
  have hown : s.vm.findClass "com/example/unicopy/unicopy/MessagesReadIntPinLaw" = some m.cls := findClass_of_methodNamed Bd.named
  have hnm := (name_of_methodNamed Bd.named Bd.method).1
  have X0 : Stand p l e room_1 s m #[(.int p0), (.int p1), (.int p2), (.int p3), (.int p4), (.int p5)] below meth c s₁ [] 0 0 := Stand.of_body Bd
  have e0 : s₁.heap = h0 := by rw [← hh, Bd.state]; rfl
  have N0 := Fr.nil n0
  have pre0 : own_Pre p e below (s₁.setTop (entryFrame m #[(.int p0), (.int p1), (.int p2), (.int p3), (.int p4), (.int p5)] maxLocals)) (s₁.setTop (mkF m 0 #[.val (.int p0), .val (.int p1), .val (.int p2), .val (.int p3), .val (.int p4), .val (.int p5), .unset, .unset, .unset, .unset, .unset, .unset] [])) := fun t k => castTop (ef_0 m p0 p1 p2 p3 p4 p5) k
  obtain ⟨x6_9, hx6_9, pre1⟩ : ∃ z : Int32, z = ((p4 &&& (2147483647 : Int32)) % (5 : Int32)) ∧ own_Pre p e below (s₁.setTop (entryFrame m #[(.int p0), (.int p1), (.int p2), (.int p3), (.int p4), (.int p5)] maxLocals)) (s₁.setTop (mkF m 9 #[.val (.int p0), .val (.int p1), .val (.int p2), .val (.int p3), .val (.int p4), .val (.int p5), .val (.int z), .unset, .unset, .unset, .unset, .unset] [])) := ⟨_, rfl, fun t k => pre0 t (by
      show Steps p.tables e below (s₁.setTop (mkF m 0 #[.val (.int p0), .val (.int p1), .val (.int p2), .val (.int p3), .val (.int p4), .val (.int p5), .unset, .unset, .unset, .unset, .unset, .unset] [])) _
      refine XS.iload X0.here hx rfl (hb hby at_0) rfl ?_
      show Steps p.tables e below (s₁.setTop (mkF m 2 #[.val (.int p0), .val (.int p1), .val (.int p2), .val (.int p3), .val (.int p4), .val (.int p5), .unset, .unset, .unset, .unset, .unset, .unset] [(.int p4)])) _
      refine X0.ldcInt hx hown (mvT hZ (hw _ (List.mem_of_getElem? (i := 0) rfl))) (g := (mkF m 2 #[.val (.int p0), .val (.int p1), .val (.int p2), .val (.int p3), .val (.int p4), .val (.int p5), .unset, .unset, .unset, .unset, .unset, .unset] [(.int p4)])) rfl (hb hby at_2) _ ?_
      show Steps p.tables e below (s₁.setTop (mkF m 4 #[.val (.int p0), .val (.int p1), .val (.int p2), .val (.int p3), .val (.int p4), .val (.int p5), .unset, .unset, .unset, .unset, .unset, .unset] [(.int (2147483647 : Int32)), (.int p4)])) _
      refine XS.iand X0.here hx rfl (hb hby at_4) rfl ?_
      show Steps p.tables e below (s₁.setTop (mkF m 5 #[.val (.int p0), .val (.int p1), .val (.int p2), .val (.int p3), .val (.int p4), .val (.int p5), .unset, .unset, .unset, .unset, .unset, .unset] [(.int (p4 &&& (2147483647 : Int32)))])) _
      refine XS.iconst X0.here hx rfl (hb hby at_5) ?_
      show Steps p.tables e below (s₁.setTop (mkF m 6 #[.val (.int p0), .val (.int p1), .val (.int p2), .val (.int p3), .val (.int p4), .val (.int p5), .unset, .unset, .unset, .unset, .unset, .unset] [(.int (5 : Int32)), (.int (p4 &&& (2147483647 : Int32)))])) _
      refine iremM X0 hx rfl (hb hby at_6) rfl (by decide) ?_
      show Steps p.tables e below (s₁.setTop (mkF m 7 #[.val (.int p0), .val (.int p1), .val (.int p2), .val (.int p3), .val (.int p4), .val (.int p5), .unset, .unset, .unset, .unset, .unset, .unset] [(.int ((p4 &&& (2147483647 : Int32)) % (5 : Int32)))])) _
      refine XS.istore X0.here hx rfl (hb hby at_7) rfl (l' := #[.val (.int p0), .val (.int p1), .val (.int p2), .val (.int p3), .val (.int p4), .val (.int p5), .val (.int ((p4 &&& (2147483647 : Int32)) % (5 : Int32))), .unset, .unset, .unset, .unset, .unset]) rfl ?_
      exact k)⟩
  obtain ⟨x7_14, hx7_14, pre2⟩ : ∃ z : Int32, z = (p5).toInt8.toInt32 ∧ own_Pre p e below (s₁.setTop (entryFrame m #[(.int p0), (.int p1), (.int p2), (.int p3), (.int p4), (.int p5)] maxLocals)) (s₁.setTop (mkF m 14 #[.val (.int p0), .val (.int p1), .val (.int p2), .val (.int p3), .val (.int p4), .val (.int p5), .val (.int x6_9), .val (.int z), .unset, .unset, .unset, .unset] [])) := ⟨_, rfl, fun t k => pre1 t (by
      show Steps p.tables e below (s₁.setTop (mkF m 9 #[.val (.int p0), .val (.int p1), .val (.int p2), .val (.int p3), .val (.int p4), .val (.int p5), .val (.int x6_9), .unset, .unset, .unset, .unset, .unset] [])) _
      refine XS.iload X0.here hx rfl (hb hby at_9) rfl ?_
      show Steps p.tables e below (s₁.setTop (mkF m 11 #[.val (.int p0), .val (.int p1), .val (.int p2), .val (.int p3), .val (.int p4), .val (.int p5), .val (.int x6_9), .unset, .unset, .unset, .unset, .unset] [(.int p5)])) _
      refine XS.i2b X0.here hx rfl (hb hby at_11) rfl ?_
      show Steps p.tables e below (s₁.setTop (mkF m 12 #[.val (.int p0), .val (.int p1), .val (.int p2), .val (.int p3), .val (.int p4), .val (.int p5), .val (.int x6_9), .unset, .unset, .unset, .unset, .unset] [(.int (p5).toInt8.toInt32)])) _
      refine XS.istore X0.here hx rfl (hb hby at_12) rfl (l' := #[.val (.int p0), .val (.int p1), .val (.int p2), .val (.int p3), .val (.int p4), .val (.int p5), .val (.int x6_9), .val (.int (p5).toInt8.toInt32), .unset, .unset, .unset, .unset]) rfl ?_
      exact k)⟩
  obtain ⟨T3, h3, k3, X3, e3, E3, A3, st3⟩ := newP X0 hx hZ (hw _ (List.mem_of_getElem? (i := 1) rfl)) e0 (g := (mkF m 16 #[.val (.int p0), .val (.int p1), .val (.int p2), .val (.int p3), .val (.int p4), .val (.int p5), .val (.int x6_9), .val (.int x7_14), .unset, .unset, .unset, .unset] [(.int (8 : Int32))])) rfl (hb hby at_16) rfl (by decide) (cap := 8) (by decide) (by decide) (by decide) (by decide)
  obtain ⟨b3, gq3⟩ : ∃ z, z = (h0).size := ⟨_, rfl⟩
  rw [← gq3] at A3 st3
  have g_b3 : n0 ≤ b3 := Nat.le_trans Z0 (Nat.le_of_eq gq3.symm)
  have V_b3 : own_AI Z h3 b3 k3 .byte (8 : Int32) (List.replicate 8 (0 : Int32)) := own_AI.new 8 A3 (by decide) (by decide) rfl
  obtain ⟨cl4, Ar4, hin4, set4⟩ := own_AI.arr V_b3 (j := (0 : Int32)) ⟨by decide, by decide⟩
  obtain ⟨T4, h4, X4, e4, W4, st4⟩ := stB X3 hx hZ e3 Ar4 (j := (0 : Int32)) hin4 (g := (mkF m 25 #[.val (.int p0), .val (.int p1), .val (.int p2), .val (.int p3), .val (.int p4), .val (.int p5), .val (.int x6_9), .val (.int x7_14), .val (.ref b3), .unset, .unset, .unset] [(.int x7_14), (.int (0 : Int32)), (.ref b3)])) rfl rfl (hb hby at_25)
  have V4 : own_AI Z h4 b3 k3 .byte (8 : Int32) ((List.replicate 8 (0 : Int32)).set 0 (nar .byte x7_14)) := set4 _ _ (fits_nar_byte _) W4
  obtain ⟨ws4, hws4⟩ : ∃ z, z = ((List.replicate 8 (0 : Int32)).set 0 (nar .byte x7_14)) := ⟨_, rfl⟩
  rw [← hws4] at V4
  have N4 := Fr.snoc X4 N0 g_b3
  obtain ⟨cl5, Ar5, hin5, set5⟩ := own_AI.arr V4 (j := (1 : Int32)) ⟨by decide, by decide⟩
  obtain ⟨T5, h5, X5, e5, W5, st5⟩ := stB X4 hx hZ e4 Ar5 (j := (1 : Int32)) hin5 (g := (mkF m 31 #[.val (.int p0), .val (.int p1), .val (.int p2), .val (.int p3), .val (.int p4), .val (.int p5), .val (.int x6_9), .val (.int x7_14), .val (.ref b3), .unset, .unset, .unset] [(.int x7_14), (.int (1 : Int32)), (.ref b3)])) rfl rfl (hb hby at_31)
  have V5 : own_AI Z h5 b3 k3 .byte (8 : Int32) (ws4.set 1 (nar .byte x7_14)) := set5 _ _ (fits_nar_byte _) W5
  obtain ⟨ws5, hws5⟩ : ∃ z, z = (ws4.set 1 (nar .byte x7_14)) := ⟨_, rfl⟩
  rw [← hws5] at V5
  have N5 := Fr.snoc X5 N4 g_b3
  obtain ⟨cl6, Ar6, hin6, set6⟩ := own_AI.arr V5 (j := (2 : Int32)) ⟨by decide, by decide⟩
  obtain ⟨T6, h6, X6, e6, W6, st6⟩ := stB X5 hx hZ e5 Ar6 (j := (2 : Int32)) hin6 (g := (mkF m 37 #[.val (.int p0), .val (.int p1), .val (.int p2), .val (.int p3), .val (.int p4), .val (.int p5), .val (.int x6_9), .val (.int x7_14), .val (.ref b3), .unset, .unset, .unset] [(.int x7_14), (.int (2 : Int32)), (.ref b3)])) rfl rfl (hb hby at_37)
  have V6 : own_AI Z h6 b3 k3 .byte (8 : Int32) (ws5.set 2 (nar .byte x7_14)) := set6 _ _ (fits_nar_byte _) W6
  obtain ⟨ws6, hws6⟩ : ∃ z, z = (ws5.set 2 (nar .byte x7_14)) := ⟨_, rfl⟩
  rw [← hws6] at V6
  have N6 := Fr.snoc X6 N5 g_b3
  obtain ⟨cl7, Ar7, hin7, set7⟩ := own_AI.arr V6 (j := (3 : Int32)) ⟨by decide, by decide⟩
  obtain ⟨T7, h7, X7, e7, W7, st7⟩ := stB X6 hx hZ e6 Ar7 (j := (3 : Int32)) hin7 (g := (mkF m 43 #[.val (.int p0), .val (.int p1), .val (.int p2), .val (.int p3), .val (.int p4), .val (.int p5), .val (.int x6_9), .val (.int x7_14), .val (.ref b3), .unset, .unset, .unset] [(.int x7_14), (.int (3 : Int32)), (.ref b3)])) rfl rfl (hb hby at_43)
  have V7 : own_AI Z h7 b3 k3 .byte (8 : Int32) (ws6.set 3 (nar .byte x7_14)) := set7 _ _ (fits_nar_byte _) W7
  obtain ⟨ws7, hws7⟩ : ∃ z, z = (ws6.set 3 (nar .byte x7_14)) := ⟨_, rfl⟩
  rw [← hws7] at V7
  have N7 := Fr.snoc X7 N6 g_b3
  obtain ⟨cl8, Ar8, hin8, set8⟩ := own_AI.arr V7 (j := (4 : Int32)) ⟨by decide, by decide⟩
  obtain ⟨T8, h8, X8, e8, W8, st8⟩ := stB X7 hx hZ e7 Ar8 (j := (4 : Int32)) hin8 (g := (mkF m 49 #[.val (.int p0), .val (.int p1), .val (.int p2), .val (.int p3), .val (.int p4), .val (.int p5), .val (.int x6_9), .val (.int x7_14), .val (.ref b3), .unset, .unset, .unset] [(.int x7_14), (.int (4 : Int32)), (.ref b3)])) rfl rfl (hb hby at_49)
  have V8 : own_AI Z h8 b3 k3 .byte (8 : Int32) (ws7.set 4 (nar .byte x7_14)) := set8 _ _ (fits_nar_byte _) W8
  obtain ⟨ws8, hws8⟩ : ∃ z, z = (ws7.set 4 (nar .byte x7_14)) := ⟨_, rfl⟩
  rw [← hws8] at V8
  have N8 := Fr.snoc X8 N7 g_b3
  obtain ⟨cl9, Ar9, hin9, set9⟩ := own_AI.arr V8 (j := (5 : Int32)) ⟨by decide, by decide⟩
  obtain ⟨T9, h9, X9, e9, W9, st9⟩ := stB X8 hx hZ e8 Ar9 (j := (5 : Int32)) hin9 (g := (mkF m 55 #[.val (.int p0), .val (.int p1), .val (.int p2), .val (.int p3), .val (.int p4), .val (.int p5), .val (.int x6_9), .val (.int x7_14), .val (.ref b3), .unset, .unset, .unset] [(.int x7_14), (.int (5 : Int32)), (.ref b3)])) rfl rfl (hb hby at_55)
  have V9 : own_AI Z h9 b3 k3 .byte (8 : Int32) (ws8.set 5 (nar .byte x7_14)) := set9 _ _ (fits_nar_byte _) W9
  obtain ⟨ws9, hws9⟩ : ∃ z, z = (ws8.set 5 (nar .byte x7_14)) := ⟨_, rfl⟩
  rw [← hws9] at V9
  have N9 := Fr.snoc X9 N8 g_b3
  obtain ⟨cl10, Ar10, hin10, set10⟩ := own_AI.arr V9 (j := (6 : Int32)) ⟨by decide, by decide⟩
  obtain ⟨T10, h10, X10, e10, W10, st10⟩ := stB X9 hx hZ e9 Ar10 (j := (6 : Int32)) hin10 (g := (mkF m 62 #[.val (.int p0), .val (.int p1), .val (.int p2), .val (.int p3), .val (.int p4), .val (.int p5), .val (.int x6_9), .val (.int x7_14), .val (.ref b3), .unset, .unset, .unset] [(.int x7_14), (.int (6 : Int32)), (.ref b3)])) rfl rfl (hb hby at_62)
  have V10 : own_AI Z h10 b3 k3 .byte (8 : Int32) (ws9.set 6 (nar .byte x7_14)) := set10 _ _ (fits_nar_byte _) W10
  obtain ⟨ws10, hws10⟩ : ∃ z, z = (ws9.set 6 (nar .byte x7_14)) := ⟨_, rfl⟩
  rw [← hws10] at V10
  have N10 := Fr.snoc X10 N9 g_b3
  obtain ⟨cl11, Ar11, hin11, set11⟩ := own_AI.arr V10 (j := (7 : Int32)) ⟨by decide, by decide⟩
  obtain ⟨T11, h11, X11, e11, W11, st11⟩ := stB X10 hx hZ e10 Ar11 (j := (7 : Int32)) hin11 (g := (mkF m 69 #[.val (.int p0), .val (.int p1), .val (.int p2), .val (.int p3), .val (.int p4), .val (.int p5), .val (.int x6_9), .val (.int x7_14), .val (.ref b3), .unset, .unset, .unset] [(.int x7_14), (.int (7 : Int32)), (.ref b3)])) rfl rfl (hb hby at_69)
  have V11 : own_AI Z h11 b3 k3 .byte (8 : Int32) (ws10.set 7 (nar .byte x7_14)) := set11 _ _ (fits_nar_byte _) W11
  obtain ⟨ws11, hws11⟩ : ∃ z, z = (ws10.set 7 (nar .byte x7_14)) := ⟨_, rfl⟩
  rw [← hws11] at V11
  have N11 := Fr.snoc X11 N10 g_b3
  obtain ⟨cl12, Ar12, hin12, set12⟩ := own_AI.arr V11 (j := x6_9) (own_ix x6_9 hx6_9).1
  obtain ⟨T12, h12, X12, e12, W12, st12⟩ := stB X11 hx hZ e11 Ar12 (j := x6_9) hin12 (g := (mkF m 76 #[.val (.int p0), .val (.int p1), .val (.int p2), .val (.int p3), .val (.int p4), .val (.int p5), .val (.int x6_9), .val (.int x7_14), .val (.ref b3), .unset, .unset, .unset] [(.int (p0).toInt8.toInt32), (.int x6_9), (.ref b3)])) rfl rfl (hb hby at_76)
  have V12 : own_AI Z h12 b3 k3 .byte (8 : Int32) (ws11.set (x6_9).toNatClampNeg (nar .byte (p0).toInt8.toInt32)) := set12 _ _ (fits_nar_byte _) W12
  obtain ⟨ws12, hws12⟩ : ∃ z, z = (ws11.set (x6_9).toNatClampNeg (nar .byte (p0).toInt8.toInt32)) := ⟨_, rfl⟩
  rw [← hws12] at V12
  have N12 := Fr.snoc X12 N11 g_b3
  obtain ⟨cl13, Ar13, hin13, set13⟩ := own_AI.arr V12 (j := (x6_9 + (1 : Int32))) (own_ix x6_9 hx6_9).2.1
  obtain ⟨T13, h13, X13, e13, W13, st13⟩ := stB X12 hx hZ e12 Ar13 (j := (x6_9 + (1 : Int32))) hin13 (g := (mkF m 85 #[.val (.int p0), .val (.int p1), .val (.int p2), .val (.int p3), .val (.int p4), .val (.int p5), .val (.int x6_9), .val (.int x7_14), .val (.ref b3), .unset, .unset, .unset] [(.int (p1).toInt8.toInt32), (.int (x6_9 + (1 : Int32))), (.ref b3)])) rfl rfl (hb hby at_85)
  have V13 : own_AI Z h13 b3 k3 .byte (8 : Int32) (ws12.set ((x6_9 + (1 : Int32))).toNatClampNeg (nar .byte (p1).toInt8.toInt32)) := set13 _ _ (fits_nar_byte _) W13
  obtain ⟨ws13, hws13⟩ : ∃ z, z = (ws12.set ((x6_9 + (1 : Int32))).toNatClampNeg (nar .byte (p1).toInt8.toInt32)) := ⟨_, rfl⟩
  rw [← hws13] at V13
  have N13 := Fr.snoc X13 N12 g_b3
  obtain ⟨cl14, Ar14, hin14, set14⟩ := own_AI.arr V13 (j := (x6_9 + (2 : Int32))) (own_ix x6_9 hx6_9).2.2.1
  obtain ⟨T14, h14, X14, e14, W14, st14⟩ := stB X13 hx hZ e13 Ar14 (j := (x6_9 + (2 : Int32))) hin14 (g := (mkF m 94 #[.val (.int p0), .val (.int p1), .val (.int p2), .val (.int p3), .val (.int p4), .val (.int p5), .val (.int x6_9), .val (.int x7_14), .val (.ref b3), .unset, .unset, .unset] [(.int (p2).toInt8.toInt32), (.int (x6_9 + (2 : Int32))), (.ref b3)])) rfl rfl (hb hby at_94)
  have V14 : own_AI Z h14 b3 k3 .byte (8 : Int32) (ws13.set ((x6_9 + (2 : Int32))).toNatClampNeg (nar .byte (p2).toInt8.toInt32)) := set14 _ _ (fits_nar_byte _) W14
  obtain ⟨ws14, hws14⟩ : ∃ z, z = (ws13.set ((x6_9 + (2 : Int32))).toNatClampNeg (nar .byte (p2).toInt8.toInt32)) := ⟨_, rfl⟩
  rw [← hws14] at V14
  have N14 := Fr.snoc X14 N13 g_b3
  obtain ⟨cl15, Ar15, hin15, set15⟩ := own_AI.arr V14 (j := (x6_9 + (3 : Int32))) (own_ix x6_9 hx6_9).2.2.2
  obtain ⟨T15, h15, X15, e15, W15, st15⟩ := stB X14 hx hZ e14 Ar15 (j := (x6_9 + (3 : Int32))) hin15 (g := (mkF m 103 #[.val (.int p0), .val (.int p1), .val (.int p2), .val (.int p3), .val (.int p4), .val (.int p5), .val (.int x6_9), .val (.int x7_14), .val (.ref b3), .unset, .unset, .unset] [(.int (p3).toInt8.toInt32), (.int (x6_9 + (3 : Int32))), (.ref b3)])) rfl rfl (hb hby at_103)
  have V15 : own_AI Z h15 b3 k3 .byte (8 : Int32) (ws14.set ((x6_9 + (3 : Int32))).toNatClampNeg (nar .byte (p3).toInt8.toInt32)) := set15 _ _ (fits_nar_byte _) W15
  obtain ⟨ws15, hws15⟩ : ∃ z, z = (ws14.set ((x6_9 + (3 : Int32))).toNatClampNeg (nar .byte (p3).toInt8.toInt32)) := ⟨_, rfl⟩
  rw [← hws15] at V15
  have N15 := Fr.snoc X15 N14 g_b3
  obtain ⟨x9_145, hx9_145, pre16⟩ : ∃ z : Int64, z = ((((((p0).toInt64 &&& (255 : Int64)) * (16777216 : Int64)) + (((p1).toInt64 &&& (255 : Int64)) * (65536 : Int64))) + (((p2).toInt64 &&& (255 : Int64)) * (256 : Int64))) + ((p3).toInt64 &&& (255 : Int64))) ∧ own_Pre p e below (s₁.setTop (entryFrame m #[(.int p0), (.int p1), (.int p2), (.int p3), (.int p4), (.int p5)] maxLocals)) (T15.setTop (mkF m 145 #[.val (.int p0), .val (.int p1), .val (.int p2), .val (.int p3), .val (.int p4), .val (.int p5), .val (.int x6_9), .val (.int x7_14), .val (.ref b3), .val (.long z), .second, .unset] [])) := ⟨_, rfl, fun t k => pre2 t (by
      show Steps p.tables e below (s₁.setTop (mkF m 14 #[.val (.int p0), .val (.int p1), .val (.int p2), .val (.int p3), .val (.int p4), .val (.int p5), .val (.int x6_9), .val (.int x7_14), .unset, .unset, .unset, .unset] [])) _
      refine XS.bipush X0.here hx rfl (hb hby at_14) ?_
      show Steps p.tables e below (s₁.setTop (mkF m 16 #[.val (.int p0), .val (.int p1), .val (.int p2), .val (.int p3), .val (.int p4), .val (.int p5), .val (.int x6_9), .val (.int x7_14), .unset, .unset, .unset, .unset] [(.int (8 : Int32))])) _
      refine st3 _ ?_
      show Steps p.tables e below (T3.setTop (mkF m 18 #[.val (.int p0), .val (.int p1), .val (.int p2), .val (.int p3), .val (.int p4), .val (.int p5), .val (.int x6_9), .val (.int x7_14), .unset, .unset, .unset, .unset] [(.ref b3)])) _
      refine XS.astore X3.here hx rfl (hb hby at_18) rfl rfl (l' := #[.val (.int p0), .val (.int p1), .val (.int p2), .val (.int p3), .val (.int p4), .val (.int p5), .val (.int x6_9), .val (.int x7_14), .val (.ref b3), .unset, .unset, .unset]) rfl ?_
      show Steps p.tables e below (T3.setTop (mkF m 20 #[.val (.int p0), .val (.int p1), .val (.int p2), .val (.int p3), .val (.int p4), .val (.int p5), .val (.int x6_9), .val (.int x7_14), .val (.ref b3), .unset, .unset, .unset] [])) _
      refine XS.aload X3.here hx rfl (hb hby at_20) rfl rfl ?_
      show Steps p.tables e below (T3.setTop (mkF m 22 #[.val (.int p0), .val (.int p1), .val (.int p2), .val (.int p3), .val (.int p4), .val (.int p5), .val (.int x6_9), .val (.int x7_14), .val (.ref b3), .unset, .unset, .unset] [(.ref b3)])) _
      refine XS.iconst X3.here hx rfl (hb hby at_22) ?_
      show Steps p.tables e below (T3.setTop (mkF m 23 #[.val (.int p0), .val (.int p1), .val (.int p2), .val (.int p3), .val (.int p4), .val (.int p5), .val (.int x6_9), .val (.int x7_14), .val (.ref b3), .unset, .unset, .unset] [(.int (0 : Int32)), (.ref b3)])) _
      refine XS.iload X3.here hx rfl (hb hby at_23) rfl ?_
      show Steps p.tables e below (T3.setTop (mkF m 25 #[.val (.int p0), .val (.int p1), .val (.int p2), .val (.int p3), .val (.int p4), .val (.int p5), .val (.int x6_9), .val (.int x7_14), .val (.ref b3), .unset, .unset, .unset] [(.int x7_14), (.int (0 : Int32)), (.ref b3)])) _
      refine st4 _ ?_
      show Steps p.tables e below (T4.setTop (mkF m 26 #[.val (.int p0), .val (.int p1), .val (.int p2), .val (.int p3), .val (.int p4), .val (.int p5), .val (.int x6_9), .val (.int x7_14), .val (.ref b3), .unset, .unset, .unset] [])) _
      refine XS.aload X4.here hx rfl (hb hby at_26) rfl rfl ?_
      show Steps p.tables e below (T4.setTop (mkF m 28 #[.val (.int p0), .val (.int p1), .val (.int p2), .val (.int p3), .val (.int p4), .val (.int p5), .val (.int x6_9), .val (.int x7_14), .val (.ref b3), .unset, .unset, .unset] [(.ref b3)])) _
      refine XS.iconst X4.here hx rfl (hb hby at_28) ?_
      show Steps p.tables e below (T4.setTop (mkF m 29 #[.val (.int p0), .val (.int p1), .val (.int p2), .val (.int p3), .val (.int p4), .val (.int p5), .val (.int x6_9), .val (.int x7_14), .val (.ref b3), .unset, .unset, .unset] [(.int (1 : Int32)), (.ref b3)])) _
      refine XS.iload X4.here hx rfl (hb hby at_29) rfl ?_
      show Steps p.tables e below (T4.setTop (mkF m 31 #[.val (.int p0), .val (.int p1), .val (.int p2), .val (.int p3), .val (.int p4), .val (.int p5), .val (.int x6_9), .val (.int x7_14), .val (.ref b3), .unset, .unset, .unset] [(.int x7_14), (.int (1 : Int32)), (.ref b3)])) _
      refine st5 _ ?_
      show Steps p.tables e below (T5.setTop (mkF m 32 #[.val (.int p0), .val (.int p1), .val (.int p2), .val (.int p3), .val (.int p4), .val (.int p5), .val (.int x6_9), .val (.int x7_14), .val (.ref b3), .unset, .unset, .unset] [])) _
      refine XS.aload X5.here hx rfl (hb hby at_32) rfl rfl ?_
      show Steps p.tables e below (T5.setTop (mkF m 34 #[.val (.int p0), .val (.int p1), .val (.int p2), .val (.int p3), .val (.int p4), .val (.int p5), .val (.int x6_9), .val (.int x7_14), .val (.ref b3), .unset, .unset, .unset] [(.ref b3)])) _
      refine XS.iconst X5.here hx rfl (hb hby at_34) ?_
      show Steps p.tables e below (T5.setTop (mkF m 35 #[.val (.int p0), .val (.int p1), .val (.int p2), .val (.int p3), .val (.int p4), .val (.int p5), .val (.int x6_9), .val (.int x7_14), .val (.ref b3), .unset, .unset, .unset] [(.int (2 : Int32)), (.ref b3)])) _
      refine XS.iload X5.here hx rfl (hb hby at_35) rfl ?_
      show Steps p.tables e below (T5.setTop (mkF m 37 #[.val (.int p0), .val (.int p1), .val (.int p2), .val (.int p3), .val (.int p4), .val (.int p5), .val (.int x6_9), .val (.int x7_14), .val (.ref b3), .unset, .unset, .unset] [(.int x7_14), (.int (2 : Int32)), (.ref b3)])) _
      refine st6 _ ?_
      show Steps p.tables e below (T6.setTop (mkF m 38 #[.val (.int p0), .val (.int p1), .val (.int p2), .val (.int p3), .val (.int p4), .val (.int p5), .val (.int x6_9), .val (.int x7_14), .val (.ref b3), .unset, .unset, .unset] [])) _
      refine XS.aload X6.here hx rfl (hb hby at_38) rfl rfl ?_
      show Steps p.tables e below (T6.setTop (mkF m 40 #[.val (.int p0), .val (.int p1), .val (.int p2), .val (.int p3), .val (.int p4), .val (.int p5), .val (.int x6_9), .val (.int x7_14), .val (.ref b3), .unset, .unset, .unset] [(.ref b3)])) _
      refine XS.iconst X6.here hx rfl (hb hby at_40) ?_
      show Steps p.tables e below (T6.setTop (mkF m 41 #[.val (.int p0), .val (.int p1), .val (.int p2), .val (.int p3), .val (.int p4), .val (.int p5), .val (.int x6_9), .val (.int x7_14), .val (.ref b3), .unset, .unset, .unset] [(.int (3 : Int32)), (.ref b3)])) _
      refine XS.iload X6.here hx rfl (hb hby at_41) rfl ?_
      show Steps p.tables e below (T6.setTop (mkF m 43 #[.val (.int p0), .val (.int p1), .val (.int p2), .val (.int p3), .val (.int p4), .val (.int p5), .val (.int x6_9), .val (.int x7_14), .val (.ref b3), .unset, .unset, .unset] [(.int x7_14), (.int (3 : Int32)), (.ref b3)])) _
      refine st7 _ ?_
      show Steps p.tables e below (T7.setTop (mkF m 44 #[.val (.int p0), .val (.int p1), .val (.int p2), .val (.int p3), .val (.int p4), .val (.int p5), .val (.int x6_9), .val (.int x7_14), .val (.ref b3), .unset, .unset, .unset] [])) _
      refine XS.aload X7.here hx rfl (hb hby at_44) rfl rfl ?_
      show Steps p.tables e below (T7.setTop (mkF m 46 #[.val (.int p0), .val (.int p1), .val (.int p2), .val (.int p3), .val (.int p4), .val (.int p5), .val (.int x6_9), .val (.int x7_14), .val (.ref b3), .unset, .unset, .unset] [(.ref b3)])) _
      refine XS.iconst X7.here hx rfl (hb hby at_46) ?_
      show Steps p.tables e below (T7.setTop (mkF m 47 #[.val (.int p0), .val (.int p1), .val (.int p2), .val (.int p3), .val (.int p4), .val (.int p5), .val (.int x6_9), .val (.int x7_14), .val (.ref b3), .unset, .unset, .unset] [(.int (4 : Int32)), (.ref b3)])) _
      refine XS.iload X7.here hx rfl (hb hby at_47) rfl ?_
      show Steps p.tables e below (T7.setTop (mkF m 49 #[.val (.int p0), .val (.int p1), .val (.int p2), .val (.int p3), .val (.int p4), .val (.int p5), .val (.int x6_9), .val (.int x7_14), .val (.ref b3), .unset, .unset, .unset] [(.int x7_14), (.int (4 : Int32)), (.ref b3)])) _
      refine st8 _ ?_
      show Steps p.tables e below (T8.setTop (mkF m 50 #[.val (.int p0), .val (.int p1), .val (.int p2), .val (.int p3), .val (.int p4), .val (.int p5), .val (.int x6_9), .val (.int x7_14), .val (.ref b3), .unset, .unset, .unset] [])) _
      refine XS.aload X8.here hx rfl (hb hby at_50) rfl rfl ?_
      show Steps p.tables e below (T8.setTop (mkF m 52 #[.val (.int p0), .val (.int p1), .val (.int p2), .val (.int p3), .val (.int p4), .val (.int p5), .val (.int x6_9), .val (.int x7_14), .val (.ref b3), .unset, .unset, .unset] [(.ref b3)])) _
      refine XS.iconst X8.here hx rfl (hb hby at_52) ?_
      show Steps p.tables e below (T8.setTop (mkF m 53 #[.val (.int p0), .val (.int p1), .val (.int p2), .val (.int p3), .val (.int p4), .val (.int p5), .val (.int x6_9), .val (.int x7_14), .val (.ref b3), .unset, .unset, .unset] [(.int (5 : Int32)), (.ref b3)])) _
      refine XS.iload X8.here hx rfl (hb hby at_53) rfl ?_
      show Steps p.tables e below (T8.setTop (mkF m 55 #[.val (.int p0), .val (.int p1), .val (.int p2), .val (.int p3), .val (.int p4), .val (.int p5), .val (.int x6_9), .val (.int x7_14), .val (.ref b3), .unset, .unset, .unset] [(.int x7_14), (.int (5 : Int32)), (.ref b3)])) _
      refine st9 _ ?_
      show Steps p.tables e below (T9.setTop (mkF m 56 #[.val (.int p0), .val (.int p1), .val (.int p2), .val (.int p3), .val (.int p4), .val (.int p5), .val (.int x6_9), .val (.int x7_14), .val (.ref b3), .unset, .unset, .unset] [])) _
      refine XS.aload X9.here hx rfl (hb hby at_56) rfl rfl ?_
      show Steps p.tables e below (T9.setTop (mkF m 58 #[.val (.int p0), .val (.int p1), .val (.int p2), .val (.int p3), .val (.int p4), .val (.int p5), .val (.int x6_9), .val (.int x7_14), .val (.ref b3), .unset, .unset, .unset] [(.ref b3)])) _
      refine XS.bipush X9.here hx rfl (hb hby at_58) ?_
      show Steps p.tables e below (T9.setTop (mkF m 60 #[.val (.int p0), .val (.int p1), .val (.int p2), .val (.int p3), .val (.int p4), .val (.int p5), .val (.int x6_9), .val (.int x7_14), .val (.ref b3), .unset, .unset, .unset] [(.int (6 : Int32)), (.ref b3)])) _
      refine XS.iload X9.here hx rfl (hb hby at_60) rfl ?_
      show Steps p.tables e below (T9.setTop (mkF m 62 #[.val (.int p0), .val (.int p1), .val (.int p2), .val (.int p3), .val (.int p4), .val (.int p5), .val (.int x6_9), .val (.int x7_14), .val (.ref b3), .unset, .unset, .unset] [(.int x7_14), (.int (6 : Int32)), (.ref b3)])) _
      refine st10 _ ?_
      show Steps p.tables e below (T10.setTop (mkF m 63 #[.val (.int p0), .val (.int p1), .val (.int p2), .val (.int p3), .val (.int p4), .val (.int p5), .val (.int x6_9), .val (.int x7_14), .val (.ref b3), .unset, .unset, .unset] [])) _
      refine XS.aload X10.here hx rfl (hb hby at_63) rfl rfl ?_
      show Steps p.tables e below (T10.setTop (mkF m 65 #[.val (.int p0), .val (.int p1), .val (.int p2), .val (.int p3), .val (.int p4), .val (.int p5), .val (.int x6_9), .val (.int x7_14), .val (.ref b3), .unset, .unset, .unset] [(.ref b3)])) _
      refine XS.bipush X10.here hx rfl (hb hby at_65) ?_
      show Steps p.tables e below (T10.setTop (mkF m 67 #[.val (.int p0), .val (.int p1), .val (.int p2), .val (.int p3), .val (.int p4), .val (.int p5), .val (.int x6_9), .val (.int x7_14), .val (.ref b3), .unset, .unset, .unset] [(.int (7 : Int32)), (.ref b3)])) _
      refine XS.iload X10.here hx rfl (hb hby at_67) rfl ?_
      show Steps p.tables e below (T10.setTop (mkF m 69 #[.val (.int p0), .val (.int p1), .val (.int p2), .val (.int p3), .val (.int p4), .val (.int p5), .val (.int x6_9), .val (.int x7_14), .val (.ref b3), .unset, .unset, .unset] [(.int x7_14), (.int (7 : Int32)), (.ref b3)])) _
      refine st11 _ ?_
      show Steps p.tables e below (T11.setTop (mkF m 70 #[.val (.int p0), .val (.int p1), .val (.int p2), .val (.int p3), .val (.int p4), .val (.int p5), .val (.int x6_9), .val (.int x7_14), .val (.ref b3), .unset, .unset, .unset] [])) _
      refine XS.aload X11.here hx rfl (hb hby at_70) rfl rfl ?_
      show Steps p.tables e below (T11.setTop (mkF m 72 #[.val (.int p0), .val (.int p1), .val (.int p2), .val (.int p3), .val (.int p4), .val (.int p5), .val (.int x6_9), .val (.int x7_14), .val (.ref b3), .unset, .unset, .unset] [(.ref b3)])) _
      refine XS.iload X11.here hx rfl (hb hby at_72) rfl ?_
      show Steps p.tables e below (T11.setTop (mkF m 74 #[.val (.int p0), .val (.int p1), .val (.int p2), .val (.int p3), .val (.int p4), .val (.int p5), .val (.int x6_9), .val (.int x7_14), .val (.ref b3), .unset, .unset, .unset] [(.int x6_9), (.ref b3)])) _
      refine XS.iloadN X11.here hx rfl (hb hby at_74) rfl ?_
      show Steps p.tables e below (T11.setTop (mkF m 75 #[.val (.int p0), .val (.int p1), .val (.int p2), .val (.int p3), .val (.int p4), .val (.int p5), .val (.int x6_9), .val (.int x7_14), .val (.ref b3), .unset, .unset, .unset] [(.int p0), (.int x6_9), (.ref b3)])) _
      refine XS.i2b X11.here hx rfl (hb hby at_75) rfl ?_
      show Steps p.tables e below (T11.setTop (mkF m 76 #[.val (.int p0), .val (.int p1), .val (.int p2), .val (.int p3), .val (.int p4), .val (.int p5), .val (.int x6_9), .val (.int x7_14), .val (.ref b3), .unset, .unset, .unset] [(.int (p0).toInt8.toInt32), (.int x6_9), (.ref b3)])) _
      refine st12 _ ?_
      show Steps p.tables e below (T12.setTop (mkF m 77 #[.val (.int p0), .val (.int p1), .val (.int p2), .val (.int p3), .val (.int p4), .val (.int p5), .val (.int x6_9), .val (.int x7_14), .val (.ref b3), .unset, .unset, .unset] [])) _
      refine XS.aload X12.here hx rfl (hb hby at_77) rfl rfl ?_
      show Steps p.tables e below (T12.setTop (mkF m 79 #[.val (.int p0), .val (.int p1), .val (.int p2), .val (.int p3), .val (.int p4), .val (.int p5), .val (.int x6_9), .val (.int x7_14), .val (.ref b3), .unset, .unset, .unset] [(.ref b3)])) _
      refine XS.iload X12.here hx rfl (hb hby at_79) rfl ?_
      show Steps p.tables e below (T12.setTop (mkF m 81 #[.val (.int p0), .val (.int p1), .val (.int p2), .val (.int p3), .val (.int p4), .val (.int p5), .val (.int x6_9), .val (.int x7_14), .val (.ref b3), .unset, .unset, .unset] [(.int x6_9), (.ref b3)])) _
      refine XS.iconst X12.here hx rfl (hb hby at_81) ?_
      show Steps p.tables e below (T12.setTop (mkF m 82 #[.val (.int p0), .val (.int p1), .val (.int p2), .val (.int p3), .val (.int p4), .val (.int p5), .val (.int x6_9), .val (.int x7_14), .val (.ref b3), .unset, .unset, .unset] [(.int (1 : Int32)), (.int x6_9), (.ref b3)])) _
      refine XS.iadd X12.here hx rfl (hb hby at_82) rfl ?_
      show Steps p.tables e below (T12.setTop (mkF m 83 #[.val (.int p0), .val (.int p1), .val (.int p2), .val (.int p3), .val (.int p4), .val (.int p5), .val (.int x6_9), .val (.int x7_14), .val (.ref b3), .unset, .unset, .unset] [(.int (x6_9 + (1 : Int32))), (.ref b3)])) _
      refine XS.iloadN X12.here hx rfl (hb hby at_83) rfl ?_
      show Steps p.tables e below (T12.setTop (mkF m 84 #[.val (.int p0), .val (.int p1), .val (.int p2), .val (.int p3), .val (.int p4), .val (.int p5), .val (.int x6_9), .val (.int x7_14), .val (.ref b3), .unset, .unset, .unset] [(.int p1), (.int (x6_9 + (1 : Int32))), (.ref b3)])) _
      refine XS.i2b X12.here hx rfl (hb hby at_84) rfl ?_
      show Steps p.tables e below (T12.setTop (mkF m 85 #[.val (.int p0), .val (.int p1), .val (.int p2), .val (.int p3), .val (.int p4), .val (.int p5), .val (.int x6_9), .val (.int x7_14), .val (.ref b3), .unset, .unset, .unset] [(.int (p1).toInt8.toInt32), (.int (x6_9 + (1 : Int32))), (.ref b3)])) _
      refine st13 _ ?_
      show Steps p.tables e below (T13.setTop (mkF m 86 #[.val (.int p0), .val (.int p1), .val (.int p2), .val (.int p3), .val (.int p4), .val (.int p5), .val (.int x6_9), .val (.int x7_14), .val (.ref b3), .unset, .unset, .unset] [])) _
      refine XS.aload X13.here hx rfl (hb hby at_86) rfl rfl ?_
      show Steps p.tables e below (T13.setTop (mkF m 88 #[.val (.int p0), .val (.int p1), .val (.int p2), .val (.int p3), .val (.int p4), .val (.int p5), .val (.int x6_9), .val (.int x7_14), .val (.ref b3), .unset, .unset, .unset] [(.ref b3)])) _
      refine XS.iload X13.here hx rfl (hb hby at_88) rfl ?_
      show Steps p.tables e below (T13.setTop (mkF m 90 #[.val (.int p0), .val (.int p1), .val (.int p2), .val (.int p3), .val (.int p4), .val (.int p5), .val (.int x6_9), .val (.int x7_14), .val (.ref b3), .unset, .unset, .unset] [(.int x6_9), (.ref b3)])) _
      refine XS.iconst X13.here hx rfl (hb hby at_90) ?_
      show Steps p.tables e below (T13.setTop (mkF m 91 #[.val (.int p0), .val (.int p1), .val (.int p2), .val (.int p3), .val (.int p4), .val (.int p5), .val (.int x6_9), .val (.int x7_14), .val (.ref b3), .unset, .unset, .unset] [(.int (2 : Int32)), (.int x6_9), (.ref b3)])) _
      refine XS.iadd X13.here hx rfl (hb hby at_91) rfl ?_
      show Steps p.tables e below (T13.setTop (mkF m 92 #[.val (.int p0), .val (.int p1), .val (.int p2), .val (.int p3), .val (.int p4), .val (.int p5), .val (.int x6_9), .val (.int x7_14), .val (.ref b3), .unset, .unset, .unset] [(.int (x6_9 + (2 : Int32))), (.ref b3)])) _
      refine XS.iloadN X13.here hx rfl (hb hby at_92) rfl ?_
      show Steps p.tables e below (T13.setTop (mkF m 93 #[.val (.int p0), .val (.int p1), .val (.int p2), .val (.int p3), .val (.int p4), .val (.int p5), .val (.int x6_9), .val (.int x7_14), .val (.ref b3), .unset, .unset, .unset] [(.int p2), (.int (x6_9 + (2 : Int32))), (.ref b3)])) _
      refine XS.i2b X13.here hx rfl (hb hby at_93) rfl ?_
      show Steps p.tables e below (T13.setTop (mkF m 94 #[.val (.int p0), .val (.int p1), .val (.int p2), .val (.int p3), .val (.int p4), .val (.int p5), .val (.int x6_9), .val (.int x7_14), .val (.ref b3), .unset, .unset, .unset] [(.int (p2).toInt8.toInt32), (.int (x6_9 + (2 : Int32))), (.ref b3)])) _
      refine st14 _ ?_
      show Steps p.tables e below (T14.setTop (mkF m 95 #[.val (.int p0), .val (.int p1), .val (.int p2), .val (.int p3), .val (.int p4), .val (.int p5), .val (.int x6_9), .val (.int x7_14), .val (.ref b3), .unset, .unset, .unset] [])) _
      refine XS.aload X14.here hx rfl (hb hby at_95) rfl rfl ?_
      show Steps p.tables e below (T14.setTop (mkF m 97 #[.val (.int p0), .val (.int p1), .val (.int p2), .val (.int p3), .val (.int p4), .val (.int p5), .val (.int x6_9), .val (.int x7_14), .val (.ref b3), .unset, .unset, .unset] [(.ref b3)])) _
      refine XS.iload X14.here hx rfl (hb hby at_97) rfl ?_
      show Steps p.tables e below (T14.setTop (mkF m 99 #[.val (.int p0), .val (.int p1), .val (.int p2), .val (.int p3), .val (.int p4), .val (.int p5), .val (.int x6_9), .val (.int x7_14), .val (.ref b3), .unset, .unset, .unset] [(.int x6_9), (.ref b3)])) _
      refine XS.iconst X14.here hx rfl (hb hby at_99) ?_
      show Steps p.tables e below (T14.setTop (mkF m 100 #[.val (.int p0), .val (.int p1), .val (.int p2), .val (.int p3), .val (.int p4), .val (.int p5), .val (.int x6_9), .val (.int x7_14), .val (.ref b3), .unset, .unset, .unset] [(.int (3 : Int32)), (.int x6_9), (.ref b3)])) _
      refine XS.iadd X14.here hx rfl (hb hby at_100) rfl ?_
      show Steps p.tables e below (T14.setTop (mkF m 101 #[.val (.int p0), .val (.int p1), .val (.int p2), .val (.int p3), .val (.int p4), .val (.int p5), .val (.int x6_9), .val (.int x7_14), .val (.ref b3), .unset, .unset, .unset] [(.int (x6_9 + (3 : Int32))), (.ref b3)])) _
      refine XS.iloadN X14.here hx rfl (hb hby at_101) rfl ?_
      show Steps p.tables e below (T14.setTop (mkF m 102 #[.val (.int p0), .val (.int p1), .val (.int p2), .val (.int p3), .val (.int p4), .val (.int p5), .val (.int x6_9), .val (.int x7_14), .val (.ref b3), .unset, .unset, .unset] [(.int p3), (.int (x6_9 + (3 : Int32))), (.ref b3)])) _
      refine XS.i2b X14.here hx rfl (hb hby at_102) rfl ?_
      show Steps p.tables e below (T14.setTop (mkF m 103 #[.val (.int p0), .val (.int p1), .val (.int p2), .val (.int p3), .val (.int p4), .val (.int p5), .val (.int x6_9), .val (.int x7_14), .val (.ref b3), .unset, .unset, .unset] [(.int (p3).toInt8.toInt32), (.int (x6_9 + (3 : Int32))), (.ref b3)])) _
      refine st15 _ ?_
      show Steps p.tables e below (T15.setTop (mkF m 104 #[.val (.int p0), .val (.int p1), .val (.int p2), .val (.int p3), .val (.int p4), .val (.int p5), .val (.int x6_9), .val (.int x7_14), .val (.ref b3), .unset, .unset, .unset] [])) _
      refine XS.iloadN X15.here hx rfl (hb hby at_104) rfl ?_
      show Steps p.tables e below (T15.setTop (mkF m 105 #[.val (.int p0), .val (.int p1), .val (.int p2), .val (.int p3), .val (.int p4), .val (.int p5), .val (.int x6_9), .val (.int x7_14), .val (.ref b3), .unset, .unset, .unset] [(.int p0)])) _
      refine XS.i2l X15.here hx rfl (hb hby at_105) rfl ?_
      show Steps p.tables e below (T15.setTop (mkF m 106 #[.val (.int p0), .val (.int p1), .val (.int p2), .val (.int p3), .val (.int p4), .val (.int p5), .val (.int x6_9), .val (.int x7_14), .val (.ref b3), .unset, .unset, .unset] [(.long (p0).toInt64)])) _
      refine X15.ldc2Long hx hown (mvT hZ (hw _ (List.mem_of_getElem? (i := 2) rfl))) (g := (mkF m 106 #[.val (.int p0), .val (.int p1), .val (.int p2), .val (.int p3), .val (.int p4), .val (.int p5), .val (.int x6_9), .val (.int x7_14), .val (.ref b3), .unset, .unset, .unset] [(.long (p0).toInt64)])) rfl (hb hby at_106) _ ?_
      show Steps p.tables e below (T15.setTop (mkF m 109 #[.val (.int p0), .val (.int p1), .val (.int p2), .val (.int p3), .val (.int p4), .val (.int p5), .val (.int x6_9), .val (.int x7_14), .val (.ref b3), .unset, .unset, .unset] [(.long (255 : Int64)), (.long (p0).toInt64)])) _
      refine XS.land X15.here hx rfl (hb hby at_109) rfl ?_
      show Steps p.tables e below (T15.setTop (mkF m 110 #[.val (.int p0), .val (.int p1), .val (.int p2), .val (.int p3), .val (.int p4), .val (.int p5), .val (.int x6_9), .val (.int x7_14), .val (.ref b3), .unset, .unset, .unset] [(.long ((p0).toInt64 &&& (255 : Int64)))])) _
      refine X15.ldc2Long hx hown (mvT hZ (hw _ (List.mem_of_getElem? (i := 3) rfl))) (g := (mkF m 110 #[.val (.int p0), .val (.int p1), .val (.int p2), .val (.int p3), .val (.int p4), .val (.int p5), .val (.int x6_9), .val (.int x7_14), .val (.ref b3), .unset, .unset, .unset] [(.long ((p0).toInt64 &&& (255 : Int64)))])) rfl (hb hby at_110) _ ?_
      show Steps p.tables e below (T15.setTop (mkF m 113 #[.val (.int p0), .val (.int p1), .val (.int p2), .val (.int p3), .val (.int p4), .val (.int p5), .val (.int x6_9), .val (.int x7_14), .val (.ref b3), .unset, .unset, .unset] [(.long (16777216 : Int64)), (.long ((p0).toInt64 &&& (255 : Int64)))])) _
      refine XS.lmul X15.here hx rfl (hb hby at_113) rfl ?_
      show Steps p.tables e below (T15.setTop (mkF m 114 #[.val (.int p0), .val (.int p1), .val (.int p2), .val (.int p3), .val (.int p4), .val (.int p5), .val (.int x6_9), .val (.int x7_14), .val (.ref b3), .unset, .unset, .unset] [(.long (((p0).toInt64 &&& (255 : Int64)) * (16777216 : Int64)))])) _
      refine XS.iloadN X15.here hx rfl (hb hby at_114) rfl ?_
      show Steps p.tables e below (T15.setTop (mkF m 115 #[.val (.int p0), .val (.int p1), .val (.int p2), .val (.int p3), .val (.int p4), .val (.int p5), .val (.int x6_9), .val (.int x7_14), .val (.ref b3), .unset, .unset, .unset] [(.int p1), (.long (((p0).toInt64 &&& (255 : Int64)) * (16777216 : Int64)))])) _
      refine XS.i2l X15.here hx rfl (hb hby at_115) rfl ?_
      show Steps p.tables e below (T15.setTop (mkF m 116 #[.val (.int p0), .val (.int p1), .val (.int p2), .val (.int p3), .val (.int p4), .val (.int p5), .val (.int x6_9), .val (.int x7_14), .val (.ref b3), .unset, .unset, .unset] [(.long (p1).toInt64), (.long (((p0).toInt64 &&& (255 : Int64)) * (16777216 : Int64)))])) _
      refine X15.ldc2Long hx hown (mvT hZ (hw _ (List.mem_of_getElem? (i := 2) rfl))) (g := (mkF m 116 #[.val (.int p0), .val (.int p1), .val (.int p2), .val (.int p3), .val (.int p4), .val (.int p5), .val (.int x6_9), .val (.int x7_14), .val (.ref b3), .unset, .unset, .unset] [(.long (p1).toInt64), (.long (((p0).toInt64 &&& (255 : Int64)) * (16777216 : Int64)))])) rfl (hb hby at_116) _ ?_
      show Steps p.tables e below (T15.setTop (mkF m 119 #[.val (.int p0), .val (.int p1), .val (.int p2), .val (.int p3), .val (.int p4), .val (.int p5), .val (.int x6_9), .val (.int x7_14), .val (.ref b3), .unset, .unset, .unset] [(.long (255 : Int64)), (.long (p1).toInt64), (.long (((p0).toInt64 &&& (255 : Int64)) * (16777216 : Int64)))])) _
      refine XS.land X15.here hx rfl (hb hby at_119) rfl ?_
      show Steps p.tables e below (T15.setTop (mkF m 120 #[.val (.int p0), .val (.int p1), .val (.int p2), .val (.int p3), .val (.int p4), .val (.int p5), .val (.int x6_9), .val (.int x7_14), .val (.ref b3), .unset, .unset, .unset] [(.long ((p1).toInt64 &&& (255 : Int64))), (.long (((p0).toInt64 &&& (255 : Int64)) * (16777216 : Int64)))])) _
      refine X15.ldc2Long hx hown (mvT hZ (hw _ (List.mem_of_getElem? (i := 4) rfl))) (g := (mkF m 120 #[.val (.int p0), .val (.int p1), .val (.int p2), .val (.int p3), .val (.int p4), .val (.int p5), .val (.int x6_9), .val (.int x7_14), .val (.ref b3), .unset, .unset, .unset] [(.long ((p1).toInt64 &&& (255 : Int64))), (.long (((p0).toInt64 &&& (255 : Int64)) * (16777216 : Int64)))])) rfl (hb hby at_120) _ ?_
      show Steps p.tables e below (T15.setTop (mkF m 123 #[.val (.int p0), .val (.int p1), .val (.int p2), .val (.int p3), .val (.int p4), .val (.int p5), .val (.int x6_9), .val (.int x7_14), .val (.ref b3), .unset, .unset, .unset] [(.long (65536 : Int64)), (.long ((p1).toInt64 &&& (255 : Int64))), (.long (((p0).toInt64 &&& (255 : Int64)) * (16777216 : Int64)))])) _
      refine XS.lmul X15.here hx rfl (hb hby at_123) rfl ?_
      show Steps p.tables e below (T15.setTop (mkF m 124 #[.val (.int p0), .val (.int p1), .val (.int p2), .val (.int p3), .val (.int p4), .val (.int p5), .val (.int x6_9), .val (.int x7_14), .val (.ref b3), .unset, .unset, .unset] [(.long (((p1).toInt64 &&& (255 : Int64)) * (65536 : Int64))), (.long (((p0).toInt64 &&& (255 : Int64)) * (16777216 : Int64)))])) _
      refine XS.ladd X15.here hx rfl (hb hby at_124) rfl ?_
      show Steps p.tables e below (T15.setTop (mkF m 125 #[.val (.int p0), .val (.int p1), .val (.int p2), .val (.int p3), .val (.int p4), .val (.int p5), .val (.int x6_9), .val (.int x7_14), .val (.ref b3), .unset, .unset, .unset] [(.long ((((p0).toInt64 &&& (255 : Int64)) * (16777216 : Int64)) + (((p1).toInt64 &&& (255 : Int64)) * (65536 : Int64))))])) _
      refine XS.iloadN X15.here hx rfl (hb hby at_125) rfl ?_
      show Steps p.tables e below (T15.setTop (mkF m 126 #[.val (.int p0), .val (.int p1), .val (.int p2), .val (.int p3), .val (.int p4), .val (.int p5), .val (.int x6_9), .val (.int x7_14), .val (.ref b3), .unset, .unset, .unset] [(.int p2), (.long ((((p0).toInt64 &&& (255 : Int64)) * (16777216 : Int64)) + (((p1).toInt64 &&& (255 : Int64)) * (65536 : Int64))))])) _
      refine XS.i2l X15.here hx rfl (hb hby at_126) rfl ?_
      show Steps p.tables e below (T15.setTop (mkF m 127 #[.val (.int p0), .val (.int p1), .val (.int p2), .val (.int p3), .val (.int p4), .val (.int p5), .val (.int x6_9), .val (.int x7_14), .val (.ref b3), .unset, .unset, .unset] [(.long (p2).toInt64), (.long ((((p0).toInt64 &&& (255 : Int64)) * (16777216 : Int64)) + (((p1).toInt64 &&& (255 : Int64)) * (65536 : Int64))))])) _
      refine X15.ldc2Long hx hown (mvT hZ (hw _ (List.mem_of_getElem? (i := 2) rfl))) (g := (mkF m 127 #[.val (.int p0), .val (.int p1), .val (.int p2), .val (.int p3), .val (.int p4), .val (.int p5), .val (.int x6_9), .val (.int x7_14), .val (.ref b3), .unset, .unset, .unset] [(.long (p2).toInt64), (.long ((((p0).toInt64 &&& (255 : Int64)) * (16777216 : Int64)) + (((p1).toInt64 &&& (255 : Int64)) * (65536 : Int64))))])) rfl (hb hby at_127) _ ?_
      show Steps p.tables e below (T15.setTop (mkF m 130 #[.val (.int p0), .val (.int p1), .val (.int p2), .val (.int p3), .val (.int p4), .val (.int p5), .val (.int x6_9), .val (.int x7_14), .val (.ref b3), .unset, .unset, .unset] [(.long (255 : Int64)), (.long (p2).toInt64), (.long ((((p0).toInt64 &&& (255 : Int64)) * (16777216 : Int64)) + (((p1).toInt64 &&& (255 : Int64)) * (65536 : Int64))))])) _
      refine XS.land X15.here hx rfl (hb hby at_130) rfl ?_
      show Steps p.tables e below (T15.setTop (mkF m 131 #[.val (.int p0), .val (.int p1), .val (.int p2), .val (.int p3), .val (.int p4), .val (.int p5), .val (.int x6_9), .val (.int x7_14), .val (.ref b3), .unset, .unset, .unset] [(.long ((p2).toInt64 &&& (255 : Int64))), (.long ((((p0).toInt64 &&& (255 : Int64)) * (16777216 : Int64)) + (((p1).toInt64 &&& (255 : Int64)) * (65536 : Int64))))])) _
      refine X15.ldc2Long hx hown (mvT hZ (hw _ (List.mem_of_getElem? (i := 5) rfl))) (g := (mkF m 131 #[.val (.int p0), .val (.int p1), .val (.int p2), .val (.int p3), .val (.int p4), .val (.int p5), .val (.int x6_9), .val (.int x7_14), .val (.ref b3), .unset, .unset, .unset] [(.long ((p2).toInt64 &&& (255 : Int64))), (.long ((((p0).toInt64 &&& (255 : Int64)) * (16777216 : Int64)) + (((p1).toInt64 &&& (255 : Int64)) * (65536 : Int64))))])) rfl (hb hby at_131) _ ?_
      show Steps p.tables e below (T15.setTop (mkF m 134 #[.val (.int p0), .val (.int p1), .val (.int p2), .val (.int p3), .val (.int p4), .val (.int p5), .val (.int x6_9), .val (.int x7_14), .val (.ref b3), .unset, .unset, .unset] [(.long (256 : Int64)), (.long ((p2).toInt64 &&& (255 : Int64))), (.long ((((p0).toInt64 &&& (255 : Int64)) * (16777216 : Int64)) + (((p1).toInt64 &&& (255 : Int64)) * (65536 : Int64))))])) _
      refine XS.lmul X15.here hx rfl (hb hby at_134) rfl ?_
      show Steps p.tables e below (T15.setTop (mkF m 135 #[.val (.int p0), .val (.int p1), .val (.int p2), .val (.int p3), .val (.int p4), .val (.int p5), .val (.int x6_9), .val (.int x7_14), .val (.ref b3), .unset, .unset, .unset] [(.long (((p2).toInt64 &&& (255 : Int64)) * (256 : Int64))), (.long ((((p0).toInt64 &&& (255 : Int64)) * (16777216 : Int64)) + (((p1).toInt64 &&& (255 : Int64)) * (65536 : Int64))))])) _
      refine XS.ladd X15.here hx rfl (hb hby at_135) rfl ?_
      show Steps p.tables e below (T15.setTop (mkF m 136 #[.val (.int p0), .val (.int p1), .val (.int p2), .val (.int p3), .val (.int p4), .val (.int p5), .val (.int x6_9), .val (.int x7_14), .val (.ref b3), .unset, .unset, .unset] [(.long (((((p0).toInt64 &&& (255 : Int64)) * (16777216 : Int64)) + (((p1).toInt64 &&& (255 : Int64)) * (65536 : Int64))) + (((p2).toInt64 &&& (255 : Int64)) * (256 : Int64))))])) _
      refine XS.iloadN X15.here hx rfl (hb hby at_136) rfl ?_
      show Steps p.tables e below (T15.setTop (mkF m 137 #[.val (.int p0), .val (.int p1), .val (.int p2), .val (.int p3), .val (.int p4), .val (.int p5), .val (.int x6_9), .val (.int x7_14), .val (.ref b3), .unset, .unset, .unset] [(.int p3), (.long (((((p0).toInt64 &&& (255 : Int64)) * (16777216 : Int64)) + (((p1).toInt64 &&& (255 : Int64)) * (65536 : Int64))) + (((p2).toInt64 &&& (255 : Int64)) * (256 : Int64))))])) _
      refine XS.i2l X15.here hx rfl (hb hby at_137) rfl ?_
      show Steps p.tables e below (T15.setTop (mkF m 138 #[.val (.int p0), .val (.int p1), .val (.int p2), .val (.int p3), .val (.int p4), .val (.int p5), .val (.int x6_9), .val (.int x7_14), .val (.ref b3), .unset, .unset, .unset] [(.long (p3).toInt64), (.long (((((p0).toInt64 &&& (255 : Int64)) * (16777216 : Int64)) + (((p1).toInt64 &&& (255 : Int64)) * (65536 : Int64))) + (((p2).toInt64 &&& (255 : Int64)) * (256 : Int64))))])) _
      refine X15.ldc2Long hx hown (mvT hZ (hw _ (List.mem_of_getElem? (i := 2) rfl))) (g := (mkF m 138 #[.val (.int p0), .val (.int p1), .val (.int p2), .val (.int p3), .val (.int p4), .val (.int p5), .val (.int x6_9), .val (.int x7_14), .val (.ref b3), .unset, .unset, .unset] [(.long (p3).toInt64), (.long (((((p0).toInt64 &&& (255 : Int64)) * (16777216 : Int64)) + (((p1).toInt64 &&& (255 : Int64)) * (65536 : Int64))) + (((p2).toInt64 &&& (255 : Int64)) * (256 : Int64))))])) rfl (hb hby at_138) _ ?_
      show Steps p.tables e below (T15.setTop (mkF m 141 #[.val (.int p0), .val (.int p1), .val (.int p2), .val (.int p3), .val (.int p4), .val (.int p5), .val (.int x6_9), .val (.int x7_14), .val (.ref b3), .unset, .unset, .unset] [(.long (255 : Int64)), (.long (p3).toInt64), (.long (((((p0).toInt64 &&& (255 : Int64)) * (16777216 : Int64)) + (((p1).toInt64 &&& (255 : Int64)) * (65536 : Int64))) + (((p2).toInt64 &&& (255 : Int64)) * (256 : Int64))))])) _
      refine XS.land X15.here hx rfl (hb hby at_141) rfl ?_
      show Steps p.tables e below (T15.setTop (mkF m 142 #[.val (.int p0), .val (.int p1), .val (.int p2), .val (.int p3), .val (.int p4), .val (.int p5), .val (.int x6_9), .val (.int x7_14), .val (.ref b3), .unset, .unset, .unset] [(.long ((p3).toInt64 &&& (255 : Int64))), (.long (((((p0).toInt64 &&& (255 : Int64)) * (16777216 : Int64)) + (((p1).toInt64 &&& (255 : Int64)) * (65536 : Int64))) + (((p2).toInt64 &&& (255 : Int64)) * (256 : Int64))))])) _
      refine XS.ladd X15.here hx rfl (hb hby at_142) rfl ?_
      show Steps p.tables e below (T15.setTop (mkF m 143 #[.val (.int p0), .val (.int p1), .val (.int p2), .val (.int p3), .val (.int p4), .val (.int p5), .val (.int x6_9), .val (.int x7_14), .val (.ref b3), .unset, .unset, .unset] [(.long ((((((p0).toInt64 &&& (255 : Int64)) * (16777216 : Int64)) + (((p1).toInt64 &&& (255 : Int64)) * (65536 : Int64))) + (((p2).toInt64 &&& (255 : Int64)) * (256 : Int64))) + ((p3).toInt64 &&& (255 : Int64))))])) _
      refine XS.lstore X15.here hx rfl (hb hby at_143) rfl (l' := #[.val (.int p0), .val (.int p1), .val (.int p2), .val (.int p3), .val (.int p4), .val (.int p5), .val (.int x6_9), .val (.int x7_14), .val (.ref b3), .val (.long ((((((p0).toInt64 &&& (255 : Int64)) * (16777216 : Int64)) + (((p1).toInt64 &&& (255 : Int64)) * (65536 : Int64))) + (((p2).toInt64 &&& (255 : Int64)) * (256 : Int64))) + ((p3).toInt64 &&& (255 : Int64)))), .second, .unset]) rfl ?_
      exact k)⟩
  have z18 : n0 ≤ (h15).size := (Nat.le_trans (Nat.le_trans (Nat.le_trans (Nat.le_trans (Nat.le_trans (Nat.le_trans (Nat.le_trans (Nat.le_trans (Nat.le_trans (Nat.le_trans (Nat.le_trans (Nat.le_trans (Nat.le_trans Z0 E3.1) (Keep.of_wr W4).1) (Keep.of_wr W5).1) (Keep.of_wr W6).1) (Keep.of_wr W7).1) (Keep.of_wr W8).1) (Keep.of_wr W9).1) (Keep.of_wr W10).1) (Keep.of_wr W11).1) (Keep.of_wr W12).1) (Keep.of_wr W13).1) (Keep.of_wr W14).1) (Keep.of_wr W15).1)
  obtain ⟨_, _, ⟨T17, L17, k17, n17⟩, -, X17, ⟨Lc17, hQ17, l17, y17, z17⟩, st17⟩ := Jvm.LawKit.callS X15 hx (y := (⟨"com/example/unicopy/unicopy/Messages", "readInt", "([BI)I"⟩ : MethodName)) hown (mvT hZ (hw _ (List.mem_of_getElem? (i := 6) rfl))) (mvT hZ (hw _ (List.mem_of_getElem? (i := 7) rfl))) (mvT hZ (hw _ (List.mem_of_getElem? (i := 8) rfl))) (mvT hZ (hw _ (List.mem_of_getElem? (i := 9) rfl))) (by decide) (backOf (W := 0) (rm1 l Z aw hw [] (b3) (x6_9) (k3) ((8 : Int32)) (ws15) (h15) n0 z18 V15 (own_ix x6_9 hx6_9).1 (own_ix x6_9 hx6_9).2.1 (own_ix x6_9 hx6_9).2.2.1 (own_ix x6_9 hx6_9).2.2.2) hZ (hw _ (List.mem_of_getElem? (i := 9) rfl)) (hw _ (List.mem_of_getElem? (i := 8) rfl)) (by decide) (by decide)) (g := (mkF m 149 #[.val (.int p0), .val (.int p1), .val (.int p2), .val (.int p3), .val (.int p4), .val (.int p5), .val (.int x6_9), .val (.int x7_14), .val (.ref b3), .val (.long x9_145), .second, .unset] [(.int x6_9), (.ref b3)])) rfl (by rw [hml]; rfl) (argsL := [(.ref b3), (.int x6_9)]) (rest := []) (lenOf pd_0 rfl) rfl (by show 2 * 0 + _ ≤ _; exact Nat.le_of_eq rfl) (hb hby at_149) (fun _ _ => ⟨rfl, e15, (by decide : 1 + 0 ≤ _), (by decide : 8 + 0 ≤ _)⟩)
  dsimp only [Pt.U, Pt.locs, Pt.cells, Pt.slots] at X17 l17 y17 z17 st17 hQ17
  subst l17 y17 z17
  obtain ⟨rfl, Nq17, eq17⟩ := hQ17
  have N17 := Fr.app N15 Nq17
  obtain ⟨x11_154, hx11_154, pre19⟩ : ∃ z : Int32, z = (own_f1 x6_9 ws15) ∧ own_Pre p e below (s₁.setTop (entryFrame m #[(.int p0), (.int p1), (.int p2), (.int p3), (.int p4), (.int p5)] maxLocals)) (T17.setTop (mkF m 154 #[.val (.int p0), .val (.int p1), .val (.int p2), .val (.int p3), .val (.int p4), .val (.int p5), .val (.int x6_9), .val (.int x7_14), .val (.ref b3), .val (.long x9_145), .second, .val (.int z)] [])) := ⟨_, rfl, fun t k => pre16 t (by
      show Steps p.tables e below (T15.setTop (mkF m 145 #[.val (.int p0), .val (.int p1), .val (.int p2), .val (.int p3), .val (.int p4), .val (.int p5), .val (.int x6_9), .val (.int x7_14), .val (.ref b3), .val (.long x9_145), .second, .unset] [])) _
      refine XS.aload X15.here hx rfl (hb hby at_145) rfl rfl ?_
      show Steps p.tables e below (T15.setTop (mkF m 147 #[.val (.int p0), .val (.int p1), .val (.int p2), .val (.int p3), .val (.int p4), .val (.int p5), .val (.int x6_9), .val (.int x7_14), .val (.ref b3), .val (.long x9_145), .second, .unset] [(.ref b3)])) _
      refine XS.iload X15.here hx rfl (hb hby at_147) rfl ?_
      show Steps p.tables e below (T15.setTop (mkF m 149 #[.val (.int p0), .val (.int p1), .val (.int p2), .val (.int p3), .val (.int p4), .val (.int p5), .val (.int x6_9), .val (.int x7_14), .val (.ref b3), .val (.long x9_145), .second, .unset] [(.int x6_9), (.ref b3)])) _
      refine st17 _ ?_
      show Steps p.tables e below (T17.setTop (mkF m 152 #[.val (.int p0), .val (.int p1), .val (.int p2), .val (.int p3), .val (.int p4), .val (.int p5), .val (.int x6_9), .val (.int x7_14), .val (.ref b3), .val (.long x9_145), .second, .unset] [(.int (own_f1 x6_9 ws15))])) _
      refine XS.istore X17.here hx rfl (hb hby at_152) rfl (l' := #[.val (.int p0), .val (.int p1), .val (.int p2), .val (.int p3), .val (.int p4), .val (.int p5), .val (.int x6_9), .val (.int x7_14), .val (.ref b3), .val (.long x9_145), .second, .val (.int (own_f1 x6_9 ws15))]) rfl ?_
      exact k)⟩
  have hc164 : (((x11_154).toInt64 &&& (4294967295 : Int64)) = x9_145) := by rw [hx11_154, hx9_145]; subst hws15 hws14 hws13 hws12 hws11 hws10 hws9 hws8 hws7 hws6 hws5 hws4; exact own_plain _ _ _ _ _ _ hx6_9
  obtain ⟨fs, hr, hrun, hended, hW, hsame⟩ := X17.leave (v := some (.int (1 : Int32))) (fun h => by rw [Bd.returns] at h; cases h)
  refine ⟨_, _, pre19 _ ?_, hrun, hended, _, _, rfl, ?_, ⟨_, rfl⟩, hW, hsame.mono (by decide) (by decide)⟩
  · show Steps p.tables e below (T17.setTop (mkF m 154 #[.val (.int p0), .val (.int p1), .val (.int p2), .val (.int p3), .val (.int p4), .val (.int p5), .val (.int x6_9), .val (.int x7_14), .val (.ref b3), .val (.long x9_145), .second, .val (.int x11_154)] [])) _
    refine XS.iload X17.here hx rfl (hb hby at_154) rfl ?_
    show Steps p.tables e below (T17.setTop (mkF m 156 #[.val (.int p0), .val (.int p1), .val (.int p2), .val (.int p3), .val (.int p4), .val (.int p5), .val (.int x6_9), .val (.int x7_14), .val (.ref b3), .val (.long x9_145), .second, .val (.int x11_154)] [(.int x11_154)])) _
    refine XS.i2l X17.here hx rfl (hb hby at_156) rfl ?_
    show Steps p.tables e below (T17.setTop (mkF m 157 #[.val (.int p0), .val (.int p1), .val (.int p2), .val (.int p3), .val (.int p4), .val (.int p5), .val (.int x6_9), .val (.int x7_14), .val (.ref b3), .val (.long x9_145), .second, .val (.int x11_154)] [(.long (x11_154).toInt64)])) _
    refine X17.ldc2Long hx hown (mvT hZ (hw _ (List.mem_of_getElem? (i := 10) rfl))) (g := (mkF m 157 #[.val (.int p0), .val (.int p1), .val (.int p2), .val (.int p3), .val (.int p4), .val (.int p5), .val (.int x6_9), .val (.int x7_14), .val (.ref b3), .val (.long x9_145), .second, .val (.int x11_154)] [(.long (x11_154).toInt64)])) rfl (hb hby at_157) _ ?_
    show Steps p.tables e below (T17.setTop (mkF m 160 #[.val (.int p0), .val (.int p1), .val (.int p2), .val (.int p3), .val (.int p4), .val (.int p5), .val (.int x6_9), .val (.int x7_14), .val (.ref b3), .val (.long x9_145), .second, .val (.int x11_154)] [(.long (4294967295 : Int64)), (.long (x11_154).toInt64)])) _
    refine XS.land X17.here hx rfl (hb hby at_160) rfl ?_
    show Steps p.tables e below (T17.setTop (mkF m 161 #[.val (.int p0), .val (.int p1), .val (.int p2), .val (.int p3), .val (.int p4), .val (.int p5), .val (.int x6_9), .val (.int x7_14), .val (.ref b3), .val (.long x9_145), .second, .val (.int x11_154)] [(.long ((x11_154).toInt64 &&& (4294967295 : Int64)))])) _
    refine XS.lload X17.here hx rfl (hb hby at_161) rfl ?_
    show Steps p.tables e below (T17.setTop (mkF m 163 #[.val (.int p0), .val (.int p1), .val (.int p2), .val (.int p3), .val (.int p4), .val (.int p5), .val (.int x6_9), .val (.int x7_14), .val (.ref b3), .val (.long x9_145), .second, .val (.int x11_154)] [(.long x9_145), (.long ((x11_154).toInt64 &&& (4294967295 : Int64)))])) _
    refine XS.lcmp X17.here hx rfl (hb hby at_163) rfl ?_
    show Steps p.tables e below (T17.setTop (mkF m 164 #[.val (.int p0), .val (.int p1), .val (.int p2), .val (.int p3), .val (.int p4), .val (.int p5), .val (.int x6_9), .val (.int x7_14), .val (.ref b3), .val (.long x9_145), .second, .val (.int x11_154)] [(.int (lcmpW ((x11_154).toInt64 &&& (4294967295 : Int64)) x9_145))])) _
    refine XS.ifNo X17.here hx rfl (hb hby at_164) rfl ((if0 _ _).trans (teq ((lw_eq _ _).mpr hc164)).2) ?_
    show Steps p.tables e below (T17.setTop (mkF m 167 #[.val (.int p0), .val (.int p1), .val (.int p2), .val (.int p3), .val (.int p4), .val (.int p5), .val (.int x6_9), .val (.int x7_14), .val (.ref b3), .val (.long x9_145), .second, .val (.int x11_154)] [])) _
    refine XS.iconst X17.here hx rfl (hb hby at_167) ?_
    show Steps p.tables e below (T17.setTop (mkF m 168 #[.val (.int p0), .val (.int p1), .val (.int p2), .val (.int p3), .val (.int p4), .val (.int p5), .val (.int x6_9), .val (.int x7_14), .val (.ref b3), .val (.long x9_145), .second, .val (.int x11_154)] [(.int (1 : Int32))])) _
    refine XS.goto X17.here hx rfl (pc0 := 168) (pc' := 172) rfl (hb hby at_168) (by decide) (by decide) ?_
    show Steps p.tables e below (T17.setTop (mkF m 172 #[.val (.int p0), .val (.int p1), .val (.int p2), .val (.int p3), .val (.int p4), .val (.int p5), .val (.int x6_9), .val (.int x7_14), .val (.ref b3), .val (.long x9_145), .second, .val (.int x11_154)] [(.int (1 : Int32))])) _
    exact retN X17 hx (t := .boolean) Bd.returns (by simp) (hb hby at_172) hr
  · show Q0 Z p0 p1 p2 p3 p4 p5 h0 n0 _ T17.heap _
    rw [eq17]
    unfold Q0
    refine ⟨rfl, N17⟩
set_option maxRecDepth 65536 in
set_option maxHeartbeats 40000000 in
theorem comes_1 {Post : Tables → Env → Array Value → State → Outcome → State → Prop} (hpost : ∀ tb e args s v u, (limb_1_1.after args s (.returned v) u = true ∧ limb_1_2.after args s (.returned v) u = true ∧ True) → FrameEnd s (.returned v) u (Jvm.fieldLocs frame_1_writes args s ++ Jvm.arrayLocs frame_1_arrays args s ++ Jvm.staticLocs frame_1_statics s) 16 128 → Post tb e args s (.returned v) u) :
    ArmFor flags0 classFile x code maxLocals ret World_1 tables_1 room_1 Calls_1 rest_1 Pre_1 Post := by
  intro l hfl _ _ p e ha hc hk s m args below hf hA hF happ hP
  obtain ⟨hcalls, hrest, hpre⟩ := hP
  obtain ⟨-, -, -, hnamed, -, -, -, hat⟩ := (Spec.applies_iff hf).mp happ
  obtain ⟨hg, hn⟩ := and_e (Cond.before_iff.mp (show (Jvm.Cond.and given_1 narrow_1).before args s = true from hpre))
  obtain ⟨gv1, gv2⟩ := and_e hg
  obtain ⟨gv3, gv4⟩ := and_e gv2
  obtain ⟨gv5, gv6⟩ := and_e gv4
  obtain ⟨gv7, gv8⟩ := and_e gv6
  obtain ⟨gv9, gv10⟩ := and_e gv8
  obtain ⟨gv11, gv12⟩ := and_e gv10
  obtain ⟨w0, w1, w2, w3, w4, w5, rfl⟩ : ∃ w0 w1 w2 w3 w4 w5 : Value, args = #[w0, w1, w2, w3, w4, w5] := by
    have hs : args.size = 6 := by simpa [Cond.value, given_1] using gv1
    obtain ⟨L⟩ := args
    match L, hs with
    | [w0, w1, w2, w3, w4, w5], _ => exact ⟨w0, w1, w2, w3, w4, w5, rfl⟩
  have hw := fun d (hd : d ∈ tables_1) => atoms_spec (ws := Jvm.Cond.code x code maxLocals ret :: tables_1) hat d (List.mem_cons_of_mem _ hd)
  obtain ⟨i0, ei0⟩ := is_v gv3
  obtain rfl : w0 = (.int i0) := Option.some.inj ei0
  obtain ⟨i1, ei1⟩ := is_v gv5
  obtain rfl : w1 = (.int i1) := Option.some.inj ei1
  obtain ⟨i2, ei2⟩ := is_v gv7
  obtain rfl : w2 = (.int i2) := Option.some.inj ei2
  obtain ⟨i3, ei3⟩ := is_v gv9
  obtain rfl : w3 = (.int i3) := Option.some.inj ei3
  obtain ⟨i4, ei4⟩ := is_v gv11
  obtain rfl : w4 = (.int i4) := Option.some.inj ei4
  obtain ⟨i5, ei5⟩ := is_v gv12
  obtain rfl : w5 = (.int i5) := Option.some.inj ei5
  obtain ⟨n, o, h1, h2, h3, _, L, rfl, ⟨rfl, N⟩, hq⟩ := rm0 l s _ hw tables_1 i0 i1 i2 i3 i4 i5 s.heap s.heap.size (Nat.le_refl _) p e ha hc hk s m _ below hf ((Spec.applies_iff_loose hf).mp happ).1 ⟨rfl, State.Warmed39.refl s, rfl⟩ trivial
  refine ⟨n, _, h1, h2, h3, hpost _ _ _ _ _ _ ⟨Cond.after_iff.mpr rfl, Cond.after_iff.mpr (eq_i res_at (Term.int_eval (1)) rfl), trivial⟩ ⟨hq.1, hq.2.1, (hq.2.2.sift fun y hy => Or.inr (N y hy)).mono (by decide) (by decide)⟩⟩
theorem main_1_1 : Claimed_1_1 := comes_1 fun _ _ _ _ _ _ h hF => ⟨h.1, hF⟩
theorem main_1_2 : Claimed_1_2 := comes_1 fun _ _ _ _ _ _ h hF => ⟨h.2.1, hF⟩
end Jvm.Pilot.@@N@@
namespace Jvm.Pilot.@@N@@
open Jvm Jvm.ClassFile Sem Op Lib Jvm.Free Jvm.Stand Jvm.Pilot.@@N@@.Jvm.D
/-! MADE BY PROGRAM (witnessworld.py) out of the Statement's table words and the real class files: 9 classes; the members and pool entries that the words name. The judged class is class 1, her method 1. -/
namespace start1
open Jvm.ClassFile
def u (s : String) : CpInfo := .utf8 (stringToUtf16 s)
/-- a pool by its gaps: so many unusable entries, then the entry; so many at the end -/
def gap : Nat → List CpInfo → List CpInfo
  | 0, r => r
  | n + 1, r => .unusable :: gap n r
def poolList (es : List (Nat × CpInfo)) (last : Nat) : List CpInfo := es.foldr (fun e r => gap e.1 (e.2 :: r)) (gap last [])
def pool (es : List (Nat × CpInfo)) (last : Nat) : Array CpInfo := ⟨poolList es last⟩
def fileOf (pool : Array CpInfo) (this : Nat) (attrs : Array Attribute := #[]) (ms : Array MethodInfo := #[]) (fl : Nat := 33) (sup : Nat := 0) (ifs : Array Nat := #[]) (fds : Array FieldInfo := #[]) : ClassFile where
  minorVersion := 0
  majorVersion := 65
  constantPool := pool
  accessFlags := fl
  thisClass := this
  superClass := sup
  interfaces := ifs
  fields := fds
  methods := ms
  attributes := attrs
def plain (name : String) (sup : Option ClassId) : Class where
  name := name
  kind := .ordinary
  loader := none
  accessFlags := 33
  super := sup
  interfaces := #[]
  cf := none
  fields := #[]
  methods := #[]
  instanceTypes := #[]
  staticTypes := #[]
  resolved := #[]
  callSites := []
  init := .initialized
  statics := none
  mirror := none

def pool0 : Array CpInfo := pool [(5, u "<init>"), (0, u "()V"), (1, .class_ 10), (1, u "java/lang/Object")] 113

def k0m0 : Method := { name := "<init>", desc := "()V", sig := { parameters := [], returnType := none }, accessFlags := 1, code := none }
/-- java/lang/Object -/
def k0 : Class := { plain "java/lang/Object" none with
  accessFlags := 33
  interfaces := #[]
  cf := some (fileOf pool0 8 #[] #[{ accessFlags := 1, nameIndex := 5, descriptorIndex := 6, attributes := #[] }] 33 0 #[] #[])
  fields := #[]
  methods := #[k0m0]
  instanceTypes := #[]
  staticTypes := #[]
  resolved := Array.replicate 124 none
  statics := none }

def pool1 : Array CpInfo := pool [(2, .class_ 4), (1, u "java/lang/Object"), (0, u "<init>"), (0, u "()V"), (0, .integer 2147483647), (0, .long 255), (1, .long 16777216), (1, .long 65536), (1, .long 256), (1, .methodref 17 18), (0, .class_ 19), (0, .nameAndType 20 21), (0, u "com/example/unicopy/unicopy/Messages"), (0, u "readInt"), (0, u "([BI)I"), (0, .long 4294967295), (1, .class_ 25), (0, u "com/example/unicopy/unicopy/MessagesReadIntPinLaw"), (2, u "law"), (0, u "(IIIIII)Z")] 5

def k1m0 : Method := { name := "<init>", desc := "()V", sig := { parameters := [], returnType := none }, accessFlags := 1, code := none }
def k1c1 : Code := { maxStack := 6, maxLocals := 12, code := code, exceptionTable := #[], attributes := #[] }
def k1m1 : Method := { name := "law", desc := "(IIIIII)Z", sig := { parameters := [.int, .int, .int, .int, .int, .int], returnType := some .boolean }, accessFlags := 9, code := some k1c1 }
/-- com/example/unicopy/unicopy/MessagesReadIntPinLaw -/
def k1 : Class := { plain "com/example/unicopy/unicopy/MessagesReadIntPinLaw" (some 0) with
  accessFlags := 49
  interfaces := #[]
  cf := some (fileOf pool1 24 #[] #[{ accessFlags := 1, nameIndex := 5, descriptorIndex := 6, attributes := #[] }, { accessFlags := 9, nameIndex := 28, descriptorIndex := 29, attributes := #[] }] 49 2 #[] #[])
  fields := #[]
  methods := #[k1m0, k1m1]
  instanceTypes := #[]
  staticTypes := #[]
  resolved := Array.replicate 35 none
  statics := none }

def pool2 : Array CpInfo := pool [(2, .class_ 4), (1, u "java/lang/Object"), (0, u "<init>"), (0, u "()V"), (1, .class_ 10), (1, u "com/example/unicopy/unicopy/Messages"), (37, u "BUFFER_SIZE"), (0, u "I"), (4, u "readInt"), (0, u "([BI)I"), (10, .class_ 67), (0, u "com/example/unicopy/unicopy/Messages$MessageInput")] 2

def k2m0 : Method := { name := "<init>", desc := "()V", sig := { parameters := [], returnType := none }, accessFlags := 2, code := none }
def k2c1 : Code := { maxStack := 4, maxLocals := 2, code := prog_17_method_2_code, exceptionTable := #[], attributes := #[] }
def k2m1 : Method := { name := "readInt", desc := "([BI)I", sig := { parameters := [(.array .byte), .int], returnType := some .int }, accessFlags := 8, code := some k2c1 }
/-- com/example/unicopy/unicopy/Messages -/
def k2 : Class := { plain "com/example/unicopy/unicopy/Messages" (some 0) with
  accessFlags := 48
  interfaces := #[]
  cf := some (fileOf pool2 8 #[.nestMembers #[66]] #[{ accessFlags := 2, nameIndex := 5, descriptorIndex := 6, attributes := #[] }, { accessFlags := 8, nameIndex := 54, descriptorIndex := 55, attributes := #[] }] 48 2 #[] #[{ accessFlags := 24, nameIndex := 48, descriptorIndex := 49, attributes := #[] }])
  fields := #[{ name := "BUFFER_SIZE", type := .int, accessFlags := 24, slot := 0, constantValue := 0 }]
  methods := #[k2m0, k2m1]
  instanceTypes := #[]
  staticTypes := #[.int]
  resolved := Array.replicate 70 none
  statics := none }

def pool3 : Array CpInfo := pool [(1, u "java/lang/Cloneable"), (0, .class_ 1), (0, u "java/lang/Object"), (0, .class_ 3)] 3

/-- java/lang/Cloneable -/
def k3 : Class := { plain "java/lang/Cloneable" (some 0) with
  accessFlags := 1537
  interfaces := #[]
  cf := some (fileOf pool3 2 #[] #[] 1537 4 #[] #[])
  fields := #[]
  methods := #[]
  instanceTypes := #[]
  staticTypes := #[]
  resolved := Array.replicate 8 none
  statics := none }

def pool4 : Array CpInfo := pool [(1, u "java/io/Serializable"), (0, .class_ 1), (0, u "java/lang/Object"), (0, .class_ 3)] 3

/-- java/io/Serializable -/
def k4 : Class := { plain "java/io/Serializable" (some 0) with
  accessFlags := 1537
  interfaces := #[]
  cf := some (fileOf pool4 2 #[] #[] 1537 4 #[] #[])
  fields := #[]
  methods := #[]
  instanceTypes := #[]
  staticTypes := #[]
  resolved := Array.replicate 8 none
  statics := none }

/-- the primitive byte -/
def k5 : Class := { plain "byte" none with kind := .primitive 'B', accessFlags := 0x411 }
/-- [B -/
def k6 : Class := { plain "[B" (some 0) with kind := .array 5 .byte, interfaces := #[3, 4], accessFlags := 1041 }

/-- the primitive int -/
def k7 : Class := { plain "int" none with kind := .primitive 'I', accessFlags := 0x411 }
/-- [I -/
def k8 : Class := { plain "[I" (some 0) with kind := .array 7 .int, interfaces := #[3, 4], accessFlags := 1041 }

def heap : Heap := #[]
def classes : Array Class := #[k0, k1, k2, k3, k4, k5, k6, k7, k8]
def interned : List (Array UInt16 × Addr) := []
def slotsUsed : Nat := 0
def theMethod : MethodId := ⟨1, 1⟩
def args0 : Array Value := #[.int 1, .int 2, .int 3, .int 4, .int 5, .int 6]
def aboutOver (below : List Frame) : State where
  vm := { classes := classes, interned := interned.toArray }
  heap := heap
  slotsUsed := slotsUsed
  threads := #[{ frames := .invoking theMethod args0 :: below }]
def below0 : List Frame := [.native { method := ⟨0, 0⟩, args := #[] }]
def about1 : State := aboutOver below0
def p0 : Program := .bare "" "" ""
def e0 : Env := launch0.env 0 0 0
theorem w_frames : about1.frames = Frame.invoking theMethod args0 :: below0 := rfl
set_option maxRecDepth 65536 in
theorem w_args : argsFit about1.vm theMethod args0 = true := by decide +kernel
set_option maxRecDepth 65536 in
theorem w_heap : heapFits about1 = true := by decide +kernel
set_option maxRecDepth 65536 in
theorem w_runnable : about1.curStatus? = some .runnable := by decide +kernel
set_option maxRecDepth 65536 in
theorem w_alone : about1.alone = true := by decide +kernel
set_option maxRecDepth 65536 in
theorem w_named : about1.methodNamed? x = some theMethod := by decide +kernel
set_option maxRecDepth 65536 in
theorem w_hears : about1.hears theMethod below0 = true := by decide +kernel
set_option maxRecDepth 65536 in
theorem w_ripe : about1.ripe theMethod args0 below0 = true := by decide +kernel
theorem w_running : about1.status = .running := rfl
set_option maxRecDepth 65536 in
theorem w_room : about1.hasRoom e0.platform room_1 = true :=
  launch0.hasRoom_least _ room_1 (by decide +kernel) (by decide +kernel) (by decide +kernel) (by decide +kernel) (by decide +kernel) (by decide +kernel)
theorem allAtoms_all (ts : List Jvm.Cond) (a : Array Jvm.Value) (st : Jvm.State) : (allAtoms ts).before a st = ts.all (fun c => c.before a st) := by
  induction ts with
  | nil => rfl
  | cons c t ih =>
    show (Jvm.Cond.and c (allAtoms t)).before a st = _
    rw [Jvm.Cond.before_and, ih, List.all_cons]
def words1 : List Jvm.Cond := Jvm.Cond.code x code maxLocals ret :: tables_1
/-- a 'code' word, met by the world's own term for the bytes: nothing is compared byte by byte -/
theorem code_word {y : MethodName} {bytes : ByteArray} {mx : Nat} {rt : Option FieldType} {a : Array Value} {s : State} {m : MethodId} {meth : Method} {c : Code} (h1 : s.methodNamed? y = some m) (h2 : s.vm.method? m = some meth) (h3 : meth.code = some c) (h4 : c.code = bytes)
    (h5 : (c.maxLocals == mx && c.exceptionTable.isEmpty && decide (c.maxStack ≤ mostOperands) && decide (meth.sig.returnType = rt) && !meth.locks && decide (parseMethodDescriptor y.desc = some meth.sig)) = true) : (Jvm.Cond.code y bytes mx rt).before a s = true := by
  simp only [Bool.and_eq_true, beq_iff_eq, Bool.not_eq_true', decide_eq_true_eq] at h5
  obtain ⟨⟨⟨⟨⟨g1, g2⟩, g3⟩, g4⟩, g5⟩, g6⟩ := h5
  simp [Cond.before, Cond.holds, Cond.value, h1, h2, h3, h4, g1, g2, g3, g4, g5, g6]
def isCode : Jvm.Cond → Bool
  | .code _ _ _ _ => true
  | _ => false
theorem all_split {L : List Jvm.Cond} {P : Jvm.Cond → Bool} (h1 : L.all (fun c => isCode c || P c) = true) (h2 : ∀ c ∈ L.filter isCode, P c = true) : L.all P = true := by
  refine List.all_eq_true.mpr fun c hc => ?_
  have h := List.all_eq_true.mp h1 c hc
  rcases Bool.eq_false_or_eq_true (isCode c) with hi | hi
  · exact h2 c (List.mem_filter.mpr ⟨hc, hi⟩)
  · simpa [hi] using h
set_option maxRecDepth 65536 in
theorem w_c0 : (Jvm.Cond.code x code maxLocals ret).before args0 about1 = true := code_word (m := ⟨1, 1⟩) (meth := k1m1) (c := k1c1) (by decide +kernel) rfl rfl rfl (by decide +kernel)
set_option maxRecDepth 65536 in
theorem w_c1 : (Jvm.Cond.code ({ cls := "com/example/unicopy/unicopy/Messages", name := "readInt", desc := "([BI)I" } : Jvm.MethodName) prog_17_method_2_code (2 : Nat) (Option.some Jvm.ClassFile.FieldType.int)).before args0 about1 = true := code_word (m := ⟨2, 1⟩) (meth := k2m1) (c := k2c1) (by decide +kernel) rfl rfl rfl (by decide +kernel)
def codes1 : List Jvm.Cond := [Jvm.Cond.code x code maxLocals ret, Jvm.Cond.code ({ cls := "com/example/unicopy/unicopy/Messages", name := "readInt", desc := "([BI)I" } : Jvm.MethodName) prog_17_method_2_code (2 : Nat) (Option.some Jvm.ClassFile.FieldType.int)]
set_option maxRecDepth 65536 in
theorem codes_eq : words1.filter isCode = codes1 := rfl
theorem w_codes : ∀ c ∈ words1.filter isCode, c.before args0 about1 = true := by
  rw [codes_eq]
  intro c hc
  simp only [codes1, List.mem_cons, List.not_mem_nil, or_false] at hc
  rcases hc with rfl | rfl
  · exact w_c0
  · exact w_c1
set_option maxRecDepth 65536 in
theorem w_t1 : words1.all (fun c => isCode c || c.before args0 about1) = true := by decide +kernel
theorem w_tables : (allAtoms (Jvm.Cond.code x code maxLocals ret :: tables_1)).before args0 about1 = true := by
  rw [allAtoms_all]
  show words1.all (fun c => c.before args0 about1) = true
  refine all_split ?_ w_codes
  rw [w_t1]
set_option maxRecDepth 65536 in
theorem w_case : (Jvm.Cond.and given_1 narrow_1).before args0 about1 = true := by decide +kernel
theorem w_applies : (headSpec (Jvm.Cond.code x code maxLocals ret :: tables_1) room_1).applies x e0.platform about1 = true :=
  (Spec.applies_iff w_frames).mpr ⟨w_running, w_runnable, w_alone, w_named, w_hears, w_ripe, w_room, w_tables⟩
theorem atStart : AtStart classFile x code maxLocals ret World_1 tables_1 room_1 Calls_1 rest_1 Pre_1 launch0 p0 e0 about1 theMethod args0 below0 :=
  ⟨lists_1, trivial, launch0.admits_env _ _ _, launch0.least_env, fairChoices_fair.cas, fairChoices_fair.clock, w_frames, w_args, w_heap, w_applies, trivial, trivial, w_case⟩
end start1
theorem witness_1 : WitnessClaimed_1 := ⟨start1.p0, start1.e0, start1.about1, start1.theMethod, start1.args0, start1.below0, start1.atStart⟩
end Jvm.Pilot.@@N@@
