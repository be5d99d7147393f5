import JvmDerived
import JvmDerived.Pilot.@@N@@Statement
import JvmDerived.Pilot.@@N@@Code
set_option linter.unusedVariables false
set_option linter.unusedSimpArgs false
namespace Jvm.RoadKit
open Sem ClassFile Op Lib Jvm.Stand Jvm.Free Jvm.LawKit
section New
variable {p : Program} {l : Launch} {e : Env} {R : Room} {s : State} {m : MethodId} {args : Array Value} {below : List Frame} {meth : Method} {c : Code} {T : State} {locs : List Loc} {cells slots : Nat}
theorem retI (X : Stand p l e R s m args below meth c T locs cells slots) (hx : p.tables.exec = Jvm.exec) {pc : Nat} {Ls : Array Slot} {z : Int32} {rest : List Value} (hret : meth.sig.returnType = some .int) (hd : decode c.code pc = .ok (.ireturn, 1)) {fs : List Frame}
    (hl : ∀ (f : JFrame) (acts : List Action), f.method = m → f.locked = none → f.entered = [] → (doReturn e (T.setTop f) acts (some (.int z))).1 = T.setFrames fs) : Steps p.tables e below (T.setTop (mkF m pc Ls (.int z :: rest))) (T.setFrames fs) := by
  have hm' : T.vm.method? m = some meth := X.method'
  have hn : narrow .int (.int z) = .int z := rfl
  show Steps p.tables e below (T.setTop { method := m, pc := pc, locals := Ls, stack := _ :: rest, locked := none }) _
  jvm_step X.here [X.here.top, hx, hd, hm', hret, hn]
  first | (intro acts; rw [hl _ acts rfl rfl rfl]) | rw [hl _ _ rfl rfl rfl]
  exact Steps.refl _
theorem retJ (X : Stand p l e R s m args below meth c T locs cells slots) (hx : p.tables.exec = Jvm.exec) {pc : Nat} {Ls : Array Slot} {z : Int64} {rest : List Value} (hret : meth.sig.returnType = some .long) (hd : decode c.code pc = .ok (.lreturn, 1)) {fs : List Frame}
    (hl : ∀ (f : JFrame) (acts : List Action), f.method = m → f.locked = none → f.entered = [] → (doReturn e (T.setTop f) acts (some (.long z))).1 = T.setFrames fs) : Steps p.tables e below (T.setTop (mkF m pc Ls (.long z :: rest))) (T.setFrames fs) := by
  have hm' : T.vm.method? m = some meth := X.method'
  have hn : narrow .long (.long z) = .long z := rfl
  show Steps p.tables e below (T.setTop { method := m, pc := pc, locals := Ls, stack := _ :: rest, locked := none }) _
  jvm_step X.here [X.here.top, hx, hd, hm', hret, hn]
  first | (intro acts; rw [hl _ acts rfl rfl rfl]) | rw [hl _ _ rfl rfl rfl]
  exact Steps.refl _
theorem retR (X : Stand p l e R s m args below meth c T locs cells slots) (hx : p.tables.exec = Jvm.exec) {pc : Nat} {Ls : Array Slot} {v : Value} {rest : List Value} (hv : v.isRef = true) {ty : FieldType} (hret : meth.sig.returnType = some ty) (ht : ty.isReference = true) (hd : decode c.code pc = .ok (.areturn, 1)) {fs : List Frame}
    (hl : ∀ (f : JFrame) (acts : List Action), f.method = m → f.locked = none → f.entered = [] → (doReturn e (T.setTop f) acts (some v)).1 = T.setFrames fs) : Steps p.tables e below (T.setTop (mkF m pc Ls (v :: rest))) (T.setFrames fs) := by
  have hm' : T.vm.method? m = some meth := X.method'
  show Steps p.tables e below (T.setTop { method := m, pc := pc, locals := Ls, stack := _ :: rest, locked := none }) _
  jvm_step X.here [X.here.top, hx, hd, hm', hret, hv, ht]
  first | (intro acts; rw [hl _ acts rfl rfl rfl]) | rw [hl _ _ rfl rfl rfl]
  exact Steps.refl _
end New
end Jvm.RoadKit
namespace Jvm.Pilot.@@N@@
open Jvm Jvm.ClassFile Sem Op Lib Jvm.Free Jvm.Stand Jvm.LawKit Jvm.RoadKit Bundle Jvm.Pilot.@@N@@.Jvm.D
/-- from the state 'cur' on is enough -/
def own_Pre (p : Program) (e : Env) (below : List Frame) (start cur : State) : Prop := ∀ t, Steps p.tables e below cur t → Steps p.tables e below start t
/-- an array of ints (bytes, chars, booleans): its length z, its components ws (at least so many) -/
def own_AI (Z : State) (h : Heap) (a : Addr) (k : ClassId) (ty : FieldType) (z : Int32) (ws : List Int32) : Prop := Arv Z h a k ty z (ws.map Value.int) (.int 0) ∧ z.toNatClampNeg ≤ ws.length
def own_AJ (Z : State) (h : Heap) (a : Addr) (k : ClassId) (ty : FieldType) (z : Int32) (ws : List Int64) : Prop := Arv Z h a k ty z (ws.map Value.long) (.long 0) ∧ z.toNatClampNeg ≤ ws.length
section OwnA
variable {Z : State} {h h' : Heap} {a b : Addr} {k : ClassId} {ty : FieldType} {z : Int32} {ws : List Int32} {wl : List Int64} {sl : Nat} {v : Value} {L : List Addr}
theorem own_AI.lt (F : own_AI Z h a k ty z ws) : a < h.size := Arv.lt F.1
theorem own_AI.ext (F : own_AI Z h a k ty z ws) (E : Ext h h') : own_AI Z h' a k ty z ws := ⟨Arv.ext F.1 E, F.2⟩
theorem own_AI.other (F : own_AI Z h b k ty z ws) (W : Wr h h' a sl v) (q : b ≠ a) : own_AI Z h' b k ty z ws := ⟨Arv.other F.1 W q, F.2⟩
theorem own_AI.keep (F : own_AI Z h a k ty z ws) (K : Keep h h' L) (q : a ∉ L) : own_AI Z h' a k ty z ws := ⟨Arv.keep F.1 K q, F.2⟩
theorem own_AJ.lt (F : own_AJ Z h a k ty z wl) : a < h.size := Arv.lt F.1
theorem own_AJ.ext (F : own_AJ Z h a k ty z wl) (E : Ext h h') : own_AJ Z h' a k ty z wl := ⟨Arv.ext F.1 E, F.2⟩
theorem own_AJ.other (F : own_AJ Z h b k ty z wl) (W : Wr h h' a sl v) (q : b ≠ a) : own_AJ Z h' b k ty z wl := ⟨Arv.other F.1 W q, F.2⟩
theorem own_AJ.keep (F : own_AJ Z h a k ty z wl) (K : Keep h h' L) (q : a ∉ L) : own_AJ Z h' a k ty z wl := ⟨Arv.keep F.1 K q, F.2⟩
theorem own_AI.new (n : Nat) (A : Arr Z h a (newA k ty z) ty) (q : ¬ z < 0) (hn : z.toNatClampNeg ≤ n) (hd : defaultValue ty = .int 0) : own_AI Z h a k ty z (List.replicate n (0 : Int32)) := by
  have := Arv.new A q
  rw [hd] at this
  have r := this.pad (pad_rep [] (.int 0) n)
  exact ⟨by simpa [List.map_replicate] using r, by simpa using hn⟩
theorem own_AJ.new (n : Nat) (A : Arr Z h a (newA k ty z) ty) (q : ¬ z < 0) (hn : z.toNatClampNeg ≤ n) (hd : defaultValue ty = .long 0) : own_AJ Z h a k ty z (List.replicate n (0 : Int64)) := by
  have := Arv.new A q
  rw [hd] at this
  have r := this.pad (pad_rep [] (.long 0) n)
  exact ⟨by simpa [List.map_replicate] using r, by simpa using hn⟩
theorem own_getI (ws : List Int32) (i : Nat) : (ws.map Value.int).getD i (.int 0) = .int (ws.getD i 0) := by
  simp only [List.getD_eq_getElem?_getD, List.getElem?_map]
  cases ws[i]? <;> rfl
theorem own_getJ (ws : List Int64) (i : Nat) : (ws.map Value.long).getD i (.long 0) = .long (ws.getD i 0) := by
  simp only [List.getD_eq_getElem?_getD, List.getElem?_map]
  cases ws[i]? <;> rfl
theorem own_AI.at (F : own_AI Z h a k ty z ws) {j : Int32} (q : ¬ j < 0 ∧ j < z) : ∃ cl : Cell, Arr Z h a cl ty ∧ ¬ (j < 0 ∨ cl.slots.size ≤ j.toNatClampNeg) ∧ cl.slots[j.toNatClampNeg]? = some (.int (ws.getD j.toNatClampNeg 0)) := by
  obtain ⟨⟨cl, A, -, S, -, H, -⟩, -⟩ := F
  have hin := inb_of S q
  exact ⟨cl, A, hin, H.at hin (own_getI _ _)⟩
theorem own_AJ.at (F : own_AJ Z h a k ty z wl) {j : Int32} (q : ¬ j < 0 ∧ j < z) : ∃ cl : Cell, Arr Z h a cl ty ∧ ¬ (j < 0 ∨ cl.slots.size ≤ j.toNatClampNeg) ∧ cl.slots[j.toNatClampNeg]? = some (.long (wl.getD j.toNatClampNeg 0)) := by
  obtain ⟨⟨cl, A, -, S, -, H, -⟩, -⟩ := F
  have hin := inb_of S q
  exact ⟨cl, A, hin, H.at hin (own_getJ _ _)⟩
theorem own_AI.arr (F : own_AI Z h a k ty z ws) {j : Int32} (q : ¬ j < 0 ∧ j < z) : ∃ cl : Cell, Arr Z h a cl ty ∧ ¬ (j < 0 ∨ cl.slots.size ≤ j.toNatClampNeg) ∧ ∀ (h' : Heap) (x : Int32), fits ty (.int x) = true → Wr h h' a j.toNatClampNeg (.int x) → own_AI Z h' a k ty z (ws.set j.toNatClampNeg x) := by
  obtain ⟨⟨cl, A, q1, S, q3, H, G⟩, ln⟩ := F
  have hin := inb_of S q
  refine ⟨cl, A, hin, fun h' x hv W => ?_⟩
  have hl : j.toNatClampNeg < ws.length := by
    rcases Nat.lt_or_ge j.toNatClampNeg ws.length with u | u
    · exact u
    · exact absurd (Or.inr (by omega)) hin
  have := Arv.set A q1 S q3 H G hv W _ rfl (by simpa using hl)
  rw [← List.map_set] at this
  exact ⟨this, by simpa using ln⟩
theorem own_AJ.arr (F : own_AJ Z h a k ty z wl) {j : Int32} (q : ¬ j < 0 ∧ j < z) : ∃ cl : Cell, Arr Z h a cl ty ∧ ¬ (j < 0 ∨ cl.slots.size ≤ j.toNatClampNeg) ∧ ∀ (h' : Heap) (x : Int64), fits ty (.long x) = true → Wr h h' a j.toNatClampNeg (.long x) → own_AJ Z h' a k ty z (wl.set j.toNatClampNeg x) := by
  obtain ⟨⟨cl, A, q1, S, q3, H, G⟩, ln⟩ := F
  have hin := inb_of S q
  refine ⟨cl, A, hin, fun h' x hv W => ?_⟩
  have hl : j.toNatClampNeg < wl.length := by
    rcases Nat.lt_or_ge j.toNatClampNeg wl.length with u | u
    · exact u
    · exact absurd (Or.inr (by omega)) hin
  have := Arv.set A q1 S q3 H G hv W _ rfl (by simpa using hl)
  rw [← List.map_set] at this
  exact ⟨this, by simpa using ln⟩
theorem own_AI.len (F : own_AI Z h a k ty z ws) : ∃ cl : Cell, Arr Z h a cl ty ∧ cl.slots.size = z.toNatClampNeg ∧ ¬ z < 0 := by
  obtain ⟨⟨cl, A, -, S, q3, -, -⟩, -⟩ := F
  exact ⟨cl, A, S, q3⟩
theorem own_AJ.len (F : own_AJ Z h a k ty z wl) : ∃ cl : Cell, Arr Z h a cl ty ∧ cl.slots.size = z.toNatClampNeg ∧ ¬ z < 0 := by
  obtain ⟨⟨cl, A, -, S, q3, -, -⟩, -⟩ := F
  exact ⟨cl, A, S, q3⟩
end OwnA
/-- a private method selects itself, where another method of its class is known to be no interface's -/
theorem own_selp {s : State} {args args' : Array Value} {y z : MethodName} (hz : (Cond.selects z.cls z z).before args s = true) (hc : z.cls = y.cls) (hpriv : s.PrivateAt y) (hinst : (Cond.instanceMethod y).before args s = true) (hy : y.cls ≠ "java/lang/invoke/MethodHandle" ∧ y.cls ≠ "java/lang/invoke/VarHandle") : (Cond.selects y.cls y y).before args s = true := by
  obtain ⟨c2, r2, m2, -, -, q3, -, kP, hkP, hkPi⟩ := Cond.selects_spec hz
  have hf := findClass_of_methodNamed q3
  rw [hc] at hf
  exact selects_self_of_private hf hkP hkPi hpriv hinst hy
/-- what holds of every byte -/
theorem own_bytes {P : Int32 → Prop} (H : ∀ i : Fin 256, P (Int32.ofInt ((i.1 : Int) - 128))) (x : Int32) : P x.toInt8.toInt32 := by
  obtain ⟨-, h1, h2⟩ := c_i2b x
  have e : x.toInt8.toInt32 = Int32.ofInt (((⟨(x.toInt8.toInt32.toInt + 128).toNat, by omega⟩ : Fin 256).1 : Int) - 128) := by
    apply Int32.toInt_inj.mp
    show _ = (Int32.ofInt (((x.toInt8.toInt32.toInt + 128).toNat : Int) - 128)).toInt
    rw [Int32.toInt_ofInt_of_le (by omega) (by omega)]
    omega
  rw [e]
  exact H _


theorem d1_0 : decode prog_17_method_3_code 0 = .ok (.aload_n 0, 1) := by decide +kernel
theorem d1_1 : decode prog_17_method_3_code 1 = .ok (.iload_n 1, 1) := by decide +kernel
theorem d1_2 : decode prog_17_method_3_code 2 = .ok (.iload_n 2, 1) := by decide +kernel
theorem d1_3 : decode prog_17_method_3_code 3 = .ok (.bipush 24, 2) := by decide +kernel
theorem d1_5 : decode prog_17_method_3_code 5 = .ok (.iushr, 1) := by decide +kernel
theorem d1_6 : decode prog_17_method_3_code 6 = .ok (.i2b, 1) := by decide +kernel
theorem d1_7 : decode prog_17_method_3_code 7 = .ok (.bastore, 1) := by decide +kernel
theorem d1_8 : decode prog_17_method_3_code 8 = .ok (.aload_n 0, 1) := by decide +kernel
theorem d1_9 : decode prog_17_method_3_code 9 = .ok (.iload_n 1, 1) := by decide +kernel
theorem d1_10 : decode prog_17_method_3_code 10 = .ok (.iconst 1, 1) := by decide +kernel
theorem d1_11 : decode prog_17_method_3_code 11 = .ok (.iadd, 1) := by decide +kernel
theorem d1_12 : decode prog_17_method_3_code 12 = .ok (.iload_n 2, 1) := by decide +kernel
theorem d1_13 : decode prog_17_method_3_code 13 = .ok (.bipush 16, 2) := by decide +kernel
theorem d1_15 : decode prog_17_method_3_code 15 = .ok (.iushr, 1) := by decide +kernel
theorem d1_16 : decode prog_17_method_3_code 16 = .ok (.i2b, 1) := by decide +kernel
theorem d1_17 : decode prog_17_method_3_code 17 = .ok (.bastore, 1) := by decide +kernel
theorem d1_18 : decode prog_17_method_3_code 18 = .ok (.aload_n 0, 1) := by decide +kernel
theorem d1_19 : decode prog_17_method_3_code 19 = .ok (.iload_n 1, 1) := by decide +kernel
theorem d1_20 : decode prog_17_method_3_code 20 = .ok (.iconst 2, 1) := by decide +kernel
theorem d1_21 : decode prog_17_method_3_code 21 = .ok (.iadd, 1) := by decide +kernel
theorem d1_22 : decode prog_17_method_3_code 22 = .ok (.iload_n 2, 1) := by decide +kernel
theorem d1_23 : decode prog_17_method_3_code 23 = .ok (.bipush 8, 2) := by decide +kernel
theorem d1_25 : decode prog_17_method_3_code 25 = .ok (.iushr, 1) := by decide +kernel
theorem d1_26 : decode prog_17_method_3_code 26 = .ok (.i2b, 1) := by decide +kernel
theorem d1_27 : decode prog_17_method_3_code 27 = .ok (.bastore, 1) := by decide +kernel
theorem d1_28 : decode prog_17_method_3_code 28 = .ok (.aload_n 0, 1) := by decide +kernel
theorem d1_29 : decode prog_17_method_3_code 29 = .ok (.iload_n 1, 1) := by decide +kernel
theorem d1_30 : decode prog_17_method_3_code 30 = .ok (.iconst 3, 1) := by decide +kernel
theorem d1_31 : decode prog_17_method_3_code 31 = .ok (.iadd, 1) := by decide +kernel
theorem d1_32 : decode prog_17_method_3_code 32 = .ok (.iload_n 2, 1) := by decide +kernel
theorem d1_33 : decode prog_17_method_3_code 33 = .ok (.i2b, 1) := by decide +kernel
theorem d1_34 : decode prog_17_method_3_code 34 = .ok (.bastore, 1) := by decide +kernel
theorem d1_35 : decode prog_17_method_3_code 35 = .ok (.return_, 1) := by decide +kernel
theorem pn_0 : plainName "com/example/unicopy/unicopy/Messages" = true := by first | (simp [plainName, overriddenIn]; done) | decide +kernel
theorem ef_1 (m : MethodId) (a0 : Addr) (p1 : Int32) (p2 : Int32) : entryFrame m #[(.ref a0), (.int p1), (.int p2)] 3 = mkF m 0 #[.val (.ref a0), .val (.int p1), .val (.int p2)] [] := by first | (simp [entryFrame, mkF, argsToLocals, Value.category]; done) | rfl
def own_p1_a0 (p1 : Int32) (p2 : Int32) (ws : List Int32) : List Int32 := ((((((((ws.set (p1).toNatClampNeg (nar .byte (((p2).toUInt32 >>> ((24 : Int32) &&& 31).toUInt32).toInt32).toInt8.toInt32))).set ((p1 + (1 : Int32))).toNatClampNeg (nar .byte (((p2).toUInt32 >>> ((16 : Int32) &&& 31).toUInt32).toInt32).toInt8.toInt32))).set ((p1 + (2 : Int32))).toNatClampNeg (nar .byte (((p2).toUInt32 >>> ((8 : Int32) &&& 31).toUInt32).toInt32).toInt8.toInt32))).set ((p1 + (3 : Int32))).toNatClampNeg (nar .byte (p2).toInt8.toInt32)))
def Q1 (Z : State) (a0 : Addr) (p1 : Int32) (p2 : Int32) (k : ClassId) (z : Int32) (ws : List Int32) (h0 : Heap) (n0 : Nat) (v : Option Value) (h : Heap) (L : List Loc) : Prop := v = none ∧ Fr n0 L ∧ Keep h0 h [a0] ∧ own_AI Z h a0 k .byte z (own_p1_a0 p1 p2 ws)
set_option maxRecDepth 65536 in
set_option maxHeartbeats 40000000 in
theorem rm1 (l : Launch) (Z : State) (aw : Array Value) (hw : ∀ d ∈ tables_1, d.before aw Z = true) (wq : List Jvm.Cond) (a0 : Addr) (p1 : Int32) (p2 : Int32) (k : ClassId) (z : Int32) (ws : List Int32) (h0 : Heap) (n0 : Nat) (Z0 : n0 ≤ h0.size) (V_a0 : own_AI Z h0 a0 k .byte z ws) (g_a0 : n0 ≤ a0) (hi0 : ¬ p1 < 0 ∧ p1 < z) (hi1 : ¬ (p1 + (1 : Int32)) < 0 ∧ (p1 + (1 : Int32)) < z) (hi2 : ¬ (p1 + (2 : Int32)) < 0 ∧ (p1 + (2 : Int32)) < z) (hi3 : ¬ (p1 + (3 : Int32)) < 0 ∧ (p1 + (3 : Int32)) < z) :
    MetFree l (⟨"com/example/unicopy/unicopy/Messages", "writeInt", "([BII)V"⟩ : MethodName) (head1 (Jvm.Cond.code (⟨"com/example/unicopy/unicopy/Messages", "writeInt", "([BII)V"⟩ : MethodName) prog_17_method_3_code 3 none :: wq) ({ frames := 0, cells := 0, slots := 0, locals := 0 } : Room)) (fun a U => a = #[(.ref a0), (.int p1), (.int p2)] ∧ Z.Warmed39 U.vm ∧ U.heap = h0) (fun _ _ _ _ _ => True) (fun _ U o U' => ∃ v L, o = .returned v ∧ Q1 Z a0 p1 p2 k z ws h0 n0 v U'.heap L ∧ FrameEnd U o U' L ({ frames := 0, cells := 0, slots := 0, locals := 0 } : Room).cells ({ frames := 0, cells := 0, slots := 0, locals := 0 } : Room).slots) := by
  refine MetFree.of_bodySF (plainFor_of_name pn_0) hisR ?_
  intro p e s m args below meth c s₁ Bd hml0 hP hK
  obtain ⟨rfl, hZ, hh⟩ := hP
  have hx := Bd.exec
  have hby := Bd.bytes
  have hml : c.maxLocals = 3 := hml0
  have hown : s.vm.findClass "com/example/unicopy/unicopy/Messages" = some m.cls := findClass_of_methodNamed Bd.named
  have hnm := (name_of_methodNamed Bd.named Bd.method).1
  have X0 : Stand p l e ({ frames := 0, cells := 0, slots := 0, locals := 0 } : Room) s m #[(.ref a0), (.int p1), (.int p2)] below meth c s₁ [] 0 0 := Stand.of_body Bd
  have e0 : s₁.heap = h0 := by rw [← hh, Bd.state]; rfl
  have N0 := Fr.nil n0
  have pre0 : own_Pre p e below (s₁.setTop (entryFrame m #[(.ref a0), (.int p1), (.int p2)] 3)) (s₁.setTop (mkF m 0 #[.val (.ref a0), .val (.int p1), .val (.int p2)] [])) := fun t k => castTop (ef_1 m a0 p1 p2) k
  obtain ⟨cl1, Ar1, hin1, set1⟩ := own_AI.arr V_a0 (j := p1) (hi0)
  obtain ⟨T1, h1, X1, e1, W1, st1⟩ := stB X0 hx hZ e0 Ar1 (j := p1) hin1 (g := (mkF m 7 #[.val (.ref a0), .val (.int p1), .val (.int p2)] [(.int (((p2).toUInt32 >>> ((24 : Int32) &&& 31).toUInt32).toInt32).toInt8.toInt32), (.int p1), (.ref a0)])) rfl rfl (hb hby d1_7)
  have V1 : own_AI Z h1 a0 k .byte z (ws.set (p1).toNatClampNeg (nar .byte (((p2).toUInt32 >>> ((24 : Int32) &&& 31).toUInt32).toInt32).toInt8.toInt32)) := set1 _ _ (fits_nar_byte _) W1
  obtain ⟨ws1, hws1⟩ : ∃ z, z = (ws.set (p1).toNatClampNeg (nar .byte (((p2).toUInt32 >>> ((24 : Int32) &&& 31).toUInt32).toInt32).toInt8.toInt32)) := ⟨_, rfl⟩
  rw [← hws1] at V1
  have N1 := Fr.snoc X1 N0 g_a0
  have kp2 : Keep h0 h1 [a0] := (Keep.refl h0 [a0]).wr W1 (Or.inl (List.mem_of_getElem? (i := 0) rfl))
  obtain ⟨cl3, Ar3, hin3, set3⟩ := own_AI.arr V1 (j := (p1 + (1 : Int32))) (hi1)
  obtain ⟨T3, h3, X3, e3, W3, st3⟩ := stB X1 hx hZ e1 Ar3 (j := (p1 + (1 : Int32))) hin3 (g := (mkF m 17 #[.val (.ref a0), .val (.int p1), .val (.int p2)] [(.int (((p2).toUInt32 >>> ((16 : Int32) &&& 31).toUInt32).toInt32).toInt8.toInt32), (.int (p1 + (1 : Int32))), (.ref a0)])) rfl rfl (hb hby d1_17)
  have V3 : own_AI Z h3 a0 k .byte z (ws1.set ((p1 + (1 : Int32))).toNatClampNeg (nar .byte (((p2).toUInt32 >>> ((16 : Int32) &&& 31).toUInt32).toInt32).toInt8.toInt32)) := set3 _ _ (fits_nar_byte _) W3
  obtain ⟨ws3, hws3⟩ : ∃ z, z = (ws1.set ((p1 + (1 : Int32))).toNatClampNeg (nar .byte (((p2).toUInt32 >>> ((16 : Int32) &&& 31).toUInt32).toInt32).toInt8.toInt32)) := ⟨_, rfl⟩
  rw [← hws3] at V3
  have N3 := Fr.snoc X3 N1 g_a0
  have kp4 : Keep h0 h3 [a0] := kp2.wr W3 (Or.inl (List.mem_of_getElem? (i := 0) rfl))
  obtain ⟨cl5, Ar5, hin5, set5⟩ := own_AI.arr V3 (j := (p1 + (2 : Int32))) (hi2)
  obtain ⟨T5, h5, X5, e5, W5, st5⟩ := stB X3 hx hZ e3 Ar5 (j := (p1 + (2 : Int32))) hin5 (g := (mkF m 27 #[.val (.ref a0), .val (.int p1), .val (.int p2)] [(.int (((p2).toUInt32 >>> ((8 : Int32) &&& 31).toUInt32).toInt32).toInt8.toInt32), (.int (p1 + (2 : Int32))), (.ref a0)])) rfl rfl (hb hby d1_27)
  have V5 : own_AI Z h5 a0 k .byte z (ws3.set ((p1 + (2 : Int32))).toNatClampNeg (nar .byte (((p2).toUInt32 >>> ((8 : Int32) &&& 31).toUInt32).toInt32).toInt8.toInt32)) := set5 _ _ (fits_nar_byte _) W5
  obtain ⟨ws5, hws5⟩ : ∃ z, z = (ws3.set ((p1 + (2 : Int32))).toNatClampNeg (nar .byte (((p2).toUInt32 >>> ((8 : Int32) &&& 31).toUInt32).toInt32).toInt8.toInt32)) := ⟨_, rfl⟩
  rw [← hws5] at V5
  have N5 := Fr.snoc X5 N3 g_a0
  have kp6 : Keep h0 h5 [a0] := kp4.wr W5 (Or.inl (List.mem_of_getElem? (i := 0) rfl))
  obtain ⟨cl7, Ar7, hin7, set7⟩ := own_AI.arr V5 (j := (p1 + (3 : Int32))) (hi3)
  obtain ⟨T7, h7, X7, e7, W7, st7⟩ := stB X5 hx hZ e5 Ar7 (j := (p1 + (3 : Int32))) hin7 (g := (mkF m 34 #[.val (.ref a0), .val (.int p1), .val (.int p2)] [(.int (p2).toInt8.toInt32), (.int (p1 + (3 : Int32))), (.ref a0)])) rfl rfl (hb hby d1_34)
  have V7 : own_AI Z h7 a0 k .byte z (ws5.set ((p1 + (3 : Int32))).toNatClampNeg (nar .byte (p2).toInt8.toInt32)) := set7 _ _ (fits_nar_byte _) W7
  obtain ⟨ws7, hws7⟩ : ∃ z, z = (ws5.set ((p1 + (3 : Int32))).toNatClampNeg (nar .byte (p2).toInt8.toInt32)) := ⟨_, rfl⟩
  rw [← hws7] at V7
  have N7 := Fr.snoc X7 N5 g_a0
  have kp8 : Keep h0 h7 [a0] := kp6.wr W7 (Or.inl (List.mem_of_getElem? (i := 0) rfl))
  obtain ⟨fs, hr, hrun, hended, hW, hsame⟩ := X7.leave (v := none) (fun _ => rfl)
  refine ⟨_, _, pre0 _ ?_, hrun, hended, _, _, rfl, ?_, ⟨_, rfl⟩, hW, hsame.mono (by decide) (by decide)⟩
  · show Steps p.tables e below (s₁.setTop (mkF m 0 #[.val (.ref a0), .val (.int p1), .val (.int p2)] [])) _
    refine XS.aloadN X0.here hx rfl (hb hby d1_0) rfl rfl ?_
    show Steps p.tables e below (s₁.setTop (mkF m 1 #[.val (.ref a0), .val (.int p1), .val (.int p2)] [(.ref a0)])) _
    refine XS.iloadN X0.here hx rfl (hb hby d1_1) rfl ?_
    show Steps p.tables e below (s₁.setTop (mkF m 2 #[.val (.ref a0), .val (.int p1), .val (.int p2)] [(.int p1), (.ref a0)])) _
    refine XS.iloadN X0.here hx rfl (hb hby d1_2) rfl ?_
    show Steps p.tables e below (s₁.setTop (mkF m 3 #[.val (.ref a0), .val (.int p1), .val (.int p2)] [(.int p2), (.int p1), (.ref a0)])) _
    refine XS.bipush X0.here hx rfl (hb hby d1_3) ?_
    show Steps p.tables e below (s₁.setTop (mkF m 5 #[.val (.ref a0), .val (.int p1), .val (.int p2)] [(.int (24 : Int32)), (.int p2), (.int p1), (.ref a0)])) _
    refine XS.iushr X0.here hx rfl (hb hby d1_5) rfl ?_
    show Steps p.tables e below (s₁.setTop (mkF m 6 #[.val (.ref a0), .val (.int p1), .val (.int p2)] [(.int ((p2).toUInt32 >>> ((24 : Int32) &&& 31).toUInt32).toInt32), (.int p1), (.ref a0)])) _
    refine XS.i2b X0.here hx rfl (hb hby d1_6) rfl ?_
    show Steps p.tables e below (s₁.setTop (mkF m 7 #[.val (.ref a0), .val (.int p1), .val (.int p2)] [(.int (((p2).toUInt32 >>> ((24 : Int32) &&& 31).toUInt32).toInt32).toInt8.toInt32), (.int p1), (.ref a0)])) _
    refine st1 _ ?_
    show Steps p.tables e below (T1.setTop (mkF m 8 #[.val (.ref a0), .val (.int p1), .val (.int p2)] [])) _
    refine XS.aloadN X1.here hx rfl (hb hby d1_8) rfl rfl ?_
    show Steps p.tables e below (T1.setTop (mkF m 9 #[.val (.ref a0), .val (.int p1), .val (.int p2)] [(.ref a0)])) _
    refine XS.iloadN X1.here hx rfl (hb hby d1_9) rfl ?_
    show Steps p.tables e below (T1.setTop (mkF m 10 #[.val (.ref a0), .val (.int p1), .val (.int p2)] [(.int p1), (.ref a0)])) _
    refine XS.iconst X1.here hx rfl (hb hby d1_10) ?_
    show Steps p.tables e below (T1.setTop (mkF m 11 #[.val (.ref a0), .val (.int p1), .val (.int p2)] [(.int (1 : Int32)), (.int p1), (.ref a0)])) _
    refine XS.iadd X1.here hx rfl (hb hby d1_11) rfl ?_
    show Steps p.tables e below (T1.setTop (mkF m 12 #[.val (.ref a0), .val (.int p1), .val (.int p2)] [(.int (p1 + (1 : Int32))), (.ref a0)])) _
    refine XS.iloadN X1.here hx rfl (hb hby d1_12) rfl ?_
    show Steps p.tables e below (T1.setTop (mkF m 13 #[.val (.ref a0), .val (.int p1), .val (.int p2)] [(.int p2), (.int (p1 + (1 : Int32))), (.ref a0)])) _
    refine XS.bipush X1.here hx rfl (hb hby d1_13) ?_
    show Steps p.tables e below (T1.setTop (mkF m 15 #[.val (.ref a0), .val (.int p1), .val (.int p2)] [(.int (16 : Int32)), (.int p2), (.int (p1 + (1 : Int32))), (.ref a0)])) _
    refine XS.iushr X1.here hx rfl (hb hby d1_15) rfl ?_
    show Steps p.tables e below (T1.setTop (mkF m 16 #[.val (.ref a0), .val (.int p1), .val (.int p2)] [(.int ((p2).toUInt32 >>> ((16 : Int32) &&& 31).toUInt32).toInt32), (.int (p1 + (1 : Int32))), (.ref a0)])) _
    refine XS.i2b X1.here hx rfl (hb hby d1_16) rfl ?_
    show Steps p.tables e below (T1.setTop (mkF m 17 #[.val (.ref a0), .val (.int p1), .val (.int p2)] [(.int (((p2).toUInt32 >>> ((16 : Int32) &&& 31).toUInt32).toInt32).toInt8.toInt32), (.int (p1 + (1 : Int32))), (.ref a0)])) _
    refine st3 _ ?_
    show Steps p.tables e below (T3.setTop (mkF m 18 #[.val (.ref a0), .val (.int p1), .val (.int p2)] [])) _
    refine XS.aloadN X3.here hx rfl (hb hby d1_18) rfl rfl ?_
    show Steps p.tables e below (T3.setTop (mkF m 19 #[.val (.ref a0), .val (.int p1), .val (.int p2)] [(.ref a0)])) _
    refine XS.iloadN X3.here hx rfl (hb hby d1_19) rfl ?_
    show Steps p.tables e below (T3.setTop (mkF m 20 #[.val (.ref a0), .val (.int p1), .val (.int p2)] [(.int p1), (.ref a0)])) _
    refine XS.iconst X3.here hx rfl (hb hby d1_20) ?_
    show Steps p.tables e below (T3.setTop (mkF m 21 #[.val (.ref a0), .val (.int p1), .val (.int p2)] [(.int (2 : Int32)), (.int p1), (.ref a0)])) _
    refine XS.iadd X3.here hx rfl (hb hby d1_21) rfl ?_
    show Steps p.tables e below (T3.setTop (mkF m 22 #[.val (.ref a0), .val (.int p1), .val (.int p2)] [(.int (p1 + (2 : Int32))), (.ref a0)])) _
    refine XS.iloadN X3.here hx rfl (hb hby d1_22) rfl ?_
    show Steps p.tables e below (T3.setTop (mkF m 23 #[.val (.ref a0), .val (.int p1), .val (.int p2)] [(.int p2), (.int (p1 + (2 : Int32))), (.ref a0)])) _
    refine XS.bipush X3.here hx rfl (hb hby d1_23) ?_
    show Steps p.tables e below (T3.setTop (mkF m 25 #[.val (.ref a0), .val (.int p1), .val (.int p2)] [(.int (8 : Int32)), (.int p2), (.int (p1 + (2 : Int32))), (.ref a0)])) _
    refine XS.iushr X3.here hx rfl (hb hby d1_25) rfl ?_
    show Steps p.tables e below (T3.setTop (mkF m 26 #[.val (.ref a0), .val (.int p1), .val (.int p2)] [(.int ((p2).toUInt32 >>> ((8 : Int32) &&& 31).toUInt32).toInt32), (.int (p1 + (2 : Int32))), (.ref a0)])) _
    refine XS.i2b X3.here hx rfl (hb hby d1_26) rfl ?_
    show Steps p.tables e below (T3.setTop (mkF m 27 #[.val (.ref a0), .val (.int p1), .val (.int p2)] [(.int (((p2).toUInt32 >>> ((8 : Int32) &&& 31).toUInt32).toInt32).toInt8.toInt32), (.int (p1 + (2 : Int32))), (.ref a0)])) _
    refine st5 _ ?_
    show Steps p.tables e below (T5.setTop (mkF m 28 #[.val (.ref a0), .val (.int p1), .val (.int p2)] [])) _
    refine XS.aloadN X5.here hx rfl (hb hby d1_28) rfl rfl ?_
    show Steps p.tables e below (T5.setTop (mkF m 29 #[.val (.ref a0), .val (.int p1), .val (.int p2)] [(.ref a0)])) _
    refine XS.iloadN X5.here hx rfl (hb hby d1_29) rfl ?_
    show Steps p.tables e below (T5.setTop (mkF m 30 #[.val (.ref a0), .val (.int p1), .val (.int p2)] [(.int p1), (.ref a0)])) _
    refine XS.iconst X5.here hx rfl (hb hby d1_30) ?_
    show Steps p.tables e below (T5.setTop (mkF m 31 #[.val (.ref a0), .val (.int p1), .val (.int p2)] [(.int (3 : Int32)), (.int p1), (.ref a0)])) _
    refine XS.iadd X5.here hx rfl (hb hby d1_31) rfl ?_
    show Steps p.tables e below (T5.setTop (mkF m 32 #[.val (.ref a0), .val (.int p1), .val (.int p2)] [(.int (p1 + (3 : Int32))), (.ref a0)])) _
    refine XS.iloadN X5.here hx rfl (hb hby d1_32) rfl ?_
    show Steps p.tables e below (T5.setTop (mkF m 33 #[.val (.ref a0), .val (.int p1), .val (.int p2)] [(.int p2), (.int (p1 + (3 : Int32))), (.ref a0)])) _
    refine XS.i2b X5.here hx rfl (hb hby d1_33) rfl ?_
    show Steps p.tables e below (T5.setTop (mkF m 34 #[.val (.ref a0), .val (.int p1), .val (.int p2)] [(.int (p2).toInt8.toInt32), (.int (p1 + (3 : Int32))), (.ref a0)])) _
    refine st7 _ ?_
    show Steps p.tables e below (T7.setTop (mkF m 35 #[.val (.ref a0), .val (.int p1), .val (.int p2)] [])) _
    exact X7.returnOut hx Bd.returns (hb hby d1_35) hr
  · show Q1 Z a0 p1 p2 k z ws h0 n0 _ T7.heap _
    rw [e7]
    unfold Q1
    refine ⟨rfl, N7, kp8, ?_⟩
    · rw [show (own_p1_a0 p1 p2 ws) = ws7 from (by subst hws7 hws5 hws3 hws1; simp only [own_p1_a0])]; exact V7
theorem d2_0 : decode method_3_code 0 = .ok (.iload_n 1, 1) := by decide +kernel
theorem d2_1 : decode method_3_code 1 = .ok (.iload_n 2, 1) := by decide +kernel
theorem d2_2 : decode method_3_code 2 = .ok (.if_icmp .lt 10, 3) := by decide +kernel
theorem d2_5 : decode method_3_code 5 = .ok (.iload_n 1, 1) := by decide +kernel
theorem d2_6 : decode method_3_code 6 = .ok (.iload_n 2, 1) := by decide +kernel
theorem d2_7 : decode method_3_code 7 = .ok (.iconst 4, 1) := by decide +kernel
theorem d2_8 : decode method_3_code 8 = .ok (.iadd, 1) := by decide +kernel
theorem d2_9 : decode method_3_code 9 = .ok (.if_icmp .lt 20, 3) := by decide +kernel
theorem d2_12 : decode method_3_code 12 = .ok (.aload_n 0, 1) := by decide +kernel
theorem d2_13 : decode method_3_code 13 = .ok (.iload_n 1, 1) := by decide +kernel
theorem d2_14 : decode method_3_code 14 = .ok (.baload, 1) := by decide +kernel
theorem d2_15 : decode method_3_code 15 = .ok (.iload 5, 2) := by decide +kernel
theorem d2_17 : decode method_3_code 17 = .ok (.iload_n 1, 1) := by decide +kernel
theorem d2_18 : decode method_3_code 18 = .ok (.iadd, 1) := by decide +kernel
theorem d2_19 : decode method_3_code 19 = .ok (.i2b, 1) := by decide +kernel
theorem d2_20 : decode method_3_code 20 = .ok (.if_icmp .ne 7, 3) := by decide +kernel
theorem d2_23 : decode method_3_code 23 = .ok (.iconst 1, 1) := by decide +kernel
theorem d2_24 : decode method_3_code 24 = .ok (.goto 4, 3) := by decide +kernel
theorem d2_27 : decode method_3_code 27 = .ok (.iconst 0, 1) := by decide +kernel
theorem d2_28 : decode method_3_code 28 = .ok (.ireturn, 1) := by decide +kernel
theorem d2_29 : decode method_3_code 29 = .ok (.iload_n 1, 1) := by decide +kernel
theorem d2_30 : decode method_3_code 30 = .ok (.iload_n 2, 1) := by decide +kernel
theorem d2_31 : decode method_3_code 31 = .ok (.isub, 1) := by decide +kernel
theorem d2_32 : decode method_3_code 32 = .ok (.istore 6, 2) := by decide +kernel
theorem d2_34 : decode method_3_code 34 = .ok (.iload 6, 2) := by decide +kernel
theorem d2_36 : decode method_3_code 36 = .ok (.ifCond .ne 13, 3) := by decide +kernel
theorem d2_39 : decode method_3_code 39 = .ok (.lload_n 3, 1) := by decide +kernel
theorem d2_40 : decode method_3_code 40 = .ok (.ldc2_w 22, 3) := by decide +kernel
theorem d2_43 : decode method_3_code 43 = .ok (.ldiv, 1) := by decide +kernel
theorem d2_44 : decode method_3_code 44 = .ok (.lstore 7, 2) := by decide +kernel
theorem d2_46 : decode method_3_code 46 = .ok (.goto 50, 3) := by decide +kernel
theorem d2_49 : decode method_3_code 49 = .ok (.iload 6, 2) := by decide +kernel
theorem d2_51 : decode method_3_code 51 = .ok (.iconst 1, 1) := by decide +kernel
theorem d2_52 : decode method_3_code 52 = .ok (.if_icmp .ne 17, 3) := by decide +kernel
theorem d2_55 : decode method_3_code 55 = .ok (.lload_n 3, 1) := by decide +kernel
theorem d2_56 : decode method_3_code 56 = .ok (.ldc2_w 24, 3) := by decide +kernel
theorem d2_59 : decode method_3_code 59 = .ok (.ldiv, 1) := by decide +kernel
theorem d2_60 : decode method_3_code 60 = .ok (.ldc2_w 26, 3) := by decide +kernel
theorem d2_63 : decode method_3_code 63 = .ok (.lrem, 1) := by decide +kernel
theorem d2_64 : decode method_3_code 64 = .ok (.lstore 7, 2) := by decide +kernel
theorem d2_66 : decode method_3_code 66 = .ok (.goto 30, 3) := by decide +kernel
theorem d2_69 : decode method_3_code 69 = .ok (.iload 6, 2) := by decide +kernel
theorem d2_71 : decode method_3_code 71 = .ok (.iconst 2, 1) := by decide +kernel
theorem d2_72 : decode method_3_code 72 = .ok (.if_icmp .ne 17, 3) := by decide +kernel
theorem d2_75 : decode method_3_code 75 = .ok (.lload_n 3, 1) := by decide +kernel
theorem d2_76 : decode method_3_code 76 = .ok (.ldc2_w 26, 3) := by decide +kernel
theorem d2_79 : decode method_3_code 79 = .ok (.ldiv, 1) := by decide +kernel
theorem d2_80 : decode method_3_code 80 = .ok (.ldc2_w 26, 3) := by decide +kernel
theorem d2_83 : decode method_3_code 83 = .ok (.lrem, 1) := by decide +kernel
theorem d2_84 : decode method_3_code 84 = .ok (.lstore 7, 2) := by decide +kernel
theorem d2_86 : decode method_3_code 86 = .ok (.goto 10, 3) := by decide +kernel
theorem d2_89 : decode method_3_code 89 = .ok (.lload_n 3, 1) := by decide +kernel
theorem d2_90 : decode method_3_code 90 = .ok (.ldc2_w 26, 3) := by decide +kernel
theorem d2_93 : decode method_3_code 93 = .ok (.lrem, 1) := by decide +kernel
theorem d2_94 : decode method_3_code 94 = .ok (.lstore 7, 2) := by decide +kernel
theorem d2_96 : decode method_3_code 96 = .ok (.aload_n 0, 1) := by decide +kernel
theorem d2_97 : decode method_3_code 97 = .ok (.iload_n 1, 1) := by decide +kernel
theorem d2_98 : decode method_3_code 98 = .ok (.baload, 1) := by decide +kernel
theorem d2_99 : decode method_3_code 99 = .ok (.sipush 255, 3) := by decide +kernel
theorem d2_102 : decode method_3_code 102 = .ok (.iand, 1) := by decide +kernel
theorem d2_103 : decode method_3_code 103 = .ok (.i2l, 1) := by decide +kernel
theorem d2_104 : decode method_3_code 104 = .ok (.lload 7, 2) := by decide +kernel
theorem d2_106 : decode method_3_code 106 = .ok (.lcmp, 1) := by decide +kernel
theorem d2_107 : decode method_3_code 107 = .ok (.ifCond .ne 7, 3) := by decide +kernel
theorem d2_110 : decode method_3_code 110 = .ok (.iconst 1, 1) := by decide +kernel
theorem d2_111 : decode method_3_code 111 = .ok (.goto 4, 3) := by decide +kernel
theorem d2_114 : decode method_3_code 114 = .ok (.iconst 0, 1) := by decide +kernel
theorem d2_115 : decode method_3_code 115 = .ok (.ireturn, 1) := by decide +kernel
theorem pn_1 : plainName "com/example/unicopy/unicopy/MessagesWriteIntPinLaw" = true := by first | (simp [plainName, overriddenIn]; done) | decide +kernel
theorem ef_2 (m : MethodId) (a0 : Addr) (p1 : Int32) (p2 : Int32) (q3 : Int64) (p4 : Int32) : entryFrame m #[(.ref a0), (.int p1), (.int p2), (.long q3), (.int p4)] 9 = mkF m 0 #[.val (.ref a0), .val (.int p1), .val (.int p2), .val (.long q3), .second, .val (.int p4), .unset, .unset, .unset] [] := by first | (simp [entryFrame, mkF, argsToLocals, Value.category]; done) | rfl
def own_m2_96_l7 (v0 : Int32) (v1 : Int32) (v2 : Int64) : Int64 := (if (v0 - v1) = (0 : Int32) then ((v2 / (16777216 : Int64))) else (if (v0 - v1) = (1 : Int32) then (((v2 / (65536 : Int64)) - (v2 / (65536 : Int64)) / (256 : Int64) * (256 : Int64))) else (if (v0 - v1) = (2 : Int32) then (((v2 / (256 : Int64)) - (v2 / (256 : Int64)) / (256 : Int64) * (256 : Int64))) else ((v2 - v2 / (256 : Int64) * (256 : Int64))))))
def own_f2 (p1 : Int32) (p2 : Int32) (q3 : Int64) (p4 : Int32) (ws : List Int32) : Int32 := (if p1 < p2 then (if (ws.getD (p1).toNatClampNeg (0 : Int32)) = ((p4 + p1)).toInt8.toInt32 then (1 : Int32) else (0 : Int32)) else (if p1 < (p2 + (4 : Int32)) then (if (((ws.getD (p1).toNatClampNeg (0 : Int32)) &&& (255 : Int32))).toInt64 = ((own_m2_96_l7 p1 p2 q3)) then (1 : Int32) else (0 : Int32)) else (if (ws.getD (p1).toNatClampNeg (0 : Int32)) = ((p4 + p1)).toInt8.toInt32 then (1 : Int32) else (0 : Int32))))
def Q2 (Z : State) (a0 : Addr) (p1 : Int32) (p2 : Int32) (q3 : Int64) (p4 : Int32) (k : ClassId) (z : Int32) (ws : List Int32) (h0 : Heap) (n0 : Nat) (v : Option Value) (h : Heap) (L : List Loc) : Prop := v = some (.int (own_f2 p1 p2 q3 p4 ws)) ∧ Fr n0 L ∧ h = h0
set_option maxRecDepth 65536 in
set_option maxHeartbeats 40000000 in
theorem rm2 (l : Launch) (Z : State) (aw : Array Value) (hw : ∀ d ∈ tables_1, d.before aw Z = true) (wq : List Jvm.Cond) (a0 : Addr) (p1 : Int32) (p2 : Int32) (q3 : Int64) (p4 : Int32) (k : ClassId) (z : Int32) (ws : List Int32) (h0 : Heap) (n0 : Nat) (Z0 : n0 ≤ h0.size) (V_a0 : own_AI Z h0 a0 k .byte z ws) (hi0 : ¬ p1 < 0 ∧ p1 < z) :
    MetFree l (⟨"com/example/unicopy/unicopy/MessagesWriteIntPinLaw", "cell", "([BIIJI)Z"⟩ : MethodName) (head1 (Jvm.Cond.code (⟨"com/example/unicopy/unicopy/MessagesWriteIntPinLaw", "cell", "([BIIJI)Z"⟩ : MethodName) method_3_code 9 (some .boolean) :: wq) ({ frames := 0, cells := 0, slots := 0, locals := 0 } : Room)) (fun a U => a = #[(.ref a0), (.int p1), (.int p2), (.long q3), (.int p4)] ∧ Z.Warmed39 U.vm ∧ U.heap = h0) (fun _ _ _ _ _ => True) (fun _ U o U' => ∃ v L, o = .returned v ∧ Q2 Z a0 p1 p2 q3 p4 k z ws h0 n0 v U'.heap L ∧ FrameEnd U o U' L ({ frames := 0, cells := 0, slots := 0, locals := 0 } : Room).cells ({ frames := 0, cells := 0, slots := 0, locals := 0 } : Room).slots) := by
  refine MetFree.of_bodySF (plainFor_of_name pn_1) hisR ?_
  intro p e s m args below meth c s₁ Bd hml0 hP hK
  obtain ⟨rfl, hZ, hh⟩ := hP
  have hx := Bd.exec
  have hby := Bd.bytes
  have hml : c.maxLocals = 9 := hml0
  have hown : s.vm.findClass "com/example/unicopy/unicopy/MessagesWriteIntPinLaw" = some m.cls := findClass_of_methodNamed Bd.named
  have hnm := (name_of_methodNamed Bd.named Bd.method).1
  have X0 : Stand p l e ({ frames := 0, cells := 0, slots := 0, locals := 0 } : Room) s m #[(.ref a0), (.int p1), (.int p2), (.long q3), (.int p4)] below meth c s₁ [] 0 0 := Stand.of_body Bd
  have e0 : s₁.heap = h0 := by rw [← hh, Bd.state]; rfl
  have N0 := Fr.nil n0
  have pre0 : own_Pre p e below (s₁.setTop (entryFrame m #[(.ref a0), (.int p1), (.int p2), (.long q3), (.int p4)] 9)) (s₁.setTop (mkF m 0 #[.val (.ref a0), .val (.int p1), .val (.int p2), .val (.long q3), .second, .val (.int p4), .unset, .unset, .unset] [])) := fun t k => castTop (ef_2 m a0 p1 p2 q3 p4) k
  have pre1 : own_Pre p e below (s₁.setTop (entryFrame m #[(.ref a0), (.int p1), (.int p2), (.long q3), (.int p4)] 9)) (s₁.setTop (mkF m 2 #[.val (.ref a0), .val (.int p1), .val (.int p2), .val (.long q3), .second, .val (.int p4), .unset, .unset, .unset] [(.int p2), (.int p1)])) := fun t k => pre0 t (by
      show Steps p.tables e below (s₁.setTop (mkF m 0 #[.val (.ref a0), .val (.int p1), .val (.int p2), .val (.long q3), .second, .val (.int p4), .unset, .unset, .unset] [])) _
      refine XS.iloadN X0.here hx rfl (hb hby d2_0) rfl ?_
      show Steps p.tables e below (s₁.setTop (mkF m 1 #[.val (.ref a0), .val (.int p1), .val (.int p2), .val (.long q3), .second, .val (.int p4), .unset, .unset, .unset] [(.int p1)])) _
      refine XS.iloadN X0.here hx rfl (hb hby d2_1) rfl ?_
      exact k)
  by_cases hc2 : p1 < p2
  · obtain ⟨cl2, Ar2, hin2, hat2⟩ := own_AI.at V_a0 (j := p1) (hi0)
    have pre3 : own_Pre p e below (s₁.setTop (entryFrame m #[(.ref a0), (.int p1), (.int p2), (.long q3), (.int p4)] 9)) (s₁.setTop (mkF m 20 #[.val (.ref a0), .val (.int p1), .val (.int p2), .val (.long q3), .second, .val (.int p4), .unset, .unset, .unset] [(.int ((p4 + p1)).toInt8.toInt32), (.int (ws.getD (p1).toNatClampNeg (0 : Int32)))])) := fun t k => pre1 t (by
        show Steps p.tables e below (s₁.setTop (mkF m 2 #[.val (.ref a0), .val (.int p1), .val (.int p2), .val (.long q3), .second, .val (.int p4), .unset, .unset, .unset] [(.int p2), (.int p1)])) _
        refine XS.icmpYes X0.here hx rfl (pc0 := 2) (pc' := 12) rfl (hb hby d2_2) rfl (tlt hc2).1 (by decide) (by decide) ?_
        show Steps p.tables e below (s₁.setTop (mkF m 12 #[.val (.ref a0), .val (.int p1), .val (.int p2), .val (.long q3), .second, .val (.int p4), .unset, .unset, .unset] [])) _
        refine XS.aloadN X0.here hx rfl (hb hby d2_12) rfl rfl ?_
        show Steps p.tables e below (s₁.setTop (mkF m 13 #[.val (.ref a0), .val (.int p1), .val (.int p2), .val (.long q3), .second, .val (.int p4), .unset, .unset, .unset] [(.ref a0)])) _
        refine XS.iloadN X0.here hx rfl (hb hby d2_13) rfl ?_
        show Steps p.tables e below (s₁.setTop (mkF m 14 #[.val (.ref a0), .val (.int p1), .val (.int p2), .val (.long q3), .second, .val (.int p4), .unset, .unset, .unset] [(.int p1), (.ref a0)])) _
        refine X0.baloadBytes hx (j := p1) (v := (.int (ws.getD (p1).toNatClampNeg (0 : Int32)))) (by rw [e0]; exact Ar2.1) (State.isArrayOf_alike hZ.alike Ar2.2.1) Ar2.2.2 hin2 hat2 (g := (mkF m 14 #[.val (.ref a0), .val (.int p1), .val (.int p2), .val (.long q3), .second, .val (.int p4), .unset, .unset, .unset] [(.int p1), (.ref a0)])) rfl rfl (hb hby d2_14) _ ?_
        show Steps p.tables e below (s₁.setTop (mkF m 15 #[.val (.ref a0), .val (.int p1), .val (.int p2), .val (.long q3), .second, .val (.int p4), .unset, .unset, .unset] [(.int (ws.getD (p1).toNatClampNeg (0 : Int32)))])) _
        refine XS.iload X0.here hx rfl (hb hby d2_15) rfl ?_
        show Steps p.tables e below (s₁.setTop (mkF m 17 #[.val (.ref a0), .val (.int p1), .val (.int p2), .val (.long q3), .second, .val (.int p4), .unset, .unset, .unset] [(.int p4), (.int (ws.getD (p1).toNatClampNeg (0 : Int32)))])) _
        refine XS.iloadN X0.here hx rfl (hb hby d2_17) rfl ?_
        show Steps p.tables e below (s₁.setTop (mkF m 18 #[.val (.ref a0), .val (.int p1), .val (.int p2), .val (.long q3), .second, .val (.int p4), .unset, .unset, .unset] [(.int p1), (.int p4), (.int (ws.getD (p1).toNatClampNeg (0 : Int32)))])) _
        refine XS.iadd X0.here hx rfl (hb hby d2_18) rfl ?_
        show Steps p.tables e below (s₁.setTop (mkF m 19 #[.val (.ref a0), .val (.int p1), .val (.int p2), .val (.long q3), .second, .val (.int p4), .unset, .unset, .unset] [(.int (p4 + p1)), (.int (ws.getD (p1).toNatClampNeg (0 : Int32)))])) _
        refine XS.i2b X0.here hx rfl (hb hby d2_19) rfl ?_
        exact k)
    by_cases hc20 : (ws.getD (p1).toNatClampNeg (0 : Int32)) = ((p4 + p1)).toInt8.toInt32
    · obtain ⟨fs, hr, hrun, hended, hW, hsame⟩ := X0.leave (v := some (.int (1 : Int32))) (fun h => by rw [Bd.returns] at h; cases h)
      refine ⟨_, _, pre3 _ ?_, hrun, hended, _, _, rfl, ?_, ⟨_, rfl⟩, hW, hsame.mono (by decide) (by decide)⟩
      · show Steps p.tables e below (s₁.setTop (mkF m 20 #[.val (.ref a0), .val (.int p1), .val (.int p2), .val (.long q3), .second, .val (.int p4), .unset, .unset, .unset] [(.int ((p4 + p1)).toInt8.toInt32), (.int (ws.getD (p1).toNatClampNeg (0 : Int32)))])) _
        refine XS.icmpNo X0.here hx rfl (hb hby d2_20) rfl (teq hc20).2 ?_
        show Steps p.tables e below (s₁.setTop (mkF m 23 #[.val (.ref a0), .val (.int p1), .val (.int p2), .val (.long q3), .second, .val (.int p4), .unset, .unset, .unset] [])) _
        refine XS.iconst X0.here hx rfl (hb hby d2_23) ?_
        show Steps p.tables e below (s₁.setTop (mkF m 24 #[.val (.ref a0), .val (.int p1), .val (.int p2), .val (.long q3), .second, .val (.int p4), .unset, .unset, .unset] [(.int (1 : Int32))])) _
        refine XS.goto X0.here hx rfl (pc0 := 24) (pc' := 28) rfl (hb hby d2_24) (by decide) (by decide) ?_
        show Steps p.tables e below (s₁.setTop (mkF m 28 #[.val (.ref a0), .val (.int p1), .val (.int p2), .val (.long q3), .second, .val (.int p4), .unset, .unset, .unset] [(.int (1 : Int32))])) _
        exact retN X0 hx (t := .boolean) Bd.returns (by simp) (hb hby d2_28) hr
      · show Q2 Z a0 p1 p2 q3 p4 k z ws h0 n0 _ s₁.heap _
        rw [e0]
        unfold Q2
        refine ⟨?_, N0, rfl⟩
        · simp only [own_f2, if_pos hc2, if_pos hc20]
    · obtain ⟨fs, hr, hrun, hended, hW, hsame⟩ := X0.leave (v := some (.int (0 : Int32))) (fun h => by rw [Bd.returns] at h; cases h)
      refine ⟨_, _, pre3 _ ?_, hrun, hended, _, _, rfl, ?_, ⟨_, rfl⟩, hW, hsame.mono (by decide) (by decide)⟩
      · show Steps p.tables e below (s₁.setTop (mkF m 20 #[.val (.ref a0), .val (.int p1), .val (.int p2), .val (.long q3), .second, .val (.int p4), .unset, .unset, .unset] [(.int ((p4 + p1)).toInt8.toInt32), (.int (ws.getD (p1).toNatClampNeg (0 : Int32)))])) _
        refine XS.icmpYes X0.here hx rfl (pc0 := 20) (pc' := 27) rfl (hb hby d2_20) rfl (feq hc20).2 (by decide) (by decide) ?_
        show Steps p.tables e below (s₁.setTop (mkF m 27 #[.val (.ref a0), .val (.int p1), .val (.int p2), .val (.long q3), .second, .val (.int p4), .unset, .unset, .unset] [])) _
        refine XS.iconst X0.here hx rfl (hb hby d2_27) ?_
        show Steps p.tables e below (s₁.setTop (mkF m 28 #[.val (.ref a0), .val (.int p1), .val (.int p2), .val (.long q3), .second, .val (.int p4), .unset, .unset, .unset] [(.int (0 : Int32))])) _
        exact retN X0 hx (t := .boolean) Bd.returns (by simp) (hb hby d2_28) hr
      · show Q2 Z a0 p1 p2 q3 p4 k z ws h0 n0 _ s₁.heap _
        rw [e0]
        unfold Q2
        refine ⟨?_, N0, rfl⟩
        · simp only [own_f2, if_pos hc2, if_neg hc20]
  · have pre4 : own_Pre p e below (s₁.setTop (entryFrame m #[(.ref a0), (.int p1), (.int p2), (.long q3), (.int p4)] 9)) (s₁.setTop (mkF m 9 #[.val (.ref a0), .val (.int p1), .val (.int p2), .val (.long q3), .second, .val (.int p4), .unset, .unset, .unset] [(.int (p2 + (4 : Int32))), (.int p1)])) := fun t k => pre1 t (by
        show Steps p.tables e below (s₁.setTop (mkF m 2 #[.val (.ref a0), .val (.int p1), .val (.int p2), .val (.long q3), .second, .val (.int p4), .unset, .unset, .unset] [(.int p2), (.int p1)])) _
        refine XS.icmpNo X0.here hx rfl (hb hby d2_2) rfl (flt hc2).1 ?_
        show Steps p.tables e below (s₁.setTop (mkF m 5 #[.val (.ref a0), .val (.int p1), .val (.int p2), .val (.long q3), .second, .val (.int p4), .unset, .unset, .unset] [])) _
        refine XS.iloadN X0.here hx rfl (hb hby d2_5) rfl ?_
        show Steps p.tables e below (s₁.setTop (mkF m 6 #[.val (.ref a0), .val (.int p1), .val (.int p2), .val (.long q3), .second, .val (.int p4), .unset, .unset, .unset] [(.int p1)])) _
        refine XS.iloadN X0.here hx rfl (hb hby d2_6) rfl ?_
        show Steps p.tables e below (s₁.setTop (mkF m 7 #[.val (.ref a0), .val (.int p1), .val (.int p2), .val (.long q3), .second, .val (.int p4), .unset, .unset, .unset] [(.int p2), (.int p1)])) _
        refine XS.iconst X0.here hx rfl (hb hby d2_7) ?_
        show Steps p.tables e below (s₁.setTop (mkF m 8 #[.val (.ref a0), .val (.int p1), .val (.int p2), .val (.long q3), .second, .val (.int p4), .unset, .unset, .unset] [(.int (4 : Int32)), (.int p2), (.int p1)])) _
        refine XS.iadd X0.here hx rfl (hb hby d2_8) rfl ?_
        exact k)
    by_cases hc9 : p1 < (p2 + (4 : Int32))
    · have pre7 : own_Pre p e below (s₁.setTop (entryFrame m #[(.ref a0), (.int p1), (.int p2), (.long q3), (.int p4)] 9)) (s₁.setTop (mkF m 36 #[.val (.ref a0), .val (.int p1), .val (.int p2), .val (.long q3), .second, .val (.int p4), .val (.int (p1 - p2)), .unset, .unset] [(.int (p1 - p2))])) := fun t k => pre4 t (by
          show Steps p.tables e below (s₁.setTop (mkF m 9 #[.val (.ref a0), .val (.int p1), .val (.int p2), .val (.long q3), .second, .val (.int p4), .unset, .unset, .unset] [(.int (p2 + (4 : Int32))), (.int p1)])) _
          refine XS.icmpYes X0.here hx rfl (pc0 := 9) (pc' := 29) rfl (hb hby d2_9) rfl (tlt hc9).1 (by decide) (by decide) ?_
          show Steps p.tables e below (s₁.setTop (mkF m 29 #[.val (.ref a0), .val (.int p1), .val (.int p2), .val (.long q3), .second, .val (.int p4), .unset, .unset, .unset] [])) _
          refine XS.iloadN X0.here hx rfl (hb hby d2_29) rfl ?_
          show Steps p.tables e below (s₁.setTop (mkF m 30 #[.val (.ref a0), .val (.int p1), .val (.int p2), .val (.long q3), .second, .val (.int p4), .unset, .unset, .unset] [(.int p1)])) _
          refine XS.iloadN X0.here hx rfl (hb hby d2_30) rfl ?_
          show Steps p.tables e below (s₁.setTop (mkF m 31 #[.val (.ref a0), .val (.int p1), .val (.int p2), .val (.long q3), .second, .val (.int p4), .unset, .unset, .unset] [(.int p2), (.int p1)])) _
          refine XS.isub X0.here hx rfl (hb hby d2_31) rfl ?_
          show Steps p.tables e below (s₁.setTop (mkF m 32 #[.val (.ref a0), .val (.int p1), .val (.int p2), .val (.long q3), .second, .val (.int p4), .unset, .unset, .unset] [(.int (p1 - p2))])) _
          refine XS.istore X0.here hx rfl (hb hby d2_32) rfl (l' := #[.val (.ref a0), .val (.int p1), .val (.int p2), .val (.long q3), .second, .val (.int p4), .val (.int (p1 - p2)), .unset, .unset]) rfl ?_
          show Steps p.tables e below (s₁.setTop (mkF m 34 #[.val (.ref a0), .val (.int p1), .val (.int p2), .val (.long q3), .second, .val (.int p4), .val (.int (p1 - p2)), .unset, .unset] [])) _
          refine XS.iload X0.here hx rfl (hb hby d2_34) rfl ?_
          exact k)
      obtain ⟨m96_l7, hm96_l7, pre6⟩ : ∃ (m96_l7 : Int64), m96_l7 = (own_m2_96_l7 p1 p2 q3) ∧ own_Pre p e below (s₁.setTop (entryFrame m #[(.ref a0), (.int p1), (.int p2), (.long q3), (.int p4)] 9)) (s₁.setTop (mkF m 96 #[.val (.ref a0), .val (.int p1), .val (.int p2), .val (.long q3), .second, .val (.int p4), .val (.int (p1 - p2)), .val (.long m96_l7), .second] [])) := by
        by_cases hc36 : (p1 - p2) = (0 : Int32)
        · obtain ⟨x7_46, hx7_46, pre8⟩ : ∃ z : Int64, z = (q3 / (16777216 : Int64)) ∧ own_Pre p e below (s₁.setTop (entryFrame m #[(.ref a0), (.int p1), (.int p2), (.long q3), (.int p4)] 9)) (s₁.setTop (mkF m 46 #[.val (.ref a0), .val (.int p1), .val (.int p2), .val (.long q3), .second, .val (.int p4), .val (.int (p1 - p2)), .val (.long z), .second] [])) := ⟨_, rfl, fun t k => pre7 t (by
              show Steps p.tables e below (s₁.setTop (mkF m 36 #[.val (.ref a0), .val (.int p1), .val (.int p2), .val (.long q3), .second, .val (.int p4), .val (.int (p1 - p2)), .unset, .unset] [(.int (p1 - p2))])) _
              refine XS.ifNo X0.here hx rfl (hb hby d2_36) rfl ((if0 _ _).trans (teq hc36).2) ?_
              show Steps p.tables e below (s₁.setTop (mkF m 39 #[.val (.ref a0), .val (.int p1), .val (.int p2), .val (.long q3), .second, .val (.int p4), .val (.int (p1 - p2)), .unset, .unset] [])) _
              refine XS.lloadN X0.here hx rfl (hb hby d2_39) rfl ?_
              show Steps p.tables e below (s₁.setTop (mkF m 40 #[.val (.ref a0), .val (.int p1), .val (.int p2), .val (.long q3), .second, .val (.int p4), .val (.int (p1 - p2)), .unset, .unset] [(.long q3)])) _
              refine X0.ldc2Long hx hown (mvT hZ (hw _ (List.mem_of_getElem? (i := 11) rfl))) (g := (mkF m 40 #[.val (.ref a0), .val (.int p1), .val (.int p2), .val (.long q3), .second, .val (.int p4), .val (.int (p1 - p2)), .unset, .unset] [(.long q3)])) rfl (hb hby d2_40) _ ?_
              show Steps p.tables e below (s₁.setTop (mkF m 43 #[.val (.ref a0), .val (.int p1), .val (.int p2), .val (.long q3), .second, .val (.int p4), .val (.int (p1 - p2)), .unset, .unset] [(.long (16777216 : Int64)), (.long q3)])) _
              refine XS.ldiv X0.here hx rfl (hb hby d2_43) rfl (by decide) ?_
              show Steps p.tables e below (s₁.setTop (mkF m 44 #[.val (.ref a0), .val (.int p1), .val (.int p2), .val (.long q3), .second, .val (.int p4), .val (.int (p1 - p2)), .unset, .unset] [(.long (q3 / (16777216 : Int64)))])) _
              refine XS.lstore X0.here hx rfl (hb hby d2_44) rfl (l' := #[.val (.ref a0), .val (.int p1), .val (.int p2), .val (.long q3), .second, .val (.int p4), .val (.int (p1 - p2)), .val (.long (q3 / (16777216 : Int64))), .second]) rfl ?_
              exact k)⟩
          have pre9 : own_Pre p e below (s₁.setTop (entryFrame m #[(.ref a0), (.int p1), (.int p2), (.long q3), (.int p4)] 9)) (s₁.setTop (mkF m 96 #[.val (.ref a0), .val (.int p1), .val (.int p2), .val (.long q3), .second, .val (.int p4), .val (.int (p1 - p2)), .val (.long x7_46), .second] [])) := fun t k => pre8 t (by
              show Steps p.tables e below (s₁.setTop (mkF m 46 #[.val (.ref a0), .val (.int p1), .val (.int p2), .val (.long q3), .second, .val (.int p4), .val (.int (p1 - p2)), .val (.long x7_46), .second] [])) _
              refine XS.goto X0.here hx rfl (pc0 := 46) (pc' := 96) rfl (hb hby d2_46) (by decide) (by decide) ?_
              exact k)
          refine ⟨_, ?_, pre9⟩
          all_goals (subst hx7_46; first | (simp only [own_m2_96_l7, if_pos hc36]; done) | (simp [own_m2_96_l7, if_pos hc36]; done))
        · have pre10 : own_Pre p e below (s₁.setTop (entryFrame m #[(.ref a0), (.int p1), (.int p2), (.long q3), (.int p4)] 9)) (s₁.setTop (mkF m 52 #[.val (.ref a0), .val (.int p1), .val (.int p2), .val (.long q3), .second, .val (.int p4), .val (.int (p1 - p2)), .unset, .unset] [(.int (1 : Int32)), (.int (p1 - p2))])) := fun t k => pre7 t (by
              show Steps p.tables e below (s₁.setTop (mkF m 36 #[.val (.ref a0), .val (.int p1), .val (.int p2), .val (.long q3), .second, .val (.int p4), .val (.int (p1 - p2)), .unset, .unset] [(.int (p1 - p2))])) _
              refine XS.ifYes X0.here hx rfl (pc0 := 36) (pc' := 49) rfl (hb hby d2_36) rfl ((if0 _ _).trans (feq hc36).2) (by decide) (by decide) ?_
              show Steps p.tables e below (s₁.setTop (mkF m 49 #[.val (.ref a0), .val (.int p1), .val (.int p2), .val (.long q3), .second, .val (.int p4), .val (.int (p1 - p2)), .unset, .unset] [])) _
              refine XS.iload X0.here hx rfl (hb hby d2_49) rfl ?_
              show Steps p.tables e below (s₁.setTop (mkF m 51 #[.val (.ref a0), .val (.int p1), .val (.int p2), .val (.long q3), .second, .val (.int p4), .val (.int (p1 - p2)), .unset, .unset] [(.int (p1 - p2))])) _
              refine XS.iconst X0.here hx rfl (hb hby d2_51) ?_
              exact k)
          by_cases hc52 : (p1 - p2) = (1 : Int32)
          · obtain ⟨x7_66, hx7_66, pre11⟩ : ∃ z : Int64, z = ((q3 / (65536 : Int64)) - (q3 / (65536 : Int64)) / (256 : Int64) * (256 : Int64)) ∧ own_Pre p e below (s₁.setTop (entryFrame m #[(.ref a0), (.int p1), (.int p2), (.long q3), (.int p4)] 9)) (s₁.setTop (mkF m 66 #[.val (.ref a0), .val (.int p1), .val (.int p2), .val (.long q3), .second, .val (.int p4), .val (.int (p1 - p2)), .val (.long z), .second] [])) := ⟨_, rfl, fun t k => pre10 t (by
                show Steps p.tables e below (s₁.setTop (mkF m 52 #[.val (.ref a0), .val (.int p1), .val (.int p2), .val (.long q3), .second, .val (.int p4), .val (.int (p1 - p2)), .unset, .unset] [(.int (1 : Int32)), (.int (p1 - p2))])) _
                refine XS.icmpNo X0.here hx rfl (hb hby d2_52) rfl (teq hc52).2 ?_
                show Steps p.tables e below (s₁.setTop (mkF m 55 #[.val (.ref a0), .val (.int p1), .val (.int p2), .val (.long q3), .second, .val (.int p4), .val (.int (p1 - p2)), .unset, .unset] [])) _
                refine XS.lloadN X0.here hx rfl (hb hby d2_55) rfl ?_
                show Steps p.tables e below (s₁.setTop (mkF m 56 #[.val (.ref a0), .val (.int p1), .val (.int p2), .val (.long q3), .second, .val (.int p4), .val (.int (p1 - p2)), .unset, .unset] [(.long q3)])) _
                refine X0.ldc2Long hx hown (mvT hZ (hw _ (List.mem_of_getElem? (i := 12) rfl))) (g := (mkF m 56 #[.val (.ref a0), .val (.int p1), .val (.int p2), .val (.long q3), .second, .val (.int p4), .val (.int (p1 - p2)), .unset, .unset] [(.long q3)])) rfl (hb hby d2_56) _ ?_
                show Steps p.tables e below (s₁.setTop (mkF m 59 #[.val (.ref a0), .val (.int p1), .val (.int p2), .val (.long q3), .second, .val (.int p4), .val (.int (p1 - p2)), .unset, .unset] [(.long (65536 : Int64)), (.long q3)])) _
                refine XS.ldiv X0.here hx rfl (hb hby d2_59) rfl (by decide) ?_
                show Steps p.tables e below (s₁.setTop (mkF m 60 #[.val (.ref a0), .val (.int p1), .val (.int p2), .val (.long q3), .second, .val (.int p4), .val (.int (p1 - p2)), .unset, .unset] [(.long (q3 / (65536 : Int64)))])) _
                refine X0.ldc2Long hx hown (mvT hZ (hw _ (List.mem_of_getElem? (i := 13) rfl))) (g := (mkF m 60 #[.val (.ref a0), .val (.int p1), .val (.int p2), .val (.long q3), .second, .val (.int p4), .val (.int (p1 - p2)), .unset, .unset] [(.long (q3 / (65536 : Int64)))])) rfl (hb hby d2_60) _ ?_
                show Steps p.tables e below (s₁.setTop (mkF m 63 #[.val (.ref a0), .val (.int p1), .val (.int p2), .val (.long q3), .second, .val (.int p4), .val (.int (p1 - p2)), .unset, .unset] [(.long (256 : Int64)), (.long (q3 / (65536 : Int64)))])) _
                refine XS.lrem X0.here hx rfl (hb hby d2_63) rfl (by decide) ?_
                show Steps p.tables e below (s₁.setTop (mkF m 64 #[.val (.ref a0), .val (.int p1), .val (.int p2), .val (.long q3), .second, .val (.int p4), .val (.int (p1 - p2)), .unset, .unset] [(.long ((q3 / (65536 : Int64)) - (q3 / (65536 : Int64)) / (256 : Int64) * (256 : Int64)))])) _
                refine XS.lstore X0.here hx rfl (hb hby d2_64) rfl (l' := #[.val (.ref a0), .val (.int p1), .val (.int p2), .val (.long q3), .second, .val (.int p4), .val (.int (p1 - p2)), .val (.long ((q3 / (65536 : Int64)) - (q3 / (65536 : Int64)) / (256 : Int64) * (256 : Int64))), .second]) rfl ?_
                exact k)⟩
            have pre12 : own_Pre p e below (s₁.setTop (entryFrame m #[(.ref a0), (.int p1), (.int p2), (.long q3), (.int p4)] 9)) (s₁.setTop (mkF m 96 #[.val (.ref a0), .val (.int p1), .val (.int p2), .val (.long q3), .second, .val (.int p4), .val (.int (p1 - p2)), .val (.long x7_66), .second] [])) := fun t k => pre11 t (by
                show Steps p.tables e below (s₁.setTop (mkF m 66 #[.val (.ref a0), .val (.int p1), .val (.int p2), .val (.long q3), .second, .val (.int p4), .val (.int (p1 - p2)), .val (.long x7_66), .second] [])) _
                refine XS.goto X0.here hx rfl (pc0 := 66) (pc' := 96) rfl (hb hby d2_66) (by decide) (by decide) ?_
                exact k)
            refine ⟨_, ?_, pre12⟩
            all_goals (subst hx7_66; first | (simp only [own_m2_96_l7, if_neg hc36, if_pos hc52]; done) | (simp [own_m2_96_l7, if_neg hc36, if_pos hc52]; done))
          · have pre13 : own_Pre p e below (s₁.setTop (entryFrame m #[(.ref a0), (.int p1), (.int p2), (.long q3), (.int p4)] 9)) (s₁.setTop (mkF m 72 #[.val (.ref a0), .val (.int p1), .val (.int p2), .val (.long q3), .second, .val (.int p4), .val (.int (p1 - p2)), .unset, .unset] [(.int (2 : Int32)), (.int (p1 - p2))])) := fun t k => pre10 t (by
                show Steps p.tables e below (s₁.setTop (mkF m 52 #[.val (.ref a0), .val (.int p1), .val (.int p2), .val (.long q3), .second, .val (.int p4), .val (.int (p1 - p2)), .unset, .unset] [(.int (1 : Int32)), (.int (p1 - p2))])) _
                refine XS.icmpYes X0.here hx rfl (pc0 := 52) (pc' := 69) rfl (hb hby d2_52) rfl (feq hc52).2 (by decide) (by decide) ?_
                show Steps p.tables e below (s₁.setTop (mkF m 69 #[.val (.ref a0), .val (.int p1), .val (.int p2), .val (.long q3), .second, .val (.int p4), .val (.int (p1 - p2)), .unset, .unset] [])) _
                refine XS.iload X0.here hx rfl (hb hby d2_69) rfl ?_
                show Steps p.tables e below (s₁.setTop (mkF m 71 #[.val (.ref a0), .val (.int p1), .val (.int p2), .val (.long q3), .second, .val (.int p4), .val (.int (p1 - p2)), .unset, .unset] [(.int (p1 - p2))])) _
                refine XS.iconst X0.here hx rfl (hb hby d2_71) ?_
                exact k)
            by_cases hc72 : (p1 - p2) = (2 : Int32)
            · obtain ⟨x7_86, hx7_86, pre14⟩ : ∃ z : Int64, z = ((q3 / (256 : Int64)) - (q3 / (256 : Int64)) / (256 : Int64) * (256 : Int64)) ∧ own_Pre p e below (s₁.setTop (entryFrame m #[(.ref a0), (.int p1), (.int p2), (.long q3), (.int p4)] 9)) (s₁.setTop (mkF m 86 #[.val (.ref a0), .val (.int p1), .val (.int p2), .val (.long q3), .second, .val (.int p4), .val (.int (p1 - p2)), .val (.long z), .second] [])) := ⟨_, rfl, fun t k => pre13 t (by
                  show Steps p.tables e below (s₁.setTop (mkF m 72 #[.val (.ref a0), .val (.int p1), .val (.int p2), .val (.long q3), .second, .val (.int p4), .val (.int (p1 - p2)), .unset, .unset] [(.int (2 : Int32)), (.int (p1 - p2))])) _
                  refine XS.icmpNo X0.here hx rfl (hb hby d2_72) rfl (teq hc72).2 ?_
                  show Steps p.tables e below (s₁.setTop (mkF m 75 #[.val (.ref a0), .val (.int p1), .val (.int p2), .val (.long q3), .second, .val (.int p4), .val (.int (p1 - p2)), .unset, .unset] [])) _
                  refine XS.lloadN X0.here hx rfl (hb hby d2_75) rfl ?_
                  show Steps p.tables e below (s₁.setTop (mkF m 76 #[.val (.ref a0), .val (.int p1), .val (.int p2), .val (.long q3), .second, .val (.int p4), .val (.int (p1 - p2)), .unset, .unset] [(.long q3)])) _
                  refine X0.ldc2Long hx hown (mvT hZ (hw _ (List.mem_of_getElem? (i := 13) rfl))) (g := (mkF m 76 #[.val (.ref a0), .val (.int p1), .val (.int p2), .val (.long q3), .second, .val (.int p4), .val (.int (p1 - p2)), .unset, .unset] [(.long q3)])) rfl (hb hby d2_76) _ ?_
                  show Steps p.tables e below (s₁.setTop (mkF m 79 #[.val (.ref a0), .val (.int p1), .val (.int p2), .val (.long q3), .second, .val (.int p4), .val (.int (p1 - p2)), .unset, .unset] [(.long (256 : Int64)), (.long q3)])) _
                  refine XS.ldiv X0.here hx rfl (hb hby d2_79) rfl (by decide) ?_
                  show Steps p.tables e below (s₁.setTop (mkF m 80 #[.val (.ref a0), .val (.int p1), .val (.int p2), .val (.long q3), .second, .val (.int p4), .val (.int (p1 - p2)), .unset, .unset] [(.long (q3 / (256 : Int64)))])) _
                  refine X0.ldc2Long hx hown (mvT hZ (hw _ (List.mem_of_getElem? (i := 13) rfl))) (g := (mkF m 80 #[.val (.ref a0), .val (.int p1), .val (.int p2), .val (.long q3), .second, .val (.int p4), .val (.int (p1 - p2)), .unset, .unset] [(.long (q3 / (256 : Int64)))])) rfl (hb hby d2_80) _ ?_
                  show Steps p.tables e below (s₁.setTop (mkF m 83 #[.val (.ref a0), .val (.int p1), .val (.int p2), .val (.long q3), .second, .val (.int p4), .val (.int (p1 - p2)), .unset, .unset] [(.long (256 : Int64)), (.long (q3 / (256 : Int64)))])) _
                  refine XS.lrem X0.here hx rfl (hb hby d2_83) rfl (by decide) ?_
                  show Steps p.tables e below (s₁.setTop (mkF m 84 #[.val (.ref a0), .val (.int p1), .val (.int p2), .val (.long q3), .second, .val (.int p4), .val (.int (p1 - p2)), .unset, .unset] [(.long ((q3 / (256 : Int64)) - (q3 / (256 : Int64)) / (256 : Int64) * (256 : Int64)))])) _
                  refine XS.lstore X0.here hx rfl (hb hby d2_84) rfl (l' := #[.val (.ref a0), .val (.int p1), .val (.int p2), .val (.long q3), .second, .val (.int p4), .val (.int (p1 - p2)), .val (.long ((q3 / (256 : Int64)) - (q3 / (256 : Int64)) / (256 : Int64) * (256 : Int64))), .second]) rfl ?_
                  exact k)⟩
              have pre15 : own_Pre p e below (s₁.setTop (entryFrame m #[(.ref a0), (.int p1), (.int p2), (.long q3), (.int p4)] 9)) (s₁.setTop (mkF m 96 #[.val (.ref a0), .val (.int p1), .val (.int p2), .val (.long q3), .second, .val (.int p4), .val (.int (p1 - p2)), .val (.long x7_86), .second] [])) := fun t k => pre14 t (by
                  show Steps p.tables e below (s₁.setTop (mkF m 86 #[.val (.ref a0), .val (.int p1), .val (.int p2), .val (.long q3), .second, .val (.int p4), .val (.int (p1 - p2)), .val (.long x7_86), .second] [])) _
                  refine XS.goto X0.here hx rfl (pc0 := 86) (pc' := 96) rfl (hb hby d2_86) (by decide) (by decide) ?_
                  exact k)
              refine ⟨_, ?_, pre15⟩
              all_goals (subst hx7_86; first | (simp only [own_m2_96_l7, if_neg hc36, if_neg hc52, if_pos hc72]; done) | (simp [own_m2_96_l7, if_neg hc36, if_neg hc52, if_pos hc72]; done))
            · obtain ⟨x7_96, hx7_96, pre16⟩ : ∃ z : Int64, z = (q3 - q3 / (256 : Int64) * (256 : Int64)) ∧ own_Pre p e below (s₁.setTop (entryFrame m #[(.ref a0), (.int p1), (.int p2), (.long q3), (.int p4)] 9)) (s₁.setTop (mkF m 96 #[.val (.ref a0), .val (.int p1), .val (.int p2), .val (.long q3), .second, .val (.int p4), .val (.int (p1 - p2)), .val (.long z), .second] [])) := ⟨_, rfl, fun t k => pre13 t (by
                  show Steps p.tables e below (s₁.setTop (mkF m 72 #[.val (.ref a0), .val (.int p1), .val (.int p2), .val (.long q3), .second, .val (.int p4), .val (.int (p1 - p2)), .unset, .unset] [(.int (2 : Int32)), (.int (p1 - p2))])) _
                  refine XS.icmpYes X0.here hx rfl (pc0 := 72) (pc' := 89) rfl (hb hby d2_72) rfl (feq hc72).2 (by decide) (by decide) ?_
                  show Steps p.tables e below (s₁.setTop (mkF m 89 #[.val (.ref a0), .val (.int p1), .val (.int p2), .val (.long q3), .second, .val (.int p4), .val (.int (p1 - p2)), .unset, .unset] [])) _
                  refine XS.lloadN X0.here hx rfl (hb hby d2_89) rfl ?_
                  show Steps p.tables e below (s₁.setTop (mkF m 90 #[.val (.ref a0), .val (.int p1), .val (.int p2), .val (.long q3), .second, .val (.int p4), .val (.int (p1 - p2)), .unset, .unset] [(.long q3)])) _
                  refine X0.ldc2Long hx hown (mvT hZ (hw _ (List.mem_of_getElem? (i := 13) rfl))) (g := (mkF m 90 #[.val (.ref a0), .val (.int p1), .val (.int p2), .val (.long q3), .second, .val (.int p4), .val (.int (p1 - p2)), .unset, .unset] [(.long q3)])) rfl (hb hby d2_90) _ ?_
                  show Steps p.tables e below (s₁.setTop (mkF m 93 #[.val (.ref a0), .val (.int p1), .val (.int p2), .val (.long q3), .second, .val (.int p4), .val (.int (p1 - p2)), .unset, .unset] [(.long (256 : Int64)), (.long q3)])) _
                  refine XS.lrem X0.here hx rfl (hb hby d2_93) rfl (by decide) ?_
                  show Steps p.tables e below (s₁.setTop (mkF m 94 #[.val (.ref a0), .val (.int p1), .val (.int p2), .val (.long q3), .second, .val (.int p4), .val (.int (p1 - p2)), .unset, .unset] [(.long (q3 - q3 / (256 : Int64) * (256 : Int64)))])) _
                  refine XS.lstore X0.here hx rfl (hb hby d2_94) rfl (l' := #[.val (.ref a0), .val (.int p1), .val (.int p2), .val (.long q3), .second, .val (.int p4), .val (.int (p1 - p2)), .val (.long (q3 - q3 / (256 : Int64) * (256 : Int64))), .second]) rfl ?_
                  exact k)⟩
              refine ⟨_, ?_, pre16⟩
              all_goals (subst hx7_96; first | (simp only [own_m2_96_l7, if_neg hc36, if_neg hc52, if_neg hc72]; done) | (simp [own_m2_96_l7, if_neg hc36, if_neg hc52, if_neg hc72]; done))
      obtain ⟨cl17, Ar17, hin17, hat17⟩ := own_AI.at V_a0 (j := p1) (hi0)
      have pre18 : own_Pre p e below (s₁.setTop (entryFrame m #[(.ref a0), (.int p1), (.int p2), (.long q3), (.int p4)] 9)) (s₁.setTop (mkF m 107 #[.val (.ref a0), .val (.int p1), .val (.int p2), .val (.long q3), .second, .val (.int p4), .val (.int (p1 - p2)), .val (.long m96_l7), .second] [(.int (lcmpW (((ws.getD (p1).toNatClampNeg (0 : Int32)) &&& (255 : Int32))).toInt64 m96_l7))])) := fun t k => pre6 t (by
          show Steps p.tables e below (s₁.setTop (mkF m 96 #[.val (.ref a0), .val (.int p1), .val (.int p2), .val (.long q3), .second, .val (.int p4), .val (.int (p1 - p2)), .val (.long m96_l7), .second] [])) _
          refine XS.aloadN X0.here hx rfl (hb hby d2_96) rfl rfl ?_
          show Steps p.tables e below (s₁.setTop (mkF m 97 #[.val (.ref a0), .val (.int p1), .val (.int p2), .val (.long q3), .second, .val (.int p4), .val (.int (p1 - p2)), .val (.long m96_l7), .second] [(.ref a0)])) _
          refine XS.iloadN X0.here hx rfl (hb hby d2_97) rfl ?_
          show Steps p.tables e below (s₁.setTop (mkF m 98 #[.val (.ref a0), .val (.int p1), .val (.int p2), .val (.long q3), .second, .val (.int p4), .val (.int (p1 - p2)), .val (.long m96_l7), .second] [(.int p1), (.ref a0)])) _
          refine X0.baloadBytes hx (j := p1) (v := (.int (ws.getD (p1).toNatClampNeg (0 : Int32)))) (by rw [e0]; exact Ar17.1) (State.isArrayOf_alike hZ.alike Ar17.2.1) Ar17.2.2 hin17 hat17 (g := (mkF m 98 #[.val (.ref a0), .val (.int p1), .val (.int p2), .val (.long q3), .second, .val (.int p4), .val (.int (p1 - p2)), .val (.long m96_l7), .second] [(.int p1), (.ref a0)])) rfl rfl (hb hby d2_98) _ ?_
          show Steps p.tables e below (s₁.setTop (mkF m 99 #[.val (.ref a0), .val (.int p1), .val (.int p2), .val (.long q3), .second, .val (.int p4), .val (.int (p1 - p2)), .val (.long m96_l7), .second] [(.int (ws.getD (p1).toNatClampNeg (0 : Int32)))])) _
          refine XS.sipush X0.here hx rfl (hb hby d2_99) ?_
          show Steps p.tables e below (s₁.setTop (mkF m 102 #[.val (.ref a0), .val (.int p1), .val (.int p2), .val (.long q3), .second, .val (.int p4), .val (.int (p1 - p2)), .val (.long m96_l7), .second] [(.int (255 : Int32)), (.int (ws.getD (p1).toNatClampNeg (0 : Int32)))])) _
          refine XS.iand X0.here hx rfl (hb hby d2_102) rfl ?_
          show Steps p.tables e below (s₁.setTop (mkF m 103 #[.val (.ref a0), .val (.int p1), .val (.int p2), .val (.long q3), .second, .val (.int p4), .val (.int (p1 - p2)), .val (.long m96_l7), .second] [(.int ((ws.getD (p1).toNatClampNeg (0 : Int32)) &&& (255 : Int32)))])) _
          refine XS.i2l X0.here hx rfl (hb hby d2_103) rfl ?_
          show Steps p.tables e below (s₁.setTop (mkF m 104 #[.val (.ref a0), .val (.int p1), .val (.int p2), .val (.long q3), .second, .val (.int p4), .val (.int (p1 - p2)), .val (.long m96_l7), .second] [(.long (((ws.getD (p1).toNatClampNeg (0 : Int32)) &&& (255 : Int32))).toInt64)])) _
          refine XS.lload X0.here hx rfl (hb hby d2_104) rfl ?_
          show Steps p.tables e below (s₁.setTop (mkF m 106 #[.val (.ref a0), .val (.int p1), .val (.int p2), .val (.long q3), .second, .val (.int p4), .val (.int (p1 - p2)), .val (.long m96_l7), .second] [(.long m96_l7), (.long (((ws.getD (p1).toNatClampNeg (0 : Int32)) &&& (255 : Int32))).toInt64)])) _
          refine XS.lcmp X0.here hx rfl (hb hby d2_106) rfl ?_
          exact k)
      by_cases hc107 : (((ws.getD (p1).toNatClampNeg (0 : Int32)) &&& (255 : Int32))).toInt64 = m96_l7
      · obtain ⟨fs, hr, hrun, hended, hW, hsame⟩ := X0.leave (v := some (.int (1 : Int32))) (fun h => by rw [Bd.returns] at h; cases h)
        refine ⟨_, _, pre18 _ ?_, hrun, hended, _, _, rfl, ?_, ⟨_, rfl⟩, hW, hsame.mono (by decide) (by decide)⟩
        · show Steps p.tables e below (s₁.setTop (mkF m 107 #[.val (.ref a0), .val (.int p1), .val (.int p2), .val (.long q3), .second, .val (.int p4), .val (.int (p1 - p2)), .val (.long m96_l7), .second] [(.int (lcmpW (((ws.getD (p1).toNatClampNeg (0 : Int32)) &&& (255 : Int32))).toInt64 m96_l7))])) _
          refine XS.ifNo X0.here hx rfl (hb hby d2_107) rfl ((if0 _ _).trans (teq ((lw_eq _ _).mpr hc107)).2) ?_
          show Steps p.tables e below (s₁.setTop (mkF m 110 #[.val (.ref a0), .val (.int p1), .val (.int p2), .val (.long q3), .second, .val (.int p4), .val (.int (p1 - p2)), .val (.long m96_l7), .second] [])) _
          refine XS.iconst X0.here hx rfl (hb hby d2_110) ?_
          show Steps p.tables e below (s₁.setTop (mkF m 111 #[.val (.ref a0), .val (.int p1), .val (.int p2), .val (.long q3), .second, .val (.int p4), .val (.int (p1 - p2)), .val (.long m96_l7), .second] [(.int (1 : Int32))])) _
          refine XS.goto X0.here hx rfl (pc0 := 111) (pc' := 115) rfl (hb hby d2_111) (by decide) (by decide) ?_
          show Steps p.tables e below (s₁.setTop (mkF m 115 #[.val (.ref a0), .val (.int p1), .val (.int p2), .val (.long q3), .second, .val (.int p4), .val (.int (p1 - p2)), .val (.long m96_l7), .second] [(.int (1 : Int32))])) _
          exact retN X0 hx (t := .boolean) Bd.returns (by simp) (hb hby d2_115) hr
        · show Q2 Z a0 p1 p2 q3 p4 k z ws h0 n0 _ s₁.heap _
          rw [e0]
          unfold Q2
          refine ⟨?_, N0, rfl⟩
          · subst hm96_l7; simp only [own_f2, if_neg hc2, if_pos hc9, if_pos hc107]
      · obtain ⟨fs, hr, hrun, hended, hW, hsame⟩ := X0.leave (v := some (.int (0 : Int32))) (fun h => by rw [Bd.returns] at h; cases h)
        refine ⟨_, _, pre18 _ ?_, hrun, hended, _, _, rfl, ?_, ⟨_, rfl⟩, hW, hsame.mono (by decide) (by decide)⟩
        · show Steps p.tables e below (s₁.setTop (mkF m 107 #[.val (.ref a0), .val (.int p1), .val (.int p2), .val (.long q3), .second, .val (.int p4), .val (.int (p1 - p2)), .val (.long m96_l7), .second] [(.int (lcmpW (((ws.getD (p1).toNatClampNeg (0 : Int32)) &&& (255 : Int32))).toInt64 m96_l7))])) _
          refine XS.ifYes X0.here hx rfl (pc0 := 107) (pc' := 114) rfl (hb hby d2_107) rfl ((if0 _ _).trans (feq (mt (lw_eq _ _).mp hc107)).2) (by decide) (by decide) ?_
          show Steps p.tables e below (s₁.setTop (mkF m 114 #[.val (.ref a0), .val (.int p1), .val (.int p2), .val (.long q3), .second, .val (.int p4), .val (.int (p1 - p2)), .val (.long m96_l7), .second] [])) _
          refine XS.iconst X0.here hx rfl (hb hby d2_114) ?_
          show Steps p.tables e below (s₁.setTop (mkF m 115 #[.val (.ref a0), .val (.int p1), .val (.int p2), .val (.long q3), .second, .val (.int p4), .val (.int (p1 - p2)), .val (.long m96_l7), .second] [(.int (0 : Int32))])) _
          exact retN X0 hx (t := .boolean) Bd.returns (by simp) (hb hby d2_115) hr
        · show Q2 Z a0 p1 p2 q3 p4 k z ws h0 n0 _ s₁.heap _
          rw [e0]
          unfold Q2
          refine ⟨?_, N0, rfl⟩
          · subst hm96_l7; simp only [own_f2, if_neg hc2, if_pos hc9, if_neg hc107]
    · obtain ⟨cl19, Ar19, hin19, hat19⟩ := own_AI.at V_a0 (j := p1) (hi0)
      have pre20 : own_Pre p e below (s₁.setTop (entryFrame m #[(.ref a0), (.int p1), (.int p2), (.long q3), (.int p4)] 9)) (s₁.setTop (mkF m 20 #[.val (.ref a0), .val (.int p1), .val (.int p2), .val (.long q3), .second, .val (.int p4), .unset, .unset, .unset] [(.int ((p4 + p1)).toInt8.toInt32), (.int (ws.getD (p1).toNatClampNeg (0 : Int32)))])) := fun t k => pre4 t (by
          show Steps p.tables e below (s₁.setTop (mkF m 9 #[.val (.ref a0), .val (.int p1), .val (.int p2), .val (.long q3), .second, .val (.int p4), .unset, .unset, .unset] [(.int (p2 + (4 : Int32))), (.int p1)])) _
          refine XS.icmpNo X0.here hx rfl (hb hby d2_9) rfl (flt hc9).1 ?_
          show Steps p.tables e below (s₁.setTop (mkF m 12 #[.val (.ref a0), .val (.int p1), .val (.int p2), .val (.long q3), .second, .val (.int p4), .unset, .unset, .unset] [])) _
          refine XS.aloadN X0.here hx rfl (hb hby d2_12) rfl rfl ?_
          show Steps p.tables e below (s₁.setTop (mkF m 13 #[.val (.ref a0), .val (.int p1), .val (.int p2), .val (.long q3), .second, .val (.int p4), .unset, .unset, .unset] [(.ref a0)])) _
          refine XS.iloadN X0.here hx rfl (hb hby d2_13) rfl ?_
          show Steps p.tables e below (s₁.setTop (mkF m 14 #[.val (.ref a0), .val (.int p1), .val (.int p2), .val (.long q3), .second, .val (.int p4), .unset, .unset, .unset] [(.int p1), (.ref a0)])) _
          refine X0.baloadBytes hx (j := p1) (v := (.int (ws.getD (p1).toNatClampNeg (0 : Int32)))) (by rw [e0]; exact Ar19.1) (State.isArrayOf_alike hZ.alike Ar19.2.1) Ar19.2.2 hin19 hat19 (g := (mkF m 14 #[.val (.ref a0), .val (.int p1), .val (.int p2), .val (.long q3), .second, .val (.int p4), .unset, .unset, .unset] [(.int p1), (.ref a0)])) rfl rfl (hb hby d2_14) _ ?_
          show Steps p.tables e below (s₁.setTop (mkF m 15 #[.val (.ref a0), .val (.int p1), .val (.int p2), .val (.long q3), .second, .val (.int p4), .unset, .unset, .unset] [(.int (ws.getD (p1).toNatClampNeg (0 : Int32)))])) _
          refine XS.iload X0.here hx rfl (hb hby d2_15) rfl ?_
          show Steps p.tables e below (s₁.setTop (mkF m 17 #[.val (.ref a0), .val (.int p1), .val (.int p2), .val (.long q3), .second, .val (.int p4), .unset, .unset, .unset] [(.int p4), (.int (ws.getD (p1).toNatClampNeg (0 : Int32)))])) _
          refine XS.iloadN X0.here hx rfl (hb hby d2_17) rfl ?_
          show Steps p.tables e below (s₁.setTop (mkF m 18 #[.val (.ref a0), .val (.int p1), .val (.int p2), .val (.long q3), .second, .val (.int p4), .unset, .unset, .unset] [(.int p1), (.int p4), (.int (ws.getD (p1).toNatClampNeg (0 : Int32)))])) _
          refine XS.iadd X0.here hx rfl (hb hby d2_18) rfl ?_
          show Steps p.tables e below (s₁.setTop (mkF m 19 #[.val (.ref a0), .val (.int p1), .val (.int p2), .val (.long q3), .second, .val (.int p4), .unset, .unset, .unset] [(.int (p4 + p1)), (.int (ws.getD (p1).toNatClampNeg (0 : Int32)))])) _
          refine XS.i2b X0.here hx rfl (hb hby d2_19) rfl ?_
          exact k)
      by_cases hc20 : (ws.getD (p1).toNatClampNeg (0 : Int32)) = ((p4 + p1)).toInt8.toInt32
      · obtain ⟨fs, hr, hrun, hended, hW, hsame⟩ := X0.leave (v := some (.int (1 : Int32))) (fun h => by rw [Bd.returns] at h; cases h)
        refine ⟨_, _, pre20 _ ?_, hrun, hended, _, _, rfl, ?_, ⟨_, rfl⟩, hW, hsame.mono (by decide) (by decide)⟩
        · show Steps p.tables e below (s₁.setTop (mkF m 20 #[.val (.ref a0), .val (.int p1), .val (.int p2), .val (.long q3), .second, .val (.int p4), .unset, .unset, .unset] [(.int ((p4 + p1)).toInt8.toInt32), (.int (ws.getD (p1).toNatClampNeg (0 : Int32)))])) _
          refine XS.icmpNo X0.here hx rfl (hb hby d2_20) rfl (teq hc20).2 ?_
          show Steps p.tables e below (s₁.setTop (mkF m 23 #[.val (.ref a0), .val (.int p1), .val (.int p2), .val (.long q3), .second, .val (.int p4), .unset, .unset, .unset] [])) _
          refine XS.iconst X0.here hx rfl (hb hby d2_23) ?_
          show Steps p.tables e below (s₁.setTop (mkF m 24 #[.val (.ref a0), .val (.int p1), .val (.int p2), .val (.long q3), .second, .val (.int p4), .unset, .unset, .unset] [(.int (1 : Int32))])) _
          refine XS.goto X0.here hx rfl (pc0 := 24) (pc' := 28) rfl (hb hby d2_24) (by decide) (by decide) ?_
          show Steps p.tables e below (s₁.setTop (mkF m 28 #[.val (.ref a0), .val (.int p1), .val (.int p2), .val (.long q3), .second, .val (.int p4), .unset, .unset, .unset] [(.int (1 : Int32))])) _
          exact retN X0 hx (t := .boolean) Bd.returns (by simp) (hb hby d2_28) hr
        · show Q2 Z a0 p1 p2 q3 p4 k z ws h0 n0 _ s₁.heap _
          rw [e0]
          unfold Q2
          refine ⟨?_, N0, rfl⟩
          · simp only [own_f2, if_neg hc2, if_neg hc9, if_pos hc20]
      · obtain ⟨fs, hr, hrun, hended, hW, hsame⟩ := X0.leave (v := some (.int (0 : Int32))) (fun h => by rw [Bd.returns] at h; cases h)
        refine ⟨_, _, pre20 _ ?_, hrun, hended, _, _, rfl, ?_, ⟨_, rfl⟩, hW, hsame.mono (by decide) (by decide)⟩
        · show Steps p.tables e below (s₁.setTop (mkF m 20 #[.val (.ref a0), .val (.int p1), .val (.int p2), .val (.long q3), .second, .val (.int p4), .unset, .unset, .unset] [(.int ((p4 + p1)).toInt8.toInt32), (.int (ws.getD (p1).toNatClampNeg (0 : Int32)))])) _
          refine XS.icmpYes X0.here hx rfl (pc0 := 20) (pc' := 27) rfl (hb hby d2_20) rfl (feq hc20).2 (by decide) (by decide) ?_
          show Steps p.tables e below (s₁.setTop (mkF m 27 #[.val (.ref a0), .val (.int p1), .val (.int p2), .val (.long q3), .second, .val (.int p4), .unset, .unset, .unset] [])) _
          refine XS.iconst X0.here hx rfl (hb hby d2_27) ?_
          show Steps p.tables e below (s₁.setTop (mkF m 28 #[.val (.ref a0), .val (.int p1), .val (.int p2), .val (.long q3), .second, .val (.int p4), .unset, .unset, .unset] [(.int (0 : Int32))])) _
          exact retN X0 hx (t := .boolean) Bd.returns (by simp) (hb hby d2_28) hr
        · show Q2 Z a0 p1 p2 q3 p4 k z ws h0 n0 _ s₁.heap _
          rw [e0]
          unfold Q2
          refine ⟨?_, N0, rfl⟩
          · simp only [own_f2, if_neg hc2, if_neg hc9, if_neg hc20]
theorem pd_0 : parseMethodDescriptor "([BII)V" = some ⟨[(.array .byte), .int, .int], none⟩ := by decide +kernel
theorem pd_1 : parseMethodDescriptor "([BIIJI)Z" = some ⟨[(.array .byte), .int, .int, .long, .int], some .boolean⟩ := by decide +kernel
theorem ef_0 (m : MethodId) (p0 : Int32) (p1 : Int32) (p2 : Int32) : entryFrame m #[(.int p0), (.int p1), (.int p2)] maxLocals = mkF m 0 #[.val (.int p0), .val (.int p1), .val (.int p2), .unset, .unset, .unset, .unset] [] := by first | (simp [entryFrame, mkF, argsToLocals, Value.category, maxLocals]; done) | rfl
theorem own_x5 {p : Int32} (x : Int32) (hx : x = (p &&& (2147483647 : Int32)) % (5 : Int32)) : x = (0 : Int32) ∨ x = (1 : Int32) ∨ x = (2 : Int32) ∨ x = (3 : Int32) ∨ x = (4 : Int32) := by
  have h1 := c_mask p 2147483647 31 (by decide) (by decide)
  have h2 := (c_irem (p &&& (2147483647 : Int32)) (5 : Int32) 5 rfl).1 (by omega)
  rw [← hx] at h2
  have h3 : x.toInt = 0 ∨ x.toInt = 1 ∨ x.toInt = 2 ∨ x.toInt = 3 ∨ x.toInt = 4 := by omega
  rcases h3 with h | h | h | h | h
  · exact Or.inl (Int32.toInt_inj.mp h)
  · exact Or.inr (Or.inl (Int32.toInt_inj.mp h))
  · exact Or.inr (Or.inr (Or.inl (Int32.toInt_inj.mp h)))
  · exact Or.inr (Or.inr (Or.inr (Or.inl (Int32.toInt_inj.mp h))))
  · exact Or.inr (Or.inr (Or.inr (Or.inr (Int32.toInt_inj.mp h))))
theorem own_ix {p : Int32} (x : Int32) (hx : x = (p &&& (2147483647 : Int32)) % (5 : Int32)) : (¬ x < 0 ∧ x < 8) ∧ (¬ (x + (1 : Int32)) < 0 ∧ (x + (1 : Int32)) < 8) ∧ (¬ (x + (2 : Int32)) < 0 ∧ (x + (2 : Int32)) < 8) ∧ (¬ (x + (3 : Int32)) < 0 ∧ (x + (3 : Int32)) < 8) := by
  rcases own_x5 x hx with rfl | rfl | rfl | rfl | rfl <;> decide
theorem own_byte (p : Int32) : ((nar .byte (p.toInt8.toInt32)) &&& (255 : Int32)).toInt = p.toInt % 256 := by
  have h1 := c_mask (nar .byte (p.toInt8.toInt32)) 255 8 (by decide) (by decide)
  have h2 := c_i2b p
  have h3 := c_i2b (p.toInt8.toInt32)
  have e : nar .byte (p.toInt8.toInt32) = (p.toInt8.toInt32).toInt8.toInt32 := rfl
  rw [h1, e]
  omega

theorem own_nb (p : Int32) : nar .byte (p.toInt8.toInt32) = p.toInt8.toInt32 := by
  show (p.toInt8.toInt32).toInt8.toInt32 = p.toInt8.toInt32
  simp
theorem own_nb0 (p : Int32) : nar .byte (p.toInt8.toInt32) = (p + (0 : Int32)).toInt8.toInt32 := by
  rw [Int32.add_zero]; exact own_nb p
theorem own_u (v : Int32) : (v.toInt64 &&& (4294967295 : Int64)).toInt = v.toInt % 4294967296 := by
  have := c_maskL v.toInt64 4294967295 32 (by decide) (by decide)
  rw [this, c_i2l]; rfl
theorem own_k0 (v : Int32) : ((nar .byte ((v.toUInt32 >>> ((24 : Int32) &&& 31).toUInt32).toInt32).toInt8.toInt32) &&& (255 : Int32)).toInt64 = (v.toInt64 &&& (4294967295 : Int64)) / (16777216 : Int64) := by
  apply Int64.toInt_inj.mp
  have s := c_iushr v 24 24 (by decide) (by decide)
  have u := own_u v
  have d := (c_ldiv (v.toInt64 &&& (4294967295 : Int64)) 16777216 16777216 rfl (by decide)).1 (by omega)
  rw [c_i2l, own_byte, d, s, u]
  omega
theorem own_k1 (v : Int32) : ((nar .byte ((v.toUInt32 >>> ((16 : Int32) &&& 31).toUInt32).toInt32).toInt8.toInt32) &&& (255 : Int32)).toInt64 = ((v.toInt64 &&& (4294967295 : Int64)) / (65536 : Int64)) - ((v.toInt64 &&& (4294967295 : Int64)) / (65536 : Int64)) / (256 : Int64) * (256 : Int64) := by
  apply Int64.toInt_inj.mp
  have s := c_iushr v 16 16 (by decide) (by decide)
  have u := own_u v
  have d := (c_ldiv (v.toInt64 &&& (4294967295 : Int64)) 65536 65536 rfl (by decide)).1 (by omega)
  have r := (c_lrem ((v.toInt64 &&& (4294967295 : Int64)) / (65536 : Int64)) 256 256 rfl).1 (by omega)
  rw [c_i2l, own_byte, r, d, s, u]
  omega
theorem own_k2 (v : Int32) : ((nar .byte ((v.toUInt32 >>> ((8 : Int32) &&& 31).toUInt32).toInt32).toInt8.toInt32) &&& (255 : Int32)).toInt64 = ((v.toInt64 &&& (4294967295 : Int64)) / (256 : Int64)) - ((v.toInt64 &&& (4294967295 : Int64)) / (256 : Int64)) / (256 : Int64) * (256 : Int64) := by
  apply Int64.toInt_inj.mp
  have s := c_iushr v 8 8 (by decide) (by decide)
  have u := own_u v
  have d := (c_ldiv (v.toInt64 &&& (4294967295 : Int64)) 256 256 rfl (by decide)).1 (by omega)
  have r := (c_lrem ((v.toInt64 &&& (4294967295 : Int64)) / (256 : Int64)) 256 256 rfl).1 (by omega)
  rw [c_i2l, own_byte, r, d, s, u]
  omega
theorem own_k3 (v : Int32) : ((nar .byte (v).toInt8.toInt32) &&& (255 : Int32)).toInt64 = (v.toInt64 &&& (4294967295 : Int64)) - (v.toInt64 &&& (4294967295 : Int64)) / (256 : Int64) * (256 : Int64) := by
  apply Int64.toInt_inj.mp
  have u := own_u v
  have r := (c_lrem (v.toInt64 &&& (4294967295 : Int64)) 256 256 rfl).1 (by omega)
  rw [c_i2l, own_byte, r, u]
  omega

def own_L (f : Int32) : List Int32 := (((((((((List.replicate 8 (0 : Int32)).set 0 (nar .byte (f).toInt8.toInt32)).set 1 (nar .byte (f + (1 : Int32)).toInt8.toInt32)).set 2 (nar .byte (f + (2 : Int32)).toInt8.toInt32)).set 3 (nar .byte (f + (3 : Int32)).toInt8.toInt32)).set 4 (nar .byte (f + (4 : Int32)).toInt8.toInt32)).set 5 (nar .byte (f + (5 : Int32)).toInt8.toInt32)).set 6 (nar .byte (f + (6 : Int32)).toInt8.toInt32)).set 7 (nar .byte (f + (7 : Int32)).toInt8.toInt32))
theorem own_cell0 {p : Int32} (x f v : Int32) (hx : x = (p &&& (2147483647 : Int32)) % (5 : Int32)) : own_f2 (0 : Int32) x (v.toInt64 &&& (4294967295 : Int64)) f (own_p1_a0 x v (own_L f)) = 1 := by
  rcases own_x5 x hx with rfl | rfl | rfl | rfl | rfl
  · have e : (own_p1_a0 (0 : Int32) v (own_L f)).getD (0 : Int32).toNatClampNeg (0 : Int32) = nar .byte ((v.toUInt32 >>> ((24 : Int32) &&& 31).toUInt32).toInt32).toInt8.toInt32 := rfl
    have q : own_m2_96_l7 (0 : Int32) (0 : Int32) (v.toInt64 &&& (4294967295 : Int64)) = ((v.toInt64 &&& (4294967295 : Int64)) / (16777216 : Int64)) := by unfold own_m2_96_l7; rw [if_pos (by decide)]
    unfold own_f2; rw [if_neg (by decide), if_pos (by decide), e, q, if_pos (own_k0 v)]
  · have e : (own_p1_a0 (1 : Int32) v (own_L f)).getD (0 : Int32).toNatClampNeg (0 : Int32) = nar .byte (f).toInt8.toInt32 := rfl
    unfold own_f2; rw [if_pos (by decide), e, if_pos (own_nb0 _)]
  · have e : (own_p1_a0 (2 : Int32) v (own_L f)).getD (0 : Int32).toNatClampNeg (0 : Int32) = nar .byte (f).toInt8.toInt32 := rfl
    unfold own_f2; rw [if_pos (by decide), e, if_pos (own_nb0 _)]
  · have e : (own_p1_a0 (3 : Int32) v (own_L f)).getD (0 : Int32).toNatClampNeg (0 : Int32) = nar .byte (f).toInt8.toInt32 := rfl
    unfold own_f2; rw [if_pos (by decide), e, if_pos (own_nb0 _)]
  · have e : (own_p1_a0 (4 : Int32) v (own_L f)).getD (0 : Int32).toNatClampNeg (0 : Int32) = nar .byte (f).toInt8.toInt32 := rfl
    unfold own_f2; rw [if_pos (by decide), e, if_pos (own_nb0 _)]
theorem own_cell1 {p : Int32} (x f v : Int32) (hx : x = (p &&& (2147483647 : Int32)) % (5 : Int32)) : own_f2 (1 : Int32) x (v.toInt64 &&& (4294967295 : Int64)) f (own_p1_a0 x v (own_L f)) = 1 := by
  rcases own_x5 x hx with rfl | rfl | rfl | rfl | rfl
  · have e : (own_p1_a0 (0 : Int32) v (own_L f)).getD (1 : Int32).toNatClampNeg (0 : Int32) = nar .byte ((v.toUInt32 >>> ((16 : Int32) &&& 31).toUInt32).toInt32).toInt8.toInt32 := rfl
    have q : own_m2_96_l7 (1 : Int32) (0 : Int32) (v.toInt64 &&& (4294967295 : Int64)) = (((v.toInt64 &&& (4294967295 : Int64)) / (65536 : Int64)) - ((v.toInt64 &&& (4294967295 : Int64)) / (65536 : Int64)) / (256 : Int64) * (256 : Int64)) := by unfold own_m2_96_l7; rw [if_neg (by decide), if_pos (by decide)]
    unfold own_f2; rw [if_neg (by decide), if_pos (by decide), e, q, if_pos (own_k1 v)]
  · have e : (own_p1_a0 (1 : Int32) v (own_L f)).getD (1 : Int32).toNatClampNeg (0 : Int32) = nar .byte ((v.toUInt32 >>> ((24 : Int32) &&& 31).toUInt32).toInt32).toInt8.toInt32 := rfl
    have q : own_m2_96_l7 (1 : Int32) (1 : Int32) (v.toInt64 &&& (4294967295 : Int64)) = ((v.toInt64 &&& (4294967295 : Int64)) / (16777216 : Int64)) := by unfold own_m2_96_l7; rw [if_pos (by decide)]
    unfold own_f2; rw [if_neg (by decide), if_pos (by decide), e, q, if_pos (own_k0 v)]
  · have e : (own_p1_a0 (2 : Int32) v (own_L f)).getD (1 : Int32).toNatClampNeg (0 : Int32) = nar .byte (f + (1 : Int32)).toInt8.toInt32 := rfl
    unfold own_f2; rw [if_pos (by decide), e, if_pos (own_nb _)]
  · have e : (own_p1_a0 (3 : Int32) v (own_L f)).getD (1 : Int32).toNatClampNeg (0 : Int32) = nar .byte (f + (1 : Int32)).toInt8.toInt32 := rfl
    unfold own_f2; rw [if_pos (by decide), e, if_pos (own_nb _)]
  · have e : (own_p1_a0 (4 : Int32) v (own_L f)).getD (1 : Int32).toNatClampNeg (0 : Int32) = nar .byte (f + (1 : Int32)).toInt8.toInt32 := rfl
    unfold own_f2; rw [if_pos (by decide), e, if_pos (own_nb _)]
theorem own_cell2 {p : Int32} (x f v : Int32) (hx : x = (p &&& (2147483647 : Int32)) % (5 : Int32)) : own_f2 (2 : Int32) x (v.toInt64 &&& (4294967295 : Int64)) f (own_p1_a0 x v (own_L f)) = 1 := by
  rcases own_x5 x hx with rfl | rfl | rfl | rfl | rfl
  · have e : (own_p1_a0 (0 : Int32) v (own_L f)).getD (2 : Int32).toNatClampNeg (0 : Int32) = nar .byte ((v.toUInt32 >>> ((8 : Int32) &&& 31).toUInt32).toInt32).toInt8.toInt32 := rfl
    have q : own_m2_96_l7 (2 : Int32) (0 : Int32) (v.toInt64 &&& (4294967295 : Int64)) = (((v.toInt64 &&& (4294967295 : Int64)) / (256 : Int64)) - ((v.toInt64 &&& (4294967295 : Int64)) / (256 : Int64)) / (256 : Int64) * (256 : Int64)) := by unfold own_m2_96_l7; rw [if_neg (by decide), if_neg (by decide), if_pos (by decide)]
    unfold own_f2; rw [if_neg (by decide), if_pos (by decide), e, q, if_pos (own_k2 v)]
  · have e : (own_p1_a0 (1 : Int32) v (own_L f)).getD (2 : Int32).toNatClampNeg (0 : Int32) = nar .byte ((v.toUInt32 >>> ((16 : Int32) &&& 31).toUInt32).toInt32).toInt8.toInt32 := rfl
    have q : own_m2_96_l7 (2 : Int32) (1 : Int32) (v.toInt64 &&& (4294967295 : Int64)) = (((v.toInt64 &&& (4294967295 : Int64)) / (65536 : Int64)) - ((v.toInt64 &&& (4294967295 : Int64)) / (65536 : Int64)) / (256 : Int64) * (256 : Int64)) := by unfold own_m2_96_l7; rw [if_neg (by decide), if_pos (by decide)]
    unfold own_f2; rw [if_neg (by decide), if_pos (by decide), e, q, if_pos (own_k1 v)]
  · have e : (own_p1_a0 (2 : Int32) v (own_L f)).getD (2 : Int32).toNatClampNeg (0 : Int32) = nar .byte ((v.toUInt32 >>> ((24 : Int32) &&& 31).toUInt32).toInt32).toInt8.toInt32 := rfl
    have q : own_m2_96_l7 (2 : Int32) (2 : Int32) (v.toInt64 &&& (4294967295 : Int64)) = ((v.toInt64 &&& (4294967295 : Int64)) / (16777216 : Int64)) := by unfold own_m2_96_l7; rw [if_pos (by decide)]
    unfold own_f2; rw [if_neg (by decide), if_pos (by decide), e, q, if_pos (own_k0 v)]
  · have e : (own_p1_a0 (3 : Int32) v (own_L f)).getD (2 : Int32).toNatClampNeg (0 : Int32) = nar .byte (f + (2 : Int32)).toInt8.toInt32 := rfl
    unfold own_f2; rw [if_pos (by decide), e, if_pos (own_nb _)]
  · have e : (own_p1_a0 (4 : Int32) v (own_L f)).getD (2 : Int32).toNatClampNeg (0 : Int32) = nar .byte (f + (2 : Int32)).toInt8.toInt32 := rfl
    unfold own_f2; rw [if_pos (by decide), e, if_pos (own_nb _)]
theorem own_cell3 {p : Int32} (x f v : Int32) (hx : x = (p &&& (2147483647 : Int32)) % (5 : Int32)) : own_f2 (3 : Int32) x (v.toInt64 &&& (4294967295 : Int64)) f (own_p1_a0 x v (own_L f)) = 1 := by
  rcases own_x5 x hx with rfl | rfl | rfl | rfl | rfl
  · have e : (own_p1_a0 (0 : Int32) v (own_L f)).getD (3 : Int32).toNatClampNeg (0 : Int32) = nar .byte v.toInt8.toInt32 := rfl
    have q : own_m2_96_l7 (3 : Int32) (0 : Int32) (v.toInt64 &&& (4294967295 : Int64)) = ((v.toInt64 &&& (4294967295 : Int64)) - (v.toInt64 &&& (4294967295 : Int64)) / (256 : Int64) * (256 : Int64)) := by unfold own_m2_96_l7; rw [if_neg (by decide), if_neg (by decide), if_neg (by decide)]
    unfold own_f2; rw [if_neg (by decide), if_pos (by decide), e, q, if_pos (own_k3 v)]
  · have e : (own_p1_a0 (1 : Int32) v (own_L f)).getD (3 : Int32).toNatClampNeg (0 : Int32) = nar .byte ((v.toUInt32 >>> ((8 : Int32) &&& 31).toUInt32).toInt32).toInt8.toInt32 := rfl
    have q : own_m2_96_l7 (3 : Int32) (1 : Int32) (v.toInt64 &&& (4294967295 : Int64)) = (((v.toInt64 &&& (4294967295 : Int64)) / (256 : Int64)) - ((v.toInt64 &&& (4294967295 : Int64)) / (256 : Int64)) / (256 : Int64) * (256 : Int64)) := by unfold own_m2_96_l7; rw [if_neg (by decide), if_neg (by decide), if_pos (by decide)]
    unfold own_f2; rw [if_neg (by decide), if_pos (by decide), e, q, if_pos (own_k2 v)]
  · have e : (own_p1_a0 (2 : Int32) v (own_L f)).getD (3 : Int32).toNatClampNeg (0 : Int32) = nar .byte ((v.toUInt32 >>> ((16 : Int32) &&& 31).toUInt32).toInt32).toInt8.toInt32 := rfl
    have q : own_m2_96_l7 (3 : Int32) (2 : Int32) (v.toInt64 &&& (4294967295 : Int64)) = (((v.toInt64 &&& (4294967295 : Int64)) / (65536 : Int64)) - ((v.toInt64 &&& (4294967295 : Int64)) / (65536 : Int64)) / (256 : Int64) * (256 : Int64)) := by unfold own_m2_96_l7; rw [if_neg (by decide), if_pos (by decide)]
    unfold own_f2; rw [if_neg (by decide), if_pos (by decide), e, q, if_pos (own_k1 v)]
  · have e : (own_p1_a0 (3 : Int32) v (own_L f)).getD (3 : Int32).toNatClampNeg (0 : Int32) = nar .byte ((v.toUInt32 >>> ((24 : Int32) &&& 31).toUInt32).toInt32).toInt8.toInt32 := rfl
    have q : own_m2_96_l7 (3 : Int32) (3 : Int32) (v.toInt64 &&& (4294967295 : Int64)) = ((v.toInt64 &&& (4294967295 : Int64)) / (16777216 : Int64)) := by unfold own_m2_96_l7; rw [if_pos (by decide)]
    unfold own_f2; rw [if_neg (by decide), if_pos (by decide), e, q, if_pos (own_k0 v)]
  · have e : (own_p1_a0 (4 : Int32) v (own_L f)).getD (3 : Int32).toNatClampNeg (0 : Int32) = nar .byte (f + (3 : Int32)).toInt8.toInt32 := rfl
    unfold own_f2; rw [if_pos (by decide), e, if_pos (own_nb _)]
theorem own_cell4 {p : Int32} (x f v : Int32) (hx : x = (p &&& (2147483647 : Int32)) % (5 : Int32)) : own_f2 (4 : Int32) x (v.toInt64 &&& (4294967295 : Int64)) f (own_p1_a0 x v (own_L f)) = 1 := by
  rcases own_x5 x hx with rfl | rfl | rfl | rfl | rfl
  · have e : (own_p1_a0 (0 : Int32) v (own_L f)).getD (4 : Int32).toNatClampNeg (0 : Int32) = nar .byte (f + (4 : Int32)).toInt8.toInt32 := rfl
    unfold own_f2; rw [if_neg (by decide), if_neg (by decide), e, if_pos (own_nb _)]
  · have e : (own_p1_a0 (1 : Int32) v (own_L f)).getD (4 : Int32).toNatClampNeg (0 : Int32) = nar .byte v.toInt8.toInt32 := rfl
    have q : own_m2_96_l7 (4 : Int32) (1 : Int32) (v.toInt64 &&& (4294967295 : Int64)) = ((v.toInt64 &&& (4294967295 : Int64)) - (v.toInt64 &&& (4294967295 : Int64)) / (256 : Int64) * (256 : Int64)) := by unfold own_m2_96_l7; rw [if_neg (by decide), if_neg (by decide), if_neg (by decide)]
    unfold own_f2; rw [if_neg (by decide), if_pos (by decide), e, q, if_pos (own_k3 v)]
  · have e : (own_p1_a0 (2 : Int32) v (own_L f)).getD (4 : Int32).toNatClampNeg (0 : Int32) = nar .byte ((v.toUInt32 >>> ((8 : Int32) &&& 31).toUInt32).toInt32).toInt8.toInt32 := rfl
    have q : own_m2_96_l7 (4 : Int32) (2 : Int32) (v.toInt64 &&& (4294967295 : Int64)) = (((v.toInt64 &&& (4294967295 : Int64)) / (256 : Int64)) - ((v.toInt64 &&& (4294967295 : Int64)) / (256 : Int64)) / (256 : Int64) * (256 : Int64)) := by unfold own_m2_96_l7; rw [if_neg (by decide), if_neg (by decide), if_pos (by decide)]
    unfold own_f2; rw [if_neg (by decide), if_pos (by decide), e, q, if_pos (own_k2 v)]
  · have e : (own_p1_a0 (3 : Int32) v (own_L f)).getD (4 : Int32).toNatClampNeg (0 : Int32) = nar .byte ((v.toUInt32 >>> ((16 : Int32) &&& 31).toUInt32).toInt32).toInt8.toInt32 := rfl
    have q : own_m2_96_l7 (4 : Int32) (3 : Int32) (v.toInt64 &&& (4294967295 : Int64)) = (((v.toInt64 &&& (4294967295 : Int64)) / (65536 : Int64)) - ((v.toInt64 &&& (4294967295 : Int64)) / (65536 : Int64)) / (256 : Int64) * (256 : Int64)) := by unfold own_m2_96_l7; rw [if_neg (by decide), if_pos (by decide)]
    unfold own_f2; rw [if_neg (by decide), if_pos (by decide), e, q, if_pos (own_k1 v)]
  · have e : (own_p1_a0 (4 : Int32) v (own_L f)).getD (4 : Int32).toNatClampNeg (0 : Int32) = nar .byte ((v.toUInt32 >>> ((24 : Int32) &&& 31).toUInt32).toInt32).toInt8.toInt32 := rfl
    have q : own_m2_96_l7 (4 : Int32) (4 : Int32) (v.toInt64 &&& (4294967295 : Int64)) = ((v.toInt64 &&& (4294967295 : Int64)) / (16777216 : Int64)) := by unfold own_m2_96_l7; rw [if_pos (by decide)]
    unfold own_f2; rw [if_neg (by decide), if_pos (by decide), e, q, if_pos (own_k0 v)]
theorem own_cell5 {p : Int32} (x f v : Int32) (hx : x = (p &&& (2147483647 : Int32)) % (5 : Int32)) : own_f2 (5 : Int32) x (v.toInt64 &&& (4294967295 : Int64)) f (own_p1_a0 x v (own_L f)) = 1 := by
  rcases own_x5 x hx with rfl | rfl | rfl | rfl | rfl
  · have e : (own_p1_a0 (0 : Int32) v (own_L f)).getD (5 : Int32).toNatClampNeg (0 : Int32) = nar .byte (f + (5 : Int32)).toInt8.toInt32 := rfl
    unfold own_f2; rw [if_neg (by decide), if_neg (by decide), e, if_pos (own_nb _)]
  · have e : (own_p1_a0 (1 : Int32) v (own_L f)).getD (5 : Int32).toNatClampNeg (0 : Int32) = nar .byte (f + (5 : Int32)).toInt8.toInt32 := rfl
    unfold own_f2; rw [if_neg (by decide), if_neg (by decide), e, if_pos (own_nb _)]
  · have e : (own_p1_a0 (2 : Int32) v (own_L f)).getD (5 : Int32).toNatClampNeg (0 : Int32) = nar .byte v.toInt8.toInt32 := rfl
    have q : own_m2_96_l7 (5 : Int32) (2 : Int32) (v.toInt64 &&& (4294967295 : Int64)) = ((v.toInt64 &&& (4294967295 : Int64)) - (v.toInt64 &&& (4294967295 : Int64)) / (256 : Int64) * (256 : Int64)) := by unfold own_m2_96_l7; rw [if_neg (by decide), if_neg (by decide), if_neg (by decide)]
    unfold own_f2; rw [if_neg (by decide), if_pos (by decide), e, q, if_pos (own_k3 v)]
  · have e : (own_p1_a0 (3 : Int32) v (own_L f)).getD (5 : Int32).toNatClampNeg (0 : Int32) = nar .byte ((v.toUInt32 >>> ((8 : Int32) &&& 31).toUInt32).toInt32).toInt8.toInt32 := rfl
    have q : own_m2_96_l7 (5 : Int32) (3 : Int32) (v.toInt64 &&& (4294967295 : Int64)) = (((v.toInt64 &&& (4294967295 : Int64)) / (256 : Int64)) - ((v.toInt64 &&& (4294967295 : Int64)) / (256 : Int64)) / (256 : Int64) * (256 : Int64)) := by unfold own_m2_96_l7; rw [if_neg (by decide), if_neg (by decide), if_pos (by decide)]
    unfold own_f2; rw [if_neg (by decide), if_pos (by decide), e, q, if_pos (own_k2 v)]
  · have e : (own_p1_a0 (4 : Int32) v (own_L f)).getD (5 : Int32).toNatClampNeg (0 : Int32) = nar .byte ((v.toUInt32 >>> ((16 : Int32) &&& 31).toUInt32).toInt32).toInt8.toInt32 := rfl
    have q : own_m2_96_l7 (5 : Int32) (4 : Int32) (v.toInt64 &&& (4294967295 : Int64)) = (((v.toInt64 &&& (4294967295 : Int64)) / (65536 : Int64)) - ((v.toInt64 &&& (4294967295 : Int64)) / (65536 : Int64)) / (256 : Int64) * (256 : Int64)) := by unfold own_m2_96_l7; rw [if_neg (by decide), if_pos (by decide)]
    unfold own_f2; rw [if_neg (by decide), if_pos (by decide), e, q, if_pos (own_k1 v)]
theorem own_cell6 {p : Int32} (x f v : Int32) (hx : x = (p &&& (2147483647 : Int32)) % (5 : Int32)) : own_f2 (6 : Int32) x (v.toInt64 &&& (4294967295 : Int64)) f (own_p1_a0 x v (own_L f)) = 1 := by
  rcases own_x5 x hx with rfl | rfl | rfl | rfl | rfl
  · have e : (own_p1_a0 (0 : Int32) v (own_L f)).getD (6 : Int32).toNatClampNeg (0 : Int32) = nar .byte (f + (6 : Int32)).toInt8.toInt32 := rfl
    unfold own_f2; rw [if_neg (by decide), if_neg (by decide), e, if_pos (own_nb _)]
  · have e : (own_p1_a0 (1 : Int32) v (own_L f)).getD (6 : Int32).toNatClampNeg (0 : Int32) = nar .byte (f + (6 : Int32)).toInt8.toInt32 := rfl
    unfold own_f2; rw [if_neg (by decide), if_neg (by decide), e, if_pos (own_nb _)]
  · have e : (own_p1_a0 (2 : Int32) v (own_L f)).getD (6 : Int32).toNatClampNeg (0 : Int32) = nar .byte (f + (6 : Int32)).toInt8.toInt32 := rfl
    unfold own_f2; rw [if_neg (by decide), if_neg (by decide), e, if_pos (own_nb _)]
  · have e : (own_p1_a0 (3 : Int32) v (own_L f)).getD (6 : Int32).toNatClampNeg (0 : Int32) = nar .byte v.toInt8.toInt32 := rfl
    have q : own_m2_96_l7 (6 : Int32) (3 : Int32) (v.toInt64 &&& (4294967295 : Int64)) = ((v.toInt64 &&& (4294967295 : Int64)) - (v.toInt64 &&& (4294967295 : Int64)) / (256 : Int64) * (256 : Int64)) := by unfold own_m2_96_l7; rw [if_neg (by decide), if_neg (by decide), if_neg (by decide)]
    unfold own_f2; rw [if_neg (by decide), if_pos (by decide), e, q, if_pos (own_k3 v)]
  · have e : (own_p1_a0 (4 : Int32) v (own_L f)).getD (6 : Int32).toNatClampNeg (0 : Int32) = nar .byte ((v.toUInt32 >>> ((8 : Int32) &&& 31).toUInt32).toInt32).toInt8.toInt32 := rfl
    have q : own_m2_96_l7 (6 : Int32) (4 : Int32) (v.toInt64 &&& (4294967295 : Int64)) = (((v.toInt64 &&& (4294967295 : Int64)) / (256 : Int64)) - ((v.toInt64 &&& (4294967295 : Int64)) / (256 : Int64)) / (256 : Int64) * (256 : Int64)) := by unfold own_m2_96_l7; rw [if_neg (by decide), if_neg (by decide), if_pos (by decide)]
    unfold own_f2; rw [if_neg (by decide), if_pos (by decide), e, q, if_pos (own_k2 v)]
theorem own_cell7 {p : Int32} (x f v : Int32) (hx : x = (p &&& (2147483647 : Int32)) % (5 : Int32)) : own_f2 (7 : Int32) x (v.toInt64 &&& (4294967295 : Int64)) f (own_p1_a0 x v (own_L f)) = 1 := by
  rcases own_x5 x hx with rfl | rfl | rfl | rfl | rfl
  · have e : (own_p1_a0 (0 : Int32) v (own_L f)).getD (7 : Int32).toNatClampNeg (0 : Int32) = nar .byte (f + (7 : Int32)).toInt8.toInt32 := rfl
    unfold own_f2; rw [if_neg (by decide), if_neg (by decide), e, if_pos (own_nb _)]
  · have e : (own_p1_a0 (1 : Int32) v (own_L f)).getD (7 : Int32).toNatClampNeg (0 : Int32) = nar .byte (f + (7 : Int32)).toInt8.toInt32 := rfl
    unfold own_f2; rw [if_neg (by decide), if_neg (by decide), e, if_pos (own_nb _)]
  · have e : (own_p1_a0 (2 : Int32) v (own_L f)).getD (7 : Int32).toNatClampNeg (0 : Int32) = nar .byte (f + (7 : Int32)).toInt8.toInt32 := rfl
    unfold own_f2; rw [if_neg (by decide), if_neg (by decide), e, if_pos (own_nb _)]
  · have e : (own_p1_a0 (3 : Int32) v (own_L f)).getD (7 : Int32).toNatClampNeg (0 : Int32) = nar .byte (f + (7 : Int32)).toInt8.toInt32 := rfl
    unfold own_f2; rw [if_neg (by decide), if_neg (by decide), e, if_pos (own_nb _)]
  · have e : (own_p1_a0 (4 : Int32) v (own_L f)).getD (7 : Int32).toNatClampNeg (0 : Int32) = nar .byte v.toInt8.toInt32 := rfl
    have q : own_m2_96_l7 (7 : Int32) (4 : Int32) (v.toInt64 &&& (4294967295 : Int64)) = ((v.toInt64 &&& (4294967295 : Int64)) - (v.toInt64 &&& (4294967295 : Int64)) / (256 : Int64) * (256 : Int64)) := by unfold own_m2_96_l7; rw [if_neg (by decide), if_neg (by decide), if_neg (by decide)]
    unfold own_f2; rw [if_neg (by decide), if_pos (by decide), e, q, if_pos (own_k3 v)]
def Q0 (Z : State) (p0 : Int32) (p1 : Int32) (p2 : Int32) (h0 : Heap) (n0 : Nat) (v : Option Value) (h : Heap) (L : List Loc) : Prop := v = some (.int (1 : Int32)) ∧ Fr n0 L
set_option maxRecDepth 65536 in
set_option maxHeartbeats 40000000 in
theorem rm0 (l : Launch) (Z : State) (aw : Array Value) (hw : ∀ d ∈ tables_1, d.before aw Z = true) (wq : List Jvm.Cond) (p0 : Int32) (p1 : Int32) (p2 : Int32) (h0 : Heap) (n0 : Nat) (Z0 : n0 ≤ h0.size) :
    MetFree l x (head1 (Jvm.Cond.code x code maxLocals ret :: wq) room_1) (fun a U => a = #[(.int p0), (.int p1), (.int p2)] ∧ Z.Warmed39 U.vm ∧ U.heap = h0) (fun _ _ _ _ _ => True) (fun _ U o U' => ∃ v L, o = .returned v ∧ Q0 Z p0 p1 p2 h0 n0 v U'.heap L ∧ FrameEnd U o U' L 1 8) := by
  refine MetFree.of_bodySF (plainFor_of_name pn_1) hisR ?_
  intro p e s m args below meth c s₁ Bd hml0 hP hK
  obtain ⟨rfl, hZ, hh⟩ := hP
  have hx := Bd.exec
  have hby := Bd.bytes
  have hml : c.maxLocals = 7 := hml0
  have hown : s.vm.findClass "com/example/unicopy/unicopy/MessagesWriteIntPinLaw" = some m.cls := findClass_of_methodNamed Bd.named
  have hnm := (name_of_methodNamed Bd.named Bd.method).1
  have X0 : Stand p l e room_1 s m #[(.int p0), (.int p1), (.int p2)] below meth c s₁ [] 0 0 := Stand.of_body Bd
  have e0 : s₁.heap = h0 := by rw [← hh, Bd.state]; rfl
  have N0 := Fr.nil n0
  have pre0 : own_Pre p e below (s₁.setTop (entryFrame m #[(.int p0), (.int p1), (.int p2)] maxLocals)) (s₁.setTop (mkF m 0 #[.val (.int p0), .val (.int p1), .val (.int p2), .unset, .unset, .unset, .unset] [])) := fun t k => castTop (ef_0 m p0 p1 p2) k
  obtain ⟨x3_7, hx3_7, pre1⟩ : ∃ z : Int32, z = ((p1 &&& (2147483647 : Int32)) % (5 : Int32)) ∧ own_Pre p e below (s₁.setTop (entryFrame m #[(.int p0), (.int p1), (.int p2)] maxLocals)) (s₁.setTop (mkF m 7 #[.val (.int p0), .val (.int p1), .val (.int p2), .val (.int z), .unset, .unset, .unset] [])) := ⟨_, rfl, fun t k => pre0 t (by
      show Steps p.tables e below (s₁.setTop (mkF m 0 #[.val (.int p0), .val (.int p1), .val (.int p2), .unset, .unset, .unset, .unset] [])) _
      refine XS.iloadN X0.here hx rfl (hb hby at_0) rfl ?_
      show Steps p.tables e below (s₁.setTop (mkF m 1 #[.val (.int p0), .val (.int p1), .val (.int p2), .unset, .unset, .unset, .unset] [(.int p1)])) _
      refine X0.ldcInt hx hown (mvT hZ (hw _ (List.mem_of_getElem? (i := 0) rfl))) (g := (mkF m 1 #[.val (.int p0), .val (.int p1), .val (.int p2), .unset, .unset, .unset, .unset] [(.int p1)])) rfl (hb hby at_1) _ ?_
      show Steps p.tables e below (s₁.setTop (mkF m 3 #[.val (.int p0), .val (.int p1), .val (.int p2), .unset, .unset, .unset, .unset] [(.int (2147483647 : Int32)), (.int p1)])) _
      refine XS.iand X0.here hx rfl (hb hby at_3) rfl ?_
      show Steps p.tables e below (s₁.setTop (mkF m 4 #[.val (.int p0), .val (.int p1), .val (.int p2), .unset, .unset, .unset, .unset] [(.int (p1 &&& (2147483647 : Int32)))])) _
      refine XS.iconst X0.here hx rfl (hb hby at_4) ?_
      show Steps p.tables e below (s₁.setTop (mkF m 5 #[.val (.int p0), .val (.int p1), .val (.int p2), .unset, .unset, .unset, .unset] [(.int (5 : Int32)), (.int (p1 &&& (2147483647 : Int32)))])) _
      refine iremM X0 hx rfl (hb hby at_5) rfl (by decide) ?_
      show Steps p.tables e below (s₁.setTop (mkF m 6 #[.val (.int p0), .val (.int p1), .val (.int p2), .unset, .unset, .unset, .unset] [(.int ((p1 &&& (2147483647 : Int32)) % (5 : Int32)))])) _
      refine XS.istoreN X0.here hx rfl (hb hby at_6) rfl (l' := #[.val (.int p0), .val (.int p1), .val (.int p2), .val (.int ((p1 &&& (2147483647 : Int32)) % (5 : Int32))), .unset, .unset, .unset]) rfl ?_
      exact k)⟩
  obtain ⟨T2, h2, k2, X2, e2, E2, A2, st2⟩ := newP X0 hx hZ (hw _ (List.mem_of_getElem? (i := 1) rfl)) e0 (g := (mkF m 9 #[.val (.int p0), .val (.int p1), .val (.int p2), .val (.int x3_7), .unset, .unset, .unset] [(.int (8 : Int32))])) rfl (hb hby at_9) rfl (by decide) (cap := 8) (by decide) (by decide) (by decide) (by decide)
  obtain ⟨b2, gq2⟩ : ∃ z, z = (h0).size := ⟨_, rfl⟩
  rw [← gq2] at A2 st2
  have g_b2 : n0 ≤ b2 := Nat.le_trans Z0 (Nat.le_of_eq gq2.symm)
  have V_b2 : own_AI Z h2 b2 k2 .byte (8 : Int32) (List.replicate 8 (0 : Int32)) := own_AI.new 8 A2 (by decide) (by decide) rfl
  obtain ⟨cl3, Ar3, hin3, set3⟩ := own_AI.arr V_b2 (j := (0 : Int32)) ⟨by decide, by decide⟩
  obtain ⟨T3, h3, X3, e3, W3, st3⟩ := stB X2 hx hZ e2 Ar3 (j := (0 : Int32)) hin3 (g := (mkF m 15 #[.val (.int p0), .val (.int p1), .val (.int p2), .val (.int x3_7), .unset, .unset, .unset] [(.int (p2).toInt8.toInt32), (.int (0 : Int32)), (.ref b2), (.ref b2)])) rfl rfl (hb hby at_15)
  have V3 : own_AI Z h3 b2 k2 .byte (8 : Int32) ((List.replicate 8 (0 : Int32)).set 0 (nar .byte (p2).toInt8.toInt32)) := set3 _ _ (fits_nar_byte _) W3
  obtain ⟨ws3, hws3⟩ : ∃ z, z = ((List.replicate 8 (0 : Int32)).set 0 (nar .byte (p2).toInt8.toInt32)) := ⟨_, rfl⟩
  rw [← hws3] at V3
  have N3 := Fr.snoc X3 N0 g_b2
  obtain ⟨cl4, Ar4, hin4, set4⟩ := own_AI.arr V3 (j := (1 : Int32)) ⟨by decide, by decide⟩
  obtain ⟨T4, h4, X4, e4, W4, st4⟩ := stB X3 hx hZ e3 Ar4 (j := (1 : Int32)) hin4 (g := (mkF m 22 #[.val (.int p0), .val (.int p1), .val (.int p2), .val (.int x3_7), .unset, .unset, .unset] [(.int ((p2 + (1 : Int32))).toInt8.toInt32), (.int (1 : Int32)), (.ref b2), (.ref b2)])) rfl rfl (hb hby at_22)
  have V4 : own_AI Z h4 b2 k2 .byte (8 : Int32) (ws3.set 1 (nar .byte ((p2 + (1 : Int32))).toInt8.toInt32)) := set4 _ _ (fits_nar_byte _) W4
  obtain ⟨ws4, hws4⟩ : ∃ z, z = (ws3.set 1 (nar .byte ((p2 + (1 : Int32))).toInt8.toInt32)) := ⟨_, rfl⟩
  rw [← hws4] at V4
  have N4 := Fr.snoc X4 N3 g_b2
  obtain ⟨cl5, Ar5, hin5, set5⟩ := own_AI.arr V4 (j := (2 : Int32)) ⟨by decide, by decide⟩
  obtain ⟨T5, h5, X5, e5, W5, st5⟩ := stB X4 hx hZ e4 Ar5 (j := (2 : Int32)) hin5 (g := (mkF m 29 #[.val (.int p0), .val (.int p1), .val (.int p2), .val (.int x3_7), .unset, .unset, .unset] [(.int ((p2 + (2 : Int32))).toInt8.toInt32), (.int (2 : Int32)), (.ref b2), (.ref b2)])) rfl rfl (hb hby at_29)
  have V5 : own_AI Z h5 b2 k2 .byte (8 : Int32) (ws4.set 2 (nar .byte ((p2 + (2 : Int32))).toInt8.toInt32)) := set5 _ _ (fits_nar_byte _) W5
  obtain ⟨ws5, hws5⟩ : ∃ z, z = (ws4.set 2 (nar .byte ((p2 + (2 : Int32))).toInt8.toInt32)) := ⟨_, rfl⟩
  rw [← hws5] at V5
  have N5 := Fr.snoc X5 N4 g_b2
  obtain ⟨cl6, Ar6, hin6, set6⟩ := own_AI.arr V5 (j := (3 : Int32)) ⟨by decide, by decide⟩
  obtain ⟨T6, h6, X6, e6, W6, st6⟩ := stB X5 hx hZ e5 Ar6 (j := (3 : Int32)) hin6 (g := (mkF m 36 #[.val (.int p0), .val (.int p1), .val (.int p2), .val (.int x3_7), .unset, .unset, .unset] [(.int ((p2 + (3 : Int32))).toInt8.toInt32), (.int (3 : Int32)), (.ref b2), (.ref b2)])) rfl rfl (hb hby at_36)
  have V6 : own_AI Z h6 b2 k2 .byte (8 : Int32) (ws5.set 3 (nar .byte ((p2 + (3 : Int32))).toInt8.toInt32)) := set6 _ _ (fits_nar_byte _) W6
  obtain ⟨ws6, hws6⟩ : ∃ z, z = (ws5.set 3 (nar .byte ((p2 + (3 : Int32))).toInt8.toInt32)) := ⟨_, rfl⟩
  rw [← hws6] at V6
  have N6 := Fr.snoc X6 N5 g_b2
  obtain ⟨cl7, Ar7, hin7, set7⟩ := own_AI.arr V6 (j := (4 : Int32)) ⟨by decide, by decide⟩
  obtain ⟨T7, h7, X7, e7, W7, st7⟩ := stB X6 hx hZ e6 Ar7 (j := (4 : Int32)) hin7 (g := (mkF m 43 #[.val (.int p0), .val (.int p1), .val (.int p2), .val (.int x3_7), .unset, .unset, .unset] [(.int ((p2 + (4 : Int32))).toInt8.toInt32), (.int (4 : Int32)), (.ref b2), (.ref b2)])) rfl rfl (hb hby at_43)
  have V7 : own_AI Z h7 b2 k2 .byte (8 : Int32) (ws6.set 4 (nar .byte ((p2 + (4 : Int32))).toInt8.toInt32)) := set7 _ _ (fits_nar_byte _) W7
  obtain ⟨ws7, hws7⟩ : ∃ z, z = (ws6.set 4 (nar .byte ((p2 + (4 : Int32))).toInt8.toInt32)) := ⟨_, rfl⟩
  rw [← hws7] at V7
  have N7 := Fr.snoc X7 N6 g_b2
  obtain ⟨cl8, Ar8, hin8, set8⟩ := own_AI.arr V7 (j := (5 : Int32)) ⟨by decide, by decide⟩
  obtain ⟨T8, h8, X8, e8, W8, st8⟩ := stB X7 hx hZ e7 Ar8 (j := (5 : Int32)) hin8 (g := (mkF m 50 #[.val (.int p0), .val (.int p1), .val (.int p2), .val (.int x3_7), .unset, .unset, .unset] [(.int ((p2 + (5 : Int32))).toInt8.toInt32), (.int (5 : Int32)), (.ref b2), (.ref b2)])) rfl rfl (hb hby at_50)
  have V8 : own_AI Z h8 b2 k2 .byte (8 : Int32) (ws7.set 5 (nar .byte ((p2 + (5 : Int32))).toInt8.toInt32)) := set8 _ _ (fits_nar_byte _) W8
  obtain ⟨ws8, hws8⟩ : ∃ z, z = (ws7.set 5 (nar .byte ((p2 + (5 : Int32))).toInt8.toInt32)) := ⟨_, rfl⟩
  rw [← hws8] at V8
  have N8 := Fr.snoc X8 N7 g_b2
  obtain ⟨cl9, Ar9, hin9, set9⟩ := own_AI.arr V8 (j := (6 : Int32)) ⟨by decide, by decide⟩
  obtain ⟨T9, h9, X9, e9, W9, st9⟩ := stB X8 hx hZ e8 Ar9 (j := (6 : Int32)) hin9 (g := (mkF m 59 #[.val (.int p0), .val (.int p1), .val (.int p2), .val (.int x3_7), .unset, .unset, .unset] [(.int ((p2 + (6 : Int32))).toInt8.toInt32), (.int (6 : Int32)), (.ref b2), (.ref b2)])) rfl rfl (hb hby at_59)
  have V9 : own_AI Z h9 b2 k2 .byte (8 : Int32) (ws8.set 6 (nar .byte ((p2 + (6 : Int32))).toInt8.toInt32)) := set9 _ _ (fits_nar_byte _) W9
  obtain ⟨ws9, hws9⟩ : ∃ z, z = (ws8.set 6 (nar .byte ((p2 + (6 : Int32))).toInt8.toInt32)) := ⟨_, rfl⟩
  rw [← hws9] at V9
  have N9 := Fr.snoc X9 N8 g_b2
  obtain ⟨cl10, Ar10, hin10, set10⟩ := own_AI.arr V9 (j := (7 : Int32)) ⟨by decide, by decide⟩
  obtain ⟨T10, h10, X10, e10, W10, st10⟩ := stB X9 hx hZ e9 Ar10 (j := (7 : Int32)) hin10 (g := (mkF m 68 #[.val (.int p0), .val (.int p1), .val (.int p2), .val (.int x3_7), .unset, .unset, .unset] [(.int ((p2 + (7 : Int32))).toInt8.toInt32), (.int (7 : Int32)), (.ref b2), (.ref b2)])) rfl rfl (hb hby at_68)
  have V10 : own_AI Z h10 b2 k2 .byte (8 : Int32) (ws9.set 7 (nar .byte ((p2 + (7 : Int32))).toInt8.toInt32)) := set10 _ _ (fits_nar_byte _) W10
  obtain ⟨ws10, hws10⟩ : ∃ z, z = (ws9.set 7 (nar .byte ((p2 + (7 : Int32))).toInt8.toInt32)) := ⟨_, rfl⟩
  rw [← hws10] at V10
  have N10 := Fr.snoc X10 N9 g_b2
  have z12 : n0 ≤ (h10).size := (Nat.le_trans (Nat.le_trans (Nat.le_trans (Nat.le_trans (Nat.le_trans (Nat.le_trans (Nat.le_trans (Nat.le_trans (Nat.le_trans Z0 E2.1) (Keep.of_wr W3).1) (Keep.of_wr W4).1) (Keep.of_wr W5).1) (Keep.of_wr W6).1) (Keep.of_wr W7).1) (Keep.of_wr W8).1) (Keep.of_wr W9).1) (Keep.of_wr W10).1)
  obtain ⟨_, _, ⟨T11, L11, k11, n11⟩, -, X11, ⟨Lc11, hQ11, l11, y11, z11⟩, st11⟩ := Jvm.LawKit.callS X10 hx (y := (⟨"com/example/unicopy/unicopy/Messages", "writeInt", "([BII)V"⟩ : MethodName)) hown (mvT hZ (hw _ (List.mem_of_getElem? (i := 2) rfl))) (mvT hZ (hw _ (List.mem_of_getElem? (i := 3) rfl))) (mvT hZ (hw _ (List.mem_of_getElem? (i := 4) rfl))) (mvT hZ (hw _ (List.mem_of_getElem? (i := 5) rfl))) (by decide) (backOf (W := 0) (rm1 l Z aw hw [] (b2) (x3_7) (p0) (k2) ((8 : Int32)) (ws10) (h10) n0 z12 V10 g_b2 (own_ix x3_7 hx3_7).1 (own_ix x3_7 hx3_7).2.1 (own_ix x3_7 hx3_7).2.2.1 (own_ix x3_7 hx3_7).2.2.2) hZ (hw _ (List.mem_of_getElem? (i := 5) rfl)) (hw _ (List.mem_of_getElem? (i := 4) rfl)) (by decide) (by decide)) (g := (mkF m 75 #[.val (.int p0), .val (.int p1), .val (.int p2), .val (.int x3_7), .val (.ref b2), .unset, .unset] [(.int p0), (.int x3_7), (.ref b2)])) rfl (by rw [hml]; rfl) (argsL := [(.ref b2), (.int x3_7), (.int p0)]) (rest := []) (lenOf pd_0 rfl) rfl (by show 2 * 0 + _ ≤ _; exact Nat.le_of_eq rfl) (hb hby at_75) (fun _ _ => ⟨rfl, e10, (by decide : 1 + 0 ≤ _), (by decide : 8 + 0 ≤ _)⟩)
  dsimp only [Pt.U, Pt.locs, Pt.cells, Pt.slots] at X11 l11 y11 z11 st11 hQ11
  subst l11 y11 z11
  obtain ⟨rfl, Nq11, K11, po11_0⟩ := hQ11
  have N11 := Fr.app N10 Nq11
  obtain ⟨x5_86, hx5_86, pre13⟩ : ∃ z : Int64, z = ((p0).toInt64 &&& (4294967295 : Int64)) ∧ own_Pre p e below (s₁.setTop (entryFrame m #[(.int p0), (.int p1), (.int p2)] maxLocals)) (T11.setTop (mkF m 86 #[.val (.int p0), .val (.int p1), .val (.int p2), .val (.int x3_7), .val (.ref b2), .val (.long z), .second] [])) := ⟨_, rfl, fun t k => pre1 t (by
      show Steps p.tables e below (s₁.setTop (mkF m 7 #[.val (.int p0), .val (.int p1), .val (.int p2), .val (.int x3_7), .unset, .unset, .unset] [])) _
      refine XS.bipush X0.here hx rfl (hb hby at_7) ?_
      show Steps p.tables e below (s₁.setTop (mkF m 9 #[.val (.int p0), .val (.int p1), .val (.int p2), .val (.int x3_7), .unset, .unset, .unset] [(.int (8 : Int32))])) _
      refine st2 _ ?_
      show Steps p.tables e below (T2.setTop (mkF m 11 #[.val (.int p0), .val (.int p1), .val (.int p2), .val (.int x3_7), .unset, .unset, .unset] [(.ref b2)])) _
      refine XS.dup X2.here hx rfl (hb hby at_11) rfl rfl ?_
      show Steps p.tables e below (T2.setTop (mkF m 12 #[.val (.int p0), .val (.int p1), .val (.int p2), .val (.int x3_7), .unset, .unset, .unset] [(.ref b2), (.ref b2)])) _
      refine XS.iconst X2.here hx rfl (hb hby at_12) ?_
      show Steps p.tables e below (T2.setTop (mkF m 13 #[.val (.int p0), .val (.int p1), .val (.int p2), .val (.int x3_7), .unset, .unset, .unset] [(.int (0 : Int32)), (.ref b2), (.ref b2)])) _
      refine XS.iloadN X2.here hx rfl (hb hby at_13) rfl ?_
      show Steps p.tables e below (T2.setTop (mkF m 14 #[.val (.int p0), .val (.int p1), .val (.int p2), .val (.int x3_7), .unset, .unset, .unset] [(.int p2), (.int (0 : Int32)), (.ref b2), (.ref b2)])) _
      refine XS.i2b X2.here hx rfl (hb hby at_14) rfl ?_
      show Steps p.tables e below (T2.setTop (mkF m 15 #[.val (.int p0), .val (.int p1), .val (.int p2), .val (.int x3_7), .unset, .unset, .unset] [(.int (p2).toInt8.toInt32), (.int (0 : Int32)), (.ref b2), (.ref b2)])) _
      refine st3 _ ?_
      show Steps p.tables e below (T3.setTop (mkF m 16 #[.val (.int p0), .val (.int p1), .val (.int p2), .val (.int x3_7), .unset, .unset, .unset] [(.ref b2)])) _
      refine XS.dup X3.here hx rfl (hb hby at_16) rfl rfl ?_
      show Steps p.tables e below (T3.setTop (mkF m 17 #[.val (.int p0), .val (.int p1), .val (.int p2), .val (.int x3_7), .unset, .unset, .unset] [(.ref b2), (.ref b2)])) _
      refine XS.iconst X3.here hx rfl (hb hby at_17) ?_
      show Steps p.tables e below (T3.setTop (mkF m 18 #[.val (.int p0), .val (.int p1), .val (.int p2), .val (.int x3_7), .unset, .unset, .unset] [(.int (1 : Int32)), (.ref b2), (.ref b2)])) _
      refine XS.iloadN X3.here hx rfl (hb hby at_18) rfl ?_
      show Steps p.tables e below (T3.setTop (mkF m 19 #[.val (.int p0), .val (.int p1), .val (.int p2), .val (.int x3_7), .unset, .unset, .unset] [(.int p2), (.int (1 : Int32)), (.ref b2), (.ref b2)])) _
      refine XS.iconst X3.here hx rfl (hb hby at_19) ?_
      show Steps p.tables e below (T3.setTop (mkF m 20 #[.val (.int p0), .val (.int p1), .val (.int p2), .val (.int x3_7), .unset, .unset, .unset] [(.int (1 : Int32)), (.int p2), (.int (1 : Int32)), (.ref b2), (.ref b2)])) _
      refine XS.iadd X3.here hx rfl (hb hby at_20) rfl ?_
      show Steps p.tables e below (T3.setTop (mkF m 21 #[.val (.int p0), .val (.int p1), .val (.int p2), .val (.int x3_7), .unset, .unset, .unset] [(.int (p2 + (1 : Int32))), (.int (1 : Int32)), (.ref b2), (.ref b2)])) _
      refine XS.i2b X3.here hx rfl (hb hby at_21) rfl ?_
      show Steps p.tables e below (T3.setTop (mkF m 22 #[.val (.int p0), .val (.int p1), .val (.int p2), .val (.int x3_7), .unset, .unset, .unset] [(.int ((p2 + (1 : Int32))).toInt8.toInt32), (.int (1 : Int32)), (.ref b2), (.ref b2)])) _
      refine st4 _ ?_
      show Steps p.tables e below (T4.setTop (mkF m 23 #[.val (.int p0), .val (.int p1), .val (.int p2), .val (.int x3_7), .unset, .unset, .unset] [(.ref b2)])) _
      refine XS.dup X4.here hx rfl (hb hby at_23) rfl rfl ?_
      show Steps p.tables e below (T4.setTop (mkF m 24 #[.val (.int p0), .val (.int p1), .val (.int p2), .val (.int x3_7), .unset, .unset, .unset] [(.ref b2), (.ref b2)])) _
      refine XS.iconst X4.here hx rfl (hb hby at_24) ?_
      show Steps p.tables e below (T4.setTop (mkF m 25 #[.val (.int p0), .val (.int p1), .val (.int p2), .val (.int x3_7), .unset, .unset, .unset] [(.int (2 : Int32)), (.ref b2), (.ref b2)])) _
      refine XS.iloadN X4.here hx rfl (hb hby at_25) rfl ?_
      show Steps p.tables e below (T4.setTop (mkF m 26 #[.val (.int p0), .val (.int p1), .val (.int p2), .val (.int x3_7), .unset, .unset, .unset] [(.int p2), (.int (2 : Int32)), (.ref b2), (.ref b2)])) _
      refine XS.iconst X4.here hx rfl (hb hby at_26) ?_
      show Steps p.tables e below (T4.setTop (mkF m 27 #[.val (.int p0), .val (.int p1), .val (.int p2), .val (.int x3_7), .unset, .unset, .unset] [(.int (2 : Int32)), (.int p2), (.int (2 : Int32)), (.ref b2), (.ref b2)])) _
      refine XS.iadd X4.here hx rfl (hb hby at_27) rfl ?_
      show Steps p.tables e below (T4.setTop (mkF m 28 #[.val (.int p0), .val (.int p1), .val (.int p2), .val (.int x3_7), .unset, .unset, .unset] [(.int (p2 + (2 : Int32))), (.int (2 : Int32)), (.ref b2), (.ref b2)])) _
      refine XS.i2b X4.here hx rfl (hb hby at_28) rfl ?_
      show Steps p.tables e below (T4.setTop (mkF m 29 #[.val (.int p0), .val (.int p1), .val (.int p2), .val (.int x3_7), .unset, .unset, .unset] [(.int ((p2 + (2 : Int32))).toInt8.toInt32), (.int (2 : Int32)), (.ref b2), (.ref b2)])) _
      refine st5 _ ?_
      show Steps p.tables e below (T5.setTop (mkF m 30 #[.val (.int p0), .val (.int p1), .val (.int p2), .val (.int x3_7), .unset, .unset, .unset] [(.ref b2)])) _
      refine XS.dup X5.here hx rfl (hb hby at_30) rfl rfl ?_
      show Steps p.tables e below (T5.setTop (mkF m 31 #[.val (.int p0), .val (.int p1), .val (.int p2), .val (.int x3_7), .unset, .unset, .unset] [(.ref b2), (.ref b2)])) _
      refine XS.iconst X5.here hx rfl (hb hby at_31) ?_
      show Steps p.tables e below (T5.setTop (mkF m 32 #[.val (.int p0), .val (.int p1), .val (.int p2), .val (.int x3_7), .unset, .unset, .unset] [(.int (3 : Int32)), (.ref b2), (.ref b2)])) _
      refine XS.iloadN X5.here hx rfl (hb hby at_32) rfl ?_
      show Steps p.tables e below (T5.setTop (mkF m 33 #[.val (.int p0), .val (.int p1), .val (.int p2), .val (.int x3_7), .unset, .unset, .unset] [(.int p2), (.int (3 : Int32)), (.ref b2), (.ref b2)])) _
      refine XS.iconst X5.here hx rfl (hb hby at_33) ?_
      show Steps p.tables e below (T5.setTop (mkF m 34 #[.val (.int p0), .val (.int p1), .val (.int p2), .val (.int x3_7), .unset, .unset, .unset] [(.int (3 : Int32)), (.int p2), (.int (3 : Int32)), (.ref b2), (.ref b2)])) _
      refine XS.iadd X5.here hx rfl (hb hby at_34) rfl ?_
      show Steps p.tables e below (T5.setTop (mkF m 35 #[.val (.int p0), .val (.int p1), .val (.int p2), .val (.int x3_7), .unset, .unset, .unset] [(.int (p2 + (3 : Int32))), (.int (3 : Int32)), (.ref b2), (.ref b2)])) _
      refine XS.i2b X5.here hx rfl (hb hby at_35) rfl ?_
      show Steps p.tables e below (T5.setTop (mkF m 36 #[.val (.int p0), .val (.int p1), .val (.int p2), .val (.int x3_7), .unset, .unset, .unset] [(.int ((p2 + (3 : Int32))).toInt8.toInt32), (.int (3 : Int32)), (.ref b2), (.ref b2)])) _
      refine st6 _ ?_
      show Steps p.tables e below (T6.setTop (mkF m 37 #[.val (.int p0), .val (.int p1), .val (.int p2), .val (.int x3_7), .unset, .unset, .unset] [(.ref b2)])) _
      refine XS.dup X6.here hx rfl (hb hby at_37) rfl rfl ?_
      show Steps p.tables e below (T6.setTop (mkF m 38 #[.val (.int p0), .val (.int p1), .val (.int p2), .val (.int x3_7), .unset, .unset, .unset] [(.ref b2), (.ref b2)])) _
      refine XS.iconst X6.here hx rfl (hb hby at_38) ?_
      show Steps p.tables e below (T6.setTop (mkF m 39 #[.val (.int p0), .val (.int p1), .val (.int p2), .val (.int x3_7), .unset, .unset, .unset] [(.int (4 : Int32)), (.ref b2), (.ref b2)])) _
      refine XS.iloadN X6.here hx rfl (hb hby at_39) rfl ?_
      show Steps p.tables e below (T6.setTop (mkF m 40 #[.val (.int p0), .val (.int p1), .val (.int p2), .val (.int x3_7), .unset, .unset, .unset] [(.int p2), (.int (4 : Int32)), (.ref b2), (.ref b2)])) _
      refine XS.iconst X6.here hx rfl (hb hby at_40) ?_
      show Steps p.tables e below (T6.setTop (mkF m 41 #[.val (.int p0), .val (.int p1), .val (.int p2), .val (.int x3_7), .unset, .unset, .unset] [(.int (4 : Int32)), (.int p2), (.int (4 : Int32)), (.ref b2), (.ref b2)])) _
      refine XS.iadd X6.here hx rfl (hb hby at_41) rfl ?_
      show Steps p.tables e below (T6.setTop (mkF m 42 #[.val (.int p0), .val (.int p1), .val (.int p2), .val (.int x3_7), .unset, .unset, .unset] [(.int (p2 + (4 : Int32))), (.int (4 : Int32)), (.ref b2), (.ref b2)])) _
      refine XS.i2b X6.here hx rfl (hb hby at_42) rfl ?_
      show Steps p.tables e below (T6.setTop (mkF m 43 #[.val (.int p0), .val (.int p1), .val (.int p2), .val (.int x3_7), .unset, .unset, .unset] [(.int ((p2 + (4 : Int32))).toInt8.toInt32), (.int (4 : Int32)), (.ref b2), (.ref b2)])) _
      refine st7 _ ?_
      show Steps p.tables e below (T7.setTop (mkF m 44 #[.val (.int p0), .val (.int p1), .val (.int p2), .val (.int x3_7), .unset, .unset, .unset] [(.ref b2)])) _
      refine XS.dup X7.here hx rfl (hb hby at_44) rfl rfl ?_
      show Steps p.tables e below (T7.setTop (mkF m 45 #[.val (.int p0), .val (.int p1), .val (.int p2), .val (.int x3_7), .unset, .unset, .unset] [(.ref b2), (.ref b2)])) _
      refine XS.iconst X7.here hx rfl (hb hby at_45) ?_
      show Steps p.tables e below (T7.setTop (mkF m 46 #[.val (.int p0), .val (.int p1), .val (.int p2), .val (.int x3_7), .unset, .unset, .unset] [(.int (5 : Int32)), (.ref b2), (.ref b2)])) _
      refine XS.iloadN X7.here hx rfl (hb hby at_46) rfl ?_
      show Steps p.tables e below (T7.setTop (mkF m 47 #[.val (.int p0), .val (.int p1), .val (.int p2), .val (.int x3_7), .unset, .unset, .unset] [(.int p2), (.int (5 : Int32)), (.ref b2), (.ref b2)])) _
      refine XS.iconst X7.here hx rfl (hb hby at_47) ?_
      show Steps p.tables e below (T7.setTop (mkF m 48 #[.val (.int p0), .val (.int p1), .val (.int p2), .val (.int x3_7), .unset, .unset, .unset] [(.int (5 : Int32)), (.int p2), (.int (5 : Int32)), (.ref b2), (.ref b2)])) _
      refine XS.iadd X7.here hx rfl (hb hby at_48) rfl ?_
      show Steps p.tables e below (T7.setTop (mkF m 49 #[.val (.int p0), .val (.int p1), .val (.int p2), .val (.int x3_7), .unset, .unset, .unset] [(.int (p2 + (5 : Int32))), (.int (5 : Int32)), (.ref b2), (.ref b2)])) _
      refine XS.i2b X7.here hx rfl (hb hby at_49) rfl ?_
      show Steps p.tables e below (T7.setTop (mkF m 50 #[.val (.int p0), .val (.int p1), .val (.int p2), .val (.int x3_7), .unset, .unset, .unset] [(.int ((p2 + (5 : Int32))).toInt8.toInt32), (.int (5 : Int32)), (.ref b2), (.ref b2)])) _
      refine st8 _ ?_
      show Steps p.tables e below (T8.setTop (mkF m 51 #[.val (.int p0), .val (.int p1), .val (.int p2), .val (.int x3_7), .unset, .unset, .unset] [(.ref b2)])) _
      refine XS.dup X8.here hx rfl (hb hby at_51) rfl rfl ?_
      show Steps p.tables e below (T8.setTop (mkF m 52 #[.val (.int p0), .val (.int p1), .val (.int p2), .val (.int x3_7), .unset, .unset, .unset] [(.ref b2), (.ref b2)])) _
      refine XS.bipush X8.here hx rfl (hb hby at_52) ?_
      show Steps p.tables e below (T8.setTop (mkF m 54 #[.val (.int p0), .val (.int p1), .val (.int p2), .val (.int x3_7), .unset, .unset, .unset] [(.int (6 : Int32)), (.ref b2), (.ref b2)])) _
      refine XS.iloadN X8.here hx rfl (hb hby at_54) rfl ?_
      show Steps p.tables e below (T8.setTop (mkF m 55 #[.val (.int p0), .val (.int p1), .val (.int p2), .val (.int x3_7), .unset, .unset, .unset] [(.int p2), (.int (6 : Int32)), (.ref b2), (.ref b2)])) _
      refine XS.bipush X8.here hx rfl (hb hby at_55) ?_
      show Steps p.tables e below (T8.setTop (mkF m 57 #[.val (.int p0), .val (.int p1), .val (.int p2), .val (.int x3_7), .unset, .unset, .unset] [(.int (6 : Int32)), (.int p2), (.int (6 : Int32)), (.ref b2), (.ref b2)])) _
      refine XS.iadd X8.here hx rfl (hb hby at_57) rfl ?_
      show Steps p.tables e below (T8.setTop (mkF m 58 #[.val (.int p0), .val (.int p1), .val (.int p2), .val (.int x3_7), .unset, .unset, .unset] [(.int (p2 + (6 : Int32))), (.int (6 : Int32)), (.ref b2), (.ref b2)])) _
      refine XS.i2b X8.here hx rfl (hb hby at_58) rfl ?_
      show Steps p.tables e below (T8.setTop (mkF m 59 #[.val (.int p0), .val (.int p1), .val (.int p2), .val (.int x3_7), .unset, .unset, .unset] [(.int ((p2 + (6 : Int32))).toInt8.toInt32), (.int (6 : Int32)), (.ref b2), (.ref b2)])) _
      refine st9 _ ?_
      show Steps p.tables e below (T9.setTop (mkF m 60 #[.val (.int p0), .val (.int p1), .val (.int p2), .val (.int x3_7), .unset, .unset, .unset] [(.ref b2)])) _
      refine XS.dup X9.here hx rfl (hb hby at_60) rfl rfl ?_
      show Steps p.tables e below (T9.setTop (mkF m 61 #[.val (.int p0), .val (.int p1), .val (.int p2), .val (.int x3_7), .unset, .unset, .unset] [(.ref b2), (.ref b2)])) _
      refine XS.bipush X9.here hx rfl (hb hby at_61) ?_
      show Steps p.tables e below (T9.setTop (mkF m 63 #[.val (.int p0), .val (.int p1), .val (.int p2), .val (.int x3_7), .unset, .unset, .unset] [(.int (7 : Int32)), (.ref b2), (.ref b2)])) _
      refine XS.iloadN X9.here hx rfl (hb hby at_63) rfl ?_
      show Steps p.tables e below (T9.setTop (mkF m 64 #[.val (.int p0), .val (.int p1), .val (.int p2), .val (.int x3_7), .unset, .unset, .unset] [(.int p2), (.int (7 : Int32)), (.ref b2), (.ref b2)])) _
      refine XS.bipush X9.here hx rfl (hb hby at_64) ?_
      show Steps p.tables e below (T9.setTop (mkF m 66 #[.val (.int p0), .val (.int p1), .val (.int p2), .val (.int x3_7), .unset, .unset, .unset] [(.int (7 : Int32)), (.int p2), (.int (7 : Int32)), (.ref b2), (.ref b2)])) _
      refine XS.iadd X9.here hx rfl (hb hby at_66) rfl ?_
      show Steps p.tables e below (T9.setTop (mkF m 67 #[.val (.int p0), .val (.int p1), .val (.int p2), .val (.int x3_7), .unset, .unset, .unset] [(.int (p2 + (7 : Int32))), (.int (7 : Int32)), (.ref b2), (.ref b2)])) _
      refine XS.i2b X9.here hx rfl (hb hby at_67) rfl ?_
      show Steps p.tables e below (T9.setTop (mkF m 68 #[.val (.int p0), .val (.int p1), .val (.int p2), .val (.int x3_7), .unset, .unset, .unset] [(.int ((p2 + (7 : Int32))).toInt8.toInt32), (.int (7 : Int32)), (.ref b2), (.ref b2)])) _
      refine st10 _ ?_
      show Steps p.tables e below (T10.setTop (mkF m 69 #[.val (.int p0), .val (.int p1), .val (.int p2), .val (.int x3_7), .unset, .unset, .unset] [(.ref b2)])) _
      refine XS.astore X10.here hx rfl (hb hby at_69) rfl rfl (l' := #[.val (.int p0), .val (.int p1), .val (.int p2), .val (.int x3_7), .val (.ref b2), .unset, .unset]) rfl ?_
      show Steps p.tables e below (T10.setTop (mkF m 71 #[.val (.int p0), .val (.int p1), .val (.int p2), .val (.int x3_7), .val (.ref b2), .unset, .unset] [])) _
      refine XS.aload X10.here hx rfl (hb hby at_71) rfl rfl ?_
      show Steps p.tables e below (T10.setTop (mkF m 73 #[.val (.int p0), .val (.int p1), .val (.int p2), .val (.int x3_7), .val (.ref b2), .unset, .unset] [(.ref b2)])) _
      refine XS.iloadN X10.here hx rfl (hb hby at_73) rfl ?_
      show Steps p.tables e below (T10.setTop (mkF m 74 #[.val (.int p0), .val (.int p1), .val (.int p2), .val (.int x3_7), .val (.ref b2), .unset, .unset] [(.int x3_7), (.ref b2)])) _
      refine XS.iloadN X10.here hx rfl (hb hby at_74) rfl ?_
      show Steps p.tables e below (T10.setTop (mkF m 75 #[.val (.int p0), .val (.int p1), .val (.int p2), .val (.int x3_7), .val (.ref b2), .unset, .unset] [(.int p0), (.int x3_7), (.ref b2)])) _
      refine st11 _ ?_
      show Steps p.tables e below (T11.setTop (mkF m 78 #[.val (.int p0), .val (.int p1), .val (.int p2), .val (.int x3_7), .val (.ref b2), .unset, .unset] [])) _
      refine XS.iloadN X11.here hx rfl (hb hby at_78) rfl ?_
      show Steps p.tables e below (T11.setTop (mkF m 79 #[.val (.int p0), .val (.int p1), .val (.int p2), .val (.int x3_7), .val (.ref b2), .unset, .unset] [(.int p0)])) _
      refine XS.i2l X11.here hx rfl (hb hby at_79) rfl ?_
      show Steps p.tables e below (T11.setTop (mkF m 80 #[.val (.int p0), .val (.int p1), .val (.int p2), .val (.int x3_7), .val (.ref b2), .unset, .unset] [(.long (p0).toInt64)])) _
      refine X11.ldc2Long hx hown (mvT hZ (hw _ (List.mem_of_getElem? (i := 6) rfl))) (g := (mkF m 80 #[.val (.int p0), .val (.int p1), .val (.int p2), .val (.int x3_7), .val (.ref b2), .unset, .unset] [(.long (p0).toInt64)])) rfl (hb hby at_80) _ ?_
      show Steps p.tables e below (T11.setTop (mkF m 83 #[.val (.int p0), .val (.int p1), .val (.int p2), .val (.int x3_7), .val (.ref b2), .unset, .unset] [(.long (4294967295 : Int64)), (.long (p0).toInt64)])) _
      refine XS.land X11.here hx rfl (hb hby at_83) rfl ?_
      show Steps p.tables e below (T11.setTop (mkF m 84 #[.val (.int p0), .val (.int p1), .val (.int p2), .val (.int x3_7), .val (.ref b2), .unset, .unset] [(.long ((p0).toInt64 &&& (4294967295 : Int64)))])) _
      refine XS.lstore X11.here hx rfl (hb hby at_84) rfl (l' := #[.val (.int p0), .val (.int p1), .val (.int p2), .val (.int x3_7), .val (.ref b2), .val (.long ((p0).toInt64 &&& (4294967295 : Int64))), .second]) rfl ?_
      exact k)⟩
  have z15 : n0 ≤ (T11.heap).size := (Nat.le_trans z12 K11.1)
  obtain ⟨_, _, ⟨T14, L14, k14, n14⟩, -, X14, ⟨Lc14, hQ14, l14, y14, z14⟩, st14⟩ := Jvm.LawKit.callS X11 hx (y := (⟨"com/example/unicopy/unicopy/MessagesWriteIntPinLaw", "cell", "([BIIJI)Z"⟩ : MethodName)) hown (mvT hZ (hw _ (List.mem_of_getElem? (i := 7) rfl))) (mvT hZ (hw _ (List.mem_of_getElem? (i := 8) rfl))) (mvT hZ (hw _ (List.mem_of_getElem? (i := 9) rfl))) (mvT hZ (hw _ (List.mem_of_getElem? (i := 10) rfl))) (by decide) (backOf (W := 0) (rm2 l Z aw hw [] (b2) ((0 : Int32)) (x3_7) (x5_86) (p2) (k2) (((8 : Int32))) ((own_p1_a0 x3_7 p0 ws10)) (T11.heap) n0 z15 po11_0 (by decide)) hZ (hw _ (List.mem_of_getElem? (i := 10) rfl)) (hw _ (List.mem_of_getElem? (i := 9) rfl)) (by decide) (by decide)) (g := (mkF m 93 #[.val (.int p0), .val (.int p1), .val (.int p2), .val (.int x3_7), .val (.ref b2), .val (.long x5_86), .second] [(.int p2), (.long x5_86), (.int x3_7), (.int (0 : Int32)), (.ref b2)])) rfl (by rw [hml]; rfl) (argsL := [(.ref b2), (.int (0 : Int32)), (.int x3_7), (.long x5_86), (.int p2)]) (rest := []) (lenOf pd_1 rfl) rfl (by show 2 * 0 + _ ≤ _; exact Nat.le_of_eq rfl) (hb hby at_93) (fun _ _ => ⟨rfl, rfl, (by decide : 1 + 0 ≤ _), (by decide : 8 + 0 ≤ _)⟩)
  dsimp only [Pt.U, Pt.locs, Pt.cells, Pt.slots] at X14 l14 y14 z14 st14 hQ14
  subst l14 y14 z14
  obtain ⟨rfl, Nq14, eq14⟩ := hQ14
  have N14 := Fr.app N11 Nq14
  have hc96 : ¬ ((own_f2 ((0 : Int32)) x3_7 x5_86 p2 ((own_p1_a0 x3_7 p0 ws10))) = (0 : Int32)) := by rw [hx5_86]; subst hws10 hws9 hws8 hws7 hws6 hws5 hws4 hws3; exact fun h => absurd (h.symm.trans (own_cell0 _ _ _ hx3_7)) (by decide)
  obtain ⟨_, _, ⟨T16, L16, k16, n16⟩, -, X16, ⟨Lc16, hQ16, l16, y16, z16⟩, st16⟩ := Jvm.LawKit.callS X14 hx (y := (⟨"com/example/unicopy/unicopy/MessagesWriteIntPinLaw", "cell", "([BIIJI)Z"⟩ : MethodName)) hown (mvT hZ (hw _ (List.mem_of_getElem? (i := 7) rfl))) (mvT hZ (hw _ (List.mem_of_getElem? (i := 8) rfl))) (mvT hZ (hw _ (List.mem_of_getElem? (i := 9) rfl))) (mvT hZ (hw _ (List.mem_of_getElem? (i := 10) rfl))) (by decide) (backOf (W := 0) (rm2 l Z aw hw [] (b2) ((1 : Int32)) (x3_7) (x5_86) (p2) (k2) (((8 : Int32))) ((own_p1_a0 x3_7 p0 ws10)) (T11.heap) n0 z15 po11_0 (by decide)) hZ (hw _ (List.mem_of_getElem? (i := 10) rfl)) (hw _ (List.mem_of_getElem? (i := 9) rfl)) (by decide) (by decide)) (g := (mkF m 106 #[.val (.int p0), .val (.int p1), .val (.int p2), .val (.int x3_7), .val (.ref b2), .val (.long x5_86), .second] [(.int p2), (.long x5_86), (.int x3_7), (.int (1 : Int32)), (.ref b2)])) rfl (by rw [hml]; rfl) (argsL := [(.ref b2), (.int (1 : Int32)), (.int x3_7), (.long x5_86), (.int p2)]) (rest := []) (lenOf pd_1 rfl) rfl (by show 2 * 0 + _ ≤ _; exact Nat.le_of_eq rfl) (hb hby at_106) (fun _ _ => ⟨rfl, eq14, (by decide : 1 + 0 ≤ _), (by decide : 8 + 0 ≤ _)⟩)
  dsimp only [Pt.U, Pt.locs, Pt.cells, Pt.slots] at X16 l16 y16 z16 st16 hQ16
  subst l16 y16 z16
  obtain ⟨rfl, Nq16, eq16⟩ := hQ16
  have N16 := Fr.app N14 Nq16
  have hc109 : ¬ ((own_f2 ((1 : Int32)) x3_7 x5_86 p2 ((own_p1_a0 x3_7 p0 ws10))) = (0 : Int32)) := by rw [hx5_86]; subst hws10 hws9 hws8 hws7 hws6 hws5 hws4 hws3; exact fun h => absurd (h.symm.trans (own_cell1 _ _ _ hx3_7)) (by decide)
  obtain ⟨_, _, ⟨T17, L17, k17, n17⟩, -, X17, ⟨Lc17, hQ17, l17, y17, z17⟩, st17⟩ := Jvm.LawKit.callS X16 hx (y := (⟨"com/example/unicopy/unicopy/MessagesWriteIntPinLaw", "cell", "([BIIJI)Z"⟩ : MethodName)) hown (mvT hZ (hw _ (List.mem_of_getElem? (i := 7) rfl))) (mvT hZ (hw _ (List.mem_of_getElem? (i := 8) rfl))) (mvT hZ (hw _ (List.mem_of_getElem? (i := 9) rfl))) (mvT hZ (hw _ (List.mem_of_getElem? (i := 10) rfl))) (by decide) (backOf (W := 0) (rm2 l Z aw hw [] (b2) ((2 : Int32)) (x3_7) (x5_86) (p2) (k2) (((8 : Int32))) ((own_p1_a0 x3_7 p0 ws10)) (T11.heap) n0 z15 po11_0 (by decide)) hZ (hw _ (List.mem_of_getElem? (i := 10) rfl)) (hw _ (List.mem_of_getElem? (i := 9) rfl)) (by decide) (by decide)) (g := (mkF m 119 #[.val (.int p0), .val (.int p1), .val (.int p2), .val (.int x3_7), .val (.ref b2), .val (.long x5_86), .second] [(.int p2), (.long x5_86), (.int x3_7), (.int (2 : Int32)), (.ref b2)])) rfl (by rw [hml]; rfl) (argsL := [(.ref b2), (.int (2 : Int32)), (.int x3_7), (.long x5_86), (.int p2)]) (rest := []) (lenOf pd_1 rfl) rfl (by show 2 * 0 + _ ≤ _; exact Nat.le_of_eq rfl) (hb hby at_119) (fun _ _ => ⟨rfl, eq16, (by decide : 1 + 0 ≤ _), (by decide : 8 + 0 ≤ _)⟩)
  dsimp only [Pt.U, Pt.locs, Pt.cells, Pt.slots] at X17 l17 y17 z17 st17 hQ17
  subst l17 y17 z17
  obtain ⟨rfl, Nq17, eq17⟩ := hQ17
  have N17 := Fr.app N16 Nq17
  have hc122 : ¬ ((own_f2 ((2 : Int32)) x3_7 x5_86 p2 ((own_p1_a0 x3_7 p0 ws10))) = (0 : Int32)) := by rw [hx5_86]; subst hws10 hws9 hws8 hws7 hws6 hws5 hws4 hws3; exact fun h => absurd (h.symm.trans (own_cell2 _ _ _ hx3_7)) (by decide)
  obtain ⟨_, _, ⟨T18, L18, k18, n18⟩, -, X18, ⟨Lc18, hQ18, l18, y18, z18⟩, st18⟩ := Jvm.LawKit.callS X17 hx (y := (⟨"com/example/unicopy/unicopy/MessagesWriteIntPinLaw", "cell", "([BIIJI)Z"⟩ : MethodName)) hown (mvT hZ (hw _ (List.mem_of_getElem? (i := 7) rfl))) (mvT hZ (hw _ (List.mem_of_getElem? (i := 8) rfl))) (mvT hZ (hw _ (List.mem_of_getElem? (i := 9) rfl))) (mvT hZ (hw _ (List.mem_of_getElem? (i := 10) rfl))) (by decide) (backOf (W := 0) (rm2 l Z aw hw [] (b2) ((3 : Int32)) (x3_7) (x5_86) (p2) (k2) (((8 : Int32))) ((own_p1_a0 x3_7 p0 ws10)) (T11.heap) n0 z15 po11_0 (by decide)) hZ (hw _ (List.mem_of_getElem? (i := 10) rfl)) (hw _ (List.mem_of_getElem? (i := 9) rfl)) (by decide) (by decide)) (g := (mkF m 132 #[.val (.int p0), .val (.int p1), .val (.int p2), .val (.int x3_7), .val (.ref b2), .val (.long x5_86), .second] [(.int p2), (.long x5_86), (.int x3_7), (.int (3 : Int32)), (.ref b2)])) rfl (by rw [hml]; rfl) (argsL := [(.ref b2), (.int (3 : Int32)), (.int x3_7), (.long x5_86), (.int p2)]) (rest := []) (lenOf pd_1 rfl) rfl (by show 2 * 0 + _ ≤ _; exact Nat.le_of_eq rfl) (hb hby at_132) (fun _ _ => ⟨rfl, eq17, (by decide : 1 + 0 ≤ _), (by decide : 8 + 0 ≤ _)⟩)
  dsimp only [Pt.U, Pt.locs, Pt.cells, Pt.slots] at X18 l18 y18 z18 st18 hQ18
  subst l18 y18 z18
  obtain ⟨rfl, Nq18, eq18⟩ := hQ18
  have N18 := Fr.app N17 Nq18
  have hc135 : ¬ ((own_f2 ((3 : Int32)) x3_7 x5_86 p2 ((own_p1_a0 x3_7 p0 ws10))) = (0 : Int32)) := by rw [hx5_86]; subst hws10 hws9 hws8 hws7 hws6 hws5 hws4 hws3; exact fun h => absurd (h.symm.trans (own_cell3 _ _ _ hx3_7)) (by decide)
  obtain ⟨_, _, ⟨T19, L19, k19, n19⟩, -, X19, ⟨Lc19, hQ19, l19, y19, z19⟩, st19⟩ := Jvm.LawKit.callS X18 hx (y := (⟨"com/example/unicopy/unicopy/MessagesWriteIntPinLaw", "cell", "([BIIJI)Z"⟩ : MethodName)) hown (mvT hZ (hw _ (List.mem_of_getElem? (i := 7) rfl))) (mvT hZ (hw _ (List.mem_of_getElem? (i := 8) rfl))) (mvT hZ (hw _ (List.mem_of_getElem? (i := 9) rfl))) (mvT hZ (hw _ (List.mem_of_getElem? (i := 10) rfl))) (by decide) (backOf (W := 0) (rm2 l Z aw hw [] (b2) ((4 : Int32)) (x3_7) (x5_86) (p2) (k2) (((8 : Int32))) ((own_p1_a0 x3_7 p0 ws10)) (T11.heap) n0 z15 po11_0 (by decide)) hZ (hw _ (List.mem_of_getElem? (i := 10) rfl)) (hw _ (List.mem_of_getElem? (i := 9) rfl)) (by decide) (by decide)) (g := (mkF m 145 #[.val (.int p0), .val (.int p1), .val (.int p2), .val (.int x3_7), .val (.ref b2), .val (.long x5_86), .second] [(.int p2), (.long x5_86), (.int x3_7), (.int (4 : Int32)), (.ref b2)])) rfl (by rw [hml]; rfl) (argsL := [(.ref b2), (.int (4 : Int32)), (.int x3_7), (.long x5_86), (.int p2)]) (rest := []) (lenOf pd_1 rfl) rfl (by show 2 * 0 + _ ≤ _; exact Nat.le_of_eq rfl) (hb hby at_145) (fun _ _ => ⟨rfl, eq18, (by decide : 1 + 0 ≤ _), (by decide : 8 + 0 ≤ _)⟩)
  dsimp only [Pt.U, Pt.locs, Pt.cells, Pt.slots] at X19 l19 y19 z19 st19 hQ19
  subst l19 y19 z19
  obtain ⟨rfl, Nq19, eq19⟩ := hQ19
  have N19 := Fr.app N18 Nq19
  have hc148 : ¬ ((own_f2 ((4 : Int32)) x3_7 x5_86 p2 ((own_p1_a0 x3_7 p0 ws10))) = (0 : Int32)) := by rw [hx5_86]; subst hws10 hws9 hws8 hws7 hws6 hws5 hws4 hws3; exact fun h => absurd (h.symm.trans (own_cell4 _ _ _ hx3_7)) (by decide)
  obtain ⟨_, _, ⟨T20, L20, k20, n20⟩, -, X20, ⟨Lc20, hQ20, l20, y20, z20⟩, st20⟩ := Jvm.LawKit.callS X19 hx (y := (⟨"com/example/unicopy/unicopy/MessagesWriteIntPinLaw", "cell", "([BIIJI)Z"⟩ : MethodName)) hown (mvT hZ (hw _ (List.mem_of_getElem? (i := 7) rfl))) (mvT hZ (hw _ (List.mem_of_getElem? (i := 8) rfl))) (mvT hZ (hw _ (List.mem_of_getElem? (i := 9) rfl))) (mvT hZ (hw _ (List.mem_of_getElem? (i := 10) rfl))) (by decide) (backOf (W := 0) (rm2 l Z aw hw [] (b2) ((5 : Int32)) (x3_7) (x5_86) (p2) (k2) (((8 : Int32))) ((own_p1_a0 x3_7 p0 ws10)) (T11.heap) n0 z15 po11_0 (by decide)) hZ (hw _ (List.mem_of_getElem? (i := 10) rfl)) (hw _ (List.mem_of_getElem? (i := 9) rfl)) (by decide) (by decide)) (g := (mkF m 158 #[.val (.int p0), .val (.int p1), .val (.int p2), .val (.int x3_7), .val (.ref b2), .val (.long x5_86), .second] [(.int p2), (.long x5_86), (.int x3_7), (.int (5 : Int32)), (.ref b2)])) rfl (by rw [hml]; rfl) (argsL := [(.ref b2), (.int (5 : Int32)), (.int x3_7), (.long x5_86), (.int p2)]) (rest := []) (lenOf pd_1 rfl) rfl (by show 2 * 0 + _ ≤ _; exact Nat.le_of_eq rfl) (hb hby at_158) (fun _ _ => ⟨rfl, eq19, (by decide : 1 + 0 ≤ _), (by decide : 8 + 0 ≤ _)⟩)
  dsimp only [Pt.U, Pt.locs, Pt.cells, Pt.slots] at X20 l20 y20 z20 st20 hQ20
  subst l20 y20 z20
  obtain ⟨rfl, Nq20, eq20⟩ := hQ20
  have N20 := Fr.app N19 Nq20
  have hc161 : ¬ ((own_f2 ((5 : Int32)) x3_7 x5_86 p2 ((own_p1_a0 x3_7 p0 ws10))) = (0 : Int32)) := by rw [hx5_86]; subst hws10 hws9 hws8 hws7 hws6 hws5 hws4 hws3; exact fun h => absurd (h.symm.trans (own_cell5 _ _ _ hx3_7)) (by decide)
  obtain ⟨_, _, ⟨T21, L21, k21, n21⟩, -, X21, ⟨Lc21, hQ21, l21, y21, z21⟩, st21⟩ := Jvm.LawKit.callS X20 hx (y := (⟨"com/example/unicopy/unicopy/MessagesWriteIntPinLaw", "cell", "([BIIJI)Z"⟩ : MethodName)) hown (mvT hZ (hw _ (List.mem_of_getElem? (i := 7) rfl))) (mvT hZ (hw _ (List.mem_of_getElem? (i := 8) rfl))) (mvT hZ (hw _ (List.mem_of_getElem? (i := 9) rfl))) (mvT hZ (hw _ (List.mem_of_getElem? (i := 10) rfl))) (by decide) (backOf (W := 0) (rm2 l Z aw hw [] (b2) ((6 : Int32)) (x3_7) (x5_86) (p2) (k2) (((8 : Int32))) ((own_p1_a0 x3_7 p0 ws10)) (T11.heap) n0 z15 po11_0 (by decide)) hZ (hw _ (List.mem_of_getElem? (i := 10) rfl)) (hw _ (List.mem_of_getElem? (i := 9) rfl)) (by decide) (by decide)) (g := (mkF m 172 #[.val (.int p0), .val (.int p1), .val (.int p2), .val (.int x3_7), .val (.ref b2), .val (.long x5_86), .second] [(.int p2), (.long x5_86), (.int x3_7), (.int (6 : Int32)), (.ref b2)])) rfl (by rw [hml]; rfl) (argsL := [(.ref b2), (.int (6 : Int32)), (.int x3_7), (.long x5_86), (.int p2)]) (rest := []) (lenOf pd_1 rfl) rfl (by show 2 * 0 + _ ≤ _; exact Nat.le_of_eq rfl) (hb hby at_172) (fun _ _ => ⟨rfl, eq20, (by decide : 1 + 0 ≤ _), (by decide : 8 + 0 ≤ _)⟩)
  dsimp only [Pt.U, Pt.locs, Pt.cells, Pt.slots] at X21 l21 y21 z21 st21 hQ21
  subst l21 y21 z21
  obtain ⟨rfl, Nq21, eq21⟩ := hQ21
  have N21 := Fr.app N20 Nq21
  have hc175 : ¬ ((own_f2 ((6 : Int32)) x3_7 x5_86 p2 ((own_p1_a0 x3_7 p0 ws10))) = (0 : Int32)) := by rw [hx5_86]; subst hws10 hws9 hws8 hws7 hws6 hws5 hws4 hws3; exact fun h => absurd (h.symm.trans (own_cell6 _ _ _ hx3_7)) (by decide)
  obtain ⟨_, _, ⟨T22, L22, k22, n22⟩, -, X22, ⟨Lc22, hQ22, l22, y22, z22⟩, st22⟩ := Jvm.LawKit.callS X21 hx (y := (⟨"com/example/unicopy/unicopy/MessagesWriteIntPinLaw", "cell", "([BIIJI)Z"⟩ : MethodName)) hown (mvT hZ (hw _ (List.mem_of_getElem? (i := 7) rfl))) (mvT hZ (hw _ (List.mem_of_getElem? (i := 8) rfl))) (mvT hZ (hw _ (List.mem_of_getElem? (i := 9) rfl))) (mvT hZ (hw _ (List.mem_of_getElem? (i := 10) rfl))) (by decide) (backOf (W := 0) (rm2 l Z aw hw [] (b2) ((7 : Int32)) (x3_7) (x5_86) (p2) (k2) (((8 : Int32))) ((own_p1_a0 x3_7 p0 ws10)) (T11.heap) n0 z15 po11_0 (by decide)) hZ (hw _ (List.mem_of_getElem? (i := 10) rfl)) (hw _ (List.mem_of_getElem? (i := 9) rfl)) (by decide) (by decide)) (g := (mkF m 186 #[.val (.int p0), .val (.int p1), .val (.int p2), .val (.int x3_7), .val (.ref b2), .val (.long x5_86), .second] [(.int p2), (.long x5_86), (.int x3_7), (.int (7 : Int32)), (.ref b2)])) rfl (by rw [hml]; rfl) (argsL := [(.ref b2), (.int (7 : Int32)), (.int x3_7), (.long x5_86), (.int p2)]) (rest := []) (lenOf pd_1 rfl) rfl (by show 2 * 0 + _ ≤ _; exact Nat.le_of_eq rfl) (hb hby at_186) (fun _ _ => ⟨rfl, eq21, (by decide : 1 + 0 ≤ _), (by decide : 8 + 0 ≤ _)⟩)
  dsimp only [Pt.U, Pt.locs, Pt.cells, Pt.slots] at X22 l22 y22 z22 st22 hQ22
  subst l22 y22 z22
  obtain ⟨rfl, Nq22, eq22⟩ := hQ22
  have N22 := Fr.app N21 Nq22
  have hc189 : ¬ ((own_f2 ((7 : Int32)) x3_7 x5_86 p2 ((own_p1_a0 x3_7 p0 ws10))) = (0 : Int32)) := by rw [hx5_86]; subst hws10 hws9 hws8 hws7 hws6 hws5 hws4 hws3; exact fun h => absurd (h.symm.trans (own_cell7 _ _ _ hx3_7)) (by decide)
  obtain ⟨fs, hr, hrun, hended, hW, hsame⟩ := X22.leave (v := some (.int (1 : Int32))) (fun h => by rw [Bd.returns] at h; cases h)
  refine ⟨_, _, pre13 _ ?_, hrun, hended, _, _, rfl, ?_, ⟨_, rfl⟩, hW, hsame.mono (by decide) (by decide)⟩
  · show Steps p.tables e below (T11.setTop (mkF m 86 #[.val (.int p0), .val (.int p1), .val (.int p2), .val (.int x3_7), .val (.ref b2), .val (.long x5_86), .second] [])) _
    refine XS.aload X11.here hx rfl (hb hby at_86) rfl rfl ?_
    show Steps p.tables e below (T11.setTop (mkF m 88 #[.val (.int p0), .val (.int p1), .val (.int p2), .val (.int x3_7), .val (.ref b2), .val (.long x5_86), .second] [(.ref b2)])) _
    refine XS.iconst X11.here hx rfl (hb hby at_88) ?_
    show Steps p.tables e below (T11.setTop (mkF m 89 #[.val (.int p0), .val (.int p1), .val (.int p2), .val (.int x3_7), .val (.ref b2), .val (.long x5_86), .second] [(.int (0 : Int32)), (.ref b2)])) _
    refine XS.iloadN X11.here hx rfl (hb hby at_89) rfl ?_
    show Steps p.tables e below (T11.setTop (mkF m 90 #[.val (.int p0), .val (.int p1), .val (.int p2), .val (.int x3_7), .val (.ref b2), .val (.long x5_86), .second] [(.int x3_7), (.int (0 : Int32)), (.ref b2)])) _
    refine XS.lload X11.here hx rfl (hb hby at_90) rfl ?_
    show Steps p.tables e below (T11.setTop (mkF m 92 #[.val (.int p0), .val (.int p1), .val (.int p2), .val (.int x3_7), .val (.ref b2), .val (.long x5_86), .second] [(.long x5_86), (.int x3_7), (.int (0 : Int32)), (.ref b2)])) _
    refine XS.iloadN X11.here hx rfl (hb hby at_92) rfl ?_
    show Steps p.tables e below (T11.setTop (mkF m 93 #[.val (.int p0), .val (.int p1), .val (.int p2), .val (.int x3_7), .val (.ref b2), .val (.long x5_86), .second] [(.int p2), (.long x5_86), (.int x3_7), (.int (0 : Int32)), (.ref b2)])) _
    refine st14 _ ?_
    show Steps p.tables e below (T14.setTop (mkF m 96 #[.val (.int p0), .val (.int p1), .val (.int p2), .val (.int x3_7), .val (.ref b2), .val (.long x5_86), .second] [(.int (own_f2 ((0 : Int32)) x3_7 x5_86 p2 ((own_p1_a0 x3_7 p0 ws10))))])) _
    refine XS.ifNo X14.here hx rfl (hb hby at_96) rfl ((if0 _ _).trans (feq hc96).1) ?_
    show Steps p.tables e below (T14.setTop (mkF m 99 #[.val (.int p0), .val (.int p1), .val (.int p2), .val (.int x3_7), .val (.ref b2), .val (.long x5_86), .second] [])) _
    refine XS.aload X14.here hx rfl (hb hby at_99) rfl rfl ?_
    show Steps p.tables e below (T14.setTop (mkF m 101 #[.val (.int p0), .val (.int p1), .val (.int p2), .val (.int x3_7), .val (.ref b2), .val (.long x5_86), .second] [(.ref b2)])) _
    refine XS.iconst X14.here hx rfl (hb hby at_101) ?_
    show Steps p.tables e below (T14.setTop (mkF m 102 #[.val (.int p0), .val (.int p1), .val (.int p2), .val (.int x3_7), .val (.ref b2), .val (.long x5_86), .second] [(.int (1 : Int32)), (.ref b2)])) _
    refine XS.iloadN X14.here hx rfl (hb hby at_102) rfl ?_
    show Steps p.tables e below (T14.setTop (mkF m 103 #[.val (.int p0), .val (.int p1), .val (.int p2), .val (.int x3_7), .val (.ref b2), .val (.long x5_86), .second] [(.int x3_7), (.int (1 : Int32)), (.ref b2)])) _
    refine XS.lload X14.here hx rfl (hb hby at_103) rfl ?_
    show Steps p.tables e below (T14.setTop (mkF m 105 #[.val (.int p0), .val (.int p1), .val (.int p2), .val (.int x3_7), .val (.ref b2), .val (.long x5_86), .second] [(.long x5_86), (.int x3_7), (.int (1 : Int32)), (.ref b2)])) _
    refine XS.iloadN X14.here hx rfl (hb hby at_105) rfl ?_
    show Steps p.tables e below (T14.setTop (mkF m 106 #[.val (.int p0), .val (.int p1), .val (.int p2), .val (.int x3_7), .val (.ref b2), .val (.long x5_86), .second] [(.int p2), (.long x5_86), (.int x3_7), (.int (1 : Int32)), (.ref b2)])) _
    refine st16 _ ?_
    show Steps p.tables e below (T16.setTop (mkF m 109 #[.val (.int p0), .val (.int p1), .val (.int p2), .val (.int x3_7), .val (.ref b2), .val (.long x5_86), .second] [(.int (own_f2 ((1 : Int32)) x3_7 x5_86 p2 ((own_p1_a0 x3_7 p0 ws10))))])) _
    refine XS.ifNo X16.here hx rfl (hb hby at_109) rfl ((if0 _ _).trans (feq hc109).1) ?_
    show Steps p.tables e below (T16.setTop (mkF m 112 #[.val (.int p0), .val (.int p1), .val (.int p2), .val (.int x3_7), .val (.ref b2), .val (.long x5_86), .second] [])) _
    refine XS.aload X16.here hx rfl (hb hby at_112) rfl rfl ?_
    show Steps p.tables e below (T16.setTop (mkF m 114 #[.val (.int p0), .val (.int p1), .val (.int p2), .val (.int x3_7), .val (.ref b2), .val (.long x5_86), .second] [(.ref b2)])) _
    refine XS.iconst X16.here hx rfl (hb hby at_114) ?_
    show Steps p.tables e below (T16.setTop (mkF m 115 #[.val (.int p0), .val (.int p1), .val (.int p2), .val (.int x3_7), .val (.ref b2), .val (.long x5_86), .second] [(.int (2 : Int32)), (.ref b2)])) _
    refine XS.iloadN X16.here hx rfl (hb hby at_115) rfl ?_
    show Steps p.tables e below (T16.setTop (mkF m 116 #[.val (.int p0), .val (.int p1), .val (.int p2), .val (.int x3_7), .val (.ref b2), .val (.long x5_86), .second] [(.int x3_7), (.int (2 : Int32)), (.ref b2)])) _
    refine XS.lload X16.here hx rfl (hb hby at_116) rfl ?_
    show Steps p.tables e below (T16.setTop (mkF m 118 #[.val (.int p0), .val (.int p1), .val (.int p2), .val (.int x3_7), .val (.ref b2), .val (.long x5_86), .second] [(.long x5_86), (.int x3_7), (.int (2 : Int32)), (.ref b2)])) _
    refine XS.iloadN X16.here hx rfl (hb hby at_118) rfl ?_
    show Steps p.tables e below (T16.setTop (mkF m 119 #[.val (.int p0), .val (.int p1), .val (.int p2), .val (.int x3_7), .val (.ref b2), .val (.long x5_86), .second] [(.int p2), (.long x5_86), (.int x3_7), (.int (2 : Int32)), (.ref b2)])) _
    refine st17 _ ?_
    show Steps p.tables e below (T17.setTop (mkF m 122 #[.val (.int p0), .val (.int p1), .val (.int p2), .val (.int x3_7), .val (.ref b2), .val (.long x5_86), .second] [(.int (own_f2 ((2 : Int32)) x3_7 x5_86 p2 ((own_p1_a0 x3_7 p0 ws10))))])) _
    refine XS.ifNo X17.here hx rfl (hb hby at_122) rfl ((if0 _ _).trans (feq hc122).1) ?_
    show Steps p.tables e below (T17.setTop (mkF m 125 #[.val (.int p0), .val (.int p1), .val (.int p2), .val (.int x3_7), .val (.ref b2), .val (.long x5_86), .second] [])) _
    refine XS.aload X17.here hx rfl (hb hby at_125) rfl rfl ?_
    show Steps p.tables e below (T17.setTop (mkF m 127 #[.val (.int p0), .val (.int p1), .val (.int p2), .val (.int x3_7), .val (.ref b2), .val (.long x5_86), .second] [(.ref b2)])) _
    refine XS.iconst X17.here hx rfl (hb hby at_127) ?_
    show Steps p.tables e below (T17.setTop (mkF m 128 #[.val (.int p0), .val (.int p1), .val (.int p2), .val (.int x3_7), .val (.ref b2), .val (.long x5_86), .second] [(.int (3 : Int32)), (.ref b2)])) _
    refine XS.iloadN X17.here hx rfl (hb hby at_128) rfl ?_
    show Steps p.tables e below (T17.setTop (mkF m 129 #[.val (.int p0), .val (.int p1), .val (.int p2), .val (.int x3_7), .val (.ref b2), .val (.long x5_86), .second] [(.int x3_7), (.int (3 : Int32)), (.ref b2)])) _
    refine XS.lload X17.here hx rfl (hb hby at_129) rfl ?_
    show Steps p.tables e below (T17.setTop (mkF m 131 #[.val (.int p0), .val (.int p1), .val (.int p2), .val (.int x3_7), .val (.ref b2), .val (.long x5_86), .second] [(.long x5_86), (.int x3_7), (.int (3 : Int32)), (.ref b2)])) _
    refine XS.iloadN X17.here hx rfl (hb hby at_131) rfl ?_
    show Steps p.tables e below (T17.setTop (mkF m 132 #[.val (.int p0), .val (.int p1), .val (.int p2), .val (.int x3_7), .val (.ref b2), .val (.long x5_86), .second] [(.int p2), (.long x5_86), (.int x3_7), (.int (3 : Int32)), (.ref b2)])) _
    refine st18 _ ?_
    show Steps p.tables e below (T18.setTop (mkF m 135 #[.val (.int p0), .val (.int p1), .val (.int p2), .val (.int x3_7), .val (.ref b2), .val (.long x5_86), .second] [(.int (own_f2 ((3 : Int32)) x3_7 x5_86 p2 ((own_p1_a0 x3_7 p0 ws10))))])) _
    refine XS.ifNo X18.here hx rfl (hb hby at_135) rfl ((if0 _ _).trans (feq hc135).1) ?_
    show Steps p.tables e below (T18.setTop (mkF m 138 #[.val (.int p0), .val (.int p1), .val (.int p2), .val (.int x3_7), .val (.ref b2), .val (.long x5_86), .second] [])) _
    refine XS.aload X18.here hx rfl (hb hby at_138) rfl rfl ?_
    show Steps p.tables e below (T18.setTop (mkF m 140 #[.val (.int p0), .val (.int p1), .val (.int p2), .val (.int x3_7), .val (.ref b2), .val (.long x5_86), .second] [(.ref b2)])) _
    refine XS.iconst X18.here hx rfl (hb hby at_140) ?_
    show Steps p.tables e below (T18.setTop (mkF m 141 #[.val (.int p0), .val (.int p1), .val (.int p2), .val (.int x3_7), .val (.ref b2), .val (.long x5_86), .second] [(.int (4 : Int32)), (.ref b2)])) _
    refine XS.iloadN X18.here hx rfl (hb hby at_141) rfl ?_
    show Steps p.tables e below (T18.setTop (mkF m 142 #[.val (.int p0), .val (.int p1), .val (.int p2), .val (.int x3_7), .val (.ref b2), .val (.long x5_86), .second] [(.int x3_7), (.int (4 : Int32)), (.ref b2)])) _
    refine XS.lload X18.here hx rfl (hb hby at_142) rfl ?_
    show Steps p.tables e below (T18.setTop (mkF m 144 #[.val (.int p0), .val (.int p1), .val (.int p2), .val (.int x3_7), .val (.ref b2), .val (.long x5_86), .second] [(.long x5_86), (.int x3_7), (.int (4 : Int32)), (.ref b2)])) _
    refine XS.iloadN X18.here hx rfl (hb hby at_144) rfl ?_
    show Steps p.tables e below (T18.setTop (mkF m 145 #[.val (.int p0), .val (.int p1), .val (.int p2), .val (.int x3_7), .val (.ref b2), .val (.long x5_86), .second] [(.int p2), (.long x5_86), (.int x3_7), (.int (4 : Int32)), (.ref b2)])) _
    refine st19 _ ?_
    show Steps p.tables e below (T19.setTop (mkF m 148 #[.val (.int p0), .val (.int p1), .val (.int p2), .val (.int x3_7), .val (.ref b2), .val (.long x5_86), .second] [(.int (own_f2 ((4 : Int32)) x3_7 x5_86 p2 ((own_p1_a0 x3_7 p0 ws10))))])) _
    refine XS.ifNo X19.here hx rfl (hb hby at_148) rfl ((if0 _ _).trans (feq hc148).1) ?_
    show Steps p.tables e below (T19.setTop (mkF m 151 #[.val (.int p0), .val (.int p1), .val (.int p2), .val (.int x3_7), .val (.ref b2), .val (.long x5_86), .second] [])) _
    refine XS.aload X19.here hx rfl (hb hby at_151) rfl rfl ?_
    show Steps p.tables e below (T19.setTop (mkF m 153 #[.val (.int p0), .val (.int p1), .val (.int p2), .val (.int x3_7), .val (.ref b2), .val (.long x5_86), .second] [(.ref b2)])) _
    refine XS.iconst X19.here hx rfl (hb hby at_153) ?_
    show Steps p.tables e below (T19.setTop (mkF m 154 #[.val (.int p0), .val (.int p1), .val (.int p2), .val (.int x3_7), .val (.ref b2), .val (.long x5_86), .second] [(.int (5 : Int32)), (.ref b2)])) _
    refine XS.iloadN X19.here hx rfl (hb hby at_154) rfl ?_
    show Steps p.tables e below (T19.setTop (mkF m 155 #[.val (.int p0), .val (.int p1), .val (.int p2), .val (.int x3_7), .val (.ref b2), .val (.long x5_86), .second] [(.int x3_7), (.int (5 : Int32)), (.ref b2)])) _
    refine XS.lload X19.here hx rfl (hb hby at_155) rfl ?_
    show Steps p.tables e below (T19.setTop (mkF m 157 #[.val (.int p0), .val (.int p1), .val (.int p2), .val (.int x3_7), .val (.ref b2), .val (.long x5_86), .second] [(.long x5_86), (.int x3_7), (.int (5 : Int32)), (.ref b2)])) _
    refine XS.iloadN X19.here hx rfl (hb hby at_157) rfl ?_
    show Steps p.tables e below (T19.setTop (mkF m 158 #[.val (.int p0), .val (.int p1), .val (.int p2), .val (.int x3_7), .val (.ref b2), .val (.long x5_86), .second] [(.int p2), (.long x5_86), (.int x3_7), (.int (5 : Int32)), (.ref b2)])) _
    refine st20 _ ?_
    show Steps p.tables e below (T20.setTop (mkF m 161 #[.val (.int p0), .val (.int p1), .val (.int p2), .val (.int x3_7), .val (.ref b2), .val (.long x5_86), .second] [(.int (own_f2 ((5 : Int32)) x3_7 x5_86 p2 ((own_p1_a0 x3_7 p0 ws10))))])) _
    refine XS.ifNo X20.here hx rfl (hb hby at_161) rfl ((if0 _ _).trans (feq hc161).1) ?_
    show Steps p.tables e below (T20.setTop (mkF m 164 #[.val (.int p0), .val (.int p1), .val (.int p2), .val (.int x3_7), .val (.ref b2), .val (.long x5_86), .second] [])) _
    refine XS.aload X20.here hx rfl (hb hby at_164) rfl rfl ?_
    show Steps p.tables e below (T20.setTop (mkF m 166 #[.val (.int p0), .val (.int p1), .val (.int p2), .val (.int x3_7), .val (.ref b2), .val (.long x5_86), .second] [(.ref b2)])) _
    refine XS.bipush X20.here hx rfl (hb hby at_166) ?_
    show Steps p.tables e below (T20.setTop (mkF m 168 #[.val (.int p0), .val (.int p1), .val (.int p2), .val (.int x3_7), .val (.ref b2), .val (.long x5_86), .second] [(.int (6 : Int32)), (.ref b2)])) _
    refine XS.iloadN X20.here hx rfl (hb hby at_168) rfl ?_
    show Steps p.tables e below (T20.setTop (mkF m 169 #[.val (.int p0), .val (.int p1), .val (.int p2), .val (.int x3_7), .val (.ref b2), .val (.long x5_86), .second] [(.int x3_7), (.int (6 : Int32)), (.ref b2)])) _
    refine XS.lload X20.here hx rfl (hb hby at_169) rfl ?_
    show Steps p.tables e below (T20.setTop (mkF m 171 #[.val (.int p0), .val (.int p1), .val (.int p2), .val (.int x3_7), .val (.ref b2), .val (.long x5_86), .second] [(.long x5_86), (.int x3_7), (.int (6 : Int32)), (.ref b2)])) _
    refine XS.iloadN X20.here hx rfl (hb hby at_171) rfl ?_
    show Steps p.tables e below (T20.setTop (mkF m 172 #[.val (.int p0), .val (.int p1), .val (.int p2), .val (.int x3_7), .val (.ref b2), .val (.long x5_86), .second] [(.int p2), (.long x5_86), (.int x3_7), (.int (6 : Int32)), (.ref b2)])) _
    refine st21 _ ?_
    show Steps p.tables e below (T21.setTop (mkF m 175 #[.val (.int p0), .val (.int p1), .val (.int p2), .val (.int x3_7), .val (.ref b2), .val (.long x5_86), .second] [(.int (own_f2 ((6 : Int32)) x3_7 x5_86 p2 ((own_p1_a0 x3_7 p0 ws10))))])) _
    refine XS.ifNo X21.here hx rfl (hb hby at_175) rfl ((if0 _ _).trans (feq hc175).1) ?_
    show Steps p.tables e below (T21.setTop (mkF m 178 #[.val (.int p0), .val (.int p1), .val (.int p2), .val (.int x3_7), .val (.ref b2), .val (.long x5_86), .second] [])) _
    refine XS.aload X21.here hx rfl (hb hby at_178) rfl rfl ?_
    show Steps p.tables e below (T21.setTop (mkF m 180 #[.val (.int p0), .val (.int p1), .val (.int p2), .val (.int x3_7), .val (.ref b2), .val (.long x5_86), .second] [(.ref b2)])) _
    refine XS.bipush X21.here hx rfl (hb hby at_180) ?_
    show Steps p.tables e below (T21.setTop (mkF m 182 #[.val (.int p0), .val (.int p1), .val (.int p2), .val (.int x3_7), .val (.ref b2), .val (.long x5_86), .second] [(.int (7 : Int32)), (.ref b2)])) _
    refine XS.iloadN X21.here hx rfl (hb hby at_182) rfl ?_
    show Steps p.tables e below (T21.setTop (mkF m 183 #[.val (.int p0), .val (.int p1), .val (.int p2), .val (.int x3_7), .val (.ref b2), .val (.long x5_86), .second] [(.int x3_7), (.int (7 : Int32)), (.ref b2)])) _
    refine XS.lload X21.here hx rfl (hb hby at_183) rfl ?_
    show Steps p.tables e below (T21.setTop (mkF m 185 #[.val (.int p0), .val (.int p1), .val (.int p2), .val (.int x3_7), .val (.ref b2), .val (.long x5_86), .second] [(.long x5_86), (.int x3_7), (.int (7 : Int32)), (.ref b2)])) _
    refine XS.iloadN X21.here hx rfl (hb hby at_185) rfl ?_
    show Steps p.tables e below (T21.setTop (mkF m 186 #[.val (.int p0), .val (.int p1), .val (.int p2), .val (.int x3_7), .val (.ref b2), .val (.long x5_86), .second] [(.int p2), (.long x5_86), (.int x3_7), (.int (7 : Int32)), (.ref b2)])) _
    refine st22 _ ?_
    show Steps p.tables e below (T22.setTop (mkF m 189 #[.val (.int p0), .val (.int p1), .val (.int p2), .val (.int x3_7), .val (.ref b2), .val (.long x5_86), .second] [(.int (own_f2 ((7 : Int32)) x3_7 x5_86 p2 ((own_p1_a0 x3_7 p0 ws10))))])) _
    refine XS.ifNo X22.here hx rfl (hb hby at_189) rfl ((if0 _ _).trans (feq hc189).1) ?_
    show Steps p.tables e below (T22.setTop (mkF m 192 #[.val (.int p0), .val (.int p1), .val (.int p2), .val (.int x3_7), .val (.ref b2), .val (.long x5_86), .second] [])) _
    refine XS.iconst X22.here hx rfl (hb hby at_192) ?_
    show Steps p.tables e below (T22.setTop (mkF m 193 #[.val (.int p0), .val (.int p1), .val (.int p2), .val (.int x3_7), .val (.ref b2), .val (.long x5_86), .second] [(.int (1 : Int32))])) _
    refine XS.goto X22.here hx rfl (pc0 := 193) (pc' := 197) rfl (hb hby at_193) (by decide) (by decide) ?_
    show Steps p.tables e below (T22.setTop (mkF m 197 #[.val (.int p0), .val (.int p1), .val (.int p2), .val (.int x3_7), .val (.ref b2), .val (.long x5_86), .second] [(.int (1 : Int32))])) _
    exact retN X22 hx (t := .boolean) Bd.returns (by simp) (hb hby at_197) hr
  · show Q0 Z p0 p1 p2 h0 n0 _ T22.heap _
    rw [eq22]
    unfold Q0
    refine ⟨rfl, N22⟩
set_option maxRecDepth 65536 in
set_option maxHeartbeats 40000000 in
theorem comes_1 {Post : Tables → Env → Array Value → State → Outcome → State → Prop} (hpost : ∀ tb e args s v u, (limb_1_1.after args s (.returned v) u = true ∧ limb_1_2.after args s (.returned v) u = true ∧ True) → FrameEnd s (.returned v) u (Jvm.fieldLocs frame_1_writes args s ++ Jvm.arrayLocs frame_1_arrays args s ++ Jvm.staticLocs frame_1_statics s) 16 128 → Post tb e args s (.returned v) u) :
    ArmFor flags0 classFile x code maxLocals ret World_1 tables_1 room_1 Calls_1 rest_1 Pre_1 Post := by
  intro l hfl _ _ p e ha hc hk s m args below hf hA hF happ hP
  obtain ⟨hcalls, hrest, hpre⟩ := hP
  obtain ⟨-, -, -, hnamed, -, -, -, hat⟩ := (Spec.applies_iff hf).mp happ
  obtain ⟨hg, hn⟩ := and_e (Cond.before_iff.mp (show (Jvm.Cond.and given_1 narrow_1).before args s = true from hpre))
  obtain ⟨gv1, gv2⟩ := and_e hg
  obtain ⟨gv3, gv4⟩ := and_e gv2
  obtain ⟨gv5, gv6⟩ := and_e gv4
  obtain ⟨w0, w1, w2, rfl⟩ : ∃ w0 w1 w2 : Value, args = #[w0, w1, w2] := by
    have hs : args.size = 3 := by simpa [Cond.value, given_1] using gv1
    obtain ⟨L⟩ := args
    match L, hs with
    | [w0, w1, w2], _ => exact ⟨w0, w1, w2, rfl⟩
  have hw := fun d (hd : d ∈ tables_1) => atoms_spec (ws := Jvm.Cond.code x code maxLocals ret :: tables_1) hat d (List.mem_cons_of_mem _ hd)
  obtain ⟨i0, ei0⟩ := is_v gv3
  obtain rfl : w0 = (.int i0) := Option.some.inj ei0
  obtain ⟨i1, ei1⟩ := is_v gv5
  obtain rfl : w1 = (.int i1) := Option.some.inj ei1
  obtain ⟨i2, ei2⟩ := is_v gv6
  obtain rfl : w2 = (.int i2) := Option.some.inj ei2
  obtain ⟨n, o, h1, h2, h3, _, L, rfl, ⟨rfl, N⟩, hq⟩ := rm0 l s _ hw tables_1 i0 i1 i2 s.heap s.heap.size (Nat.le_refl _) p e ha hc hk s m _ below hf ((Spec.applies_iff_loose hf).mp happ).1 ⟨rfl, State.Warmed39.refl s, rfl⟩ trivial
  refine ⟨n, _, h1, h2, h3, hpost _ _ _ _ _ _ ⟨Cond.after_iff.mpr rfl, Cond.after_iff.mpr (eq_i res_at (Term.int_eval (1)) rfl), trivial⟩ ⟨hq.1, hq.2.1, (hq.2.2.sift fun y hy => Or.inr (N y hy)).mono (by decide) (by decide)⟩⟩
theorem main_1_1 : Claimed_1_1 := comes_1 fun _ _ _ _ _ _ h hF => ⟨h.1, hF⟩
theorem main_1_2 : Claimed_1_2 := comes_1 fun _ _ _ _ _ _ h hF => ⟨h.2.1, hF⟩
end Jvm.Pilot.@@N@@
namespace Jvm.Pilot.@@N@@
open Jvm Jvm.ClassFile Sem Op Lib Jvm.Free Jvm.Stand Jvm.Pilot.@@N@@.Jvm.D
/-! MADE BY PROGRAM (witnessworld.py) out of the Statement's table words and the real class files: 9 classes; the members and pool entries that the words name. The judged class is class 1, her method 1. -/
namespace start1
open Jvm.ClassFile
def u (s : String) : CpInfo := .utf8 (stringToUtf16 s)
/-- a pool by its gaps: so many unusable entries, then the entry; so many at the end -/
def gap : Nat → List CpInfo → List CpInfo
  | 0, r => r
  | n + 1, r => .unusable :: gap n r
def poolList (es : List (Nat × CpInfo)) (last : Nat) : List CpInfo := es.foldr (fun e r => gap e.1 (e.2 :: r)) (gap last [])
def pool (es : List (Nat × CpInfo)) (last : Nat) : Array CpInfo := ⟨poolList es last⟩
def fileOf (pool : Array CpInfo) (this : Nat) (attrs : Array Attribute := #[]) (ms : Array MethodInfo := #[]) (fl : Nat := 33) (sup : Nat := 0) (ifs : Array Nat := #[]) (fds : Array FieldInfo := #[]) : ClassFile where
  minorVersion := 0
  majorVersion := 65
  constantPool := pool
  accessFlags := fl
  thisClass := this
  superClass := sup
  interfaces := ifs
  fields := fds
  methods := ms
  attributes := attrs
def plain (name : String) (sup : Option ClassId) : Class where
  name := name
  kind := .ordinary
  loader := none
  accessFlags := 33
  super := sup
  interfaces := #[]
  cf := none
  fields := #[]
  methods := #[]
  instanceTypes := #[]
  staticTypes := #[]
  resolved := #[]
  callSites := []
  init := .initialized
  statics := none
  mirror := none

def pool0 : Array CpInfo := pool [(5, u "<init>"), (0, u "()V"), (1, .class_ 10), (1, u "java/lang/Object")] 113

def k0m0 : Method := { name := "<init>", desc := "()V", sig := { parameters := [], returnType := none }, accessFlags := 1, code := none }
/-- java/lang/Object -/
def k0 : Class := { plain "java/lang/Object" none with
  accessFlags := 33
  interfaces := #[]
  cf := some (fileOf pool0 8 #[] #[{ accessFlags := 1, nameIndex := 5, descriptorIndex := 6, attributes := #[] }] 33 0 #[] #[])
  fields := #[]
  methods := #[k0m0]
  instanceTypes := #[]
  staticTypes := #[]
  resolved := Array.replicate 124 none
  statics := none }

def pool1 : Array CpInfo := pool [(2, .class_ 4), (1, u "java/lang/Object"), (0, u "<init>"), (0, u "()V"), (0, .integer 2147483647), (0, .methodref 9 10), (0, .class_ 11), (0, .nameAndType 12 13), (0, u "com/example/unicopy/unicopy/Messages"), (0, u "writeInt"), (0, u "([BII)V"), (0, .long 4294967295), (1, .methodref 17 18), (0, .class_ 19), (0, .nameAndType 20 21), (0, u "com/example/unicopy/unicopy/MessagesWriteIntPinLaw"), (0, u "cell"), (0, u "([BIIJI)Z"), (0, .long 16777216), (1, .long 65536), (1, .long 256), (3, u "law"), (0, u "(III)Z")] 5

def k1m0 : Method := { name := "<init>", desc := "()V", sig := { parameters := [], returnType := none }, accessFlags := 2, code := none }
def k1c1 : Code := { maxStack := 6, maxLocals := 7, code := code, exceptionTable := #[], attributes := #[] }
def k1m1 : Method := { name := "law", desc := "(III)Z", sig := { parameters := [.int, .int, .int], returnType := some .boolean }, accessFlags := 9, code := some k1c1 }
def k1c2 : Code := { maxStack := 4, maxLocals := 9, code := method_3_code, exceptionTable := #[], attributes := #[] }
def k1m2 : Method := { name := "cell", desc := "([BIIJI)Z", sig := { parameters := [(.array .byte), .int, .int, .long, .int], returnType := some .boolean }, accessFlags := 10, code := some k1c2 }
/-- com/example/unicopy/unicopy/MessagesWriteIntPinLaw -/
def k1 : Class := { plain "com/example/unicopy/unicopy/MessagesWriteIntPinLaw" (some 0) with
  accessFlags := 49
  interfaces := #[]
  cf := some (fileOf pool1 17 #[] #[{ accessFlags := 2, nameIndex := 5, descriptorIndex := 6, attributes := #[] }, { accessFlags := 9, nameIndex := 30, descriptorIndex := 31, attributes := #[] }, { accessFlags := 10, nameIndex := 20, descriptorIndex := 21, attributes := #[] }] 49 2 #[] #[])
  fields := #[]
  methods := #[k1m0, k1m1, k1m2]
  instanceTypes := #[]
  staticTypes := #[]
  resolved := Array.replicate 37 none
  statics := none }

def pool2 : Array CpInfo := pool [(2, .class_ 4), (1, u "java/lang/Object"), (0, u "<init>"), (0, u "()V"), (1, .class_ 10), (1, u "com/example/unicopy/unicopy/Messages"), (0, u "writeInt"), (0, u "([BII)V"), (35, u "BUFFER_SIZE"), (0, u "I"), (16, .class_ 67), (0, u "com/example/unicopy/unicopy/Messages$MessageInput")] 2

def k2m0 : Method := { name := "<init>", desc := "()V", sig := { parameters := [], returnType := none }, accessFlags := 2, code := none }
def k2c1 : Code := { maxStack := 4, maxLocals := 3, code := prog_17_method_3_code, exceptionTable := #[], attributes := #[] }
def k2m1 : Method := { name := "writeInt", desc := "([BII)V", sig := { parameters := [(.array .byte), .int, .int], returnType := none }, accessFlags := 8, code := some k2c1 }
/-- com/example/unicopy/unicopy/Messages -/
def k2 : Class := { plain "com/example/unicopy/unicopy/Messages" (some 0) with
  accessFlags := 48
  interfaces := #[]
  cf := some (fileOf pool2 8 #[.nestMembers #[66]] #[{ accessFlags := 2, nameIndex := 5, descriptorIndex := 6, attributes := #[] }, { accessFlags := 8, nameIndex := 11, descriptorIndex := 12, attributes := #[] }] 48 2 #[] #[{ accessFlags := 24, nameIndex := 48, descriptorIndex := 49, attributes := #[] }])
  fields := #[{ name := "BUFFER_SIZE", type := .int, accessFlags := 24, slot := 0, constantValue := 0 }]
  methods := #[k2m0, k2m1]
  instanceTypes := #[]
  staticTypes := #[.int]
  resolved := Array.replicate 70 none
  statics := none }

def pool3 : Array CpInfo := pool [(1, u "java/lang/Cloneable"), (0, .class_ 1), (0, u "java/lang/Object"), (0, .class_ 3)] 3

/-- java/lang/Cloneable -/
def k3 : Class := { plain "java/lang/Cloneable" (some 0) with
  accessFlags := 1537
  interfaces := #[]
  cf := some (fileOf pool3 2 #[] #[] 1537 4 #[] #[])
  fields := #[]
  methods := #[]
  instanceTypes := #[]
  staticTypes := #[]
  resolved := Array.replicate 8 none
  statics := none }

def pool4 : Array CpInfo := pool [(1, u "java/io/Serializable"), (0, .class_ 1), (0, u "java/lang/Object"), (0, .class_ 3)] 3

/-- java/io/Serializable -/
def k4 : Class := { plain "java/io/Serializable" (some 0) with
  accessFlags := 1537
  interfaces := #[]
  cf := some (fileOf pool4 2 #[] #[] 1537 4 #[] #[])
  fields := #[]
  methods := #[]
  instanceTypes := #[]
  staticTypes := #[]
  resolved := Array.replicate 8 none
  statics := none }

/-- the primitive byte -/
def k5 : Class := { plain "byte" none with kind := .primitive 'B', accessFlags := 0x411 }
/-- [B -/
def k6 : Class := { plain "[B" (some 0) with kind := .array 5 .byte, interfaces := #[3, 4], accessFlags := 1041 }

/-- the primitive int -/
def k7 : Class := { plain "int" none with kind := .primitive 'I', accessFlags := 0x411 }
/-- [I -/
def k8 : Class := { plain "[I" (some 0) with kind := .array 7 .int, interfaces := #[3, 4], accessFlags := 1041 }

def heap : Heap := #[]
def classes : Array Class := #[k0, k1, k2, k3, k4, k5, k6, k7, k8]
def interned : List (Array UInt16 × Addr) := []
def slotsUsed : Nat := 0
def theMethod : MethodId := ⟨1, 1⟩
def args0 : Array Value := #[.int 5, .int 6, .int 7]
def aboutOver (below : List Frame) : State where
  vm := { classes := classes, interned := interned.toArray }
  heap := heap
  slotsUsed := slotsUsed
  threads := #[{ frames := .invoking theMethod args0 :: below }]
def below0 : List Frame := [.native { method := ⟨0, 0⟩, args := #[] }]
def about1 : State := aboutOver below0
def p0 : Program := .bare "" "" ""
def e0 : Env := launch0.env 0 0 0
theorem w_frames : about1.frames = Frame.invoking theMethod args0 :: below0 := rfl
set_option maxRecDepth 65536 in
theorem w_args : argsFit about1.vm theMethod args0 = true := by decide +kernel
set_option maxRecDepth 65536 in
theorem w_heap : heapFits about1 = true := by decide +kernel
set_option maxRecDepth 65536 in
theorem w_runnable : about1.curStatus? = some .runnable := by decide +kernel
set_option maxRecDepth 65536 in
theorem w_alone : about1.alone = true := by decide +kernel
set_option maxRecDepth 65536 in
theorem w_named : about1.methodNamed? x = some theMethod := by decide +kernel
set_option maxRecDepth 65536 in
theorem w_hears : about1.hears theMethod below0 = true := by decide +kernel
set_option maxRecDepth 65536 in
theorem w_ripe : about1.ripe theMethod args0 below0 = true := by decide +kernel
theorem w_running : about1.status = .running := rfl
set_option maxRecDepth 65536 in
theorem w_room : about1.hasRoom e0.platform room_1 = true :=
  launch0.hasRoom_least _ room_1 (by decide +kernel) (by decide +kernel) (by decide +kernel) (by decide +kernel) (by decide +kernel) (by decide +kernel)
theorem allAtoms_all (ts : List Jvm.Cond) (a : Array Jvm.Value) (st : Jvm.State) : (allAtoms ts).before a st = ts.all (fun c => c.before a st) := by
  induction ts with
  | nil => rfl
  | cons c t ih =>
    show (Jvm.Cond.and c (allAtoms t)).before a st = _
    rw [Jvm.Cond.before_and, ih, List.all_cons]
def words1 : List Jvm.Cond := Jvm.Cond.code x code maxLocals ret :: tables_1
/-- a 'code' word, met by the world's own term for the bytes: nothing is compared byte by byte -/
theorem code_word {y : MethodName} {bytes : ByteArray} {mx : Nat} {rt : Option FieldType} {a : Array Value} {s : State} {m : MethodId} {meth : Method} {c : Code} (h1 : s.methodNamed? y = some m) (h2 : s.vm.method? m = some meth) (h3 : meth.code = some c) (h4 : c.code = bytes)
    (h5 : (c.maxLocals == mx && c.exceptionTable.isEmpty && decide (c.maxStack ≤ mostOperands) && decide (meth.sig.returnType = rt) && !meth.locks && decide (parseMethodDescriptor y.desc = some meth.sig)) = true) : (Jvm.Cond.code y bytes mx rt).before a s = true := by
  simp only [Bool.and_eq_true, beq_iff_eq, Bool.not_eq_true', decide_eq_true_eq] at h5
  obtain ⟨⟨⟨⟨⟨g1, g2⟩, g3⟩, g4⟩, g5⟩, g6⟩ := h5
  simp [Cond.before, Cond.holds, Cond.value, h1, h2, h3, h4, g1, g2, g3, g4, g5, g6]
def isCode : Jvm.Cond → Bool
  | .code _ _ _ _ => true
  | _ => false
theorem all_split {L : List Jvm.Cond} {P : Jvm.Cond → Bool} (h1 : L.all (fun c => isCode c || P c) = true) (h2 : ∀ c ∈ L.filter isCode, P c = true) : L.all P = true := by
  refine List.all_eq_true.mpr fun c hc => ?_
  have h := List.all_eq_true.mp h1 c hc
  rcases Bool.eq_false_or_eq_true (isCode c) with hi | hi
  · exact h2 c (List.mem_filter.mpr ⟨hc, hi⟩)
  · simpa [hi] using h
set_option maxRecDepth 65536 in
theorem w_c0 : (Jvm.Cond.code x code maxLocals ret).before args0 about1 = true := code_word (m := ⟨1, 1⟩) (meth := k1m1) (c := k1c1) (by decide +kernel) rfl rfl rfl (by decide +kernel)
set_option maxRecDepth 65536 in
theorem w_c1 : (Jvm.Cond.code ({ cls := "com/example/unicopy/unicopy/Messages", name := "writeInt", desc := "([BII)V" } : Jvm.MethodName) prog_17_method_3_code (3 : Nat) (Option.none : Option Jvm.ClassFile.FieldType)).before args0 about1 = true := code_word (m := ⟨2, 1⟩) (meth := k2m1) (c := k2c1) (by decide +kernel) rfl rfl rfl (by decide +kernel)
set_option maxRecDepth 65536 in
theorem w_c2 : (Jvm.Cond.code ({ cls := "com/example/unicopy/unicopy/MessagesWriteIntPinLaw", name := "cell", desc := "([BIIJI)Z" } : Jvm.MethodName) method_3_code (9 : Nat) (Option.some Jvm.ClassFile.FieldType.boolean)).before args0 about1 = true := code_word (m := ⟨1, 2⟩) (meth := k1m2) (c := k1c2) (by decide +kernel) rfl rfl rfl (by decide +kernel)
def codes1 : List Jvm.Cond := [Jvm.Cond.code x code maxLocals ret, Jvm.Cond.code ({ cls := "com/example/unicopy/unicopy/Messages", name := "writeInt", desc := "([BII)V" } : Jvm.MethodName) prog_17_method_3_code (3 : Nat) (Option.none : Option Jvm.ClassFile.FieldType), Jvm.Cond.code ({ cls := "com/example/unicopy/unicopy/MessagesWriteIntPinLaw", name := "cell", desc := "([BIIJI)Z" } : Jvm.MethodName) method_3_code (9 : Nat) (Option.some Jvm.ClassFile.FieldType.boolean)]
set_option maxRecDepth 65536 in
theorem codes_eq : words1.filter isCode = codes1 := rfl
theorem w_codes : ∀ c ∈ words1.filter isCode, c.before args0 about1 = true := by
  rw [codes_eq]
  intro c hc
  simp only [codes1, List.mem_cons, List.not_mem_nil, or_false] at hc
  rcases hc with rfl | rfl | rfl
  · exact w_c0
  · exact w_c1
  · exact w_c2
set_option maxRecDepth 65536 in
theorem w_t1 : words1.all (fun c => isCode c || c.before args0 about1) = true := by decide +kernel
theorem w_tables : (allAtoms (Jvm.Cond.code x code maxLocals ret :: tables_1)).before args0 about1 = true := by
  rw [allAtoms_all]
  show words1.all (fun c => c.before args0 about1) = true
  refine all_split ?_ w_codes
  rw [w_t1]
set_option maxRecDepth 65536 in
theorem w_case : (Jvm.Cond.and given_1 narrow_1).before args0 about1 = true := by decide +kernel
theorem w_applies : (headSpec (Jvm.Cond.code x code maxLocals ret :: tables_1) room_1).applies x e0.platform about1 = true :=
  (Spec.applies_iff w_frames).mpr ⟨w_running, w_runnable, w_alone, w_named, w_hears, w_ripe, w_room, w_tables⟩
theorem atStart : AtStart classFile x code maxLocals ret World_1 tables_1 room_1 Calls_1 rest_1 Pre_1 launch0 p0 e0 about1 theMethod args0 below0 :=
  ⟨lists_1, trivial, launch0.admits_env _ _ _, launch0.least_env, fairChoices_fair.cas, fairChoices_fair.clock, w_frames, w_args, w_heap, w_applies, trivial, trivial, w_case⟩
end start1
theorem witness_1 : WitnessClaimed_1 := ⟨start1.p0, start1.e0, start1.about1, start1.theMethod, start1.args0, start1.below0, start1.atStart⟩
end Jvm.Pilot.@@N@@
