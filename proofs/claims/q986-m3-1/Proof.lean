import JvmDerived
import JvmDerived.Pilot.@@N@@Statement
import JvmDerived.Pilot.@@N@@Code
set_option linter.unusedVariables false
set_option linter.unusedSimpArgs false
namespace Jvm.RoadKit
open Sem ClassFile Op Lib Jvm.Stand Jvm.Free Jvm.LawKit
section New
variable {p : Program} {l : Launch} {e : Env} {R : Room} {s : State} {m : MethodId} {args : Array Value} {below : List Frame} {meth : Method} {c : Code} {T : State} {locs : List Loc} {cells slots : Nat}
theorem retI (X : Stand p l e R s m args below meth c T locs cells slots) (hx : p.tables.exec = Jvm.exec) {pc : Nat} {Ls : Array Slot} {z : Int32} {rest : List Value} (hret : meth.sig.returnType = some .int) (hd : decode c.code pc = .ok (.ireturn, 1)) {fs : List Frame}
    (hl : ∀ (f : JFrame) (acts : List Action), f.method = m → f.locked = none → f.entered = [] → (doReturn e (T.setTop f) acts (some (.int z))).1 = T.setFrames fs) : Steps p.tables e below (T.setTop (mkF m pc Ls (.int z :: rest))) (T.setFrames fs) := by
  have hm' : T.vm.method? m = some meth := X.method'
  have hn : narrow .int (.int z) = .int z := rfl
  show Steps p.tables e below (T.setTop { method := m, pc := pc, locals := Ls, stack := _ :: rest, locked := none }) _
  jvm_step X.here [X.here.top, hx, hd, hm', hret, hn]
  first | (intro acts; rw [hl _ acts rfl rfl rfl]) | rw [hl _ _ rfl rfl rfl]
  exact Steps.refl _
theorem retJ (X : Stand p l e R s m args below meth c T locs cells slots) (hx : p.tables.exec = Jvm.exec) {pc : Nat} {Ls : Array Slot} {z : Int64} {rest : List Value} (hret : meth.sig.returnType = some .long) (hd : decode c.code pc = .ok (.lreturn, 1)) {fs : List Frame}
    (hl : ∀ (f : JFrame) (acts : List Action), f.method = m → f.locked = none → f.entered = [] → (doReturn e (T.setTop f) acts (some (.long z))).1 = T.setFrames fs) : Steps p.tables e below (T.setTop (mkF m pc Ls (.long z :: rest))) (T.setFrames fs) := by
  have hm' : T.vm.method? m = some meth := X.method'
  have hn : narrow .long (.long z) = .long z := rfl
  show Steps p.tables e below (T.setTop { method := m, pc := pc, locals := Ls, stack := _ :: rest, locked := none }) _
  jvm_step X.here [X.here.top, hx, hd, hm', hret, hn]
  first | (intro acts; rw [hl _ acts rfl rfl rfl]) | rw [hl _ _ rfl rfl rfl]
  exact Steps.refl _
theorem retR (X : Stand p l e R s m args below meth c T locs cells slots) (hx : p.tables.exec = Jvm.exec) {pc : Nat} {Ls : Array Slot} {v : Value} {rest : List Value} (hv : v.isRef = true) {ty : FieldType} (hret : meth.sig.returnType = some ty) (ht : ty.isReference = true) (hd : decode c.code pc = .ok (.areturn, 1)) {fs : List Frame}
    (hl : ∀ (f : JFrame) (acts : List Action), f.method = m → f.locked = none → f.entered = [] → (doReturn e (T.setTop f) acts (some v)).1 = T.setFrames fs) : Steps p.tables e below (T.setTop (mkF m pc Ls (v :: rest))) (T.setFrames fs) := by
  have hm' : T.vm.method? m = some meth := X.method'
  show Steps p.tables e below (T.setTop { method := m, pc := pc, locals := Ls, stack := _ :: rest, locked := none }) _
  jvm_step X.here [X.here.top, hx, hd, hm', hret, hv, ht]
  first | (intro acts; rw [hl _ acts rfl rfl rfl]) | rw [hl _ _ rfl rfl rfl]
  exact Steps.refl _
end New
end Jvm.RoadKit
namespace Jvm.Pilot.@@N@@
open Jvm Jvm.ClassFile Sem Op Lib Jvm.Free Jvm.Stand Jvm.LawKit Jvm.RoadKit Bundle Jvm.Pilot.@@N@@.Jvm.D
/-- from the state 'cur' on is enough -/
def own_Pre (p : Program) (e : Env) (below : List Frame) (start cur : State) : Prop := ∀ t, Steps p.tables e below cur t → Steps p.tables e below start t
/-- an array of ints (bytes, chars, booleans): its length z, its components ws (at least so many) -/
def own_AI (Z : State) (h : Heap) (a : Addr) (k : ClassId) (ty : FieldType) (z : Int32) (ws : List Int32) : Prop := Arv Z h a k ty z (ws.map Value.int) (.int 0) ∧ z.toNatClampNeg ≤ ws.length
def own_AJ (Z : State) (h : Heap) (a : Addr) (k : ClassId) (ty : FieldType) (z : Int32) (ws : List Int64) : Prop := Arv Z h a k ty z (ws.map Value.long) (.long 0) ∧ z.toNatClampNeg ≤ ws.length
section OwnA
variable {Z : State} {h h' : Heap} {a b : Addr} {k : ClassId} {ty : FieldType} {z : Int32} {ws : List Int32} {wl : List Int64} {sl : Nat} {v : Value} {L : List Addr}
theorem own_AI.lt (F : own_AI Z h a k ty z ws) : a < h.size := Arv.lt F.1
theorem own_AI.ext (F : own_AI Z h a k ty z ws) (E : Ext h h') : own_AI Z h' a k ty z ws := ⟨Arv.ext F.1 E, F.2⟩
theorem own_AI.other (F : own_AI Z h b k ty z ws) (W : Wr h h' a sl v) (q : b ≠ a) : own_AI Z h' b k ty z ws := ⟨Arv.other F.1 W q, F.2⟩
theorem own_AI.keep (F : own_AI Z h a k ty z ws) (K : Keep h h' L) (q : a ∉ L) : own_AI Z h' a k ty z ws := ⟨Arv.keep F.1 K q, F.2⟩
theorem own_AJ.lt (F : own_AJ Z h a k ty z wl) : a < h.size := Arv.lt F.1
theorem own_AJ.ext (F : own_AJ Z h a k ty z wl) (E : Ext h h') : own_AJ Z h' a k ty z wl := ⟨Arv.ext F.1 E, F.2⟩
theorem own_AJ.other (F : own_AJ Z h b k ty z wl) (W : Wr h h' a sl v) (q : b ≠ a) : own_AJ Z h' b k ty z wl := ⟨Arv.other F.1 W q, F.2⟩
theorem own_AJ.keep (F : own_AJ Z h a k ty z wl) (K : Keep h h' L) (q : a ∉ L) : own_AJ Z h' a k ty z wl := ⟨Arv.keep F.1 K q, F.2⟩
theorem own_AI.new (n : Nat) (A : Arr Z h a (newA k ty z) ty) (q : ¬ z < 0) (hn : z.toNatClampNeg ≤ n) (hd : defaultValue ty = .int 0) : own_AI Z h a k ty z (List.replicate n (0 : Int32)) := by
  have := Arv.new A q
  rw [hd] at this
  have r := this.pad (pad_rep [] (.int 0) n)
  exact ⟨by simpa [List.map_replicate] using r, by simpa using hn⟩
theorem own_AJ.new (n : Nat) (A : Arr Z h a (newA k ty z) ty) (q : ¬ z < 0) (hn : z.toNatClampNeg ≤ n) (hd : defaultValue ty = .long 0) : own_AJ Z h a k ty z (List.replicate n (0 : Int64)) := by
  have := Arv.new A q
  rw [hd] at this
  have r := this.pad (pad_rep [] (.long 0) n)
  exact ⟨by simpa [List.map_replicate] using r, by simpa using hn⟩
theorem own_getI (ws : List Int32) (i : Nat) : (ws.map Value.int).getD i (.int 0) = .int (ws.getD i 0) := by
  simp only [List.getD_eq_getElem?_getD, List.getElem?_map]
  cases ws[i]? <;> rfl
theorem own_getJ (ws : List Int64) (i : Nat) : (ws.map Value.long).getD i (.long 0) = .long (ws.getD i 0) := by
  simp only [List.getD_eq_getElem?_getD, List.getElem?_map]
  cases ws[i]? <;> rfl
theorem own_AI.at (F : own_AI Z h a k ty z ws) {j : Int32} (q : ¬ j < 0 ∧ j < z) : ∃ cl : Cell, Arr Z h a cl ty ∧ ¬ (j < 0 ∨ cl.slots.size ≤ j.toNatClampNeg) ∧ cl.slots[j.toNatClampNeg]? = some (.int (ws.getD j.toNatClampNeg 0)) := by
  obtain ⟨⟨cl, A, -, S, -, H, -⟩, -⟩ := F
  have hin := inb_of S q
  exact ⟨cl, A, hin, H.at hin (own_getI _ _)⟩
theorem own_AJ.at (F : own_AJ Z h a k ty z wl) {j : Int32} (q : ¬ j < 0 ∧ j < z) : ∃ cl : Cell, Arr Z h a cl ty ∧ ¬ (j < 0 ∨ cl.slots.size ≤ j.toNatClampNeg) ∧ cl.slots[j.toNatClampNeg]? = some (.long (wl.getD j.toNatClampNeg 0)) := by
  obtain ⟨⟨cl, A, -, S, -, H, -⟩, -⟩ := F
  have hin := inb_of S q
  exact ⟨cl, A, hin, H.at hin (own_getJ _ _)⟩
theorem own_AI.arr (F : own_AI Z h a k ty z ws) {j : Int32} (q : ¬ j < 0 ∧ j < z) : ∃ cl : Cell, Arr Z h a cl ty ∧ ¬ (j < 0 ∨ cl.slots.size ≤ j.toNatClampNeg) ∧ ∀ (h' : Heap) (x : Int32), fits ty (.int x) = true → Wr h h' a j.toNatClampNeg (.int x) → own_AI Z h' a k ty z (ws.set j.toNatClampNeg x) := by
  obtain ⟨⟨cl, A, q1, S, q3, H, G⟩, ln⟩ := F
  have hin := inb_of S q
  refine ⟨cl, A, hin, fun h' x hv W => ?_⟩
  have hl : j.toNatClampNeg < ws.length := by
    rcases Nat.lt_or_ge j.toNatClampNeg ws.length with u | u
    · exact u
    · exact absurd (Or.inr (by omega)) hin
  have := Arv.set A q1 S q3 H G hv W _ rfl (by simpa using hl)
  rw [← List.map_set] at this
  exact ⟨this, by simpa using ln⟩
theorem own_AJ.arr (F : own_AJ Z h a k ty z wl) {j : Int32} (q : ¬ j < 0 ∧ j < z) : ∃ cl : Cell, Arr Z h a cl ty ∧ ¬ (j < 0 ∨ cl.slots.size ≤ j.toNatClampNeg) ∧ ∀ (h' : Heap) (x : Int64), fits ty (.long x) = true → Wr h h' a j.toNatClampNeg (.long x) → own_AJ Z h' a k ty z (wl.set j.toNatClampNeg x) := by
  obtain ⟨⟨cl, A, q1, S, q3, H, G⟩, ln⟩ := F
  have hin := inb_of S q
  refine ⟨cl, A, hin, fun h' x hv W => ?_⟩
  have hl : j.toNatClampNeg < wl.length := by
    rcases Nat.lt_or_ge j.toNatClampNeg wl.length with u | u
    · exact u
    · exact absurd (Or.inr (by omega)) hin
  have := Arv.set A q1 S q3 H G hv W _ rfl (by simpa using hl)
  rw [← List.map_set] at this
  exact ⟨this, by simpa using ln⟩
theorem own_AI.len (F : own_AI Z h a k ty z ws) : ∃ cl : Cell, Arr Z h a cl ty ∧ cl.slots.size = z.toNatClampNeg ∧ ¬ z < 0 := by
  obtain ⟨⟨cl, A, -, S, q3, -, -⟩, -⟩ := F
  exact ⟨cl, A, S, q3⟩
theorem own_AJ.len (F : own_AJ Z h a k ty z wl) : ∃ cl : Cell, Arr Z h a cl ty ∧ cl.slots.size = z.toNatClampNeg ∧ ¬ z < 0 := by
  obtain ⟨⟨cl, A, -, S, q3, -, -⟩, -⟩ := F
  exact ⟨cl, A, S, q3⟩
end OwnA
/-- a private method selects itself, where another method of its class is known to be no interface's -/
theorem own_selp {s : State} {args args' : Array Value} {y z : MethodName} (hz : (Cond.selects z.cls z z).before args s = true) (hc : z.cls = y.cls) (hpriv : s.PrivateAt y) (hinst : (Cond.instanceMethod y).before args s = true) (hy : y.cls ≠ "java/lang/invoke/MethodHandle" ∧ y.cls ≠ "java/lang/invoke/VarHandle") : (Cond.selects y.cls y y).before args s = true := by
  obtain ⟨c2, r2, m2, -, -, q3, -, kP, hkP, hkPi⟩ := Cond.selects_spec hz
  have hf := findClass_of_methodNamed q3
  rw [hc] at hf
  exact selects_self_of_private hf hkP hkPi hpriv hinst hy
/-- what holds of every byte -/
theorem own_bytes {P : Int32 → Prop} (H : ∀ i : Fin 256, P (Int32.ofInt ((i.1 : Int) - 128))) (x : Int32) : P x.toInt8.toInt32 := by
  obtain ⟨-, h1, h2⟩ := c_i2b x
  have e : x.toInt8.toInt32 = Int32.ofInt (((⟨(x.toInt8.toInt32.toInt + 128).toNat, by omega⟩ : Fin 256).1 : Int) - 128) := by
    apply Int32.toInt_inj.mp
    show _ = (Int32.ofInt (((x.toInt8.toInt32.toInt + 128).toNat : Int) - 128)).toInt
    rw [Int32.toInt_ofInt_of_le (by omega) (by omega)]
    omega
  rw [e]
  exact H _


theorem d3_0 : decode method_2_code 0 = .ok (.iload 4, 2) := by decide +kernel
theorem d3_2 : decode method_2_code 2 = .ok (.bipush 8, 2) := by decide +kernel
theorem d3_4 : decode method_2_code 4 = .ok (.if_icmp .ge 7, 3) := by decide +kernel
theorem d3_7 : decode method_2_code 7 = .ok (.lload_n 0, 1) := by decide +kernel
theorem d3_8 : decode method_2_code 8 = .ok (.goto 4, 3) := by decide +kernel
theorem d3_11 : decode method_2_code 11 = .ok (.lload_n 2, 1) := by decide +kernel
theorem d3_12 : decode method_2_code 12 = .ok (.lstore 5, 2) := by decide +kernel
theorem d3_14 : decode method_2_code 14 = .ok (.iload 4, 2) := by decide +kernel
theorem d3_16 : decode method_2_code 16 = .ok (.bipush 7, 2) := by decide +kernel
theorem d3_18 : decode method_2_code 18 = .ok (.iand, 1) := by decide +kernel
theorem d3_19 : decode method_2_code 19 = .ok (.bipush 8, 2) := by decide +kernel
theorem d3_21 : decode method_2_code 21 = .ok (.imul, 1) := by decide +kernel
theorem d3_22 : decode method_2_code 22 = .ok (.istore 7, 2) := by decide +kernel
theorem d3_24 : decode method_2_code 24 = .ok (.lload 5, 2) := by decide +kernel
theorem d3_26 : decode method_2_code 26 = .ok (.iload 7, 2) := by decide +kernel
theorem d3_28 : decode method_2_code 28 = .ok (.lushr, 1) := by decide +kernel
theorem d3_29 : decode method_2_code 29 = .ok (.l2i, 1) := by decide +kernel
theorem d3_30 : decode method_2_code 30 = .ok (.i2b, 1) := by decide +kernel
theorem d3_31 : decode method_2_code 31 = .ok (.ireturn, 1) := by decide +kernel
theorem pn_0 : plainName "com/example/tubeline/tubeline/astm/FrameEndsMessagePinLaw" = true := by first | (simp [plainName, overriddenIn]; done) | decide +kernel
theorem ef_3 (m : MethodId) (q0 : Int64) (q1 : Int64) (p2 : Int32) : entryFrame m #[(.long q0), (.long q1), (.int p2)] 8 = mkF m 0 #[.val (.long q0), .second, .val (.long q1), .second, .val (.int p2), .unset, .unset, .unset] [] := by first | (simp [entryFrame, mkF, argsToLocals, Value.category]; done) | rfl
def own_m3_12_s0 (v0 : Int32) (v1 : Int64) (v2 : Int64) : Int64 := (if v0 < (8 : Int32) then v1 else v2)
def own_f3 (q0 : Int64) (q1 : Int64) (p2 : Int32) : Int32 := (nar .byte ((((((own_m3_12_s0 p2 q0 q1))).toUInt64 >>> ((((p2 &&& (7 : Int32)) * (8 : Int32))) &&& 0x3f).toInt64.toUInt64).toInt64).toInt32).toInt8.toInt32)
def Q3 (Z : State) (q0 : Int64) (q1 : Int64) (p2 : Int32) (h0 : Heap) (n0 : Nat) (v : Option Value) (h : Heap) (L : List Loc) : Prop := v = some (.int (own_f3 q0 q1 p2)) ∧ Fr n0 L ∧ h = h0
set_option maxRecDepth 65536 in
set_option maxHeartbeats 40000000 in
theorem rm3 (l : Launch) (Z : State) (aw : Array Value) (hw : ∀ d ∈ tables_1, d.before aw Z = true) (wq : List Jvm.Cond) (q0 : Int64) (q1 : Int64) (p2 : Int32) (h0 : Heap) (n0 : Nat) (Z0 : n0 ≤ h0.size) :
    MetFree l (⟨"com/example/tubeline/tubeline/astm/FrameEndsMessagePinLaw", "drawn", "(JJI)B"⟩ : MethodName) (head1 (Jvm.Cond.code (⟨"com/example/tubeline/tubeline/astm/FrameEndsMessagePinLaw", "drawn", "(JJI)B"⟩ : MethodName) method_2_code 8 (some .byte) :: wq) ({ frames := 0, cells := 0, slots := 0, locals := 0 } : Room)) (fun a U => a = #[(.long q0), (.long q1), (.int p2)] ∧ Z.Warmed39 U.vm ∧ U.heap = h0) (fun _ _ _ _ _ => True) (fun _ U o U' => ∃ v L, o = .returned v ∧ Q3 Z q0 q1 p2 h0 n0 v U'.heap L ∧ FrameEnd U o U' L ({ frames := 0, cells := 0, slots := 0, locals := 0 } : Room).cells ({ frames := 0, cells := 0, slots := 0, locals := 0 } : Room).slots) := by
  refine MetFree.of_bodySF (plainFor_of_name pn_0) hisR ?_
  intro p e s m args below meth c s₁ Bd hml0 hP hK
  obtain ⟨rfl, hZ, hh⟩ := hP
  have hx := Bd.exec
  have hby := Bd.bytes
  have hml : c.maxLocals = 8 := hml0
  have hown : s.vm.findClass "com/example/tubeline/tubeline/astm/FrameEndsMessagePinLaw" = some m.cls := findClass_of_methodNamed Bd.named
  have hnm := (name_of_methodNamed Bd.named Bd.method).1
  have X0 : Stand p l e ({ frames := 0, cells := 0, slots := 0, locals := 0 } : Room) s m #[(.long q0), (.long q1), (.int p2)] below meth c s₁ [] 0 0 := Stand.of_body Bd
  have e0 : s₁.heap = h0 := by rw [← hh, Bd.state]; rfl
  have N0 := Fr.nil n0
  have pre0 : own_Pre p e below (s₁.setTop (entryFrame m #[(.long q0), (.long q1), (.int p2)] 8)) (s₁.setTop (mkF m 0 #[.val (.long q0), .second, .val (.long q1), .second, .val (.int p2), .unset, .unset, .unset] [])) := fun t k => castTop (ef_3 m q0 q1 p2) k
  have pre3 : own_Pre p e below (s₁.setTop (entryFrame m #[(.long q0), (.long q1), (.int p2)] 8)) (s₁.setTop (mkF m 4 #[.val (.long q0), .second, .val (.long q1), .second, .val (.int p2), .unset, .unset, .unset] [(.int (8 : Int32)), (.int p2)])) := fun t k => pre0 t (by
      show Steps p.tables e below (s₁.setTop (mkF m 0 #[.val (.long q0), .second, .val (.long q1), .second, .val (.int p2), .unset, .unset, .unset] [])) _
      refine XS.iload X0.here hx rfl (hb hby d3_0) rfl ?_
      show Steps p.tables e below (s₁.setTop (mkF m 2 #[.val (.long q0), .second, .val (.long q1), .second, .val (.int p2), .unset, .unset, .unset] [(.int p2)])) _
      refine XS.bipush X0.here hx rfl (hb hby d3_2) ?_
      exact k)
  obtain ⟨m12_s0, hm12_s0, pre2⟩ : ∃ (m12_s0 : Int64), m12_s0 = (own_m3_12_s0 p2 q0 q1) ∧ own_Pre p e below (s₁.setTop (entryFrame m #[(.long q0), (.long q1), (.int p2)] 8)) (s₁.setTop (mkF m 12 #[.val (.long q0), .second, .val (.long q1), .second, .val (.int p2), .unset, .unset, .unset] [(.long m12_s0)])) := by
    by_cases hc4 : p2 < (8 : Int32)
    · have pre4 : own_Pre p e below (s₁.setTop (entryFrame m #[(.long q0), (.long q1), (.int p2)] 8)) (s₁.setTop (mkF m 12 #[.val (.long q0), .second, .val (.long q1), .second, .val (.int p2), .unset, .unset, .unset] [(.long q0)])) := fun t k => pre3 t (by
          show Steps p.tables e below (s₁.setTop (mkF m 4 #[.val (.long q0), .second, .val (.long q1), .second, .val (.int p2), .unset, .unset, .unset] [(.int (8 : Int32)), (.int p2)])) _
          refine XS.icmpNo X0.here hx rfl (hb hby d3_4) rfl (tlt hc4).2.1 ?_
          show Steps p.tables e below (s₁.setTop (mkF m 7 #[.val (.long q0), .second, .val (.long q1), .second, .val (.int p2), .unset, .unset, .unset] [])) _
          refine XS.lloadN X0.here hx rfl (hb hby d3_7) rfl ?_
          show Steps p.tables e below (s₁.setTop (mkF m 8 #[.val (.long q0), .second, .val (.long q1), .second, .val (.int p2), .unset, .unset, .unset] [(.long q0)])) _
          refine XS.goto X0.here hx rfl (pc0 := 8) (pc' := 12) rfl (hb hby d3_8) (by decide) (by decide) ?_
          exact k)
      refine ⟨_, ?_, pre4⟩
      all_goals (first | (simp only [own_m3_12_s0, if_pos hc4]; done) | (simp [own_m3_12_s0, if_pos hc4]; done))
    · have pre5 : own_Pre p e below (s₁.setTop (entryFrame m #[(.long q0), (.long q1), (.int p2)] 8)) (s₁.setTop (mkF m 12 #[.val (.long q0), .second, .val (.long q1), .second, .val (.int p2), .unset, .unset, .unset] [(.long q1)])) := fun t k => pre3 t (by
          show Steps p.tables e below (s₁.setTop (mkF m 4 #[.val (.long q0), .second, .val (.long q1), .second, .val (.int p2), .unset, .unset, .unset] [(.int (8 : Int32)), (.int p2)])) _
          refine XS.icmpYes X0.here hx rfl (pc0 := 4) (pc' := 11) rfl (hb hby d3_4) rfl (flt hc4).2.1 (by decide) (by decide) ?_
          show Steps p.tables e below (s₁.setTop (mkF m 11 #[.val (.long q0), .second, .val (.long q1), .second, .val (.int p2), .unset, .unset, .unset] [])) _
          refine XS.lloadN X0.here hx rfl (hb hby d3_11) rfl ?_
          exact k)
      refine ⟨_, ?_, pre5⟩
      all_goals (first | (simp only [own_m3_12_s0, if_neg hc4]; done) | (simp [own_m3_12_s0, if_neg hc4]; done))
  obtain ⟨x7_24, hx7_24, pre6⟩ : ∃ z : Int32, z = ((p2 &&& (7 : Int32)) * (8 : Int32)) ∧ own_Pre p e below (s₁.setTop (entryFrame m #[(.long q0), (.long q1), (.int p2)] 8)) (s₁.setTop (mkF m 24 #[.val (.long q0), .second, .val (.long q1), .second, .val (.int p2), .val (.long m12_s0), .second, .val (.int z)] [])) := ⟨_, rfl, fun t k => pre2 t (by
      show Steps p.tables e below (s₁.setTop (mkF m 12 #[.val (.long q0), .second, .val (.long q1), .second, .val (.int p2), .unset, .unset, .unset] [(.long m12_s0)])) _
      refine XS.lstore X0.here hx rfl (hb hby d3_12) rfl (l' := #[.val (.long q0), .second, .val (.long q1), .second, .val (.int p2), .val (.long m12_s0), .second, .unset]) rfl ?_
      show Steps p.tables e below (s₁.setTop (mkF m 14 #[.val (.long q0), .second, .val (.long q1), .second, .val (.int p2), .val (.long m12_s0), .second, .unset] [])) _
      refine XS.iload X0.here hx rfl (hb hby d3_14) rfl ?_
      show Steps p.tables e below (s₁.setTop (mkF m 16 #[.val (.long q0), .second, .val (.long q1), .second, .val (.int p2), .val (.long m12_s0), .second, .unset] [(.int p2)])) _
      refine XS.bipush X0.here hx rfl (hb hby d3_16) ?_
      show Steps p.tables e below (s₁.setTop (mkF m 18 #[.val (.long q0), .second, .val (.long q1), .second, .val (.int p2), .val (.long m12_s0), .second, .unset] [(.int (7 : Int32)), (.int p2)])) _
      refine XS.iand X0.here hx rfl (hb hby d3_18) rfl ?_
      show Steps p.tables e below (s₁.setTop (mkF m 19 #[.val (.long q0), .second, .val (.long q1), .second, .val (.int p2), .val (.long m12_s0), .second, .unset] [(.int (p2 &&& (7 : Int32)))])) _
      refine XS.bipush X0.here hx rfl (hb hby d3_19) ?_
      show Steps p.tables e below (s₁.setTop (mkF m 21 #[.val (.long q0), .second, .val (.long q1), .second, .val (.int p2), .val (.long m12_s0), .second, .unset] [(.int (8 : Int32)), (.int (p2 &&& (7 : Int32)))])) _
      refine XS.imul X0.here hx rfl (hb hby d3_21) rfl ?_
      show Steps p.tables e below (s₁.setTop (mkF m 22 #[.val (.long q0), .second, .val (.long q1), .second, .val (.int p2), .val (.long m12_s0), .second, .unset] [(.int ((p2 &&& (7 : Int32)) * (8 : Int32)))])) _
      refine XS.istore X0.here hx rfl (hb hby d3_22) rfl (l' := #[.val (.long q0), .second, .val (.long q1), .second, .val (.int p2), .val (.long m12_s0), .second, .val (.int ((p2 &&& (7 : Int32)) * (8 : Int32)))]) rfl ?_
      exact k)⟩
  obtain ⟨fs, hr, hrun, hended, hW, hsame⟩ := X0.leave (v := some (.int (nar .byte ((((m12_s0).toUInt64 >>> (x7_24 &&& 0x3f).toInt64.toUInt64).toInt64).toInt32).toInt8.toInt32))) (fun h => by rw [Bd.returns] at h; cases h)
  refine ⟨_, _, pre6 _ ?_, hrun, hended, _, _, rfl, ?_, ⟨_, rfl⟩, hW, hsame.mono (by decide) (by decide)⟩
  · show Steps p.tables e below (s₁.setTop (mkF m 24 #[.val (.long q0), .second, .val (.long q1), .second, .val (.int p2), .val (.long m12_s0), .second, .val (.int x7_24)] [])) _
    refine XS.lload X0.here hx rfl (hb hby d3_24) rfl ?_
    show Steps p.tables e below (s₁.setTop (mkF m 26 #[.val (.long q0), .second, .val (.long q1), .second, .val (.int p2), .val (.long m12_s0), .second, .val (.int x7_24)] [(.long m12_s0)])) _
    refine XS.iload X0.here hx rfl (hb hby d3_26) rfl ?_
    show Steps p.tables e below (s₁.setTop (mkF m 28 #[.val (.long q0), .second, .val (.long q1), .second, .val (.int p2), .val (.long m12_s0), .second, .val (.int x7_24)] [(.int x7_24), (.long m12_s0)])) _
    refine XS.lushr X0.here hx rfl (hb hby d3_28) rfl ?_
    show Steps p.tables e below (s₁.setTop (mkF m 29 #[.val (.long q0), .second, .val (.long q1), .second, .val (.int p2), .val (.long m12_s0), .second, .val (.int x7_24)] [(.long ((m12_s0).toUInt64 >>> (x7_24 &&& 0x3f).toInt64.toUInt64).toInt64)])) _
    refine XS.l2i X0.here hx rfl (hb hby d3_29) rfl ?_
    show Steps p.tables e below (s₁.setTop (mkF m 30 #[.val (.long q0), .second, .val (.long q1), .second, .val (.int p2), .val (.long m12_s0), .second, .val (.int x7_24)] [(.int (((m12_s0).toUInt64 >>> (x7_24 &&& 0x3f).toInt64.toUInt64).toInt64).toInt32)])) _
    refine XS.i2b X0.here hx rfl (hb hby d3_30) rfl ?_
    show Steps p.tables e below (s₁.setTop (mkF m 31 #[.val (.long q0), .second, .val (.long q1), .second, .val (.int p2), .val (.long m12_s0), .second, .val (.int x7_24)] [(.int ((((m12_s0).toUInt64 >>> (x7_24 &&& 0x3f).toInt64.toUInt64).toInt64).toInt32).toInt8.toInt32)])) _
    exact retN X0 hx (t := .byte) Bd.returns (by simp) (hb hby d3_31) hr
  · show Q3 Z q0 q1 p2 h0 n0 _ s₁.heap _
    rw [e0]
    unfold Q3
    refine ⟨?_, N0, rfl⟩
    · subst hx7_24 hm12_s0; simp only [own_f3]
theorem d1_0 : decode method_3_code 0 = .ok (.iload_n 1, 1) := by decide +kernel
theorem d1_1 : decode method_3_code 1 = .ok (.aload_n 0, 1) := by decide +kernel
theorem d1_2 : decode method_3_code 2 = .ok (.arraylength, 1) := by decide +kernel
theorem d1_3 : decode method_3_code 3 = .ok (.if_icmp .ge 13, 3) := by decide +kernel
theorem d1_6 : decode method_3_code 6 = .ok (.aload_n 0, 1) := by decide +kernel
theorem d1_7 : decode method_3_code 7 = .ok (.iload_n 1, 1) := by decide +kernel
theorem d1_8 : decode method_3_code 8 = .ok (.lload_n 2, 1) := by decide +kernel
theorem d1_9 : decode method_3_code 9 = .ok (.lload 4, 2) := by decide +kernel
theorem d1_11 : decode method_3_code 11 = .ok (.iload_n 1, 1) := by decide +kernel
theorem d1_12 : decode method_3_code 12 = .ok (.invokestatic 7, 3) := by decide +kernel
theorem d1_15 : decode method_3_code 15 = .ok (.bastore, 1) := by decide +kernel
theorem d1_16 : decode method_3_code 16 = .ok (.return_, 1) := by decide +kernel
theorem pd_0 : parseMethodDescriptor "(JJI)B" = some ⟨[.long, .long, .int], some .byte⟩ := by decide +kernel
theorem ef_1 (m : MethodId) (a0 : Addr) (p1 : Int32) (q2 : Int64) (q3 : Int64) : entryFrame m #[(.ref a0), (.int p1), (.long q2), (.long q3)] 6 = mkF m 0 #[.val (.ref a0), .val (.int p1), .val (.long q2), .second, .val (.long q3), .second] [] := by first | (simp [entryFrame, mkF, argsToLocals, Value.category]; done) | rfl
def Q1 (Z : State) (a0 : Addr) (p1 : Int32) (q2 : Int64) (q3 : Int64) (k : ClassId) (z : Int32) (ws : List Int32) (h0 : Heap) (n0 : Nat) (v : Option Value) (h : Heap) (L : List Loc) : Prop := ∃ (wn : List Int32), v = none ∧ Fr n0 L ∧ Keep h0 h [a0] ∧ own_AI Z h a0 k .byte z wn
set_option maxRecDepth 65536 in
set_option maxHeartbeats 40000000 in
theorem rm1 (l : Launch) (Z : State) (aw : Array Value) (hw : ∀ d ∈ tables_1, d.before aw Z = true) (wq : List Jvm.Cond) (a0 : Addr) (p1 : Int32) (q2 : Int64) (q3 : Int64) (k : ClassId) (z : Int32) (ws : List Int32) (h0 : Heap) (n0 : Nat) (Z0 : n0 ≤ h0.size) (V_a0 : own_AI Z h0 a0 k .byte z ws) (g_a0 : n0 ≤ a0) (hi : ¬ p1 < (0 : Int32)) :
    MetFree l (⟨"com/example/tubeline/tubeline/astm/FrameEndsMessagePinLaw", "put", "([BIJJ)V"⟩ : MethodName) (head1 (Jvm.Cond.code (⟨"com/example/tubeline/tubeline/astm/FrameEndsMessagePinLaw", "put", "([BIJJ)V"⟩ : MethodName) method_3_code 6 none :: wq) ({ frames := 1, cells := 0, slots := 0, locals := 21 } : Room)) (fun a U => a = #[(.ref a0), (.int p1), (.long q2), (.long q3)] ∧ Z.Warmed39 U.vm ∧ U.heap = h0) (fun _ _ _ _ _ => True) (fun _ U o U' => ∃ v L, o = .returned v ∧ Q1 Z a0 p1 q2 q3 k z ws h0 n0 v U'.heap L ∧ FrameEnd U o U' L ({ frames := 1, cells := 0, slots := 0, locals := 21 } : Room).cells ({ frames := 1, cells := 0, slots := 0, locals := 21 } : Room).slots) := by
  refine MetFree.of_bodySF (plainFor_of_name pn_0) hisR ?_
  intro p e s m args below meth c s₁ Bd hml0 hP hK
  obtain ⟨rfl, hZ, hh⟩ := hP
  have hx := Bd.exec
  have hby := Bd.bytes
  have hml : c.maxLocals = 6 := hml0
  have hown : s.vm.findClass "com/example/tubeline/tubeline/astm/FrameEndsMessagePinLaw" = some m.cls := findClass_of_methodNamed Bd.named
  have hnm := (name_of_methodNamed Bd.named Bd.method).1
  have X0 : Stand p l e ({ frames := 1, cells := 0, slots := 0, locals := 21 } : Room) s m #[(.ref a0), (.int p1), (.long q2), (.long q3)] below meth c s₁ [] 0 0 := Stand.of_body Bd
  have e0 : s₁.heap = h0 := by rw [← hh, Bd.state]; rfl
  have N0 := Fr.nil n0
  have pre0 : own_Pre p e below (s₁.setTop (entryFrame m #[(.ref a0), (.int p1), (.long q2), (.long q3)] 6)) (s₁.setTop (mkF m 0 #[.val (.ref a0), .val (.int p1), .val (.long q2), .second, .val (.long q3), .second] [])) := fun t k => castTop (ef_1 m a0 p1 q2 q3) k
  obtain ⟨cl1, Ar1, S1, M1⟩ := V_a0.len
  have pre2 : own_Pre p e below (s₁.setTop (entryFrame m #[(.ref a0), (.int p1), (.long q2), (.long q3)] 6)) (s₁.setTop (mkF m 3 #[.val (.ref a0), .val (.int p1), .val (.long q2), .second, .val (.long q3), .second] [(.int z), (.int p1)])) := fun t k => pre0 t (by
      show Steps p.tables e below (s₁.setTop (mkF m 0 #[.val (.ref a0), .val (.int p1), .val (.long q2), .second, .val (.long q3), .second] [])) _
      refine XS.iloadN X0.here hx rfl (hb hby d1_0) rfl ?_
      show Steps p.tables e below (s₁.setTop (mkF m 1 #[.val (.ref a0), .val (.int p1), .val (.long q2), .second, .val (.long q3), .second] [(.int p1)])) _
      refine XS.aloadN X0.here hx rfl (hb hby d1_1) rfl rfl ?_
      show Steps p.tables e below (s₁.setTop (mkF m 2 #[.val (.ref a0), .val (.int p1), .val (.long q2), .second, .val (.long q3), .second] [(.ref a0), (.int p1)])) _
      refine X0.arraylength hx (by rw [e0]; exact Ar1.1) (State.isArrayOf_alike hZ.alike Ar1.2.1) (g := (mkF m 2 #[.val (.ref a0), .val (.int p1), .val (.long q2), .second, .val (.long q3), .second] [(.ref a0), (.int p1)])) rfl rfl (hb hby d1_2) _ ?_
      rw [len_of S1 M1]
      exact k)
  by_cases hc3 : p1 < z
  · obtain ⟨_, _, ⟨T3, L3, k3, n3⟩, -, X3, ⟨Lc3, hQ3, l3, y3, z3⟩, st3⟩ := Jvm.LawKit.callS X0 hx (y := (⟨"com/example/tubeline/tubeline/astm/FrameEndsMessagePinLaw", "drawn", "(JJI)B"⟩ : MethodName)) hown (mvT hZ (hw _ (List.mem_of_getElem? (i := 9) rfl))) (mvT hZ (hw _ (List.mem_of_getElem? (i := 10) rfl))) (mvT hZ (hw _ (List.mem_of_getElem? (i := 3) rfl))) (mvT hZ (hw _ (List.mem_of_getElem? (i := 11) rfl))) (by decide) (backOf (W := 2) (rm3 l Z aw hw [] (q2) (q3) (p1) (h0) n0 Z0) hZ (hw _ (List.mem_of_getElem? (i := 11) rfl)) (hw _ (List.mem_of_getElem? (i := 3) rfl)) (by decide) (by decide)) (g := (mkF m 12 #[.val (.ref a0), .val (.int p1), .val (.long q2), .second, .val (.long q3), .second] [(.int p1), (.long q3), (.long q2), (.int p1), (.ref a0)])) rfl (by rw [hml]; rfl) (argsL := [(.long q2), (.long q3), (.int p1)]) (rest := [(.int p1), (.ref a0)]) (lenOf pd_0 rfl) rfl (by show 2 * 0 + _ ≤ _; exact Nat.le_of_eq rfl) (hb hby d1_12) (fun _ _ => ⟨rfl, e0, (by decide : 0 + 0 ≤ _), (by decide : 0 + 0 ≤ _)⟩)
    dsimp only [Pt.U, Pt.locs, Pt.cells, Pt.slots] at X3 l3 y3 z3 st3 hQ3
    subst l3 y3 z3
    obtain ⟨rfl, Nq3, eq3⟩ := hQ3
    have N3 := Fr.app N0 Nq3
    obtain ⟨cl4, Ar4, hin4, set4⟩ := own_AI.arr V_a0 (j := p1) ⟨hi, hc3⟩
    obtain ⟨T4, h4, X4, e4, W4, st4⟩ := stB X3 hx hZ eq3 Ar4 (j := p1) hin4 (g := (mkF m 15 #[.val (.ref a0), .val (.int p1), .val (.long q2), .second, .val (.long q3), .second] [(.int (own_f3 q2 q3 p1)), (.int p1), (.ref a0)])) rfl rfl (hb hby d1_15)
    have V4 : own_AI Z h4 a0 k .byte z (ws.set (p1).toNatClampNeg (nar .byte (own_f3 q2 q3 p1))) := set4 _ _ (fits_nar_byte _) W4
    obtain ⟨ws4, hws4⟩ : ∃ z, z = (ws.set (p1).toNatClampNeg (nar .byte (own_f3 q2 q3 p1))) := ⟨_, rfl⟩
    rw [← hws4] at V4
    have N4 := Fr.snoc X4 N3 g_a0
    have kp5 : Keep h0 h4 [a0] := (Keep.refl h0 [a0]).wr W4 (Or.inl (List.mem_of_getElem? (i := 0) rfl))
    obtain ⟨fs, hr, hrun, hended, hW, hsame⟩ := X4.leave (v := none) (fun _ => rfl)
    refine ⟨_, _, pre2 _ ?_, hrun, hended, _, _, rfl, ?_, ⟨_, rfl⟩, hW, hsame.mono (by decide) (by decide)⟩
    · show Steps p.tables e below (s₁.setTop (mkF m 3 #[.val (.ref a0), .val (.int p1), .val (.long q2), .second, .val (.long q3), .second] [(.int z), (.int p1)])) _
      refine XS.icmpNo X0.here hx rfl (hb hby d1_3) rfl (tlt hc3).2.1 ?_
      show Steps p.tables e below (s₁.setTop (mkF m 6 #[.val (.ref a0), .val (.int p1), .val (.long q2), .second, .val (.long q3), .second] [])) _
      refine XS.aloadN X0.here hx rfl (hb hby d1_6) rfl rfl ?_
      show Steps p.tables e below (s₁.setTop (mkF m 7 #[.val (.ref a0), .val (.int p1), .val (.long q2), .second, .val (.long q3), .second] [(.ref a0)])) _
      refine XS.iloadN X0.here hx rfl (hb hby d1_7) rfl ?_
      show Steps p.tables e below (s₁.setTop (mkF m 8 #[.val (.ref a0), .val (.int p1), .val (.long q2), .second, .val (.long q3), .second] [(.int p1), (.ref a0)])) _
      refine XS.lloadN X0.here hx rfl (hb hby d1_8) rfl ?_
      show Steps p.tables e below (s₁.setTop (mkF m 9 #[.val (.ref a0), .val (.int p1), .val (.long q2), .second, .val (.long q3), .second] [(.long q2), (.int p1), (.ref a0)])) _
      refine XS.lload X0.here hx rfl (hb hby d1_9) rfl ?_
      show Steps p.tables e below (s₁.setTop (mkF m 11 #[.val (.ref a0), .val (.int p1), .val (.long q2), .second, .val (.long q3), .second] [(.long q3), (.long q2), (.int p1), (.ref a0)])) _
      refine XS.iloadN X0.here hx rfl (hb hby d1_11) rfl ?_
      show Steps p.tables e below (s₁.setTop (mkF m 12 #[.val (.ref a0), .val (.int p1), .val (.long q2), .second, .val (.long q3), .second] [(.int p1), (.long q3), (.long q2), (.int p1), (.ref a0)])) _
      refine st3 _ ?_
      show Steps p.tables e below (T3.setTop (mkF m 15 #[.val (.ref a0), .val (.int p1), .val (.long q2), .second, .val (.long q3), .second] [(.int (own_f3 q2 q3 p1)), (.int p1), (.ref a0)])) _
      refine st4 _ ?_
      show Steps p.tables e below (T4.setTop (mkF m 16 #[.val (.ref a0), .val (.int p1), .val (.long q2), .second, .val (.long q3), .second] [])) _
      exact X4.returnOut hx Bd.returns (hb hby d1_16) hr
    · show Q1 Z a0 p1 q2 q3 k z ws h0 n0 _ T4.heap _
      rw [e4]
      unfold Q1
      refine ⟨ws4, rfl, N4, kp5, ?_⟩
      · exact V4
  · obtain ⟨fs, hr, hrun, hended, hW, hsame⟩ := X0.leave (v := none) (fun _ => rfl)
    refine ⟨_, _, pre2 _ ?_, hrun, hended, _, _, rfl, ?_, ⟨_, rfl⟩, hW, hsame.mono (by decide) (by decide)⟩
    · show Steps p.tables e below (s₁.setTop (mkF m 3 #[.val (.ref a0), .val (.int p1), .val (.long q2), .second, .val (.long q3), .second] [(.int z), (.int p1)])) _
      refine XS.icmpYes X0.here hx rfl (pc0 := 3) (pc' := 16) rfl (hb hby d1_3) rfl (flt hc3).2.1 (by decide) (by decide) ?_
      show Steps p.tables e below (s₁.setTop (mkF m 16 #[.val (.ref a0), .val (.int p1), .val (.long q2), .second, .val (.long q3), .second] [])) _
      exact X0.returnOut hx Bd.returns (hb hby d1_16) hr
    · show Q1 Z a0 p1 q2 q3 k z ws h0 n0 _ s₁.heap _
      rw [e0]
      unfold Q1
      refine ⟨ws, rfl, N0, (Keep.refl h0 [a0]), ?_⟩
      · exact V_a0
theorem d2_0 : decode prog_8_method_5_code 0 = .ok (.aload_n 0, 1) := by decide +kernel
theorem d2_1 : decode prog_8_method_5_code 1 = .ok (.arraylength, 1) := by decide +kernel
theorem d2_2 : decode prog_8_method_5_code 2 = .ok (.bipush 7, 2) := by decide +kernel
theorem d2_4 : decode prog_8_method_5_code 4 = .ok (.if_icmp .le 17, 3) := by decide +kernel
theorem d2_7 : decode prog_8_method_5_code 7 = .ok (.aload_n 0, 1) := by decide +kernel
theorem d2_8 : decode prog_8_method_5_code 8 = .ok (.aload_n 0, 1) := by decide +kernel
theorem d2_9 : decode prog_8_method_5_code 9 = .ok (.arraylength, 1) := by decide +kernel
theorem d2_10 : decode prog_8_method_5_code 10 = .ok (.iconst 5, 1) := by decide +kernel
theorem d2_11 : decode prog_8_method_5_code 11 = .ok (.isub, 1) := by decide +kernel
theorem d2_12 : decode prog_8_method_5_code 12 = .ok (.baload, 1) := by decide +kernel
theorem d2_13 : decode prog_8_method_5_code 13 = .ok (.iconst 3, 1) := by decide +kernel
theorem d2_14 : decode prog_8_method_5_code 14 = .ok (.if_icmp .ne 7, 3) := by decide +kernel
theorem d2_17 : decode prog_8_method_5_code 17 = .ok (.iconst 1, 1) := by decide +kernel
theorem d2_18 : decode prog_8_method_5_code 18 = .ok (.goto 4, 3) := by decide +kernel
theorem d2_21 : decode prog_8_method_5_code 21 = .ok (.iconst 0, 1) := by decide +kernel
theorem d2_22 : decode prog_8_method_5_code 22 = .ok (.ireturn, 1) := by decide +kernel
theorem pn_1 : plainName "com/example/tubeline/tubeline/astm/Frame" = true := by first | (simp [plainName, overriddenIn]; done) | decide +kernel
theorem ef_2 (m : MethodId) (a0 : Addr) : entryFrame m #[(.ref a0)] 1 = mkF m 0 #[.val (.ref a0)] [] := by first | (simp [entryFrame, mkF, argsToLocals, Value.category]; done) | rfl
theorem own_in5 {z : Int32} (h : (7 : Int32) < z) (h2 : z < (16 : Int32)) : ¬ (z - (5 : Int32)) < 0 ∧ (z - (5 : Int32)) < z := by
  rw [Int32.lt_iff_toInt_lt] at h h2
  have := c_isub z (5 : Int32)
  have e : (7 : Int32).toInt = 7 := rfl
  have e2 : (5 : Int32).toInt = 5 := rfl
  have e3 : (16 : Int32).toInt = 16 := rfl
  have e4 : (0 : Int32).toInt = 0 := rfl
  have r := rng32 (z - (5 : Int32))
  simp only [Int32.lt_iff_toInt_lt]
  omega
def own_f2 (z : Int32) (ws : List Int32) : Int32 := (if (7 : Int32) < z then (if (ws.getD ((z - (5 : Int32))).toNatClampNeg (0 : Int32)) = (3 : Int32) then (1 : Int32) else (0 : Int32)) else (0 : Int32))
def Q2 (Z : State) (a0 : Addr) (k : ClassId) (z : Int32) (ws : List Int32) (h0 : Heap) (n0 : Nat) (v : Option Value) (h : Heap) (L : List Loc) : Prop := v = some (.int (own_f2 z ws)) ∧ Fr n0 L ∧ h = h0
set_option maxRecDepth 65536 in
set_option maxHeartbeats 40000000 in
theorem rm2 (l : Launch) (Z : State) (aw : Array Value) (hw : ∀ d ∈ tables_1, d.before aw Z = true) (wq : List Jvm.Cond) (a0 : Addr) (k : ClassId) (z : Int32) (ws : List Int32) (h0 : Heap) (n0 : Nat) (Z0 : n0 ≤ h0.size) (V_a0 : own_AI Z h0 a0 k .byte z ws) (hn : z < (16 : Int32)) :
    MetFree l (⟨"com/example/tubeline/tubeline/astm/Frame", "endsMessage", "([B)Z"⟩ : MethodName) (head1 (Jvm.Cond.code (⟨"com/example/tubeline/tubeline/astm/Frame", "endsMessage", "([B)Z"⟩ : MethodName) prog_8_method_5_code 1 (some .boolean) :: wq) ({ frames := 0, cells := 0, slots := 0, locals := 0 } : Room)) (fun a U => a = #[(.ref a0)] ∧ Z.Warmed39 U.vm ∧ U.heap = h0) (fun _ _ _ _ _ => True) (fun _ U o U' => ∃ v L, o = .returned v ∧ Q2 Z a0 k z ws h0 n0 v U'.heap L ∧ FrameEnd U o U' L ({ frames := 0, cells := 0, slots := 0, locals := 0 } : Room).cells ({ frames := 0, cells := 0, slots := 0, locals := 0 } : Room).slots) := by
  refine MetFree.of_bodySF (plainFor_of_name pn_1) hisR ?_
  intro p e s m args below meth c s₁ Bd hml0 hP hK
  obtain ⟨rfl, hZ, hh⟩ := hP
  have hx := Bd.exec
  have hby := Bd.bytes
  have hml : c.maxLocals = 1 := hml0
  have hown : s.vm.findClass "com/example/tubeline/tubeline/astm/Frame" = some m.cls := findClass_of_methodNamed Bd.named
  have hnm := (name_of_methodNamed Bd.named Bd.method).1
  have X0 : Stand p l e ({ frames := 0, cells := 0, slots := 0, locals := 0 } : Room) s m #[(.ref a0)] below meth c s₁ [] 0 0 := Stand.of_body Bd
  have e0 : s₁.heap = h0 := by rw [← hh, Bd.state]; rfl
  have N0 := Fr.nil n0
  have pre0 : own_Pre p e below (s₁.setTop (entryFrame m #[(.ref a0)] 1)) (s₁.setTop (mkF m 0 #[.val (.ref a0)] [])) := fun t k => castTop (ef_2 m a0) k
  obtain ⟨cl1, Ar1, S1, M1⟩ := V_a0.len
  have pre2 : own_Pre p e below (s₁.setTop (entryFrame m #[(.ref a0)] 1)) (s₁.setTop (mkF m 4 #[.val (.ref a0)] [(.int (7 : Int32)), (.int z)])) := fun t k => pre0 t (by
      show Steps p.tables e below (s₁.setTop (mkF m 0 #[.val (.ref a0)] [])) _
      refine XS.aloadN X0.here hx rfl (hb hby d2_0) rfl rfl ?_
      show Steps p.tables e below (s₁.setTop (mkF m 1 #[.val (.ref a0)] [(.ref a0)])) _
      refine X0.arraylength hx (by rw [e0]; exact Ar1.1) (State.isArrayOf_alike hZ.alike Ar1.2.1) (g := (mkF m 1 #[.val (.ref a0)] [(.ref a0)])) rfl rfl (hb hby d2_1) _ ?_
      rw [len_of S1 M1]
      show Steps p.tables e below (s₁.setTop (mkF m 2 #[.val (.ref a0)] [(.int z)])) _
      refine XS.bipush X0.here hx rfl (hb hby d2_2) ?_
      exact k)
  by_cases hc4 : (7 : Int32) < z
  · obtain ⟨cl3, Ar3, S3, M3⟩ := V_a0.len
    obtain ⟨cl4, Ar4, hin4, hat4⟩ := own_AI.at V_a0 (j := (z - (5 : Int32))) (own_in5 hc4 hn)
    have pre5 : own_Pre p e below (s₁.setTop (entryFrame m #[(.ref a0)] 1)) (s₁.setTop (mkF m 14 #[.val (.ref a0)] [(.int (3 : Int32)), (.int (ws.getD ((z - (5 : Int32))).toNatClampNeg (0 : Int32)))])) := fun t k => pre2 t (by
        show Steps p.tables e below (s₁.setTop (mkF m 4 #[.val (.ref a0)] [(.int (7 : Int32)), (.int z)])) _
        refine XS.icmpNo X0.here hx rfl (hb hby d2_4) rfl (tlt hc4).2.2.2 ?_
        show Steps p.tables e below (s₁.setTop (mkF m 7 #[.val (.ref a0)] [])) _
        refine XS.aloadN X0.here hx rfl (hb hby d2_7) rfl rfl ?_
        show Steps p.tables e below (s₁.setTop (mkF m 8 #[.val (.ref a0)] [(.ref a0)])) _
        refine XS.aloadN X0.here hx rfl (hb hby d2_8) rfl rfl ?_
        show Steps p.tables e below (s₁.setTop (mkF m 9 #[.val (.ref a0)] [(.ref a0), (.ref a0)])) _
        refine X0.arraylength hx (by rw [e0]; exact Ar3.1) (State.isArrayOf_alike hZ.alike Ar3.2.1) (g := (mkF m 9 #[.val (.ref a0)] [(.ref a0), (.ref a0)])) rfl rfl (hb hby d2_9) _ ?_
        rw [len_of S3 M3]
        show Steps p.tables e below (s₁.setTop (mkF m 10 #[.val (.ref a0)] [(.int z), (.ref a0)])) _
        refine XS.iconst X0.here hx rfl (hb hby d2_10) ?_
        show Steps p.tables e below (s₁.setTop (mkF m 11 #[.val (.ref a0)] [(.int (5 : Int32)), (.int z), (.ref a0)])) _
        refine XS.isub X0.here hx rfl (hb hby d2_11) rfl ?_
        show Steps p.tables e below (s₁.setTop (mkF m 12 #[.val (.ref a0)] [(.int (z - (5 : Int32))), (.ref a0)])) _
        refine X0.baloadBytes hx (j := (z - (5 : Int32))) (v := (.int (ws.getD ((z - (5 : Int32))).toNatClampNeg (0 : Int32)))) (by rw [e0]; exact Ar4.1) (State.isArrayOf_alike hZ.alike Ar4.2.1) Ar4.2.2 hin4 hat4 (g := (mkF m 12 #[.val (.ref a0)] [(.int (z - (5 : Int32))), (.ref a0)])) rfl rfl (hb hby d2_12) _ ?_
        show Steps p.tables e below (s₁.setTop (mkF m 13 #[.val (.ref a0)] [(.int (ws.getD ((z - (5 : Int32))).toNatClampNeg (0 : Int32)))])) _
        refine XS.iconst X0.here hx rfl (hb hby d2_13) ?_
        exact k)
    by_cases hc14 : (ws.getD ((z - (5 : Int32))).toNatClampNeg (0 : Int32)) = (3 : Int32)
    · obtain ⟨fs, hr, hrun, hended, hW, hsame⟩ := X0.leave (v := some (.int (1 : Int32))) (fun h => by rw [Bd.returns] at h; cases h)
      refine ⟨_, _, pre5 _ ?_, hrun, hended, _, _, rfl, ?_, ⟨_, rfl⟩, hW, hsame.mono (by decide) (by decide)⟩
      · show Steps p.tables e below (s₁.setTop (mkF m 14 #[.val (.ref a0)] [(.int (3 : Int32)), (.int (ws.getD ((z - (5 : Int32))).toNatClampNeg (0 : Int32)))])) _
        refine XS.icmpNo X0.here hx rfl (hb hby d2_14) rfl (teq hc14).2 ?_
        show Steps p.tables e below (s₁.setTop (mkF m 17 #[.val (.ref a0)] [])) _
        refine XS.iconst X0.here hx rfl (hb hby d2_17) ?_
        show Steps p.tables e below (s₁.setTop (mkF m 18 #[.val (.ref a0)] [(.int (1 : Int32))])) _
        refine XS.goto X0.here hx rfl (pc0 := 18) (pc' := 22) rfl (hb hby d2_18) (by decide) (by decide) ?_
        show Steps p.tables e below (s₁.setTop (mkF m 22 #[.val (.ref a0)] [(.int (1 : Int32))])) _
        exact retN X0 hx (t := .boolean) Bd.returns (by simp) (hb hby d2_22) hr
      · show Q2 Z a0 k z ws h0 n0 _ s₁.heap _
        rw [e0]
        unfold Q2
        refine ⟨?_, N0, rfl⟩
        · simp only [own_f2, if_pos hc4, if_pos hc14]
    · obtain ⟨fs, hr, hrun, hended, hW, hsame⟩ := X0.leave (v := some (.int (0 : Int32))) (fun h => by rw [Bd.returns] at h; cases h)
      refine ⟨_, _, pre5 _ ?_, hrun, hended, _, _, rfl, ?_, ⟨_, rfl⟩, hW, hsame.mono (by decide) (by decide)⟩
      · show Steps p.tables e below (s₁.setTop (mkF m 14 #[.val (.ref a0)] [(.int (3 : Int32)), (.int (ws.getD ((z - (5 : Int32))).toNatClampNeg (0 : Int32)))])) _
        refine XS.icmpYes X0.here hx rfl (pc0 := 14) (pc' := 21) rfl (hb hby d2_14) rfl (feq hc14).2 (by decide) (by decide) ?_
        show Steps p.tables e below (s₁.setTop (mkF m 21 #[.val (.ref a0)] [])) _
        refine XS.iconst X0.here hx rfl (hb hby d2_21) ?_
        show Steps p.tables e below (s₁.setTop (mkF m 22 #[.val (.ref a0)] [(.int (0 : Int32))])) _
        exact retN X0 hx (t := .boolean) Bd.returns (by simp) (hb hby d2_22) hr
      · show Q2 Z a0 k z ws h0 n0 _ s₁.heap _
        rw [e0]
        unfold Q2
        refine ⟨?_, N0, rfl⟩
        · simp only [own_f2, if_pos hc4, if_neg hc14]
  · obtain ⟨fs, hr, hrun, hended, hW, hsame⟩ := X0.leave (v := some (.int (0 : Int32))) (fun h => by rw [Bd.returns] at h; cases h)
    refine ⟨_, _, pre2 _ ?_, hrun, hended, _, _, rfl, ?_, ⟨_, rfl⟩, hW, hsame.mono (by decide) (by decide)⟩
    · show Steps p.tables e below (s₁.setTop (mkF m 4 #[.val (.ref a0)] [(.int (7 : Int32)), (.int z)])) _
      refine XS.icmpYes X0.here hx rfl (pc0 := 4) (pc' := 21) rfl (hb hby d2_4) rfl (flt hc4).2.2.2 (by decide) (by decide) ?_
      show Steps p.tables e below (s₁.setTop (mkF m 21 #[.val (.ref a0)] [])) _
      refine XS.iconst X0.here hx rfl (hb hby d2_21) ?_
      show Steps p.tables e below (s₁.setTop (mkF m 22 #[.val (.ref a0)] [(.int (0 : Int32))])) _
      exact retN X0 hx (t := .boolean) Bd.returns (by simp) (hb hby d2_22) hr
    · show Q2 Z a0 k z ws h0 n0 _ s₁.heap _
      rw [e0]
      unfold Q2
      refine ⟨?_, N0, rfl⟩
      · simp only [own_f2, if_neg hc4]
theorem pd_1 : parseMethodDescriptor "([BIJJ)V" = some ⟨[(.array .byte), .int, .long, .long], none⟩ := by decide +kernel
theorem pd_2 : parseMethodDescriptor "([B)Z" = some ⟨[(.array .byte)], some .boolean⟩ := by decide +kernel
theorem ef_0 (m : MethodId) (p0 : Int32) (q1 : Int64) (q2 : Int64) : entryFrame m #[(.int p0), (.long q1), (.long q2)] maxLocals = mkF m 0 #[.val (.int p0), .val (.long q1), .second, .val (.long q2), .second, .unset, .unset, .unset, .unset, .unset] [] := by first | (simp [entryFrame, mkF, argsToLocals, Value.category, maxLocals]; done) | rfl
def own_m0_233_s0 (v0 : Int32) (v1 : List Int32) : Int32 := (if (7 : Int32) < v0 then (if (v1.getD ((v0 - (5 : Int32))).toNatClampNeg (0 : Int32)) = (3 : Int32) then (1 : Int32) else (0 : Int32)) else (0 : Int32))
theorem own_n {p : Int32} (x : Int32) (hx : x = p &&& (15 : Int32)) : ¬ x < 0 ∧ x.toNatClampNeg ≤ 15 ∧ x < (16 : Int32) := by
  have h := c_mask p 15 4 (by decide) (by decide)
  rw [← hx] at h
  have e : (0 : Int32).toInt = 0 := rfl
  have e2 : (16 : Int32).toInt = 16 := rfl
  simp only [Int32.lt_iff_toInt_lt, Int32.toNatClampNeg]
  omega
theorem own_k5 {z : Int32} (h2 : z < (16 : Int32)) (h : ¬ z < (5 : Int32)) : ¬ (z - (5 : Int32)) < 0 ∧ (z - (5 : Int32)) < z := by
  rw [Int32.lt_iff_toInt_lt] at h h2
  have := c_isub z (5 : Int32)
  have e2 : (5 : Int32).toInt = 5 := rfl
  have e3 : (16 : Int32).toInt = 16 := rfl
  have e4 : (0 : Int32).toInt = 0 := rfl
  have r := rng32 (z - (5 : Int32))
  simp only [Int32.lt_iff_toInt_lt]
  omega
theorem own_k4 {z : Int32} (h2 : z < (16 : Int32)) (h : ¬ z < (4 : Int32)) : ¬ (z - (4 : Int32)) < 0 ∧ (z - (4 : Int32)) < z := by
  rw [Int32.lt_iff_toInt_lt] at h h2
  have := c_isub z (4 : Int32)
  have e2 : (4 : Int32).toInt = 4 := rfl
  have e3 : (16 : Int32).toInt = 16 := rfl
  have e4 : (0 : Int32).toInt = 0 := rfl
  have r := rng32 (z - (4 : Int32))
  simp only [Int32.lt_iff_toInt_lt]
  omega
theorem own_k6 {z : Int32} (h2 : z < (16 : Int32)) (h : ¬ z < (6 : Int32)) : ¬ (z - (6 : Int32)) < 0 ∧ (z - (6 : Int32)) < z := by
  rw [Int32.lt_iff_toInt_lt] at h h2
  have := c_isub z (6 : Int32)
  have e2 : (6 : Int32).toInt = 6 := rfl
  have e3 : (16 : Int32).toInt = 16 := rfl
  have e4 : (0 : Int32).toInt = 0 := rfl
  have r := rng32 (z - (6 : Int32))
  simp only [Int32.lt_iff_toInt_lt]
  omega
theorem own_plain (z : Int32) (ws : List Int32) : own_f2 z ws = own_m0_233_s0 z ws := rfl

def Q0 (Z : State) (p0 : Int32) (q1 : Int64) (q2 : Int64) (h0 : Heap) (n0 : Nat) (v : Option Value) (h : Heap) (L : List Loc) : Prop := v = some (.int (1 : Int32)) ∧ Fr n0 L
set_option maxRecDepth 65536 in
set_option maxHeartbeats 40000000 in
theorem rm0 (l : Launch) (Z : State) (aw : Array Value) (hw : ∀ d ∈ tables_1, d.before aw Z = true) (wq : List Jvm.Cond) (p0 : Int32) (q1 : Int64) (q2 : Int64) (h0 : Heap) (n0 : Nat) (Z0 : n0 ≤ h0.size) :
    MetFree l x (head1 (Jvm.Cond.code x code maxLocals ret :: wq) room_1) (fun a U => a = #[(.int p0), (.long q1), (.long q2)] ∧ Z.Warmed39 U.vm ∧ U.heap = h0) (fun _ _ _ _ _ => True) (fun _ U o U' => ∃ v L, o = .returned v ∧ Q0 Z p0 q1 q2 h0 n0 v U'.heap L ∧ FrameEnd U o U' L 1 15) := by
  refine MetFree.of_bodySF (plainFor_of_name pn_0) hisR ?_
  intro p e s m args below meth c s₁ Bd hml0 hP hK
  obtain ⟨rfl, hZ, hh⟩ := hP
  have hx := Bd.exec
  have hby := Bd.bytes
  have hml : c.maxLocals = 10 := hml0
  have hown : s.vm.findClass "com/example/tubeline/tubeline/astm/FrameEndsMessagePinLaw" = some m.cls := findClass_of_methodNamed Bd.named
  have hnm := (name_of_methodNamed Bd.named Bd.method).1
  have X0 : Stand p l e room_1 s m #[(.int p0), (.long q1), (.long q2)] below meth c s₁ [] 0 0 := Stand.of_body Bd
  have e0 : s₁.heap = h0 := by rw [← hh, Bd.state]; rfl
  have N0 := Fr.nil n0
  have pre0 : own_Pre p e below (s₁.setTop (entryFrame m #[(.int p0), (.long q1), (.long q2)] maxLocals)) (s₁.setTop (mkF m 0 #[.val (.int p0), .val (.long q1), .second, .val (.long q2), .second, .unset, .unset, .unset, .unset, .unset] [])) := fun t k => castTop (ef_0 m p0 q1 q2) k
  obtain ⟨x5_6, hx5_6, pre1⟩ : ∃ z : Int32, z = (p0 &&& (15 : Int32)) ∧ own_Pre p e below (s₁.setTop (entryFrame m #[(.int p0), (.long q1), (.long q2)] maxLocals)) (s₁.setTop (mkF m 6 #[.val (.int p0), .val (.long q1), .second, .val (.long q2), .second, .val (.int z), .unset, .unset, .unset, .unset] [])) := ⟨_, rfl, fun t k => pre0 t (by
      show Steps p.tables e below (s₁.setTop (mkF m 0 #[.val (.int p0), .val (.long q1), .second, .val (.long q2), .second, .unset, .unset, .unset, .unset, .unset] [])) _
      refine XS.iloadN X0.here hx rfl (hb hby at_0) rfl ?_
      show Steps p.tables e below (s₁.setTop (mkF m 1 #[.val (.int p0), .val (.long q1), .second, .val (.long q2), .second, .unset, .unset, .unset, .unset, .unset] [(.int p0)])) _
      refine XS.bipush X0.here hx rfl (hb hby at_1) ?_
      show Steps p.tables e below (s₁.setTop (mkF m 3 #[.val (.int p0), .val (.long q1), .second, .val (.long q2), .second, .unset, .unset, .unset, .unset, .unset] [(.int (15 : Int32)), (.int p0)])) _
      refine XS.iand X0.here hx rfl (hb hby at_3) rfl ?_
      show Steps p.tables e below (s₁.setTop (mkF m 4 #[.val (.int p0), .val (.long q1), .second, .val (.long q2), .second, .unset, .unset, .unset, .unset, .unset] [(.int (p0 &&& (15 : Int32)))])) _
      refine XS.istore X0.here hx rfl (hb hby at_4) rfl (l' := #[.val (.int p0), .val (.long q1), .second, .val (.long q2), .second, .val (.int (p0 &&& (15 : Int32))), .unset, .unset, .unset, .unset]) rfl ?_
      exact k)⟩
  obtain ⟨x6_13, hx6_13, pre2⟩ : ∃ z : Int32, z = (((p0).toUInt32 >>> ((4 : Int32) &&& 31).toUInt32).toInt32 &&& (3 : Int32)) ∧ own_Pre p e below (s₁.setTop (entryFrame m #[(.int p0), (.long q1), (.long q2)] maxLocals)) (s₁.setTop (mkF m 13 #[.val (.int p0), .val (.long q1), .second, .val (.long q2), .second, .val (.int x5_6), .val (.int z), .unset, .unset, .unset] [])) := ⟨_, rfl, fun t k => pre1 t (by
      show Steps p.tables e below (s₁.setTop (mkF m 6 #[.val (.int p0), .val (.long q1), .second, .val (.long q2), .second, .val (.int x5_6), .unset, .unset, .unset, .unset] [])) _
      refine XS.iloadN X0.here hx rfl (hb hby at_6) rfl ?_
      show Steps p.tables e below (s₁.setTop (mkF m 7 #[.val (.int p0), .val (.long q1), .second, .val (.long q2), .second, .val (.int x5_6), .unset, .unset, .unset, .unset] [(.int p0)])) _
      refine XS.iconst X0.here hx rfl (hb hby at_7) ?_
      show Steps p.tables e below (s₁.setTop (mkF m 8 #[.val (.int p0), .val (.long q1), .second, .val (.long q2), .second, .val (.int x5_6), .unset, .unset, .unset, .unset] [(.int (4 : Int32)), (.int p0)])) _
      refine XS.iushr X0.here hx rfl (hb hby at_8) rfl ?_
      show Steps p.tables e below (s₁.setTop (mkF m 9 #[.val (.int p0), .val (.long q1), .second, .val (.long q2), .second, .val (.int x5_6), .unset, .unset, .unset, .unset] [(.int ((p0).toUInt32 >>> ((4 : Int32) &&& 31).toUInt32).toInt32)])) _
      refine XS.iconst X0.here hx rfl (hb hby at_9) ?_
      show Steps p.tables e below (s₁.setTop (mkF m 10 #[.val (.int p0), .val (.long q1), .second, .val (.long q2), .second, .val (.int x5_6), .unset, .unset, .unset, .unset] [(.int (3 : Int32)), (.int ((p0).toUInt32 >>> ((4 : Int32) &&& 31).toUInt32).toInt32)])) _
      refine XS.iand X0.here hx rfl (hb hby at_10) rfl ?_
      show Steps p.tables e below (s₁.setTop (mkF m 11 #[.val (.int p0), .val (.long q1), .second, .val (.long q2), .second, .val (.int x5_6), .unset, .unset, .unset, .unset] [(.int (((p0).toUInt32 >>> ((4 : Int32) &&& 31).toUInt32).toInt32 &&& (3 : Int32)))])) _
      refine XS.istore X0.here hx rfl (hb hby at_11) rfl (l' := #[.val (.int p0), .val (.long q1), .second, .val (.long q2), .second, .val (.int x5_6), .val (.int (((p0).toUInt32 >>> ((4 : Int32) &&& 31).toUInt32).toInt32 &&& (3 : Int32))), .unset, .unset, .unset]) rfl ?_
      exact k)⟩
  obtain ⟨T3, h3, k3, X3, e3, E3, A3, st3⟩ := newP X0 hx hZ (hw _ (List.mem_of_getElem? (i := 0) rfl)) e0 (g := (mkF m 15 #[.val (.int p0), .val (.long q1), .second, .val (.long q2), .second, .val (.int x5_6), .val (.int x6_13), .unset, .unset, .unset] [(.int x5_6)])) rfl (hb hby at_15) rfl (own_n x5_6 hx5_6).1 (cap := 15) (own_n x5_6 hx5_6).2.1 (by decide) (by decide) (by decide)
  obtain ⟨b3, gq3⟩ : ∃ z, z = (h0).size := ⟨_, rfl⟩
  rw [← gq3] at A3 st3
  have g_b3 : n0 ≤ b3 := Nat.le_trans Z0 (Nat.le_of_eq gq3.symm)
  have V_b3 : own_AI Z h3 b3 k3 .byte x5_6 (List.replicate 15 (0 : Int32)) := own_AI.new 15 A3 (own_n x5_6 hx5_6).1 (own_n x5_6 hx5_6).2.1 rfl
  have z5 : n0 ≤ (h3).size := (Nat.le_trans Z0 E3.1)
  obtain ⟨_, _, ⟨T4, L4, k4, n4⟩, -, X4, ⟨Lc4, hQ4, l4, y4, z4⟩, st4⟩ := Jvm.LawKit.callS X3 hx (y := (⟨"com/example/tubeline/tubeline/astm/FrameEndsMessagePinLaw", "put", "([BIJJ)V"⟩ : MethodName)) hown (mvT hZ (hw _ (List.mem_of_getElem? (i := 1) rfl))) (mvT hZ (hw _ (List.mem_of_getElem? (i := 2) rfl))) (mvT hZ (hw _ (List.mem_of_getElem? (i := 3) rfl))) (mvT hZ (hw _ (List.mem_of_getElem? (i := 4) rfl))) (by decide) (backOf (W := 0) (rm1 l Z aw hw [] (b3) ((0 : Int32)) (q1) (q2) (k3) (x5_6) ((List.replicate 15 (0 : Int32))) (h3) n0 z5 V_b3 g_b3 (by decide)) hZ (hw _ (List.mem_of_getElem? (i := 4) rfl)) (hw _ (List.mem_of_getElem? (i := 3) rfl)) (by decide) (by decide)) (g := (mkF m 24 #[.val (.int p0), .val (.long q1), .second, .val (.long q2), .second, .val (.int x5_6), .val (.int x6_13), .val (.ref b3), .unset, .unset] [(.long q2), (.long q1), (.int (0 : Int32)), (.ref b3)])) rfl (by rw [hml]; rfl) (argsL := [(.ref b3), (.int (0 : Int32)), (.long q1), (.long q2)]) (rest := []) (lenOf pd_1 rfl) rfl (by show 2 * 0 + _ ≤ _; exact Nat.le_of_eq rfl) (hb hby at_24) (fun _ _ => ⟨rfl, e3, (by decide : 1 + 0 ≤ _), (by decide : 15 + 0 ≤ _)⟩)
  dsimp only [Pt.U, Pt.locs, Pt.cells, Pt.slots] at X4 l4 y4 z4 st4 hQ4
  subst l4 y4 z4
  obtain ⟨wn4, rfl, Nq4, K4, po4_0⟩ := hQ4
  have N4 := Fr.app N0 Nq4
  have z7 : n0 ≤ (T4.heap).size := (Nat.le_trans z5 K4.1)
  obtain ⟨_, _, ⟨T6, L6, k6, n6⟩, -, X6, ⟨Lc6, hQ6, l6, y6, z6⟩, st6⟩ := Jvm.LawKit.callS X4 hx (y := (⟨"com/example/tubeline/tubeline/astm/FrameEndsMessagePinLaw", "put", "([BIJJ)V"⟩ : MethodName)) hown (mvT hZ (hw _ (List.mem_of_getElem? (i := 1) rfl))) (mvT hZ (hw _ (List.mem_of_getElem? (i := 2) rfl))) (mvT hZ (hw _ (List.mem_of_getElem? (i := 3) rfl))) (mvT hZ (hw _ (List.mem_of_getElem? (i := 4) rfl))) (by decide) (backOf (W := 0) (rm1 l Z aw hw [] (b3) ((1 : Int32)) (q1) (q2) (k3) (x5_6) (wn4) (T4.heap) n0 z7 po4_0 g_b3 (by decide)) hZ (hw _ (List.mem_of_getElem? (i := 4) rfl)) (hw _ (List.mem_of_getElem? (i := 3) rfl)) (by decide) (by decide)) (g := (mkF m 32 #[.val (.int p0), .val (.long q1), .second, .val (.long q2), .second, .val (.int x5_6), .val (.int x6_13), .val (.ref b3), .unset, .unset] [(.long q2), (.long q1), (.int (1 : Int32)), (.ref b3)])) rfl (by rw [hml]; rfl) (argsL := [(.ref b3), (.int (1 : Int32)), (.long q1), (.long q2)]) (rest := []) (lenOf pd_1 rfl) rfl (by show 2 * 0 + _ ≤ _; exact Nat.le_of_eq rfl) (hb hby at_32) (fun _ _ => ⟨rfl, rfl, (by decide : 1 + 0 ≤ _), (by decide : 15 + 0 ≤ _)⟩)
  dsimp only [Pt.U, Pt.locs, Pt.cells, Pt.slots] at X6 l6 y6 z6 st6 hQ6
  subst l6 y6 z6
  obtain ⟨wn6, rfl, Nq6, K6, po6_0⟩ := hQ6
  have N6 := Fr.app N4 Nq6
  have z9 : n0 ≤ (T6.heap).size := (Nat.le_trans z7 K6.1)
  obtain ⟨_, _, ⟨T8, L8, k8, n8⟩, -, X8, ⟨Lc8, hQ8, l8, y8, z8⟩, st8⟩ := Jvm.LawKit.callS X6 hx (y := (⟨"com/example/tubeline/tubeline/astm/FrameEndsMessagePinLaw", "put", "([BIJJ)V"⟩ : MethodName)) hown (mvT hZ (hw _ (List.mem_of_getElem? (i := 1) rfl))) (mvT hZ (hw _ (List.mem_of_getElem? (i := 2) rfl))) (mvT hZ (hw _ (List.mem_of_getElem? (i := 3) rfl))) (mvT hZ (hw _ (List.mem_of_getElem? (i := 4) rfl))) (by decide) (backOf (W := 0) (rm1 l Z aw hw [] (b3) ((2 : Int32)) (q1) (q2) (k3) (x5_6) (wn6) (T6.heap) n0 z9 po6_0 g_b3 (by decide)) hZ (hw _ (List.mem_of_getElem? (i := 4) rfl)) (hw _ (List.mem_of_getElem? (i := 3) rfl)) (by decide) (by decide)) (g := (mkF m 40 #[.val (.int p0), .val (.long q1), .second, .val (.long q2), .second, .val (.int x5_6), .val (.int x6_13), .val (.ref b3), .unset, .unset] [(.long q2), (.long q1), (.int (2 : Int32)), (.ref b3)])) rfl (by rw [hml]; rfl) (argsL := [(.ref b3), (.int (2 : Int32)), (.long q1), (.long q2)]) (rest := []) (lenOf pd_1 rfl) rfl (by show 2 * 0 + _ ≤ _; exact Nat.le_of_eq rfl) (hb hby at_40) (fun _ _ => ⟨rfl, rfl, (by decide : 1 + 0 ≤ _), (by decide : 15 + 0 ≤ _)⟩)
  dsimp only [Pt.U, Pt.locs, Pt.cells, Pt.slots] at X8 l8 y8 z8 st8 hQ8
  subst l8 y8 z8
  obtain ⟨wn8, rfl, Nq8, K8, po8_0⟩ := hQ8
  have N8 := Fr.app N6 Nq8
  have z11 : n0 ≤ (T8.heap).size := (Nat.le_trans z9 K8.1)
  obtain ⟨_, _, ⟨T10, L10, k10, n10⟩, -, X10, ⟨Lc10, hQ10, l10, y10, z10⟩, st10⟩ := Jvm.LawKit.callS X8 hx (y := (⟨"com/example/tubeline/tubeline/astm/FrameEndsMessagePinLaw", "put", "([BIJJ)V"⟩ : MethodName)) hown (mvT hZ (hw _ (List.mem_of_getElem? (i := 1) rfl))) (mvT hZ (hw _ (List.mem_of_getElem? (i := 2) rfl))) (mvT hZ (hw _ (List.mem_of_getElem? (i := 3) rfl))) (mvT hZ (hw _ (List.mem_of_getElem? (i := 4) rfl))) (by decide) (backOf (W := 0) (rm1 l Z aw hw [] (b3) ((3 : Int32)) (q1) (q2) (k3) (x5_6) (wn8) (T8.heap) n0 z11 po8_0 g_b3 (by decide)) hZ (hw _ (List.mem_of_getElem? (i := 4) rfl)) (hw _ (List.mem_of_getElem? (i := 3) rfl)) (by decide) (by decide)) (g := (mkF m 48 #[.val (.int p0), .val (.long q1), .second, .val (.long q2), .second, .val (.int x5_6), .val (.int x6_13), .val (.ref b3), .unset, .unset] [(.long q2), (.long q1), (.int (3 : Int32)), (.ref b3)])) rfl (by rw [hml]; rfl) (argsL := [(.ref b3), (.int (3 : Int32)), (.long q1), (.long q2)]) (rest := []) (lenOf pd_1 rfl) rfl (by show 2 * 0 + _ ≤ _; exact Nat.le_of_eq rfl) (hb hby at_48) (fun _ _ => ⟨rfl, rfl, (by decide : 1 + 0 ≤ _), (by decide : 15 + 0 ≤ _)⟩)
  dsimp only [Pt.U, Pt.locs, Pt.cells, Pt.slots] at X10 l10 y10 z10 st10 hQ10
  subst l10 y10 z10
  obtain ⟨wn10, rfl, Nq10, K10, po10_0⟩ := hQ10
  have N10 := Fr.app N8 Nq10
  have z13 : n0 ≤ (T10.heap).size := (Nat.le_trans z11 K10.1)
  obtain ⟨_, _, ⟨T12, L12, k12, n12⟩, -, X12, ⟨Lc12, hQ12, l12, y12, z12⟩, st12⟩ := Jvm.LawKit.callS X10 hx (y := (⟨"com/example/tubeline/tubeline/astm/FrameEndsMessagePinLaw", "put", "([BIJJ)V"⟩ : MethodName)) hown (mvT hZ (hw _ (List.mem_of_getElem? (i := 1) rfl))) (mvT hZ (hw _ (List.mem_of_getElem? (i := 2) rfl))) (mvT hZ (hw _ (List.mem_of_getElem? (i := 3) rfl))) (mvT hZ (hw _ (List.mem_of_getElem? (i := 4) rfl))) (by decide) (backOf (W := 0) (rm1 l Z aw hw [] (b3) ((4 : Int32)) (q1) (q2) (k3) (x5_6) (wn10) (T10.heap) n0 z13 po10_0 g_b3 (by decide)) hZ (hw _ (List.mem_of_getElem? (i := 4) rfl)) (hw _ (List.mem_of_getElem? (i := 3) rfl)) (by decide) (by decide)) (g := (mkF m 56 #[.val (.int p0), .val (.long q1), .second, .val (.long q2), .second, .val (.int x5_6), .val (.int x6_13), .val (.ref b3), .unset, .unset] [(.long q2), (.long q1), (.int (4 : Int32)), (.ref b3)])) rfl (by rw [hml]; rfl) (argsL := [(.ref b3), (.int (4 : Int32)), (.long q1), (.long q2)]) (rest := []) (lenOf pd_1 rfl) rfl (by show 2 * 0 + _ ≤ _; exact Nat.le_of_eq rfl) (hb hby at_56) (fun _ _ => ⟨rfl, rfl, (by decide : 1 + 0 ≤ _), (by decide : 15 + 0 ≤ _)⟩)
  dsimp only [Pt.U, Pt.locs, Pt.cells, Pt.slots] at X12 l12 y12 z12 st12 hQ12
  subst l12 y12 z12
  obtain ⟨wn12, rfl, Nq12, K12, po12_0⟩ := hQ12
  have N12 := Fr.app N10 Nq12
  have z15 : n0 ≤ (T12.heap).size := (Nat.le_trans z13 K12.1)
  obtain ⟨_, _, ⟨T14, L14, k14, n14⟩, -, X14, ⟨Lc14, hQ14, l14, y14, z14⟩, st14⟩ := Jvm.LawKit.callS X12 hx (y := (⟨"com/example/tubeline/tubeline/astm/FrameEndsMessagePinLaw", "put", "([BIJJ)V"⟩ : MethodName)) hown (mvT hZ (hw _ (List.mem_of_getElem? (i := 1) rfl))) (mvT hZ (hw _ (List.mem_of_getElem? (i := 2) rfl))) (mvT hZ (hw _ (List.mem_of_getElem? (i := 3) rfl))) (mvT hZ (hw _ (List.mem_of_getElem? (i := 4) rfl))) (by decide) (backOf (W := 0) (rm1 l Z aw hw [] (b3) ((5 : Int32)) (q1) (q2) (k3) (x5_6) (wn12) (T12.heap) n0 z15 po12_0 g_b3 (by decide)) hZ (hw _ (List.mem_of_getElem? (i := 4) rfl)) (hw _ (List.mem_of_getElem? (i := 3) rfl)) (by decide) (by decide)) (g := (mkF m 64 #[.val (.int p0), .val (.long q1), .second, .val (.long q2), .second, .val (.int x5_6), .val (.int x6_13), .val (.ref b3), .unset, .unset] [(.long q2), (.long q1), (.int (5 : Int32)), (.ref b3)])) rfl (by rw [hml]; rfl) (argsL := [(.ref b3), (.int (5 : Int32)), (.long q1), (.long q2)]) (rest := []) (lenOf pd_1 rfl) rfl (by show 2 * 0 + _ ≤ _; exact Nat.le_of_eq rfl) (hb hby at_64) (fun _ _ => ⟨rfl, rfl, (by decide : 1 + 0 ≤ _), (by decide : 15 + 0 ≤ _)⟩)
  dsimp only [Pt.U, Pt.locs, Pt.cells, Pt.slots] at X14 l14 y14 z14 st14 hQ14
  subst l14 y14 z14
  obtain ⟨wn14, rfl, Nq14, K14, po14_0⟩ := hQ14
  have N14 := Fr.app N12 Nq14
  have z17 : n0 ≤ (T14.heap).size := (Nat.le_trans z15 K14.1)
  obtain ⟨_, _, ⟨T16, L16, k16, n16⟩, -, X16, ⟨Lc16, hQ16, l16, y16, z16⟩, st16⟩ := Jvm.LawKit.callS X14 hx (y := (⟨"com/example/tubeline/tubeline/astm/FrameEndsMessagePinLaw", "put", "([BIJJ)V"⟩ : MethodName)) hown (mvT hZ (hw _ (List.mem_of_getElem? (i := 1) rfl))) (mvT hZ (hw _ (List.mem_of_getElem? (i := 2) rfl))) (mvT hZ (hw _ (List.mem_of_getElem? (i := 3) rfl))) (mvT hZ (hw _ (List.mem_of_getElem? (i := 4) rfl))) (by decide) (backOf (W := 0) (rm1 l Z aw hw [] (b3) ((6 : Int32)) (q1) (q2) (k3) (x5_6) (wn14) (T14.heap) n0 z17 po14_0 g_b3 (by decide)) hZ (hw _ (List.mem_of_getElem? (i := 4) rfl)) (hw _ (List.mem_of_getElem? (i := 3) rfl)) (by decide) (by decide)) (g := (mkF m 73 #[.val (.int p0), .val (.long q1), .second, .val (.long q2), .second, .val (.int x5_6), .val (.int x6_13), .val (.ref b3), .unset, .unset] [(.long q2), (.long q1), (.int (6 : Int32)), (.ref b3)])) rfl (by rw [hml]; rfl) (argsL := [(.ref b3), (.int (6 : Int32)), (.long q1), (.long q2)]) (rest := []) (lenOf pd_1 rfl) rfl (by show 2 * 0 + _ ≤ _; exact Nat.le_of_eq rfl) (hb hby at_73) (fun _ _ => ⟨rfl, rfl, (by decide : 1 + 0 ≤ _), (by decide : 15 + 0 ≤ _)⟩)
  dsimp only [Pt.U, Pt.locs, Pt.cells, Pt.slots] at X16 l16 y16 z16 st16 hQ16
  subst l16 y16 z16
  obtain ⟨wn16, rfl, Nq16, K16, po16_0⟩ := hQ16
  have N16 := Fr.app N14 Nq16
  have z19 : n0 ≤ (T16.heap).size := (Nat.le_trans z17 K16.1)
  obtain ⟨_, _, ⟨T18, L18, k18, n18⟩, -, X18, ⟨Lc18, hQ18, l18, y18, z18⟩, st18⟩ := Jvm.LawKit.callS X16 hx (y := (⟨"com/example/tubeline/tubeline/astm/FrameEndsMessagePinLaw", "put", "([BIJJ)V"⟩ : MethodName)) hown (mvT hZ (hw _ (List.mem_of_getElem? (i := 1) rfl))) (mvT hZ (hw _ (List.mem_of_getElem? (i := 2) rfl))) (mvT hZ (hw _ (List.mem_of_getElem? (i := 3) rfl))) (mvT hZ (hw _ (List.mem_of_getElem? (i := 4) rfl))) (by decide) (backOf (W := 0) (rm1 l Z aw hw [] (b3) ((7 : Int32)) (q1) (q2) (k3) (x5_6) (wn16) (T16.heap) n0 z19 po16_0 g_b3 (by decide)) hZ (hw _ (List.mem_of_getElem? (i := 4) rfl)) (hw _ (List.mem_of_getElem? (i := 3) rfl)) (by decide) (by decide)) (g := (mkF m 82 #[.val (.int p0), .val (.long q1), .second, .val (.long q2), .second, .val (.int x5_6), .val (.int x6_13), .val (.ref b3), .unset, .unset] [(.long q2), (.long q1), (.int (7 : Int32)), (.ref b3)])) rfl (by rw [hml]; rfl) (argsL := [(.ref b3), (.int (7 : Int32)), (.long q1), (.long q2)]) (rest := []) (lenOf pd_1 rfl) rfl (by show 2 * 0 + _ ≤ _; exact Nat.le_of_eq rfl) (hb hby at_82) (fun _ _ => ⟨rfl, rfl, (by decide : 1 + 0 ≤ _), (by decide : 15 + 0 ≤ _)⟩)
  dsimp only [Pt.U, Pt.locs, Pt.cells, Pt.slots] at X18 l18 y18 z18 st18 hQ18
  subst l18 y18 z18
  obtain ⟨wn18, rfl, Nq18, K18, po18_0⟩ := hQ18
  have N18 := Fr.app N16 Nq18
  have z21 : n0 ≤ (T18.heap).size := (Nat.le_trans z19 K18.1)
  obtain ⟨_, _, ⟨T20, L20, k20, n20⟩, -, X20, ⟨Lc20, hQ20, l20, y20, z20⟩, st20⟩ := Jvm.LawKit.callS X18 hx (y := (⟨"com/example/tubeline/tubeline/astm/FrameEndsMessagePinLaw", "put", "([BIJJ)V"⟩ : MethodName)) hown (mvT hZ (hw _ (List.mem_of_getElem? (i := 1) rfl))) (mvT hZ (hw _ (List.mem_of_getElem? (i := 2) rfl))) (mvT hZ (hw _ (List.mem_of_getElem? (i := 3) rfl))) (mvT hZ (hw _ (List.mem_of_getElem? (i := 4) rfl))) (by decide) (backOf (W := 0) (rm1 l Z aw hw [] (b3) ((8 : Int32)) (q1) (q2) (k3) (x5_6) (wn18) (T18.heap) n0 z21 po18_0 g_b3 (by decide)) hZ (hw _ (List.mem_of_getElem? (i := 4) rfl)) (hw _ (List.mem_of_getElem? (i := 3) rfl)) (by decide) (by decide)) (g := (mkF m 91 #[.val (.int p0), .val (.long q1), .second, .val (.long q2), .second, .val (.int x5_6), .val (.int x6_13), .val (.ref b3), .unset, .unset] [(.long q2), (.long q1), (.int (8 : Int32)), (.ref b3)])) rfl (by rw [hml]; rfl) (argsL := [(.ref b3), (.int (8 : Int32)), (.long q1), (.long q2)]) (rest := []) (lenOf pd_1 rfl) rfl (by show 2 * 0 + _ ≤ _; exact Nat.le_of_eq rfl) (hb hby at_91) (fun _ _ => ⟨rfl, rfl, (by decide : 1 + 0 ≤ _), (by decide : 15 + 0 ≤ _)⟩)
  dsimp only [Pt.U, Pt.locs, Pt.cells, Pt.slots] at X20 l20 y20 z20 st20 hQ20
  subst l20 y20 z20
  obtain ⟨wn20, rfl, Nq20, K20, po20_0⟩ := hQ20
  have N20 := Fr.app N18 Nq20
  have z23 : n0 ≤ (T20.heap).size := (Nat.le_trans z21 K20.1)
  obtain ⟨_, _, ⟨T22, L22, k22, n22⟩, -, X22, ⟨Lc22, hQ22, l22, y22, z22⟩, st22⟩ := Jvm.LawKit.callS X20 hx (y := (⟨"com/example/tubeline/tubeline/astm/FrameEndsMessagePinLaw", "put", "([BIJJ)V"⟩ : MethodName)) hown (mvT hZ (hw _ (List.mem_of_getElem? (i := 1) rfl))) (mvT hZ (hw _ (List.mem_of_getElem? (i := 2) rfl))) (mvT hZ (hw _ (List.mem_of_getElem? (i := 3) rfl))) (mvT hZ (hw _ (List.mem_of_getElem? (i := 4) rfl))) (by decide) (backOf (W := 0) (rm1 l Z aw hw [] (b3) ((9 : Int32)) (q1) (q2) (k3) (x5_6) (wn20) (T20.heap) n0 z23 po20_0 g_b3 (by decide)) hZ (hw _ (List.mem_of_getElem? (i := 4) rfl)) (hw _ (List.mem_of_getElem? (i := 3) rfl)) (by decide) (by decide)) (g := (mkF m 100 #[.val (.int p0), .val (.long q1), .second, .val (.long q2), .second, .val (.int x5_6), .val (.int x6_13), .val (.ref b3), .unset, .unset] [(.long q2), (.long q1), (.int (9 : Int32)), (.ref b3)])) rfl (by rw [hml]; rfl) (argsL := [(.ref b3), (.int (9 : Int32)), (.long q1), (.long q2)]) (rest := []) (lenOf pd_1 rfl) rfl (by show 2 * 0 + _ ≤ _; exact Nat.le_of_eq rfl) (hb hby at_100) (fun _ _ => ⟨rfl, rfl, (by decide : 1 + 0 ≤ _), (by decide : 15 + 0 ≤ _)⟩)
  dsimp only [Pt.U, Pt.locs, Pt.cells, Pt.slots] at X22 l22 y22 z22 st22 hQ22
  subst l22 y22 z22
  obtain ⟨wn22, rfl, Nq22, K22, po22_0⟩ := hQ22
  have N22 := Fr.app N20 Nq22
  have z25 : n0 ≤ (T22.heap).size := (Nat.le_trans z23 K22.1)
  obtain ⟨_, _, ⟨T24, L24, k24, n24⟩, -, X24, ⟨Lc24, hQ24, l24, y24, z24⟩, st24⟩ := Jvm.LawKit.callS X22 hx (y := (⟨"com/example/tubeline/tubeline/astm/FrameEndsMessagePinLaw", "put", "([BIJJ)V"⟩ : MethodName)) hown (mvT hZ (hw _ (List.mem_of_getElem? (i := 1) rfl))) (mvT hZ (hw _ (List.mem_of_getElem? (i := 2) rfl))) (mvT hZ (hw _ (List.mem_of_getElem? (i := 3) rfl))) (mvT hZ (hw _ (List.mem_of_getElem? (i := 4) rfl))) (by decide) (backOf (W := 0) (rm1 l Z aw hw [] (b3) ((10 : Int32)) (q1) (q2) (k3) (x5_6) (wn22) (T22.heap) n0 z25 po22_0 g_b3 (by decide)) hZ (hw _ (List.mem_of_getElem? (i := 4) rfl)) (hw _ (List.mem_of_getElem? (i := 3) rfl)) (by decide) (by decide)) (g := (mkF m 109 #[.val (.int p0), .val (.long q1), .second, .val (.long q2), .second, .val (.int x5_6), .val (.int x6_13), .val (.ref b3), .unset, .unset] [(.long q2), (.long q1), (.int (10 : Int32)), (.ref b3)])) rfl (by rw [hml]; rfl) (argsL := [(.ref b3), (.int (10 : Int32)), (.long q1), (.long q2)]) (rest := []) (lenOf pd_1 rfl) rfl (by show 2 * 0 + _ ≤ _; exact Nat.le_of_eq rfl) (hb hby at_109) (fun _ _ => ⟨rfl, rfl, (by decide : 1 + 0 ≤ _), (by decide : 15 + 0 ≤ _)⟩)
  dsimp only [Pt.U, Pt.locs, Pt.cells, Pt.slots] at X24 l24 y24 z24 st24 hQ24
  subst l24 y24 z24
  obtain ⟨wn24, rfl, Nq24, K24, po24_0⟩ := hQ24
  have N24 := Fr.app N22 Nq24
  have z27 : n0 ≤ (T24.heap).size := (Nat.le_trans z25 K24.1)
  obtain ⟨_, _, ⟨T26, L26, k26, n26⟩, -, X26, ⟨Lc26, hQ26, l26, y26, z26⟩, st26⟩ := Jvm.LawKit.callS X24 hx (y := (⟨"com/example/tubeline/tubeline/astm/FrameEndsMessagePinLaw", "put", "([BIJJ)V"⟩ : MethodName)) hown (mvT hZ (hw _ (List.mem_of_getElem? (i := 1) rfl))) (mvT hZ (hw _ (List.mem_of_getElem? (i := 2) rfl))) (mvT hZ (hw _ (List.mem_of_getElem? (i := 3) rfl))) (mvT hZ (hw _ (List.mem_of_getElem? (i := 4) rfl))) (by decide) (backOf (W := 0) (rm1 l Z aw hw [] (b3) ((11 : Int32)) (q1) (q2) (k3) (x5_6) (wn24) (T24.heap) n0 z27 po24_0 g_b3 (by decide)) hZ (hw _ (List.mem_of_getElem? (i := 4) rfl)) (hw _ (List.mem_of_getElem? (i := 3) rfl)) (by decide) (by decide)) (g := (mkF m 118 #[.val (.int p0), .val (.long q1), .second, .val (.long q2), .second, .val (.int x5_6), .val (.int x6_13), .val (.ref b3), .unset, .unset] [(.long q2), (.long q1), (.int (11 : Int32)), (.ref b3)])) rfl (by rw [hml]; rfl) (argsL := [(.ref b3), (.int (11 : Int32)), (.long q1), (.long q2)]) (rest := []) (lenOf pd_1 rfl) rfl (by show 2 * 0 + _ ≤ _; exact Nat.le_of_eq rfl) (hb hby at_118) (fun _ _ => ⟨rfl, rfl, (by decide : 1 + 0 ≤ _), (by decide : 15 + 0 ≤ _)⟩)
  dsimp only [Pt.U, Pt.locs, Pt.cells, Pt.slots] at X26 l26 y26 z26 st26 hQ26
  subst l26 y26 z26
  obtain ⟨wn26, rfl, Nq26, K26, po26_0⟩ := hQ26
  have N26 := Fr.app N24 Nq26
  have z29 : n0 ≤ (T26.heap).size := (Nat.le_trans z27 K26.1)
  obtain ⟨_, _, ⟨T28, L28, k28, n28⟩, -, X28, ⟨Lc28, hQ28, l28, y28, z28⟩, st28⟩ := Jvm.LawKit.callS X26 hx (y := (⟨"com/example/tubeline/tubeline/astm/FrameEndsMessagePinLaw", "put", "([BIJJ)V"⟩ : MethodName)) hown (mvT hZ (hw _ (List.mem_of_getElem? (i := 1) rfl))) (mvT hZ (hw _ (List.mem_of_getElem? (i := 2) rfl))) (mvT hZ (hw _ (List.mem_of_getElem? (i := 3) rfl))) (mvT hZ (hw _ (List.mem_of_getElem? (i := 4) rfl))) (by decide) (backOf (W := 0) (rm1 l Z aw hw [] (b3) ((12 : Int32)) (q1) (q2) (k3) (x5_6) (wn26) (T26.heap) n0 z29 po26_0 g_b3 (by decide)) hZ (hw _ (List.mem_of_getElem? (i := 4) rfl)) (hw _ (List.mem_of_getElem? (i := 3) rfl)) (by decide) (by decide)) (g := (mkF m 127 #[.val (.int p0), .val (.long q1), .second, .val (.long q2), .second, .val (.int x5_6), .val (.int x6_13), .val (.ref b3), .unset, .unset] [(.long q2), (.long q1), (.int (12 : Int32)), (.ref b3)])) rfl (by rw [hml]; rfl) (argsL := [(.ref b3), (.int (12 : Int32)), (.long q1), (.long q2)]) (rest := []) (lenOf pd_1 rfl) rfl (by show 2 * 0 + _ ≤ _; exact Nat.le_of_eq rfl) (hb hby at_127) (fun _ _ => ⟨rfl, rfl, (by decide : 1 + 0 ≤ _), (by decide : 15 + 0 ≤ _)⟩)
  dsimp only [Pt.U, Pt.locs, Pt.cells, Pt.slots] at X28 l28 y28 z28 st28 hQ28
  subst l28 y28 z28
  obtain ⟨wn28, rfl, Nq28, K28, po28_0⟩ := hQ28
  have N28 := Fr.app N26 Nq28
  have z31 : n0 ≤ (T28.heap).size := (Nat.le_trans z29 K28.1)
  obtain ⟨_, _, ⟨T30, L30, k30, n30⟩, -, X30, ⟨Lc30, hQ30, l30, y30, z30⟩, st30⟩ := Jvm.LawKit.callS X28 hx (y := (⟨"com/example/tubeline/tubeline/astm/FrameEndsMessagePinLaw", "put", "([BIJJ)V"⟩ : MethodName)) hown (mvT hZ (hw _ (List.mem_of_getElem? (i := 1) rfl))) (mvT hZ (hw _ (List.mem_of_getElem? (i := 2) rfl))) (mvT hZ (hw _ (List.mem_of_getElem? (i := 3) rfl))) (mvT hZ (hw _ (List.mem_of_getElem? (i := 4) rfl))) (by decide) (backOf (W := 0) (rm1 l Z aw hw [] (b3) ((13 : Int32)) (q1) (q2) (k3) (x5_6) (wn28) (T28.heap) n0 z31 po28_0 g_b3 (by decide)) hZ (hw _ (List.mem_of_getElem? (i := 4) rfl)) (hw _ (List.mem_of_getElem? (i := 3) rfl)) (by decide) (by decide)) (g := (mkF m 136 #[.val (.int p0), .val (.long q1), .second, .val (.long q2), .second, .val (.int x5_6), .val (.int x6_13), .val (.ref b3), .unset, .unset] [(.long q2), (.long q1), (.int (13 : Int32)), (.ref b3)])) rfl (by rw [hml]; rfl) (argsL := [(.ref b3), (.int (13 : Int32)), (.long q1), (.long q2)]) (rest := []) (lenOf pd_1 rfl) rfl (by show 2 * 0 + _ ≤ _; exact Nat.le_of_eq rfl) (hb hby at_136) (fun _ _ => ⟨rfl, rfl, (by decide : 1 + 0 ≤ _), (by decide : 15 + 0 ≤ _)⟩)
  dsimp only [Pt.U, Pt.locs, Pt.cells, Pt.slots] at X30 l30 y30 z30 st30 hQ30
  subst l30 y30 z30
  obtain ⟨wn30, rfl, Nq30, K30, po30_0⟩ := hQ30
  have N30 := Fr.app N28 Nq30
  have z33 : n0 ≤ (T30.heap).size := (Nat.le_trans z31 K30.1)
  obtain ⟨_, _, ⟨T32, L32, k32, n32⟩, -, X32, ⟨Lc32, hQ32, l32, y32, z32⟩, st32⟩ := Jvm.LawKit.callS X30 hx (y := (⟨"com/example/tubeline/tubeline/astm/FrameEndsMessagePinLaw", "put", "([BIJJ)V"⟩ : MethodName)) hown (mvT hZ (hw _ (List.mem_of_getElem? (i := 1) rfl))) (mvT hZ (hw _ (List.mem_of_getElem? (i := 2) rfl))) (mvT hZ (hw _ (List.mem_of_getElem? (i := 3) rfl))) (mvT hZ (hw _ (List.mem_of_getElem? (i := 4) rfl))) (by decide) (backOf (W := 0) (rm1 l Z aw hw [] (b3) ((14 : Int32)) (q1) (q2) (k3) (x5_6) (wn30) (T30.heap) n0 z33 po30_0 g_b3 (by decide)) hZ (hw _ (List.mem_of_getElem? (i := 4) rfl)) (hw _ (List.mem_of_getElem? (i := 3) rfl)) (by decide) (by decide)) (g := (mkF m 145 #[.val (.int p0), .val (.long q1), .second, .val (.long q2), .second, .val (.int x5_6), .val (.int x6_13), .val (.ref b3), .unset, .unset] [(.long q2), (.long q1), (.int (14 : Int32)), (.ref b3)])) rfl (by rw [hml]; rfl) (argsL := [(.ref b3), (.int (14 : Int32)), (.long q1), (.long q2)]) (rest := []) (lenOf pd_1 rfl) rfl (by show 2 * 0 + _ ≤ _; exact Nat.le_of_eq rfl) (hb hby at_145) (fun _ _ => ⟨rfl, rfl, (by decide : 1 + 0 ≤ _), (by decide : 15 + 0 ≤ _)⟩)
  dsimp only [Pt.U, Pt.locs, Pt.cells, Pt.slots] at X32 l32 y32 z32 st32 hQ32
  subst l32 y32 z32
  obtain ⟨wn32, rfl, Nq32, K32, po32_0⟩ := hQ32
  have N32 := Fr.app N30 Nq32
  have pre34 : own_Pre p e below (s₁.setTop (entryFrame m #[(.int p0), (.long q1), (.long q2)] maxLocals)) (T32.setTop (mkF m 151 #[.val (.int p0), .val (.long q1), .second, .val (.long q2), .second, .val (.int x5_6), .val (.int x6_13), .val (.ref b3), .unset, .unset] [(.int (1 : Int32)), (.int x6_13)])) := fun t k => pre2 t (by
      show Steps p.tables e below (s₁.setTop (mkF m 13 #[.val (.int p0), .val (.long q1), .second, .val (.long q2), .second, .val (.int x5_6), .val (.int x6_13), .unset, .unset, .unset] [])) _
      refine XS.iload X0.here hx rfl (hb hby at_13) rfl ?_
      show Steps p.tables e below (s₁.setTop (mkF m 15 #[.val (.int p0), .val (.long q1), .second, .val (.long q2), .second, .val (.int x5_6), .val (.int x6_13), .unset, .unset, .unset] [(.int x5_6)])) _
      refine st3 _ ?_
      show Steps p.tables e below (T3.setTop (mkF m 17 #[.val (.int p0), .val (.long q1), .second, .val (.long q2), .second, .val (.int x5_6), .val (.int x6_13), .unset, .unset, .unset] [(.ref b3)])) _
      refine XS.astore X3.here hx rfl (hb hby at_17) rfl rfl (l' := #[.val (.int p0), .val (.long q1), .second, .val (.long q2), .second, .val (.int x5_6), .val (.int x6_13), .val (.ref b3), .unset, .unset]) rfl ?_
      show Steps p.tables e below (T3.setTop (mkF m 19 #[.val (.int p0), .val (.long q1), .second, .val (.long q2), .second, .val (.int x5_6), .val (.int x6_13), .val (.ref b3), .unset, .unset] [])) _
      refine XS.aload X3.here hx rfl (hb hby at_19) rfl rfl ?_
      show Steps p.tables e below (T3.setTop (mkF m 21 #[.val (.int p0), .val (.long q1), .second, .val (.long q2), .second, .val (.int x5_6), .val (.int x6_13), .val (.ref b3), .unset, .unset] [(.ref b3)])) _
      refine XS.iconst X3.here hx rfl (hb hby at_21) ?_
      show Steps p.tables e below (T3.setTop (mkF m 22 #[.val (.int p0), .val (.long q1), .second, .val (.long q2), .second, .val (.int x5_6), .val (.int x6_13), .val (.ref b3), .unset, .unset] [(.int (0 : Int32)), (.ref b3)])) _
      refine XS.lloadN X3.here hx rfl (hb hby at_22) rfl ?_
      show Steps p.tables e below (T3.setTop (mkF m 23 #[.val (.int p0), .val (.long q1), .second, .val (.long q2), .second, .val (.int x5_6), .val (.int x6_13), .val (.ref b3), .unset, .unset] [(.long q1), (.int (0 : Int32)), (.ref b3)])) _
      refine XS.lloadN X3.here hx rfl (hb hby at_23) rfl ?_
      show Steps p.tables e below (T3.setTop (mkF m 24 #[.val (.int p0), .val (.long q1), .second, .val (.long q2), .second, .val (.int x5_6), .val (.int x6_13), .val (.ref b3), .unset, .unset] [(.long q2), (.long q1), (.int (0 : Int32)), (.ref b3)])) _
      refine st4 _ ?_
      show Steps p.tables e below (T4.setTop (mkF m 27 #[.val (.int p0), .val (.long q1), .second, .val (.long q2), .second, .val (.int x5_6), .val (.int x6_13), .val (.ref b3), .unset, .unset] [])) _
      refine XS.aload X4.here hx rfl (hb hby at_27) rfl rfl ?_
      show Steps p.tables e below (T4.setTop (mkF m 29 #[.val (.int p0), .val (.long q1), .second, .val (.long q2), .second, .val (.int x5_6), .val (.int x6_13), .val (.ref b3), .unset, .unset] [(.ref b3)])) _
      refine XS.iconst X4.here hx rfl (hb hby at_29) ?_
      show Steps p.tables e below (T4.setTop (mkF m 30 #[.val (.int p0), .val (.long q1), .second, .val (.long q2), .second, .val (.int x5_6), .val (.int x6_13), .val (.ref b3), .unset, .unset] [(.int (1 : Int32)), (.ref b3)])) _
      refine XS.lloadN X4.here hx rfl (hb hby at_30) rfl ?_
      show Steps p.tables e below (T4.setTop (mkF m 31 #[.val (.int p0), .val (.long q1), .second, .val (.long q2), .second, .val (.int x5_6), .val (.int x6_13), .val (.ref b3), .unset, .unset] [(.long q1), (.int (1 : Int32)), (.ref b3)])) _
      refine XS.lloadN X4.here hx rfl (hb hby at_31) rfl ?_
      show Steps p.tables e below (T4.setTop (mkF m 32 #[.val (.int p0), .val (.long q1), .second, .val (.long q2), .second, .val (.int x5_6), .val (.int x6_13), .val (.ref b3), .unset, .unset] [(.long q2), (.long q1), (.int (1 : Int32)), (.ref b3)])) _
      refine st6 _ ?_
      show Steps p.tables e below (T6.setTop (mkF m 35 #[.val (.int p0), .val (.long q1), .second, .val (.long q2), .second, .val (.int x5_6), .val (.int x6_13), .val (.ref b3), .unset, .unset] [])) _
      refine XS.aload X6.here hx rfl (hb hby at_35) rfl rfl ?_
      show Steps p.tables e below (T6.setTop (mkF m 37 #[.val (.int p0), .val (.long q1), .second, .val (.long q2), .second, .val (.int x5_6), .val (.int x6_13), .val (.ref b3), .unset, .unset] [(.ref b3)])) _
      refine XS.iconst X6.here hx rfl (hb hby at_37) ?_
      show Steps p.tables e below (T6.setTop (mkF m 38 #[.val (.int p0), .val (.long q1), .second, .val (.long q2), .second, .val (.int x5_6), .val (.int x6_13), .val (.ref b3), .unset, .unset] [(.int (2 : Int32)), (.ref b3)])) _
      refine XS.lloadN X6.here hx rfl (hb hby at_38) rfl ?_
      show Steps p.tables e below (T6.setTop (mkF m 39 #[.val (.int p0), .val (.long q1), .second, .val (.long q2), .second, .val (.int x5_6), .val (.int x6_13), .val (.ref b3), .unset, .unset] [(.long q1), (.int (2 : Int32)), (.ref b3)])) _
      refine XS.lloadN X6.here hx rfl (hb hby at_39) rfl ?_
      show Steps p.tables e below (T6.setTop (mkF m 40 #[.val (.int p0), .val (.long q1), .second, .val (.long q2), .second, .val (.int x5_6), .val (.int x6_13), .val (.ref b3), .unset, .unset] [(.long q2), (.long q1), (.int (2 : Int32)), (.ref b3)])) _
      refine st8 _ ?_
      show Steps p.tables e below (T8.setTop (mkF m 43 #[.val (.int p0), .val (.long q1), .second, .val (.long q2), .second, .val (.int x5_6), .val (.int x6_13), .val (.ref b3), .unset, .unset] [])) _
      refine XS.aload X8.here hx rfl (hb hby at_43) rfl rfl ?_
      show Steps p.tables e below (T8.setTop (mkF m 45 #[.val (.int p0), .val (.long q1), .second, .val (.long q2), .second, .val (.int x5_6), .val (.int x6_13), .val (.ref b3), .unset, .unset] [(.ref b3)])) _
      refine XS.iconst X8.here hx rfl (hb hby at_45) ?_
      show Steps p.tables e below (T8.setTop (mkF m 46 #[.val (.int p0), .val (.long q1), .second, .val (.long q2), .second, .val (.int x5_6), .val (.int x6_13), .val (.ref b3), .unset, .unset] [(.int (3 : Int32)), (.ref b3)])) _
      refine XS.lloadN X8.here hx rfl (hb hby at_46) rfl ?_
      show Steps p.tables e below (T8.setTop (mkF m 47 #[.val (.int p0), .val (.long q1), .second, .val (.long q2), .second, .val (.int x5_6), .val (.int x6_13), .val (.ref b3), .unset, .unset] [(.long q1), (.int (3 : Int32)), (.ref b3)])) _
      refine XS.lloadN X8.here hx rfl (hb hby at_47) rfl ?_
      show Steps p.tables e below (T8.setTop (mkF m 48 #[.val (.int p0), .val (.long q1), .second, .val (.long q2), .second, .val (.int x5_6), .val (.int x6_13), .val (.ref b3), .unset, .unset] [(.long q2), (.long q1), (.int (3 : Int32)), (.ref b3)])) _
      refine st10 _ ?_
      show Steps p.tables e below (T10.setTop (mkF m 51 #[.val (.int p0), .val (.long q1), .second, .val (.long q2), .second, .val (.int x5_6), .val (.int x6_13), .val (.ref b3), .unset, .unset] [])) _
      refine XS.aload X10.here hx rfl (hb hby at_51) rfl rfl ?_
      show Steps p.tables e below (T10.setTop (mkF m 53 #[.val (.int p0), .val (.long q1), .second, .val (.long q2), .second, .val (.int x5_6), .val (.int x6_13), .val (.ref b3), .unset, .unset] [(.ref b3)])) _
      refine XS.iconst X10.here hx rfl (hb hby at_53) ?_
      show Steps p.tables e below (T10.setTop (mkF m 54 #[.val (.int p0), .val (.long q1), .second, .val (.long q2), .second, .val (.int x5_6), .val (.int x6_13), .val (.ref b3), .unset, .unset] [(.int (4 : Int32)), (.ref b3)])) _
      refine XS.lloadN X10.here hx rfl (hb hby at_54) rfl ?_
      show Steps p.tables e below (T10.setTop (mkF m 55 #[.val (.int p0), .val (.long q1), .second, .val (.long q2), .second, .val (.int x5_6), .val (.int x6_13), .val (.ref b3), .unset, .unset] [(.long q1), (.int (4 : Int32)), (.ref b3)])) _
      refine XS.lloadN X10.here hx rfl (hb hby at_55) rfl ?_
      show Steps p.tables e below (T10.setTop (mkF m 56 #[.val (.int p0), .val (.long q1), .second, .val (.long q2), .second, .val (.int x5_6), .val (.int x6_13), .val (.ref b3), .unset, .unset] [(.long q2), (.long q1), (.int (4 : Int32)), (.ref b3)])) _
      refine st12 _ ?_
      show Steps p.tables e below (T12.setTop (mkF m 59 #[.val (.int p0), .val (.long q1), .second, .val (.long q2), .second, .val (.int x5_6), .val (.int x6_13), .val (.ref b3), .unset, .unset] [])) _
      refine XS.aload X12.here hx rfl (hb hby at_59) rfl rfl ?_
      show Steps p.tables e below (T12.setTop (mkF m 61 #[.val (.int p0), .val (.long q1), .second, .val (.long q2), .second, .val (.int x5_6), .val (.int x6_13), .val (.ref b3), .unset, .unset] [(.ref b3)])) _
      refine XS.iconst X12.here hx rfl (hb hby at_61) ?_
      show Steps p.tables e below (T12.setTop (mkF m 62 #[.val (.int p0), .val (.long q1), .second, .val (.long q2), .second, .val (.int x5_6), .val (.int x6_13), .val (.ref b3), .unset, .unset] [(.int (5 : Int32)), (.ref b3)])) _
      refine XS.lloadN X12.here hx rfl (hb hby at_62) rfl ?_
      show Steps p.tables e below (T12.setTop (mkF m 63 #[.val (.int p0), .val (.long q1), .second, .val (.long q2), .second, .val (.int x5_6), .val (.int x6_13), .val (.ref b3), .unset, .unset] [(.long q1), (.int (5 : Int32)), (.ref b3)])) _
      refine XS.lloadN X12.here hx rfl (hb hby at_63) rfl ?_
      show Steps p.tables e below (T12.setTop (mkF m 64 #[.val (.int p0), .val (.long q1), .second, .val (.long q2), .second, .val (.int x5_6), .val (.int x6_13), .val (.ref b3), .unset, .unset] [(.long q2), (.long q1), (.int (5 : Int32)), (.ref b3)])) _
      refine st14 _ ?_
      show Steps p.tables e below (T14.setTop (mkF m 67 #[.val (.int p0), .val (.long q1), .second, .val (.long q2), .second, .val (.int x5_6), .val (.int x6_13), .val (.ref b3), .unset, .unset] [])) _
      refine XS.aload X14.here hx rfl (hb hby at_67) rfl rfl ?_
      show Steps p.tables e below (T14.setTop (mkF m 69 #[.val (.int p0), .val (.long q1), .second, .val (.long q2), .second, .val (.int x5_6), .val (.int x6_13), .val (.ref b3), .unset, .unset] [(.ref b3)])) _
      refine XS.bipush X14.here hx rfl (hb hby at_69) ?_
      show Steps p.tables e below (T14.setTop (mkF m 71 #[.val (.int p0), .val (.long q1), .second, .val (.long q2), .second, .val (.int x5_6), .val (.int x6_13), .val (.ref b3), .unset, .unset] [(.int (6 : Int32)), (.ref b3)])) _
      refine XS.lloadN X14.here hx rfl (hb hby at_71) rfl ?_
      show Steps p.tables e below (T14.setTop (mkF m 72 #[.val (.int p0), .val (.long q1), .second, .val (.long q2), .second, .val (.int x5_6), .val (.int x6_13), .val (.ref b3), .unset, .unset] [(.long q1), (.int (6 : Int32)), (.ref b3)])) _
      refine XS.lloadN X14.here hx rfl (hb hby at_72) rfl ?_
      show Steps p.tables e below (T14.setTop (mkF m 73 #[.val (.int p0), .val (.long q1), .second, .val (.long q2), .second, .val (.int x5_6), .val (.int x6_13), .val (.ref b3), .unset, .unset] [(.long q2), (.long q1), (.int (6 : Int32)), (.ref b3)])) _
      refine st16 _ ?_
      show Steps p.tables e below (T16.setTop (mkF m 76 #[.val (.int p0), .val (.long q1), .second, .val (.long q2), .second, .val (.int x5_6), .val (.int x6_13), .val (.ref b3), .unset, .unset] [])) _
      refine XS.aload X16.here hx rfl (hb hby at_76) rfl rfl ?_
      show Steps p.tables e below (T16.setTop (mkF m 78 #[.val (.int p0), .val (.long q1), .second, .val (.long q2), .second, .val (.int x5_6), .val (.int x6_13), .val (.ref b3), .unset, .unset] [(.ref b3)])) _
      refine XS.bipush X16.here hx rfl (hb hby at_78) ?_
      show Steps p.tables e below (T16.setTop (mkF m 80 #[.val (.int p0), .val (.long q1), .second, .val (.long q2), .second, .val (.int x5_6), .val (.int x6_13), .val (.ref b3), .unset, .unset] [(.int (7 : Int32)), (.ref b3)])) _
      refine XS.lloadN X16.here hx rfl (hb hby at_80) rfl ?_
      show Steps p.tables e below (T16.setTop (mkF m 81 #[.val (.int p0), .val (.long q1), .second, .val (.long q2), .second, .val (.int x5_6), .val (.int x6_13), .val (.ref b3), .unset, .unset] [(.long q1), (.int (7 : Int32)), (.ref b3)])) _
      refine XS.lloadN X16.here hx rfl (hb hby at_81) rfl ?_
      show Steps p.tables e below (T16.setTop (mkF m 82 #[.val (.int p0), .val (.long q1), .second, .val (.long q2), .second, .val (.int x5_6), .val (.int x6_13), .val (.ref b3), .unset, .unset] [(.long q2), (.long q1), (.int (7 : Int32)), (.ref b3)])) _
      refine st18 _ ?_
      show Steps p.tables e below (T18.setTop (mkF m 85 #[.val (.int p0), .val (.long q1), .second, .val (.long q2), .second, .val (.int x5_6), .val (.int x6_13), .val (.ref b3), .unset, .unset] [])) _
      refine XS.aload X18.here hx rfl (hb hby at_85) rfl rfl ?_
      show Steps p.tables e below (T18.setTop (mkF m 87 #[.val (.int p0), .val (.long q1), .second, .val (.long q2), .second, .val (.int x5_6), .val (.int x6_13), .val (.ref b3), .unset, .unset] [(.ref b3)])) _
      refine XS.bipush X18.here hx rfl (hb hby at_87) ?_
      show Steps p.tables e below (T18.setTop (mkF m 89 #[.val (.int p0), .val (.long q1), .second, .val (.long q2), .second, .val (.int x5_6), .val (.int x6_13), .val (.ref b3), .unset, .unset] [(.int (8 : Int32)), (.ref b3)])) _
      refine XS.lloadN X18.here hx rfl (hb hby at_89) rfl ?_
      show Steps p.tables e below (T18.setTop (mkF m 90 #[.val (.int p0), .val (.long q1), .second, .val (.long q2), .second, .val (.int x5_6), .val (.int x6_13), .val (.ref b3), .unset, .unset] [(.long q1), (.int (8 : Int32)), (.ref b3)])) _
      refine XS.lloadN X18.here hx rfl (hb hby at_90) rfl ?_
      show Steps p.tables e below (T18.setTop (mkF m 91 #[.val (.int p0), .val (.long q1), .second, .val (.long q2), .second, .val (.int x5_6), .val (.int x6_13), .val (.ref b3), .unset, .unset] [(.long q2), (.long q1), (.int (8 : Int32)), (.ref b3)])) _
      refine st20 _ ?_
      show Steps p.tables e below (T20.setTop (mkF m 94 #[.val (.int p0), .val (.long q1), .second, .val (.long q2), .second, .val (.int x5_6), .val (.int x6_13), .val (.ref b3), .unset, .unset] [])) _
      refine XS.aload X20.here hx rfl (hb hby at_94) rfl rfl ?_
      show Steps p.tables e below (T20.setTop (mkF m 96 #[.val (.int p0), .val (.long q1), .second, .val (.long q2), .second, .val (.int x5_6), .val (.int x6_13), .val (.ref b3), .unset, .unset] [(.ref b3)])) _
      refine XS.bipush X20.here hx rfl (hb hby at_96) ?_
      show Steps p.tables e below (T20.setTop (mkF m 98 #[.val (.int p0), .val (.long q1), .second, .val (.long q2), .second, .val (.int x5_6), .val (.int x6_13), .val (.ref b3), .unset, .unset] [(.int (9 : Int32)), (.ref b3)])) _
      refine XS.lloadN X20.here hx rfl (hb hby at_98) rfl ?_
      show Steps p.tables e below (T20.setTop (mkF m 99 #[.val (.int p0), .val (.long q1), .second, .val (.long q2), .second, .val (.int x5_6), .val (.int x6_13), .val (.ref b3), .unset, .unset] [(.long q1), (.int (9 : Int32)), (.ref b3)])) _
      refine XS.lloadN X20.here hx rfl (hb hby at_99) rfl ?_
      show Steps p.tables e below (T20.setTop (mkF m 100 #[.val (.int p0), .val (.long q1), .second, .val (.long q2), .second, .val (.int x5_6), .val (.int x6_13), .val (.ref b3), .unset, .unset] [(.long q2), (.long q1), (.int (9 : Int32)), (.ref b3)])) _
      refine st22 _ ?_
      show Steps p.tables e below (T22.setTop (mkF m 103 #[.val (.int p0), .val (.long q1), .second, .val (.long q2), .second, .val (.int x5_6), .val (.int x6_13), .val (.ref b3), .unset, .unset] [])) _
      refine XS.aload X22.here hx rfl (hb hby at_103) rfl rfl ?_
      show Steps p.tables e below (T22.setTop (mkF m 105 #[.val (.int p0), .val (.long q1), .second, .val (.long q2), .second, .val (.int x5_6), .val (.int x6_13), .val (.ref b3), .unset, .unset] [(.ref b3)])) _
      refine XS.bipush X22.here hx rfl (hb hby at_105) ?_
      show Steps p.tables e below (T22.setTop (mkF m 107 #[.val (.int p0), .val (.long q1), .second, .val (.long q2), .second, .val (.int x5_6), .val (.int x6_13), .val (.ref b3), .unset, .unset] [(.int (10 : Int32)), (.ref b3)])) _
      refine XS.lloadN X22.here hx rfl (hb hby at_107) rfl ?_
      show Steps p.tables e below (T22.setTop (mkF m 108 #[.val (.int p0), .val (.long q1), .second, .val (.long q2), .second, .val (.int x5_6), .val (.int x6_13), .val (.ref b3), .unset, .unset] [(.long q1), (.int (10 : Int32)), (.ref b3)])) _
      refine XS.lloadN X22.here hx rfl (hb hby at_108) rfl ?_
      show Steps p.tables e below (T22.setTop (mkF m 109 #[.val (.int p0), .val (.long q1), .second, .val (.long q2), .second, .val (.int x5_6), .val (.int x6_13), .val (.ref b3), .unset, .unset] [(.long q2), (.long q1), (.int (10 : Int32)), (.ref b3)])) _
      refine st24 _ ?_
      show Steps p.tables e below (T24.setTop (mkF m 112 #[.val (.int p0), .val (.long q1), .second, .val (.long q2), .second, .val (.int x5_6), .val (.int x6_13), .val (.ref b3), .unset, .unset] [])) _
      refine XS.aload X24.here hx rfl (hb hby at_112) rfl rfl ?_
      show Steps p.tables e below (T24.setTop (mkF m 114 #[.val (.int p0), .val (.long q1), .second, .val (.long q2), .second, .val (.int x5_6), .val (.int x6_13), .val (.ref b3), .unset, .unset] [(.ref b3)])) _
      refine XS.bipush X24.here hx rfl (hb hby at_114) ?_
      show Steps p.tables e below (T24.setTop (mkF m 116 #[.val (.int p0), .val (.long q1), .second, .val (.long q2), .second, .val (.int x5_6), .val (.int x6_13), .val (.ref b3), .unset, .unset] [(.int (11 : Int32)), (.ref b3)])) _
      refine XS.lloadN X24.here hx rfl (hb hby at_116) rfl ?_
      show Steps p.tables e below (T24.setTop (mkF m 117 #[.val (.int p0), .val (.long q1), .second, .val (.long q2), .second, .val (.int x5_6), .val (.int x6_13), .val (.ref b3), .unset, .unset] [(.long q1), (.int (11 : Int32)), (.ref b3)])) _
      refine XS.lloadN X24.here hx rfl (hb hby at_117) rfl ?_
      show Steps p.tables e below (T24.setTop (mkF m 118 #[.val (.int p0), .val (.long q1), .second, .val (.long q2), .second, .val (.int x5_6), .val (.int x6_13), .val (.ref b3), .unset, .unset] [(.long q2), (.long q1), (.int (11 : Int32)), (.ref b3)])) _
      refine st26 _ ?_
      show Steps p.tables e below (T26.setTop (mkF m 121 #[.val (.int p0), .val (.long q1), .second, .val (.long q2), .second, .val (.int x5_6), .val (.int x6_13), .val (.ref b3), .unset, .unset] [])) _
      refine XS.aload X26.here hx rfl (hb hby at_121) rfl rfl ?_
      show Steps p.tables e below (T26.setTop (mkF m 123 #[.val (.int p0), .val (.long q1), .second, .val (.long q2), .second, .val (.int x5_6), .val (.int x6_13), .val (.ref b3), .unset, .unset] [(.ref b3)])) _
      refine XS.bipush X26.here hx rfl (hb hby at_123) ?_
      show Steps p.tables e below (T26.setTop (mkF m 125 #[.val (.int p0), .val (.long q1), .second, .val (.long q2), .second, .val (.int x5_6), .val (.int x6_13), .val (.ref b3), .unset, .unset] [(.int (12 : Int32)), (.ref b3)])) _
      refine XS.lloadN X26.here hx rfl (hb hby at_125) rfl ?_
      show Steps p.tables e below (T26.setTop (mkF m 126 #[.val (.int p0), .val (.long q1), .second, .val (.long q2), .second, .val (.int x5_6), .val (.int x6_13), .val (.ref b3), .unset, .unset] [(.long q1), (.int (12 : Int32)), (.ref b3)])) _
      refine XS.lloadN X26.here hx rfl (hb hby at_126) rfl ?_
      show Steps p.tables e below (T26.setTop (mkF m 127 #[.val (.int p0), .val (.long q1), .second, .val (.long q2), .second, .val (.int x5_6), .val (.int x6_13), .val (.ref b3), .unset, .unset] [(.long q2), (.long q1), (.int (12 : Int32)), (.ref b3)])) _
      refine st28 _ ?_
      show Steps p.tables e below (T28.setTop (mkF m 130 #[.val (.int p0), .val (.long q1), .second, .val (.long q2), .second, .val (.int x5_6), .val (.int x6_13), .val (.ref b3), .unset, .unset] [])) _
      refine XS.aload X28.here hx rfl (hb hby at_130) rfl rfl ?_
      show Steps p.tables e below (T28.setTop (mkF m 132 #[.val (.int p0), .val (.long q1), .second, .val (.long q2), .second, .val (.int x5_6), .val (.int x6_13), .val (.ref b3), .unset, .unset] [(.ref b3)])) _
      refine XS.bipush X28.here hx rfl (hb hby at_132) ?_
      show Steps p.tables e below (T28.setTop (mkF m 134 #[.val (.int p0), .val (.long q1), .second, .val (.long q2), .second, .val (.int x5_6), .val (.int x6_13), .val (.ref b3), .unset, .unset] [(.int (13 : Int32)), (.ref b3)])) _
      refine XS.lloadN X28.here hx rfl (hb hby at_134) rfl ?_
      show Steps p.tables e below (T28.setTop (mkF m 135 #[.val (.int p0), .val (.long q1), .second, .val (.long q2), .second, .val (.int x5_6), .val (.int x6_13), .val (.ref b3), .unset, .unset] [(.long q1), (.int (13 : Int32)), (.ref b3)])) _
      refine XS.lloadN X28.here hx rfl (hb hby at_135) rfl ?_
      show Steps p.tables e below (T28.setTop (mkF m 136 #[.val (.int p0), .val (.long q1), .second, .val (.long q2), .second, .val (.int x5_6), .val (.int x6_13), .val (.ref b3), .unset, .unset] [(.long q2), (.long q1), (.int (13 : Int32)), (.ref b3)])) _
      refine st30 _ ?_
      show Steps p.tables e below (T30.setTop (mkF m 139 #[.val (.int p0), .val (.long q1), .second, .val (.long q2), .second, .val (.int x5_6), .val (.int x6_13), .val (.ref b3), .unset, .unset] [])) _
      refine XS.aload X30.here hx rfl (hb hby at_139) rfl rfl ?_
      show Steps p.tables e below (T30.setTop (mkF m 141 #[.val (.int p0), .val (.long q1), .second, .val (.long q2), .second, .val (.int x5_6), .val (.int x6_13), .val (.ref b3), .unset, .unset] [(.ref b3)])) _
      refine XS.bipush X30.here hx rfl (hb hby at_141) ?_
      show Steps p.tables e below (T30.setTop (mkF m 143 #[.val (.int p0), .val (.long q1), .second, .val (.long q2), .second, .val (.int x5_6), .val (.int x6_13), .val (.ref b3), .unset, .unset] [(.int (14 : Int32)), (.ref b3)])) _
      refine XS.lloadN X30.here hx rfl (hb hby at_143) rfl ?_
      show Steps p.tables e below (T30.setTop (mkF m 144 #[.val (.int p0), .val (.long q1), .second, .val (.long q2), .second, .val (.int x5_6), .val (.int x6_13), .val (.ref b3), .unset, .unset] [(.long q1), (.int (14 : Int32)), (.ref b3)])) _
      refine XS.lloadN X30.here hx rfl (hb hby at_144) rfl ?_
      show Steps p.tables e below (T30.setTop (mkF m 145 #[.val (.int p0), .val (.long q1), .second, .val (.long q2), .second, .val (.int x5_6), .val (.int x6_13), .val (.ref b3), .unset, .unset] [(.long q2), (.long q1), (.int (14 : Int32)), (.ref b3)])) _
      refine st32 _ ?_
      show Steps p.tables e below (T32.setTop (mkF m 148 #[.val (.int p0), .val (.long q1), .second, .val (.long q2), .second, .val (.int x5_6), .val (.int x6_13), .val (.ref b3), .unset, .unset] [])) _
      refine XS.iload X32.here hx rfl (hb hby at_148) rfl ?_
      show Steps p.tables e below (T32.setTop (mkF m 150 #[.val (.int p0), .val (.long q1), .second, .val (.long q2), .second, .val (.int x5_6), .val (.int x6_13), .val (.ref b3), .unset, .unset] [(.int x6_13)])) _
      refine XS.iconst X32.here hx rfl (hb hby at_150) ?_
      exact k)
  by_cases hc151 : x6_13 = (1 : Int32)
  · have pre35 : own_Pre p e below (s₁.setTop (entryFrame m #[(.int p0), (.long q1), (.long q2)] maxLocals)) (T32.setTop (mkF m 157 #[.val (.int p0), .val (.long q1), .second, .val (.long q2), .second, .val (.int x5_6), .val (.int x6_13), .val (.ref b3), .unset, .unset] [(.int (5 : Int32)), (.int x5_6)])) := fun t k => pre34 t (by
        show Steps p.tables e below (T32.setTop (mkF m 151 #[.val (.int p0), .val (.long q1), .second, .val (.long q2), .second, .val (.int x5_6), .val (.int x6_13), .val (.ref b3), .unset, .unset] [(.int (1 : Int32)), (.int x6_13)])) _
        refine XS.icmpNo X32.here hx rfl (hb hby at_151) rfl (teq hc151).2 ?_
        show Steps p.tables e below (T32.setTop (mkF m 154 #[.val (.int p0), .val (.long q1), .second, .val (.long q2), .second, .val (.int x5_6), .val (.int x6_13), .val (.ref b3), .unset, .unset] [])) _
        refine XS.iload X32.here hx rfl (hb hby at_154) rfl ?_
        show Steps p.tables e below (T32.setTop (mkF m 156 #[.val (.int p0), .val (.long q1), .second, .val (.long q2), .second, .val (.int x5_6), .val (.int x6_13), .val (.ref b3), .unset, .unset] [(.int x5_6)])) _
        refine XS.iconst X32.here hx rfl (hb hby at_156) ?_
        exact k)
    by_cases hc157 : x5_6 < (5 : Int32)
    · have hc171 : ¬ (x6_13 = (2 : Int32)) := by rw [hc151]; decide
      have hc191 : ¬ (x6_13 = (3 : Int32)) := by rw [hc151]; decide
      have pre38 : own_Pre p e below (s₁.setTop (entryFrame m #[(.int p0), (.long q1), (.long q2)] maxLocals)) (T32.setTop (mkF m 214 #[.val (.int p0), .val (.long q1), .second, .val (.long q2), .second, .val (.int x5_6), .val (.int x6_13), .val (.ref b3), .unset, .unset] [(.int (7 : Int32)), (.int x5_6)])) := fun t k => pre35 t (by
          show Steps p.tables e below (T32.setTop (mkF m 157 #[.val (.int p0), .val (.long q1), .second, .val (.long q2), .second, .val (.int x5_6), .val (.int x6_13), .val (.ref b3), .unset, .unset] [(.int (5 : Int32)), (.int x5_6)])) _
          refine XS.icmpYes X32.here hx rfl (pc0 := 157) (pc' := 168) rfl (hb hby at_157) rfl (tlt hc157).1 (by decide) (by decide) ?_
          show Steps p.tables e below (T32.setTop (mkF m 168 #[.val (.int p0), .val (.long q1), .second, .val (.long q2), .second, .val (.int x5_6), .val (.int x6_13), .val (.ref b3), .unset, .unset] [])) _
          refine XS.iload X32.here hx rfl (hb hby at_168) rfl ?_
          show Steps p.tables e below (T32.setTop (mkF m 170 #[.val (.int p0), .val (.long q1), .second, .val (.long q2), .second, .val (.int x5_6), .val (.int x6_13), .val (.ref b3), .unset, .unset] [(.int x6_13)])) _
          refine XS.iconst X32.here hx rfl (hb hby at_170) ?_
          show Steps p.tables e below (T32.setTop (mkF m 171 #[.val (.int p0), .val (.long q1), .second, .val (.long q2), .second, .val (.int x5_6), .val (.int x6_13), .val (.ref b3), .unset, .unset] [(.int (2 : Int32)), (.int x6_13)])) _
          refine XS.icmpYes X32.here hx rfl (pc0 := 171) (pc' := 188) rfl (hb hby at_171) rfl (feq hc171).2 (by decide) (by decide) ?_
          show Steps p.tables e below (T32.setTop (mkF m 188 #[.val (.int p0), .val (.long q1), .second, .val (.long q2), .second, .val (.int x5_6), .val (.int x6_13), .val (.ref b3), .unset, .unset] [])) _
          refine XS.iload X32.here hx rfl (hb hby at_188) rfl ?_
          show Steps p.tables e below (T32.setTop (mkF m 190 #[.val (.int p0), .val (.long q1), .second, .val (.long q2), .second, .val (.int x5_6), .val (.int x6_13), .val (.ref b3), .unset, .unset] [(.int x6_13)])) _
          refine XS.iconst X32.here hx rfl (hb hby at_190) ?_
          show Steps p.tables e below (T32.setTop (mkF m 191 #[.val (.int p0), .val (.long q1), .second, .val (.long q2), .second, .val (.int x5_6), .val (.int x6_13), .val (.ref b3), .unset, .unset] [(.int (3 : Int32)), (.int x6_13)])) _
          refine XS.icmpYes X32.here hx rfl (pc0 := 191) (pc' := 210) rfl (hb hby at_191) rfl (feq hc191).2 (by decide) (by decide) ?_
          show Steps p.tables e below (T32.setTop (mkF m 210 #[.val (.int p0), .val (.long q1), .second, .val (.long q2), .second, .val (.int x5_6), .val (.int x6_13), .val (.ref b3), .unset, .unset] [])) _
          refine XS.iload X32.here hx rfl (hb hby at_210) rfl ?_
          show Steps p.tables e below (T32.setTop (mkF m 212 #[.val (.int p0), .val (.long q1), .second, .val (.long q2), .second, .val (.int x5_6), .val (.int x6_13), .val (.ref b3), .unset, .unset] [(.int x5_6)])) _
          refine XS.bipush X32.here hx rfl (hb hby at_212) ?_
          exact k)
      obtain ⟨m233_s0, hm233_s0, pre37⟩ : ∃ (m233_s0 : Int32), m233_s0 = (own_m0_233_s0 x5_6 wn32) ∧ own_Pre p e below (s₁.setTop (entryFrame m #[(.int p0), (.long q1), (.long q2)] maxLocals)) (T32.setTop (mkF m 233 #[.val (.int p0), .val (.long q1), .second, .val (.long q2), .second, .val (.int x5_6), .val (.int x6_13), .val (.ref b3), .unset, .unset] [(.int m233_s0)])) := by
        by_cases hc214 : (7 : Int32) < x5_6
        · obtain ⟨cl39, Ar39, hin39, hat39⟩ := own_AI.at po32_0 (j := (x5_6 - (5 : Int32))) (own_in5 hc214 (own_n x5_6 hx5_6).2.2)
          have pre40 : own_Pre p e below (s₁.setTop (entryFrame m #[(.int p0), (.long q1), (.long q2)] maxLocals)) (T32.setTop (mkF m 225 #[.val (.int p0), .val (.long q1), .second, .val (.long q2), .second, .val (.int x5_6), .val (.int x6_13), .val (.ref b3), .unset, .unset] [(.int (3 : Int32)), (.int (wn32.getD ((x5_6 - (5 : Int32))).toNatClampNeg (0 : Int32)))])) := fun t k => pre38 t (by
              show Steps p.tables e below (T32.setTop (mkF m 214 #[.val (.int p0), .val (.long q1), .second, .val (.long q2), .second, .val (.int x5_6), .val (.int x6_13), .val (.ref b3), .unset, .unset] [(.int (7 : Int32)), (.int x5_6)])) _
              refine XS.icmpNo X32.here hx rfl (hb hby at_214) rfl (tlt hc214).2.2.2 ?_
              show Steps p.tables e below (T32.setTop (mkF m 217 #[.val (.int p0), .val (.long q1), .second, .val (.long q2), .second, .val (.int x5_6), .val (.int x6_13), .val (.ref b3), .unset, .unset] [])) _
              refine XS.aload X32.here hx rfl (hb hby at_217) rfl rfl ?_
              show Steps p.tables e below (T32.setTop (mkF m 219 #[.val (.int p0), .val (.long q1), .second, .val (.long q2), .second, .val (.int x5_6), .val (.int x6_13), .val (.ref b3), .unset, .unset] [(.ref b3)])) _
              refine XS.iload X32.here hx rfl (hb hby at_219) rfl ?_
              show Steps p.tables e below (T32.setTop (mkF m 221 #[.val (.int p0), .val (.long q1), .second, .val (.long q2), .second, .val (.int x5_6), .val (.int x6_13), .val (.ref b3), .unset, .unset] [(.int x5_6), (.ref b3)])) _
              refine XS.iconst X32.here hx rfl (hb hby at_221) ?_
              show Steps p.tables e below (T32.setTop (mkF m 222 #[.val (.int p0), .val (.long q1), .second, .val (.long q2), .second, .val (.int x5_6), .val (.int x6_13), .val (.ref b3), .unset, .unset] [(.int (5 : Int32)), (.int x5_6), (.ref b3)])) _
              refine XS.isub X32.here hx rfl (hb hby at_222) rfl ?_
              show Steps p.tables e below (T32.setTop (mkF m 223 #[.val (.int p0), .val (.long q1), .second, .val (.long q2), .second, .val (.int x5_6), .val (.int x6_13), .val (.ref b3), .unset, .unset] [(.int (x5_6 - (5 : Int32))), (.ref b3)])) _
              refine X32.baloadBytes hx (j := (x5_6 - (5 : Int32))) (v := (.int (wn32.getD ((x5_6 - (5 : Int32))).toNatClampNeg (0 : Int32)))) Ar39.1 (State.isArrayOf_alike hZ.alike Ar39.2.1) Ar39.2.2 hin39 hat39 (g := (mkF m 223 #[.val (.int p0), .val (.long q1), .second, .val (.long q2), .second, .val (.int x5_6), .val (.int x6_13), .val (.ref b3), .unset, .unset] [(.int (x5_6 - (5 : Int32))), (.ref b3)])) rfl rfl (hb hby at_223) _ ?_
              show Steps p.tables e below (T32.setTop (mkF m 224 #[.val (.int p0), .val (.long q1), .second, .val (.long q2), .second, .val (.int x5_6), .val (.int x6_13), .val (.ref b3), .unset, .unset] [(.int (wn32.getD ((x5_6 - (5 : Int32))).toNatClampNeg (0 : Int32)))])) _
              refine XS.iconst X32.here hx rfl (hb hby at_224) ?_
              exact k)
          by_cases hc225 : (wn32.getD ((x5_6 - (5 : Int32))).toNatClampNeg (0 : Int32)) = (3 : Int32)
          · have pre41 : own_Pre p e below (s₁.setTop (entryFrame m #[(.int p0), (.long q1), (.long q2)] maxLocals)) (T32.setTop (mkF m 233 #[.val (.int p0), .val (.long q1), .second, .val (.long q2), .second, .val (.int x5_6), .val (.int x6_13), .val (.ref b3), .unset, .unset] [(.int (1 : Int32))])) := fun t k => pre40 t (by
                show Steps p.tables e below (T32.setTop (mkF m 225 #[.val (.int p0), .val (.long q1), .second, .val (.long q2), .second, .val (.int x5_6), .val (.int x6_13), .val (.ref b3), .unset, .unset] [(.int (3 : Int32)), (.int (wn32.getD ((x5_6 - (5 : Int32))).toNatClampNeg (0 : Int32)))])) _
                refine XS.icmpNo X32.here hx rfl (hb hby at_225) rfl (teq hc225).2 ?_
                show Steps p.tables e below (T32.setTop (mkF m 228 #[.val (.int p0), .val (.long q1), .second, .val (.long q2), .second, .val (.int x5_6), .val (.int x6_13), .val (.ref b3), .unset, .unset] [])) _
                refine XS.iconst X32.here hx rfl (hb hby at_228) ?_
                show Steps p.tables e below (T32.setTop (mkF m 229 #[.val (.int p0), .val (.long q1), .second, .val (.long q2), .second, .val (.int x5_6), .val (.int x6_13), .val (.ref b3), .unset, .unset] [(.int (1 : Int32))])) _
                refine XS.goto X32.here hx rfl (pc0 := 229) (pc' := 233) rfl (hb hby at_229) (by decide) (by decide) ?_
                exact k)
            refine ⟨_, ?_, pre41⟩
            all_goals (first | (simp only [own_m0_233_s0, if_pos hc214, if_pos hc225]; done) | (simp [own_m0_233_s0, if_pos hc214, if_pos hc225]; done))
          · have pre42 : own_Pre p e below (s₁.setTop (entryFrame m #[(.int p0), (.long q1), (.long q2)] maxLocals)) (T32.setTop (mkF m 233 #[.val (.int p0), .val (.long q1), .second, .val (.long q2), .second, .val (.int x5_6), .val (.int x6_13), .val (.ref b3), .unset, .unset] [(.int (0 : Int32))])) := fun t k => pre40 t (by
                show Steps p.tables e below (T32.setTop (mkF m 225 #[.val (.int p0), .val (.long q1), .second, .val (.long q2), .second, .val (.int x5_6), .val (.int x6_13), .val (.ref b3), .unset, .unset] [(.int (3 : Int32)), (.int (wn32.getD ((x5_6 - (5 : Int32))).toNatClampNeg (0 : Int32)))])) _
                refine XS.icmpYes X32.here hx rfl (pc0 := 225) (pc' := 232) rfl (hb hby at_225) rfl (feq hc225).2 (by decide) (by decide) ?_
                show Steps p.tables e below (T32.setTop (mkF m 232 #[.val (.int p0), .val (.long q1), .second, .val (.long q2), .second, .val (.int x5_6), .val (.int x6_13), .val (.ref b3), .unset, .unset] [])) _
                refine XS.iconst X32.here hx rfl (hb hby at_232) ?_
                exact k)
            refine ⟨_, ?_, pre42⟩
            all_goals (first | (simp only [own_m0_233_s0, if_pos hc214, if_neg hc225]; done) | (simp [own_m0_233_s0, if_pos hc214, if_neg hc225]; done))
        · have pre43 : own_Pre p e below (s₁.setTop (entryFrame m #[(.int p0), (.long q1), (.long q2)] maxLocals)) (T32.setTop (mkF m 233 #[.val (.int p0), .val (.long q1), .second, .val (.long q2), .second, .val (.int x5_6), .val (.int x6_13), .val (.ref b3), .unset, .unset] [(.int (0 : Int32))])) := fun t k => pre38 t (by
              show Steps p.tables e below (T32.setTop (mkF m 214 #[.val (.int p0), .val (.long q1), .second, .val (.long q2), .second, .val (.int x5_6), .val (.int x6_13), .val (.ref b3), .unset, .unset] [(.int (7 : Int32)), (.int x5_6)])) _
              refine XS.icmpYes X32.here hx rfl (pc0 := 214) (pc' := 232) rfl (hb hby at_214) rfl (flt hc214).2.2.2 (by decide) (by decide) ?_
              show Steps p.tables e below (T32.setTop (mkF m 232 #[.val (.int p0), .val (.long q1), .second, .val (.long q2), .second, .val (.int x5_6), .val (.int x6_13), .val (.ref b3), .unset, .unset] [])) _
              refine XS.iconst X32.here hx rfl (hb hby at_232) ?_
              exact k)
          refine ⟨_, ?_, pre43⟩
          all_goals (first | (simp only [own_m0_233_s0, if_neg hc214]; done) | (simp [own_m0_233_s0, if_neg hc214]; done))
      have z45 : n0 ≤ (T32.heap).size := (Nat.le_trans z33 K32.1)
      obtain ⟨_, _, ⟨T44, L44, k44, n44⟩, -, X44, ⟨Lc44, hQ44, l44, y44, z44⟩, st44⟩ := Jvm.LawKit.callS X32 hx (y := (⟨"com/example/tubeline/tubeline/astm/Frame", "endsMessage", "([B)Z"⟩ : MethodName)) hown (mvT hZ (hw _ (List.mem_of_getElem? (i := 5) rfl))) (mvT hZ (hw _ (List.mem_of_getElem? (i := 6) rfl))) (mvT hZ (hw _ (List.mem_of_getElem? (i := 7) rfl))) (mvT hZ (hw _ (List.mem_of_getElem? (i := 8) rfl))) (by decide) (backOf (W := 0) (rm2 l Z aw hw [] (b3) (k3) (x5_6) (wn32) (T32.heap) n0 z45 po32_0 (own_n x5_6 hx5_6).2.2) hZ (hw _ (List.mem_of_getElem? (i := 8) rfl)) (hw _ (List.mem_of_getElem? (i := 7) rfl)) (by decide) (by decide)) (g := (mkF m 237 #[.val (.int p0), .val (.long q1), .second, .val (.long q2), .second, .val (.int x5_6), .val (.int x6_13), .val (.ref b3), .val (.int m233_s0), .unset] [(.ref b3)])) rfl (by rw [hml]; rfl) (argsL := [(.ref b3)]) (rest := []) (lenOf pd_2 rfl) rfl (by show 2 * 0 + _ ≤ _; exact Nat.le_of_eq rfl) (hb hby at_237) (fun _ _ => ⟨rfl, rfl, (by decide : 1 + 0 ≤ _), (by decide : 15 + 0 ≤ _)⟩)
      dsimp only [Pt.U, Pt.locs, Pt.cells, Pt.slots] at X44 l44 y44 z44 st44 hQ44
      subst l44 y44 z44
      obtain ⟨rfl, Nq44, eq44⟩ := hQ44
      have N44 := Fr.app N32 Nq44
      obtain ⟨x9_242, hx9_242, pre46⟩ : ∃ z : Int32, z = (own_f2 x5_6 wn32) ∧ own_Pre p e below (s₁.setTop (entryFrame m #[(.int p0), (.long q1), (.long q2)] maxLocals)) (T44.setTop (mkF m 242 #[.val (.int p0), .val (.long q1), .second, .val (.long q2), .second, .val (.int x5_6), .val (.int x6_13), .val (.ref b3), .val (.int m233_s0), .val (.int z)] [])) := ⟨_, rfl, fun t k => pre37 t (by
          show Steps p.tables e below (T32.setTop (mkF m 233 #[.val (.int p0), .val (.long q1), .second, .val (.long q2), .second, .val (.int x5_6), .val (.int x6_13), .val (.ref b3), .unset, .unset] [(.int m233_s0)])) _
          refine XS.istore X32.here hx rfl (hb hby at_233) rfl (l' := #[.val (.int p0), .val (.long q1), .second, .val (.long q2), .second, .val (.int x5_6), .val (.int x6_13), .val (.ref b3), .val (.int m233_s0), .unset]) rfl ?_
          show Steps p.tables e below (T32.setTop (mkF m 235 #[.val (.int p0), .val (.long q1), .second, .val (.long q2), .second, .val (.int x5_6), .val (.int x6_13), .val (.ref b3), .val (.int m233_s0), .unset] [])) _
          refine XS.aload X32.here hx rfl (hb hby at_235) rfl rfl ?_
          show Steps p.tables e below (T32.setTop (mkF m 237 #[.val (.int p0), .val (.long q1), .second, .val (.long q2), .second, .val (.int x5_6), .val (.int x6_13), .val (.ref b3), .val (.int m233_s0), .unset] [(.ref b3)])) _
          refine st44 _ ?_
          show Steps p.tables e below (T44.setTop (mkF m 240 #[.val (.int p0), .val (.long q1), .second, .val (.long q2), .second, .val (.int x5_6), .val (.int x6_13), .val (.ref b3), .val (.int m233_s0), .unset] [(.int (own_f2 x5_6 wn32))])) _
          refine XS.istore X44.here hx rfl (hb hby at_240) rfl (l' := #[.val (.int p0), .val (.long q1), .second, .val (.long q2), .second, .val (.int x5_6), .val (.int x6_13), .val (.ref b3), .val (.int m233_s0), .val (.int (own_f2 x5_6 wn32))]) rfl ?_
          exact k)⟩
      have hc246 : (x9_242 = m233_s0) := by rw [hx9_242, hm233_s0]; exact own_plain _ _
      obtain ⟨fs, hr, hrun, hended, hW, hsame⟩ := X44.leave (v := some (.int (1 : Int32))) (fun h => by rw [Bd.returns] at h; cases h)
      refine ⟨_, _, pre46 _ ?_, hrun, hended, _, _, rfl, ?_, ⟨_, rfl⟩, hW, hsame.mono (by decide) (by decide)⟩
      · show Steps p.tables e below (T44.setTop (mkF m 242 #[.val (.int p0), .val (.long q1), .second, .val (.long q2), .second, .val (.int x5_6), .val (.int x6_13), .val (.ref b3), .val (.int m233_s0), .val (.int x9_242)] [])) _
        refine XS.iload X44.here hx rfl (hb hby at_242) rfl ?_
        show Steps p.tables e below (T44.setTop (mkF m 244 #[.val (.int p0), .val (.long q1), .second, .val (.long q2), .second, .val (.int x5_6), .val (.int x6_13), .val (.ref b3), .val (.int m233_s0), .val (.int x9_242)] [(.int x9_242)])) _
        refine XS.iload X44.here hx rfl (hb hby at_244) rfl ?_
        show Steps p.tables e below (T44.setTop (mkF m 246 #[.val (.int p0), .val (.long q1), .second, .val (.long q2), .second, .val (.int x5_6), .val (.int x6_13), .val (.ref b3), .val (.int m233_s0), .val (.int x9_242)] [(.int m233_s0), (.int x9_242)])) _
        refine XS.icmpNo X44.here hx rfl (hb hby at_246) rfl (teq hc246).2 ?_
        show Steps p.tables e below (T44.setTop (mkF m 249 #[.val (.int p0), .val (.long q1), .second, .val (.long q2), .second, .val (.int x5_6), .val (.int x6_13), .val (.ref b3), .val (.int m233_s0), .val (.int x9_242)] [])) _
        refine XS.iconst X44.here hx rfl (hb hby at_249) ?_
        show Steps p.tables e below (T44.setTop (mkF m 250 #[.val (.int p0), .val (.long q1), .second, .val (.long q2), .second, .val (.int x5_6), .val (.int x6_13), .val (.ref b3), .val (.int m233_s0), .val (.int x9_242)] [(.int (1 : Int32))])) _
        refine XS.goto X44.here hx rfl (pc0 := 250) (pc' := 254) rfl (hb hby at_250) (by decide) (by decide) ?_
        show Steps p.tables e below (T44.setTop (mkF m 254 #[.val (.int p0), .val (.long q1), .second, .val (.long q2), .second, .val (.int x5_6), .val (.int x6_13), .val (.ref b3), .val (.int m233_s0), .val (.int x9_242)] [(.int (1 : Int32))])) _
        exact retN X44 hx (t := .boolean) Bd.returns (by simp) (hb hby at_254) hr
      · show Q0 Z p0 q1 q2 h0 n0 _ T44.heap _
        rw [eq44]
        unfold Q0
        refine ⟨rfl, N44⟩
    · obtain ⟨cl47, Ar47, hin47, set47⟩ := own_AI.arr po32_0 (j := (x5_6 - (5 : Int32))) (own_k5 (own_n x5_6 hx5_6).2.2 hc157)
      obtain ⟨T47, h47, X47, e47, W47, st47⟩ := stB X32 hx hZ rfl Ar47 (j := (x5_6 - (5 : Int32))) hin47 (g := (mkF m 167 #[.val (.int p0), .val (.long q1), .second, .val (.long q2), .second, .val (.int x5_6), .val (.int x6_13), .val (.ref b3), .unset, .unset] [(.int (3 : Int32)), (.int (x5_6 - (5 : Int32))), (.ref b3)])) rfl rfl (hb hby at_167)
      have V47 : own_AI Z h47 b3 k3 .byte x5_6 (wn32.set ((x5_6 - (5 : Int32))).toNatClampNeg (3 : Int32)) := set47 _ _ rfl W47
      obtain ⟨ws47, hws47⟩ : ∃ z, z = (wn32.set ((x5_6 - (5 : Int32))).toNatClampNeg (3 : Int32)) := ⟨_, rfl⟩
      rw [← hws47] at V47
      have N47 := Fr.snoc X47 N32 g_b3
      have hc171 : ¬ (x6_13 = (2 : Int32)) := by rw [hc151]; decide
      have hc191 : ¬ (x6_13 = (3 : Int32)) := by rw [hc151]; decide
      have pre50 : own_Pre p e below (s₁.setTop (entryFrame m #[(.int p0), (.long q1), (.long q2)] maxLocals)) (T47.setTop (mkF m 214 #[.val (.int p0), .val (.long q1), .second, .val (.long q2), .second, .val (.int x5_6), .val (.int x6_13), .val (.ref b3), .unset, .unset] [(.int (7 : Int32)), (.int x5_6)])) := fun t k => pre35 t (by
          show Steps p.tables e below (T32.setTop (mkF m 157 #[.val (.int p0), .val (.long q1), .second, .val (.long q2), .second, .val (.int x5_6), .val (.int x6_13), .val (.ref b3), .unset, .unset] [(.int (5 : Int32)), (.int x5_6)])) _
          refine XS.icmpNo X32.here hx rfl (hb hby at_157) rfl (flt hc157).1 ?_
          show Steps p.tables e below (T32.setTop (mkF m 160 #[.val (.int p0), .val (.long q1), .second, .val (.long q2), .second, .val (.int x5_6), .val (.int x6_13), .val (.ref b3), .unset, .unset] [])) _
          refine XS.aload X32.here hx rfl (hb hby at_160) rfl rfl ?_
          show Steps p.tables e below (T32.setTop (mkF m 162 #[.val (.int p0), .val (.long q1), .second, .val (.long q2), .second, .val (.int x5_6), .val (.int x6_13), .val (.ref b3), .unset, .unset] [(.ref b3)])) _
          refine XS.iload X32.here hx rfl (hb hby at_162) rfl ?_
          show Steps p.tables e below (T32.setTop (mkF m 164 #[.val (.int p0), .val (.long q1), .second, .val (.long q2), .second, .val (.int x5_6), .val (.int x6_13), .val (.ref b3), .unset, .unset] [(.int x5_6), (.ref b3)])) _
          refine XS.iconst X32.here hx rfl (hb hby at_164) ?_
          show Steps p.tables e below (T32.setTop (mkF m 165 #[.val (.int p0), .val (.long q1), .second, .val (.long q2), .second, .val (.int x5_6), .val (.int x6_13), .val (.ref b3), .unset, .unset] [(.int (5 : Int32)), (.int x5_6), (.ref b3)])) _
          refine XS.isub X32.here hx rfl (hb hby at_165) rfl ?_
          show Steps p.tables e below (T32.setTop (mkF m 166 #[.val (.int p0), .val (.long q1), .second, .val (.long q2), .second, .val (.int x5_6), .val (.int x6_13), .val (.ref b3), .unset, .unset] [(.int (x5_6 - (5 : Int32))), (.ref b3)])) _
          refine XS.iconst X32.here hx rfl (hb hby at_166) ?_
          show Steps p.tables e below (T32.setTop (mkF m 167 #[.val (.int p0), .val (.long q1), .second, .val (.long q2), .second, .val (.int x5_6), .val (.int x6_13), .val (.ref b3), .unset, .unset] [(.int (3 : Int32)), (.int (x5_6 - (5 : Int32))), (.ref b3)])) _
          refine st47 _ ?_
          show Steps p.tables e below (T47.setTop (mkF m 168 #[.val (.int p0), .val (.long q1), .second, .val (.long q2), .second, .val (.int x5_6), .val (.int x6_13), .val (.ref b3), .unset, .unset] [])) _
          refine XS.iload X47.here hx rfl (hb hby at_168) rfl ?_
          show Steps p.tables e below (T47.setTop (mkF m 170 #[.val (.int p0), .val (.long q1), .second, .val (.long q2), .second, .val (.int x5_6), .val (.int x6_13), .val (.ref b3), .unset, .unset] [(.int x6_13)])) _
          refine XS.iconst X47.here hx rfl (hb hby at_170) ?_
          show Steps p.tables e below (T47.setTop (mkF m 171 #[.val (.int p0), .val (.long q1), .second, .val (.long q2), .second, .val (.int x5_6), .val (.int x6_13), .val (.ref b3), .unset, .unset] [(.int (2 : Int32)), (.int x6_13)])) _
          refine XS.icmpYes X47.here hx rfl (pc0 := 171) (pc' := 188) rfl (hb hby at_171) rfl (feq hc171).2 (by decide) (by decide) ?_
          show Steps p.tables e below (T47.setTop (mkF m 188 #[.val (.int p0), .val (.long q1), .second, .val (.long q2), .second, .val (.int x5_6), .val (.int x6_13), .val (.ref b3), .unset, .unset] [])) _
          refine XS.iload X47.here hx rfl (hb hby at_188) rfl ?_
          show Steps p.tables e below (T47.setTop (mkF m 190 #[.val (.int p0), .val (.long q1), .second, .val (.long q2), .second, .val (.int x5_6), .val (.int x6_13), .val (.ref b3), .unset, .unset] [(.int x6_13)])) _
          refine XS.iconst X47.here hx rfl (hb hby at_190) ?_
          show Steps p.tables e below (T47.setTop (mkF m 191 #[.val (.int p0), .val (.long q1), .second, .val (.long q2), .second, .val (.int x5_6), .val (.int x6_13), .val (.ref b3), .unset, .unset] [(.int (3 : Int32)), (.int x6_13)])) _
          refine XS.icmpYes X47.here hx rfl (pc0 := 191) (pc' := 210) rfl (hb hby at_191) rfl (feq hc191).2 (by decide) (by decide) ?_
          show Steps p.tables e below (T47.setTop (mkF m 210 #[.val (.int p0), .val (.long q1), .second, .val (.long q2), .second, .val (.int x5_6), .val (.int x6_13), .val (.ref b3), .unset, .unset] [])) _
          refine XS.iload X47.here hx rfl (hb hby at_210) rfl ?_
          show Steps p.tables e below (T47.setTop (mkF m 212 #[.val (.int p0), .val (.long q1), .second, .val (.long q2), .second, .val (.int x5_6), .val (.int x6_13), .val (.ref b3), .unset, .unset] [(.int x5_6)])) _
          refine XS.bipush X47.here hx rfl (hb hby at_212) ?_
          exact k)
      obtain ⟨m233_s0, hm233_s0, pre49⟩ : ∃ (m233_s0 : Int32), m233_s0 = (own_m0_233_s0 x5_6 ws47) ∧ own_Pre p e below (s₁.setTop (entryFrame m #[(.int p0), (.long q1), (.long q2)] maxLocals)) (T47.setTop (mkF m 233 #[.val (.int p0), .val (.long q1), .second, .val (.long q2), .second, .val (.int x5_6), .val (.int x6_13), .val (.ref b3), .unset, .unset] [(.int m233_s0)])) := by
        by_cases hc214 : (7 : Int32) < x5_6
        · obtain ⟨cl51, Ar51, hin51, hat51⟩ := own_AI.at V47 (j := (x5_6 - (5 : Int32))) (own_in5 hc214 (own_n x5_6 hx5_6).2.2)
          have pre52 : own_Pre p e below (s₁.setTop (entryFrame m #[(.int p0), (.long q1), (.long q2)] maxLocals)) (T47.setTop (mkF m 225 #[.val (.int p0), .val (.long q1), .second, .val (.long q2), .second, .val (.int x5_6), .val (.int x6_13), .val (.ref b3), .unset, .unset] [(.int (3 : Int32)), (.int (ws47.getD ((x5_6 - (5 : Int32))).toNatClampNeg (0 : Int32)))])) := fun t k => pre50 t (by
              show Steps p.tables e below (T47.setTop (mkF m 214 #[.val (.int p0), .val (.long q1), .second, .val (.long q2), .second, .val (.int x5_6), .val (.int x6_13), .val (.ref b3), .unset, .unset] [(.int (7 : Int32)), (.int x5_6)])) _
              refine XS.icmpNo X47.here hx rfl (hb hby at_214) rfl (tlt hc214).2.2.2 ?_
              show Steps p.tables e below (T47.setTop (mkF m 217 #[.val (.int p0), .val (.long q1), .second, .val (.long q2), .second, .val (.int x5_6), .val (.int x6_13), .val (.ref b3), .unset, .unset] [])) _
              refine XS.aload X47.here hx rfl (hb hby at_217) rfl rfl ?_
              show Steps p.tables e below (T47.setTop (mkF m 219 #[.val (.int p0), .val (.long q1), .second, .val (.long q2), .second, .val (.int x5_6), .val (.int x6_13), .val (.ref b3), .unset, .unset] [(.ref b3)])) _
              refine XS.iload X47.here hx rfl (hb hby at_219) rfl ?_
              show Steps p.tables e below (T47.setTop (mkF m 221 #[.val (.int p0), .val (.long q1), .second, .val (.long q2), .second, .val (.int x5_6), .val (.int x6_13), .val (.ref b3), .unset, .unset] [(.int x5_6), (.ref b3)])) _
              refine XS.iconst X47.here hx rfl (hb hby at_221) ?_
              show Steps p.tables e below (T47.setTop (mkF m 222 #[.val (.int p0), .val (.long q1), .second, .val (.long q2), .second, .val (.int x5_6), .val (.int x6_13), .val (.ref b3), .unset, .unset] [(.int (5 : Int32)), (.int x5_6), (.ref b3)])) _
              refine XS.isub X47.here hx rfl (hb hby at_222) rfl ?_
              show Steps p.tables e below (T47.setTop (mkF m 223 #[.val (.int p0), .val (.long q1), .second, .val (.long q2), .second, .val (.int x5_6), .val (.int x6_13), .val (.ref b3), .unset, .unset] [(.int (x5_6 - (5 : Int32))), (.ref b3)])) _
              refine X47.baloadBytes hx (j := (x5_6 - (5 : Int32))) (v := (.int (ws47.getD ((x5_6 - (5 : Int32))).toNatClampNeg (0 : Int32)))) (by rw [e47]; exact Ar51.1) (State.isArrayOf_alike hZ.alike Ar51.2.1) Ar51.2.2 hin51 hat51 (g := (mkF m 223 #[.val (.int p0), .val (.long q1), .second, .val (.long q2), .second, .val (.int x5_6), .val (.int x6_13), .val (.ref b3), .unset, .unset] [(.int (x5_6 - (5 : Int32))), (.ref b3)])) rfl rfl (hb hby at_223) _ ?_
              show Steps p.tables e below (T47.setTop (mkF m 224 #[.val (.int p0), .val (.long q1), .second, .val (.long q2), .second, .val (.int x5_6), .val (.int x6_13), .val (.ref b3), .unset, .unset] [(.int (ws47.getD ((x5_6 - (5 : Int32))).toNatClampNeg (0 : Int32)))])) _
              refine XS.iconst X47.here hx rfl (hb hby at_224) ?_
              exact k)
          by_cases hc225 : (ws47.getD ((x5_6 - (5 : Int32))).toNatClampNeg (0 : Int32)) = (3 : Int32)
          · have pre53 : own_Pre p e below (s₁.setTop (entryFrame m #[(.int p0), (.long q1), (.long q2)] maxLocals)) (T47.setTop (mkF m 233 #[.val (.int p0), .val (.long q1), .second, .val (.long q2), .second, .val (.int x5_6), .val (.int x6_13), .val (.ref b3), .unset, .unset] [(.int (1 : Int32))])) := fun t k => pre52 t (by
                show Steps p.tables e below (T47.setTop (mkF m 225 #[.val (.int p0), .val (.long q1), .second, .val (.long q2), .second, .val (.int x5_6), .val (.int x6_13), .val (.ref b3), .unset, .unset] [(.int (3 : Int32)), (.int (ws47.getD ((x5_6 - (5 : Int32))).toNatClampNeg (0 : Int32)))])) _
                refine XS.icmpNo X47.here hx rfl (hb hby at_225) rfl (teq hc225).2 ?_
                show Steps p.tables e below (T47.setTop (mkF m 228 #[.val (.int p0), .val (.long q1), .second, .val (.long q2), .second, .val (.int x5_6), .val (.int x6_13), .val (.ref b3), .unset, .unset] [])) _
                refine XS.iconst X47.here hx rfl (hb hby at_228) ?_
                show Steps p.tables e below (T47.setTop (mkF m 229 #[.val (.int p0), .val (.long q1), .second, .val (.long q2), .second, .val (.int x5_6), .val (.int x6_13), .val (.ref b3), .unset, .unset] [(.int (1 : Int32))])) _
                refine XS.goto X47.here hx rfl (pc0 := 229) (pc' := 233) rfl (hb hby at_229) (by decide) (by decide) ?_
                exact k)
            refine ⟨_, ?_, pre53⟩
            all_goals (first | (simp only [own_m0_233_s0, if_pos hc214, if_pos hc225]; done) | (simp [own_m0_233_s0, if_pos hc214, if_pos hc225]; done))
          · have pre54 : own_Pre p e below (s₁.setTop (entryFrame m #[(.int p0), (.long q1), (.long q2)] maxLocals)) (T47.setTop (mkF m 233 #[.val (.int p0), .val (.long q1), .second, .val (.long q2), .second, .val (.int x5_6), .val (.int x6_13), .val (.ref b3), .unset, .unset] [(.int (0 : Int32))])) := fun t k => pre52 t (by
                show Steps p.tables e below (T47.setTop (mkF m 225 #[.val (.int p0), .val (.long q1), .second, .val (.long q2), .second, .val (.int x5_6), .val (.int x6_13), .val (.ref b3), .unset, .unset] [(.int (3 : Int32)), (.int (ws47.getD ((x5_6 - (5 : Int32))).toNatClampNeg (0 : Int32)))])) _
                refine XS.icmpYes X47.here hx rfl (pc0 := 225) (pc' := 232) rfl (hb hby at_225) rfl (feq hc225).2 (by decide) (by decide) ?_
                show Steps p.tables e below (T47.setTop (mkF m 232 #[.val (.int p0), .val (.long q1), .second, .val (.long q2), .second, .val (.int x5_6), .val (.int x6_13), .val (.ref b3), .unset, .unset] [])) _
                refine XS.iconst X47.here hx rfl (hb hby at_232) ?_
                exact k)
            refine ⟨_, ?_, pre54⟩
            all_goals (first | (simp only [own_m0_233_s0, if_pos hc214, if_neg hc225]; done) | (simp [own_m0_233_s0, if_pos hc214, if_neg hc225]; done))
        · have pre55 : own_Pre p e below (s₁.setTop (entryFrame m #[(.int p0), (.long q1), (.long q2)] maxLocals)) (T47.setTop (mkF m 233 #[.val (.int p0), .val (.long q1), .second, .val (.long q2), .second, .val (.int x5_6), .val (.int x6_13), .val (.ref b3), .unset, .unset] [(.int (0 : Int32))])) := fun t k => pre50 t (by
              show Steps p.tables e below (T47.setTop (mkF m 214 #[.val (.int p0), .val (.long q1), .second, .val (.long q2), .second, .val (.int x5_6), .val (.int x6_13), .val (.ref b3), .unset, .unset] [(.int (7 : Int32)), (.int x5_6)])) _
              refine XS.icmpYes X47.here hx rfl (pc0 := 214) (pc' := 232) rfl (hb hby at_214) rfl (flt hc214).2.2.2 (by decide) (by decide) ?_
              show Steps p.tables e below (T47.setTop (mkF m 232 #[.val (.int p0), .val (.long q1), .second, .val (.long q2), .second, .val (.int x5_6), .val (.int x6_13), .val (.ref b3), .unset, .unset] [])) _
              refine XS.iconst X47.here hx rfl (hb hby at_232) ?_
              exact k)
          refine ⟨_, ?_, pre55⟩
          all_goals (first | (simp only [own_m0_233_s0, if_neg hc214]; done) | (simp [own_m0_233_s0, if_neg hc214]; done))
      have z57 : n0 ≤ (h47).size := (Nat.le_trans (Nat.le_trans z33 K32.1) (Keep.of_wr W47).1)
      obtain ⟨_, _, ⟨T56, L56, k56, n56⟩, -, X56, ⟨Lc56, hQ56, l56, y56, z56⟩, st56⟩ := Jvm.LawKit.callS X47 hx (y := (⟨"com/example/tubeline/tubeline/astm/Frame", "endsMessage", "([B)Z"⟩ : MethodName)) hown (mvT hZ (hw _ (List.mem_of_getElem? (i := 5) rfl))) (mvT hZ (hw _ (List.mem_of_getElem? (i := 6) rfl))) (mvT hZ (hw _ (List.mem_of_getElem? (i := 7) rfl))) (mvT hZ (hw _ (List.mem_of_getElem? (i := 8) rfl))) (by decide) (backOf (W := 0) (rm2 l Z aw hw [] (b3) (k3) (x5_6) (ws47) (h47) n0 z57 V47 (own_n x5_6 hx5_6).2.2) hZ (hw _ (List.mem_of_getElem? (i := 8) rfl)) (hw _ (List.mem_of_getElem? (i := 7) rfl)) (by decide) (by decide)) (g := (mkF m 237 #[.val (.int p0), .val (.long q1), .second, .val (.long q2), .second, .val (.int x5_6), .val (.int x6_13), .val (.ref b3), .val (.int m233_s0), .unset] [(.ref b3)])) rfl (by rw [hml]; rfl) (argsL := [(.ref b3)]) (rest := []) (lenOf pd_2 rfl) rfl (by show 2 * 0 + _ ≤ _; exact Nat.le_of_eq rfl) (hb hby at_237) (fun _ _ => ⟨rfl, e47, (by decide : 1 + 0 ≤ _), (by decide : 15 + 0 ≤ _)⟩)
      dsimp only [Pt.U, Pt.locs, Pt.cells, Pt.slots] at X56 l56 y56 z56 st56 hQ56
      subst l56 y56 z56
      obtain ⟨rfl, Nq56, eq56⟩ := hQ56
      have N56 := Fr.app N47 Nq56
      obtain ⟨x9_242, hx9_242, pre58⟩ : ∃ z : Int32, z = (own_f2 x5_6 ws47) ∧ own_Pre p e below (s₁.setTop (entryFrame m #[(.int p0), (.long q1), (.long q2)] maxLocals)) (T56.setTop (mkF m 242 #[.val (.int p0), .val (.long q1), .second, .val (.long q2), .second, .val (.int x5_6), .val (.int x6_13), .val (.ref b3), .val (.int m233_s0), .val (.int z)] [])) := ⟨_, rfl, fun t k => pre49 t (by
          show Steps p.tables e below (T47.setTop (mkF m 233 #[.val (.int p0), .val (.long q1), .second, .val (.long q2), .second, .val (.int x5_6), .val (.int x6_13), .val (.ref b3), .unset, .unset] [(.int m233_s0)])) _
          refine XS.istore X47.here hx rfl (hb hby at_233) rfl (l' := #[.val (.int p0), .val (.long q1), .second, .val (.long q2), .second, .val (.int x5_6), .val (.int x6_13), .val (.ref b3), .val (.int m233_s0), .unset]) rfl ?_
          show Steps p.tables e below (T47.setTop (mkF m 235 #[.val (.int p0), .val (.long q1), .second, .val (.long q2), .second, .val (.int x5_6), .val (.int x6_13), .val (.ref b3), .val (.int m233_s0), .unset] [])) _
          refine XS.aload X47.here hx rfl (hb hby at_235) rfl rfl ?_
          show Steps p.tables e below (T47.setTop (mkF m 237 #[.val (.int p0), .val (.long q1), .second, .val (.long q2), .second, .val (.int x5_6), .val (.int x6_13), .val (.ref b3), .val (.int m233_s0), .unset] [(.ref b3)])) _
          refine st56 _ ?_
          show Steps p.tables e below (T56.setTop (mkF m 240 #[.val (.int p0), .val (.long q1), .second, .val (.long q2), .second, .val (.int x5_6), .val (.int x6_13), .val (.ref b3), .val (.int m233_s0), .unset] [(.int (own_f2 x5_6 ws47))])) _
          refine XS.istore X56.here hx rfl (hb hby at_240) rfl (l' := #[.val (.int p0), .val (.long q1), .second, .val (.long q2), .second, .val (.int x5_6), .val (.int x6_13), .val (.ref b3), .val (.int m233_s0), .val (.int (own_f2 x5_6 ws47))]) rfl ?_
          exact k)⟩
      have hc246 : (x9_242 = m233_s0) := by rw [hx9_242, hm233_s0]; exact own_plain _ _
      obtain ⟨fs, hr, hrun, hended, hW, hsame⟩ := X56.leave (v := some (.int (1 : Int32))) (fun h => by rw [Bd.returns] at h; cases h)
      refine ⟨_, _, pre58 _ ?_, hrun, hended, _, _, rfl, ?_, ⟨_, rfl⟩, hW, hsame.mono (by decide) (by decide)⟩
      · show Steps p.tables e below (T56.setTop (mkF m 242 #[.val (.int p0), .val (.long q1), .second, .val (.long q2), .second, .val (.int x5_6), .val (.int x6_13), .val (.ref b3), .val (.int m233_s0), .val (.int x9_242)] [])) _
        refine XS.iload X56.here hx rfl (hb hby at_242) rfl ?_
        show Steps p.tables e below (T56.setTop (mkF m 244 #[.val (.int p0), .val (.long q1), .second, .val (.long q2), .second, .val (.int x5_6), .val (.int x6_13), .val (.ref b3), .val (.int m233_s0), .val (.int x9_242)] [(.int x9_242)])) _
        refine XS.iload X56.here hx rfl (hb hby at_244) rfl ?_
        show Steps p.tables e below (T56.setTop (mkF m 246 #[.val (.int p0), .val (.long q1), .second, .val (.long q2), .second, .val (.int x5_6), .val (.int x6_13), .val (.ref b3), .val (.int m233_s0), .val (.int x9_242)] [(.int m233_s0), (.int x9_242)])) _
        refine XS.icmpNo X56.here hx rfl (hb hby at_246) rfl (teq hc246).2 ?_
        show Steps p.tables e below (T56.setTop (mkF m 249 #[.val (.int p0), .val (.long q1), .second, .val (.long q2), .second, .val (.int x5_6), .val (.int x6_13), .val (.ref b3), .val (.int m233_s0), .val (.int x9_242)] [])) _
        refine XS.iconst X56.here hx rfl (hb hby at_249) ?_
        show Steps p.tables e below (T56.setTop (mkF m 250 #[.val (.int p0), .val (.long q1), .second, .val (.long q2), .second, .val (.int x5_6), .val (.int x6_13), .val (.ref b3), .val (.int m233_s0), .val (.int x9_242)] [(.int (1 : Int32))])) _
        refine XS.goto X56.here hx rfl (pc0 := 250) (pc' := 254) rfl (hb hby at_250) (by decide) (by decide) ?_
        show Steps p.tables e below (T56.setTop (mkF m 254 #[.val (.int p0), .val (.long q1), .second, .val (.long q2), .second, .val (.int x5_6), .val (.int x6_13), .val (.ref b3), .val (.int m233_s0), .val (.int x9_242)] [(.int (1 : Int32))])) _
        exact retN X56 hx (t := .boolean) Bd.returns (by simp) (hb hby at_254) hr
      · show Q0 Z p0 q1 q2 h0 n0 _ T56.heap _
        rw [eq56]
        unfold Q0
        refine ⟨rfl, N56⟩
  · have pre59 : own_Pre p e below (s₁.setTop (entryFrame m #[(.int p0), (.long q1), (.long q2)] maxLocals)) (T32.setTop (mkF m 171 #[.val (.int p0), .val (.long q1), .second, .val (.long q2), .second, .val (.int x5_6), .val (.int x6_13), .val (.ref b3), .unset, .unset] [(.int (2 : Int32)), (.int x6_13)])) := fun t k => pre34 t (by
        show Steps p.tables e below (T32.setTop (mkF m 151 #[.val (.int p0), .val (.long q1), .second, .val (.long q2), .second, .val (.int x5_6), .val (.int x6_13), .val (.ref b3), .unset, .unset] [(.int (1 : Int32)), (.int x6_13)])) _
        refine XS.icmpYes X32.here hx rfl (pc0 := 151) (pc' := 168) rfl (hb hby at_151) rfl (feq hc151).2 (by decide) (by decide) ?_
        show Steps p.tables e below (T32.setTop (mkF m 168 #[.val (.int p0), .val (.long q1), .second, .val (.long q2), .second, .val (.int x5_6), .val (.int x6_13), .val (.ref b3), .unset, .unset] [])) _
        refine XS.iload X32.here hx rfl (hb hby at_168) rfl ?_
        show Steps p.tables e below (T32.setTop (mkF m 170 #[.val (.int p0), .val (.long q1), .second, .val (.long q2), .second, .val (.int x5_6), .val (.int x6_13), .val (.ref b3), .unset, .unset] [(.int x6_13)])) _
        refine XS.iconst X32.here hx rfl (hb hby at_170) ?_
        exact k)
    by_cases hc171 : x6_13 = (2 : Int32)
    · have pre60 : own_Pre p e below (s₁.setTop (entryFrame m #[(.int p0), (.long q1), (.long q2)] maxLocals)) (T32.setTop (mkF m 177 #[.val (.int p0), .val (.long q1), .second, .val (.long q2), .second, .val (.int x5_6), .val (.int x6_13), .val (.ref b3), .unset, .unset] [(.int (4 : Int32)), (.int x5_6)])) := fun t k => pre59 t (by
          show Steps p.tables e below (T32.setTop (mkF m 171 #[.val (.int p0), .val (.long q1), .second, .val (.long q2), .second, .val (.int x5_6), .val (.int x6_13), .val (.ref b3), .unset, .unset] [(.int (2 : Int32)), (.int x6_13)])) _
          refine XS.icmpNo X32.here hx rfl (hb hby at_171) rfl (teq hc171).2 ?_
          show Steps p.tables e below (T32.setTop (mkF m 174 #[.val (.int p0), .val (.long q1), .second, .val (.long q2), .second, .val (.int x5_6), .val (.int x6_13), .val (.ref b3), .unset, .unset] [])) _
          refine XS.iload X32.here hx rfl (hb hby at_174) rfl ?_
          show Steps p.tables e below (T32.setTop (mkF m 176 #[.val (.int p0), .val (.long q1), .second, .val (.long q2), .second, .val (.int x5_6), .val (.int x6_13), .val (.ref b3), .unset, .unset] [(.int x5_6)])) _
          refine XS.iconst X32.here hx rfl (hb hby at_176) ?_
          exact k)
      by_cases hc177 : x5_6 < (4 : Int32)
      · have hc191 : ¬ (x6_13 = (3 : Int32)) := by rw [hc171]; decide
        have pre63 : own_Pre p e below (s₁.setTop (entryFrame m #[(.int p0), (.long q1), (.long q2)] maxLocals)) (T32.setTop (mkF m 214 #[.val (.int p0), .val (.long q1), .second, .val (.long q2), .second, .val (.int x5_6), .val (.int x6_13), .val (.ref b3), .unset, .unset] [(.int (7 : Int32)), (.int x5_6)])) := fun t k => pre60 t (by
            show Steps p.tables e below (T32.setTop (mkF m 177 #[.val (.int p0), .val (.long q1), .second, .val (.long q2), .second, .val (.int x5_6), .val (.int x6_13), .val (.ref b3), .unset, .unset] [(.int (4 : Int32)), (.int x5_6)])) _
            refine XS.icmpYes X32.here hx rfl (pc0 := 177) (pc' := 188) rfl (hb hby at_177) rfl (tlt hc177).1 (by decide) (by decide) ?_
            show Steps p.tables e below (T32.setTop (mkF m 188 #[.val (.int p0), .val (.long q1), .second, .val (.long q2), .second, .val (.int x5_6), .val (.int x6_13), .val (.ref b3), .unset, .unset] [])) _
            refine XS.iload X32.here hx rfl (hb hby at_188) rfl ?_
            show Steps p.tables e below (T32.setTop (mkF m 190 #[.val (.int p0), .val (.long q1), .second, .val (.long q2), .second, .val (.int x5_6), .val (.int x6_13), .val (.ref b3), .unset, .unset] [(.int x6_13)])) _
            refine XS.iconst X32.here hx rfl (hb hby at_190) ?_
            show Steps p.tables e below (T32.setTop (mkF m 191 #[.val (.int p0), .val (.long q1), .second, .val (.long q2), .second, .val (.int x5_6), .val (.int x6_13), .val (.ref b3), .unset, .unset] [(.int (3 : Int32)), (.int x6_13)])) _
            refine XS.icmpYes X32.here hx rfl (pc0 := 191) (pc' := 210) rfl (hb hby at_191) rfl (feq hc191).2 (by decide) (by decide) ?_
            show Steps p.tables e below (T32.setTop (mkF m 210 #[.val (.int p0), .val (.long q1), .second, .val (.long q2), .second, .val (.int x5_6), .val (.int x6_13), .val (.ref b3), .unset, .unset] [])) _
            refine XS.iload X32.here hx rfl (hb hby at_210) rfl ?_
            show Steps p.tables e below (T32.setTop (mkF m 212 #[.val (.int p0), .val (.long q1), .second, .val (.long q2), .second, .val (.int x5_6), .val (.int x6_13), .val (.ref b3), .unset, .unset] [(.int x5_6)])) _
            refine XS.bipush X32.here hx rfl (hb hby at_212) ?_
            exact k)
        obtain ⟨m233_s0, hm233_s0, pre62⟩ : ∃ (m233_s0 : Int32), m233_s0 = (own_m0_233_s0 x5_6 wn32) ∧ own_Pre p e below (s₁.setTop (entryFrame m #[(.int p0), (.long q1), (.long q2)] maxLocals)) (T32.setTop (mkF m 233 #[.val (.int p0), .val (.long q1), .second, .val (.long q2), .second, .val (.int x5_6), .val (.int x6_13), .val (.ref b3), .unset, .unset] [(.int m233_s0)])) := by
          by_cases hc214 : (7 : Int32) < x5_6
          · obtain ⟨cl64, Ar64, hin64, hat64⟩ := own_AI.at po32_0 (j := (x5_6 - (5 : Int32))) (own_in5 hc214 (own_n x5_6 hx5_6).2.2)
            have pre65 : own_Pre p e below (s₁.setTop (entryFrame m #[(.int p0), (.long q1), (.long q2)] maxLocals)) (T32.setTop (mkF m 225 #[.val (.int p0), .val (.long q1), .second, .val (.long q2), .second, .val (.int x5_6), .val (.int x6_13), .val (.ref b3), .unset, .unset] [(.int (3 : Int32)), (.int (wn32.getD ((x5_6 - (5 : Int32))).toNatClampNeg (0 : Int32)))])) := fun t k => pre63 t (by
                show Steps p.tables e below (T32.setTop (mkF m 214 #[.val (.int p0), .val (.long q1), .second, .val (.long q2), .second, .val (.int x5_6), .val (.int x6_13), .val (.ref b3), .unset, .unset] [(.int (7 : Int32)), (.int x5_6)])) _
                refine XS.icmpNo X32.here hx rfl (hb hby at_214) rfl (tlt hc214).2.2.2 ?_
                show Steps p.tables e below (T32.setTop (mkF m 217 #[.val (.int p0), .val (.long q1), .second, .val (.long q2), .second, .val (.int x5_6), .val (.int x6_13), .val (.ref b3), .unset, .unset] [])) _
                refine XS.aload X32.here hx rfl (hb hby at_217) rfl rfl ?_
                show Steps p.tables e below (T32.setTop (mkF m 219 #[.val (.int p0), .val (.long q1), .second, .val (.long q2), .second, .val (.int x5_6), .val (.int x6_13), .val (.ref b3), .unset, .unset] [(.ref b3)])) _
                refine XS.iload X32.here hx rfl (hb hby at_219) rfl ?_
                show Steps p.tables e below (T32.setTop (mkF m 221 #[.val (.int p0), .val (.long q1), .second, .val (.long q2), .second, .val (.int x5_6), .val (.int x6_13), .val (.ref b3), .unset, .unset] [(.int x5_6), (.ref b3)])) _
                refine XS.iconst X32.here hx rfl (hb hby at_221) ?_
                show Steps p.tables e below (T32.setTop (mkF m 222 #[.val (.int p0), .val (.long q1), .second, .val (.long q2), .second, .val (.int x5_6), .val (.int x6_13), .val (.ref b3), .unset, .unset] [(.int (5 : Int32)), (.int x5_6), (.ref b3)])) _
                refine XS.isub X32.here hx rfl (hb hby at_222) rfl ?_
                show Steps p.tables e below (T32.setTop (mkF m 223 #[.val (.int p0), .val (.long q1), .second, .val (.long q2), .second, .val (.int x5_6), .val (.int x6_13), .val (.ref b3), .unset, .unset] [(.int (x5_6 - (5 : Int32))), (.ref b3)])) _
                refine X32.baloadBytes hx (j := (x5_6 - (5 : Int32))) (v := (.int (wn32.getD ((x5_6 - (5 : Int32))).toNatClampNeg (0 : Int32)))) Ar64.1 (State.isArrayOf_alike hZ.alike Ar64.2.1) Ar64.2.2 hin64 hat64 (g := (mkF m 223 #[.val (.int p0), .val (.long q1), .second, .val (.long q2), .second, .val (.int x5_6), .val (.int x6_13), .val (.ref b3), .unset, .unset] [(.int (x5_6 - (5 : Int32))), (.ref b3)])) rfl rfl (hb hby at_223) _ ?_
                show Steps p.tables e below (T32.setTop (mkF m 224 #[.val (.int p0), .val (.long q1), .second, .val (.long q2), .second, .val (.int x5_6), .val (.int x6_13), .val (.ref b3), .unset, .unset] [(.int (wn32.getD ((x5_6 - (5 : Int32))).toNatClampNeg (0 : Int32)))])) _
                refine XS.iconst X32.here hx rfl (hb hby at_224) ?_
                exact k)
            by_cases hc225 : (wn32.getD ((x5_6 - (5 : Int32))).toNatClampNeg (0 : Int32)) = (3 : Int32)
            · have pre66 : own_Pre p e below (s₁.setTop (entryFrame m #[(.int p0), (.long q1), (.long q2)] maxLocals)) (T32.setTop (mkF m 233 #[.val (.int p0), .val (.long q1), .second, .val (.long q2), .second, .val (.int x5_6), .val (.int x6_13), .val (.ref b3), .unset, .unset] [(.int (1 : Int32))])) := fun t k => pre65 t (by
                  show Steps p.tables e below (T32.setTop (mkF m 225 #[.val (.int p0), .val (.long q1), .second, .val (.long q2), .second, .val (.int x5_6), .val (.int x6_13), .val (.ref b3), .unset, .unset] [(.int (3 : Int32)), (.int (wn32.getD ((x5_6 - (5 : Int32))).toNatClampNeg (0 : Int32)))])) _
                  refine XS.icmpNo X32.here hx rfl (hb hby at_225) rfl (teq hc225).2 ?_
                  show Steps p.tables e below (T32.setTop (mkF m 228 #[.val (.int p0), .val (.long q1), .second, .val (.long q2), .second, .val (.int x5_6), .val (.int x6_13), .val (.ref b3), .unset, .unset] [])) _
                  refine XS.iconst X32.here hx rfl (hb hby at_228) ?_
                  show Steps p.tables e below (T32.setTop (mkF m 229 #[.val (.int p0), .val (.long q1), .second, .val (.long q2), .second, .val (.int x5_6), .val (.int x6_13), .val (.ref b3), .unset, .unset] [(.int (1 : Int32))])) _
                  refine XS.goto X32.here hx rfl (pc0 := 229) (pc' := 233) rfl (hb hby at_229) (by decide) (by decide) ?_
                  exact k)
              refine ⟨_, ?_, pre66⟩
              all_goals (first | (simp only [own_m0_233_s0, if_pos hc214, if_pos hc225]; done) | (simp [own_m0_233_s0, if_pos hc214, if_pos hc225]; done))
            · have pre67 : own_Pre p e below (s₁.setTop (entryFrame m #[(.int p0), (.long q1), (.long q2)] maxLocals)) (T32.setTop (mkF m 233 #[.val (.int p0), .val (.long q1), .second, .val (.long q2), .second, .val (.int x5_6), .val (.int x6_13), .val (.ref b3), .unset, .unset] [(.int (0 : Int32))])) := fun t k => pre65 t (by
                  show Steps p.tables e below (T32.setTop (mkF m 225 #[.val (.int p0), .val (.long q1), .second, .val (.long q2), .second, .val (.int x5_6), .val (.int x6_13), .val (.ref b3), .unset, .unset] [(.int (3 : Int32)), (.int (wn32.getD ((x5_6 - (5 : Int32))).toNatClampNeg (0 : Int32)))])) _
                  refine XS.icmpYes X32.here hx rfl (pc0 := 225) (pc' := 232) rfl (hb hby at_225) rfl (feq hc225).2 (by decide) (by decide) ?_
                  show Steps p.tables e below (T32.setTop (mkF m 232 #[.val (.int p0), .val (.long q1), .second, .val (.long q2), .second, .val (.int x5_6), .val (.int x6_13), .val (.ref b3), .unset, .unset] [])) _
                  refine XS.iconst X32.here hx rfl (hb hby at_232) ?_
                  exact k)
              refine ⟨_, ?_, pre67⟩
              all_goals (first | (simp only [own_m0_233_s0, if_pos hc214, if_neg hc225]; done) | (simp [own_m0_233_s0, if_pos hc214, if_neg hc225]; done))
          · have pre68 : own_Pre p e below (s₁.setTop (entryFrame m #[(.int p0), (.long q1), (.long q2)] maxLocals)) (T32.setTop (mkF m 233 #[.val (.int p0), .val (.long q1), .second, .val (.long q2), .second, .val (.int x5_6), .val (.int x6_13), .val (.ref b3), .unset, .unset] [(.int (0 : Int32))])) := fun t k => pre63 t (by
                show Steps p.tables e below (T32.setTop (mkF m 214 #[.val (.int p0), .val (.long q1), .second, .val (.long q2), .second, .val (.int x5_6), .val (.int x6_13), .val (.ref b3), .unset, .unset] [(.int (7 : Int32)), (.int x5_6)])) _
                refine XS.icmpYes X32.here hx rfl (pc0 := 214) (pc' := 232) rfl (hb hby at_214) rfl (flt hc214).2.2.2 (by decide) (by decide) ?_
                show Steps p.tables e below (T32.setTop (mkF m 232 #[.val (.int p0), .val (.long q1), .second, .val (.long q2), .second, .val (.int x5_6), .val (.int x6_13), .val (.ref b3), .unset, .unset] [])) _
                refine XS.iconst X32.here hx rfl (hb hby at_232) ?_
                exact k)
            refine ⟨_, ?_, pre68⟩
            all_goals (first | (simp only [own_m0_233_s0, if_neg hc214]; done) | (simp [own_m0_233_s0, if_neg hc214]; done))
        have z70 : n0 ≤ (T32.heap).size := (Nat.le_trans z33 K32.1)
        obtain ⟨_, _, ⟨T69, L69, k69, n69⟩, -, X69, ⟨Lc69, hQ69, l69, y69, z69⟩, st69⟩ := Jvm.LawKit.callS X32 hx (y := (⟨"com/example/tubeline/tubeline/astm/Frame", "endsMessage", "([B)Z"⟩ : MethodName)) hown (mvT hZ (hw _ (List.mem_of_getElem? (i := 5) rfl))) (mvT hZ (hw _ (List.mem_of_getElem? (i := 6) rfl))) (mvT hZ (hw _ (List.mem_of_getElem? (i := 7) rfl))) (mvT hZ (hw _ (List.mem_of_getElem? (i := 8) rfl))) (by decide) (backOf (W := 0) (rm2 l Z aw hw [] (b3) (k3) (x5_6) (wn32) (T32.heap) n0 z70 po32_0 (own_n x5_6 hx5_6).2.2) hZ (hw _ (List.mem_of_getElem? (i := 8) rfl)) (hw _ (List.mem_of_getElem? (i := 7) rfl)) (by decide) (by decide)) (g := (mkF m 237 #[.val (.int p0), .val (.long q1), .second, .val (.long q2), .second, .val (.int x5_6), .val (.int x6_13), .val (.ref b3), .val (.int m233_s0), .unset] [(.ref b3)])) rfl (by rw [hml]; rfl) (argsL := [(.ref b3)]) (rest := []) (lenOf pd_2 rfl) rfl (by show 2 * 0 + _ ≤ _; exact Nat.le_of_eq rfl) (hb hby at_237) (fun _ _ => ⟨rfl, rfl, (by decide : 1 + 0 ≤ _), (by decide : 15 + 0 ≤ _)⟩)
        dsimp only [Pt.U, Pt.locs, Pt.cells, Pt.slots] at X69 l69 y69 z69 st69 hQ69
        subst l69 y69 z69
        obtain ⟨rfl, Nq69, eq69⟩ := hQ69
        have N69 := Fr.app N32 Nq69
        obtain ⟨x9_242, hx9_242, pre71⟩ : ∃ z : Int32, z = (own_f2 x5_6 wn32) ∧ own_Pre p e below (s₁.setTop (entryFrame m #[(.int p0), (.long q1), (.long q2)] maxLocals)) (T69.setTop (mkF m 242 #[.val (.int p0), .val (.long q1), .second, .val (.long q2), .second, .val (.int x5_6), .val (.int x6_13), .val (.ref b3), .val (.int m233_s0), .val (.int z)] [])) := ⟨_, rfl, fun t k => pre62 t (by
            show Steps p.tables e below (T32.setTop (mkF m 233 #[.val (.int p0), .val (.long q1), .second, .val (.long q2), .second, .val (.int x5_6), .val (.int x6_13), .val (.ref b3), .unset, .unset] [(.int m233_s0)])) _
            refine XS.istore X32.here hx rfl (hb hby at_233) rfl (l' := #[.val (.int p0), .val (.long q1), .second, .val (.long q2), .second, .val (.int x5_6), .val (.int x6_13), .val (.ref b3), .val (.int m233_s0), .unset]) rfl ?_
            show Steps p.tables e below (T32.setTop (mkF m 235 #[.val (.int p0), .val (.long q1), .second, .val (.long q2), .second, .val (.int x5_6), .val (.int x6_13), .val (.ref b3), .val (.int m233_s0), .unset] [])) _
            refine XS.aload X32.here hx rfl (hb hby at_235) rfl rfl ?_
            show Steps p.tables e below (T32.setTop (mkF m 237 #[.val (.int p0), .val (.long q1), .second, .val (.long q2), .second, .val (.int x5_6), .val (.int x6_13), .val (.ref b3), .val (.int m233_s0), .unset] [(.ref b3)])) _
            refine st69 _ ?_
            show Steps p.tables e below (T69.setTop (mkF m 240 #[.val (.int p0), .val (.long q1), .second, .val (.long q2), .second, .val (.int x5_6), .val (.int x6_13), .val (.ref b3), .val (.int m233_s0), .unset] [(.int (own_f2 x5_6 wn32))])) _
            refine XS.istore X69.here hx rfl (hb hby at_240) rfl (l' := #[.val (.int p0), .val (.long q1), .second, .val (.long q2), .second, .val (.int x5_6), .val (.int x6_13), .val (.ref b3), .val (.int m233_s0), .val (.int (own_f2 x5_6 wn32))]) rfl ?_
            exact k)⟩
        have hc246 : (x9_242 = m233_s0) := by rw [hx9_242, hm233_s0]; exact own_plain _ _
        obtain ⟨fs, hr, hrun, hended, hW, hsame⟩ := X69.leave (v := some (.int (1 : Int32))) (fun h => by rw [Bd.returns] at h; cases h)
        refine ⟨_, _, pre71 _ ?_, hrun, hended, _, _, rfl, ?_, ⟨_, rfl⟩, hW, hsame.mono (by decide) (by decide)⟩
        · show Steps p.tables e below (T69.setTop (mkF m 242 #[.val (.int p0), .val (.long q1), .second, .val (.long q2), .second, .val (.int x5_6), .val (.int x6_13), .val (.ref b3), .val (.int m233_s0), .val (.int x9_242)] [])) _
          refine XS.iload X69.here hx rfl (hb hby at_242) rfl ?_
          show Steps p.tables e below (T69.setTop (mkF m 244 #[.val (.int p0), .val (.long q1), .second, .val (.long q2), .second, .val (.int x5_6), .val (.int x6_13), .val (.ref b3), .val (.int m233_s0), .val (.int x9_242)] [(.int x9_242)])) _
          refine XS.iload X69.here hx rfl (hb hby at_244) rfl ?_
          show Steps p.tables e below (T69.setTop (mkF m 246 #[.val (.int p0), .val (.long q1), .second, .val (.long q2), .second, .val (.int x5_6), .val (.int x6_13), .val (.ref b3), .val (.int m233_s0), .val (.int x9_242)] [(.int m233_s0), (.int x9_242)])) _
          refine XS.icmpNo X69.here hx rfl (hb hby at_246) rfl (teq hc246).2 ?_
          show Steps p.tables e below (T69.setTop (mkF m 249 #[.val (.int p0), .val (.long q1), .second, .val (.long q2), .second, .val (.int x5_6), .val (.int x6_13), .val (.ref b3), .val (.int m233_s0), .val (.int x9_242)] [])) _
          refine XS.iconst X69.here hx rfl (hb hby at_249) ?_
          show Steps p.tables e below (T69.setTop (mkF m 250 #[.val (.int p0), .val (.long q1), .second, .val (.long q2), .second, .val (.int x5_6), .val (.int x6_13), .val (.ref b3), .val (.int m233_s0), .val (.int x9_242)] [(.int (1 : Int32))])) _
          refine XS.goto X69.here hx rfl (pc0 := 250) (pc' := 254) rfl (hb hby at_250) (by decide) (by decide) ?_
          show Steps p.tables e below (T69.setTop (mkF m 254 #[.val (.int p0), .val (.long q1), .second, .val (.long q2), .second, .val (.int x5_6), .val (.int x6_13), .val (.ref b3), .val (.int m233_s0), .val (.int x9_242)] [(.int (1 : Int32))])) _
          exact retN X69 hx (t := .boolean) Bd.returns (by simp) (hb hby at_254) hr
        · show Q0 Z p0 q1 q2 h0 n0 _ T69.heap _
          rw [eq69]
          unfold Q0
          refine ⟨rfl, N69⟩
      · obtain ⟨cl72, Ar72, hin72, set72⟩ := own_AI.arr po32_0 (j := (x5_6 - (4 : Int32))) (own_k4 (own_n x5_6 hx5_6).2.2 hc177)
        obtain ⟨T72, h72, X72, e72, W72, st72⟩ := stB X32 hx hZ rfl Ar72 (j := (x5_6 - (4 : Int32))) hin72 (g := (mkF m 187 #[.val (.int p0), .val (.long q1), .second, .val (.long q2), .second, .val (.int x5_6), .val (.int x6_13), .val (.ref b3), .unset, .unset] [(.int (3 : Int32)), (.int (x5_6 - (4 : Int32))), (.ref b3)])) rfl rfl (hb hby at_187)
        have V72 : own_AI Z h72 b3 k3 .byte x5_6 (wn32.set ((x5_6 - (4 : Int32))).toNatClampNeg (3 : Int32)) := set72 _ _ rfl W72
        obtain ⟨ws72, hws72⟩ : ∃ z, z = (wn32.set ((x5_6 - (4 : Int32))).toNatClampNeg (3 : Int32)) := ⟨_, rfl⟩
        rw [← hws72] at V72
        have N72 := Fr.snoc X72 N32 g_b3
        have hc191 : ¬ (x6_13 = (3 : Int32)) := by rw [hc171]; decide
        have pre75 : own_Pre p e below (s₁.setTop (entryFrame m #[(.int p0), (.long q1), (.long q2)] maxLocals)) (T72.setTop (mkF m 214 #[.val (.int p0), .val (.long q1), .second, .val (.long q2), .second, .val (.int x5_6), .val (.int x6_13), .val (.ref b3), .unset, .unset] [(.int (7 : Int32)), (.int x5_6)])) := fun t k => pre60 t (by
            show Steps p.tables e below (T32.setTop (mkF m 177 #[.val (.int p0), .val (.long q1), .second, .val (.long q2), .second, .val (.int x5_6), .val (.int x6_13), .val (.ref b3), .unset, .unset] [(.int (4 : Int32)), (.int x5_6)])) _
            refine XS.icmpNo X32.here hx rfl (hb hby at_177) rfl (flt hc177).1 ?_
            show Steps p.tables e below (T32.setTop (mkF m 180 #[.val (.int p0), .val (.long q1), .second, .val (.long q2), .second, .val (.int x5_6), .val (.int x6_13), .val (.ref b3), .unset, .unset] [])) _
            refine XS.aload X32.here hx rfl (hb hby at_180) rfl rfl ?_
            show Steps p.tables e below (T32.setTop (mkF m 182 #[.val (.int p0), .val (.long q1), .second, .val (.long q2), .second, .val (.int x5_6), .val (.int x6_13), .val (.ref b3), .unset, .unset] [(.ref b3)])) _
            refine XS.iload X32.here hx rfl (hb hby at_182) rfl ?_
            show Steps p.tables e below (T32.setTop (mkF m 184 #[.val (.int p0), .val (.long q1), .second, .val (.long q2), .second, .val (.int x5_6), .val (.int x6_13), .val (.ref b3), .unset, .unset] [(.int x5_6), (.ref b3)])) _
            refine XS.iconst X32.here hx rfl (hb hby at_184) ?_
            show Steps p.tables e below (T32.setTop (mkF m 185 #[.val (.int p0), .val (.long q1), .second, .val (.long q2), .second, .val (.int x5_6), .val (.int x6_13), .val (.ref b3), .unset, .unset] [(.int (4 : Int32)), (.int x5_6), (.ref b3)])) _
            refine XS.isub X32.here hx rfl (hb hby at_185) rfl ?_
            show Steps p.tables e below (T32.setTop (mkF m 186 #[.val (.int p0), .val (.long q1), .second, .val (.long q2), .second, .val (.int x5_6), .val (.int x6_13), .val (.ref b3), .unset, .unset] [(.int (x5_6 - (4 : Int32))), (.ref b3)])) _
            refine XS.iconst X32.here hx rfl (hb hby at_186) ?_
            show Steps p.tables e below (T32.setTop (mkF m 187 #[.val (.int p0), .val (.long q1), .second, .val (.long q2), .second, .val (.int x5_6), .val (.int x6_13), .val (.ref b3), .unset, .unset] [(.int (3 : Int32)), (.int (x5_6 - (4 : Int32))), (.ref b3)])) _
            refine st72 _ ?_
            show Steps p.tables e below (T72.setTop (mkF m 188 #[.val (.int p0), .val (.long q1), .second, .val (.long q2), .second, .val (.int x5_6), .val (.int x6_13), .val (.ref b3), .unset, .unset] [])) _
            refine XS.iload X72.here hx rfl (hb hby at_188) rfl ?_
            show Steps p.tables e below (T72.setTop (mkF m 190 #[.val (.int p0), .val (.long q1), .second, .val (.long q2), .second, .val (.int x5_6), .val (.int x6_13), .val (.ref b3), .unset, .unset] [(.int x6_13)])) _
            refine XS.iconst X72.here hx rfl (hb hby at_190) ?_
            show Steps p.tables e below (T72.setTop (mkF m 191 #[.val (.int p0), .val (.long q1), .second, .val (.long q2), .second, .val (.int x5_6), .val (.int x6_13), .val (.ref b3), .unset, .unset] [(.int (3 : Int32)), (.int x6_13)])) _
            refine XS.icmpYes X72.here hx rfl (pc0 := 191) (pc' := 210) rfl (hb hby at_191) rfl (feq hc191).2 (by decide) (by decide) ?_
            show Steps p.tables e below (T72.setTop (mkF m 210 #[.val (.int p0), .val (.long q1), .second, .val (.long q2), .second, .val (.int x5_6), .val (.int x6_13), .val (.ref b3), .unset, .unset] [])) _
            refine XS.iload X72.here hx rfl (hb hby at_210) rfl ?_
            show Steps p.tables e below (T72.setTop (mkF m 212 #[.val (.int p0), .val (.long q1), .second, .val (.long q2), .second, .val (.int x5_6), .val (.int x6_13), .val (.ref b3), .unset, .unset] [(.int x5_6)])) _
            refine XS.bipush X72.here hx rfl (hb hby at_212) ?_
            exact k)
        obtain ⟨m233_s0, hm233_s0, pre74⟩ : ∃ (m233_s0 : Int32), m233_s0 = (own_m0_233_s0 x5_6 ws72) ∧ own_Pre p e below (s₁.setTop (entryFrame m #[(.int p0), (.long q1), (.long q2)] maxLocals)) (T72.setTop (mkF m 233 #[.val (.int p0), .val (.long q1), .second, .val (.long q2), .second, .val (.int x5_6), .val (.int x6_13), .val (.ref b3), .unset, .unset] [(.int m233_s0)])) := by
          by_cases hc214 : (7 : Int32) < x5_6
          · obtain ⟨cl76, Ar76, hin76, hat76⟩ := own_AI.at V72 (j := (x5_6 - (5 : Int32))) (own_in5 hc214 (own_n x5_6 hx5_6).2.2)
            have pre77 : own_Pre p e below (s₁.setTop (entryFrame m #[(.int p0), (.long q1), (.long q2)] maxLocals)) (T72.setTop (mkF m 225 #[.val (.int p0), .val (.long q1), .second, .val (.long q2), .second, .val (.int x5_6), .val (.int x6_13), .val (.ref b3), .unset, .unset] [(.int (3 : Int32)), (.int (ws72.getD ((x5_6 - (5 : Int32))).toNatClampNeg (0 : Int32)))])) := fun t k => pre75 t (by
                show Steps p.tables e below (T72.setTop (mkF m 214 #[.val (.int p0), .val (.long q1), .second, .val (.long q2), .second, .val (.int x5_6), .val (.int x6_13), .val (.ref b3), .unset, .unset] [(.int (7 : Int32)), (.int x5_6)])) _
                refine XS.icmpNo X72.here hx rfl (hb hby at_214) rfl (tlt hc214).2.2.2 ?_
                show Steps p.tables e below (T72.setTop (mkF m 217 #[.val (.int p0), .val (.long q1), .second, .val (.long q2), .second, .val (.int x5_6), .val (.int x6_13), .val (.ref b3), .unset, .unset] [])) _
                refine XS.aload X72.here hx rfl (hb hby at_217) rfl rfl ?_
                show Steps p.tables e below (T72.setTop (mkF m 219 #[.val (.int p0), .val (.long q1), .second, .val (.long q2), .second, .val (.int x5_6), .val (.int x6_13), .val (.ref b3), .unset, .unset] [(.ref b3)])) _
                refine XS.iload X72.here hx rfl (hb hby at_219) rfl ?_
                show Steps p.tables e below (T72.setTop (mkF m 221 #[.val (.int p0), .val (.long q1), .second, .val (.long q2), .second, .val (.int x5_6), .val (.int x6_13), .val (.ref b3), .unset, .unset] [(.int x5_6), (.ref b3)])) _
                refine XS.iconst X72.here hx rfl (hb hby at_221) ?_
                show Steps p.tables e below (T72.setTop (mkF m 222 #[.val (.int p0), .val (.long q1), .second, .val (.long q2), .second, .val (.int x5_6), .val (.int x6_13), .val (.ref b3), .unset, .unset] [(.int (5 : Int32)), (.int x5_6), (.ref b3)])) _
                refine XS.isub X72.here hx rfl (hb hby at_222) rfl ?_
                show Steps p.tables e below (T72.setTop (mkF m 223 #[.val (.int p0), .val (.long q1), .second, .val (.long q2), .second, .val (.int x5_6), .val (.int x6_13), .val (.ref b3), .unset, .unset] [(.int (x5_6 - (5 : Int32))), (.ref b3)])) _
                refine X72.baloadBytes hx (j := (x5_6 - (5 : Int32))) (v := (.int (ws72.getD ((x5_6 - (5 : Int32))).toNatClampNeg (0 : Int32)))) (by rw [e72]; exact Ar76.1) (State.isArrayOf_alike hZ.alike Ar76.2.1) Ar76.2.2 hin76 hat76 (g := (mkF m 223 #[.val (.int p0), .val (.long q1), .second, .val (.long q2), .second, .val (.int x5_6), .val (.int x6_13), .val (.ref b3), .unset, .unset] [(.int (x5_6 - (5 : Int32))), (.ref b3)])) rfl rfl (hb hby at_223) _ ?_
                show Steps p.tables e below (T72.setTop (mkF m 224 #[.val (.int p0), .val (.long q1), .second, .val (.long q2), .second, .val (.int x5_6), .val (.int x6_13), .val (.ref b3), .unset, .unset] [(.int (ws72.getD ((x5_6 - (5 : Int32))).toNatClampNeg (0 : Int32)))])) _
                refine XS.iconst X72.here hx rfl (hb hby at_224) ?_
                exact k)
            by_cases hc225 : (ws72.getD ((x5_6 - (5 : Int32))).toNatClampNeg (0 : Int32)) = (3 : Int32)
            · have pre78 : own_Pre p e below (s₁.setTop (entryFrame m #[(.int p0), (.long q1), (.long q2)] maxLocals)) (T72.setTop (mkF m 233 #[.val (.int p0), .val (.long q1), .second, .val (.long q2), .second, .val (.int x5_6), .val (.int x6_13), .val (.ref b3), .unset, .unset] [(.int (1 : Int32))])) := fun t k => pre77 t (by
                  show Steps p.tables e below (T72.setTop (mkF m 225 #[.val (.int p0), .val (.long q1), .second, .val (.long q2), .second, .val (.int x5_6), .val (.int x6_13), .val (.ref b3), .unset, .unset] [(.int (3 : Int32)), (.int (ws72.getD ((x5_6 - (5 : Int32))).toNatClampNeg (0 : Int32)))])) _
                  refine XS.icmpNo X72.here hx rfl (hb hby at_225) rfl (teq hc225).2 ?_
                  show Steps p.tables e below (T72.setTop (mkF m 228 #[.val (.int p0), .val (.long q1), .second, .val (.long q2), .second, .val (.int x5_6), .val (.int x6_13), .val (.ref b3), .unset, .unset] [])) _
                  refine XS.iconst X72.here hx rfl (hb hby at_228) ?_
                  show Steps p.tables e below (T72.setTop (mkF m 229 #[.val (.int p0), .val (.long q1), .second, .val (.long q2), .second, .val (.int x5_6), .val (.int x6_13), .val (.ref b3), .unset, .unset] [(.int (1 : Int32))])) _
                  refine XS.goto X72.here hx rfl (pc0 := 229) (pc' := 233) rfl (hb hby at_229) (by decide) (by decide) ?_
                  exact k)
              refine ⟨_, ?_, pre78⟩
              all_goals (first | (simp only [own_m0_233_s0, if_pos hc214, if_pos hc225]; done) | (simp [own_m0_233_s0, if_pos hc214, if_pos hc225]; done))
            · have pre79 : own_Pre p e below (s₁.setTop (entryFrame m #[(.int p0), (.long q1), (.long q2)] maxLocals)) (T72.setTop (mkF m 233 #[.val (.int p0), .val (.long q1), .second, .val (.long q2), .second, .val (.int x5_6), .val (.int x6_13), .val (.ref b3), .unset, .unset] [(.int (0 : Int32))])) := fun t k => pre77 t (by
                  show Steps p.tables e below (T72.setTop (mkF m 225 #[.val (.int p0), .val (.long q1), .second, .val (.long q2), .second, .val (.int x5_6), .val (.int x6_13), .val (.ref b3), .unset, .unset] [(.int (3 : Int32)), (.int (ws72.getD ((x5_6 - (5 : Int32))).toNatClampNeg (0 : Int32)))])) _
                  refine XS.icmpYes X72.here hx rfl (pc0 := 225) (pc' := 232) rfl (hb hby at_225) rfl (feq hc225).2 (by decide) (by decide) ?_
                  show Steps p.tables e below (T72.setTop (mkF m 232 #[.val (.int p0), .val (.long q1), .second, .val (.long q2), .second, .val (.int x5_6), .val (.int x6_13), .val (.ref b3), .unset, .unset] [])) _
                  refine XS.iconst X72.here hx rfl (hb hby at_232) ?_
                  exact k)
              refine ⟨_, ?_, pre79⟩
              all_goals (first | (simp only [own_m0_233_s0, if_pos hc214, if_neg hc225]; done) | (simp [own_m0_233_s0, if_pos hc214, if_neg hc225]; done))
          · have pre80 : own_Pre p e below (s₁.setTop (entryFrame m #[(.int p0), (.long q1), (.long q2)] maxLocals)) (T72.setTop (mkF m 233 #[.val (.int p0), .val (.long q1), .second, .val (.long q2), .second, .val (.int x5_6), .val (.int x6_13), .val (.ref b3), .unset, .unset] [(.int (0 : Int32))])) := fun t k => pre75 t (by
                show Steps p.tables e below (T72.setTop (mkF m 214 #[.val (.int p0), .val (.long q1), .second, .val (.long q2), .second, .val (.int x5_6), .val (.int x6_13), .val (.ref b3), .unset, .unset] [(.int (7 : Int32)), (.int x5_6)])) _
                refine XS.icmpYes X72.here hx rfl (pc0 := 214) (pc' := 232) rfl (hb hby at_214) rfl (flt hc214).2.2.2 (by decide) (by decide) ?_
                show Steps p.tables e below (T72.setTop (mkF m 232 #[.val (.int p0), .val (.long q1), .second, .val (.long q2), .second, .val (.int x5_6), .val (.int x6_13), .val (.ref b3), .unset, .unset] [])) _
                refine XS.iconst X72.here hx rfl (hb hby at_232) ?_
                exact k)
            refine ⟨_, ?_, pre80⟩
            all_goals (first | (simp only [own_m0_233_s0, if_neg hc214]; done) | (simp [own_m0_233_s0, if_neg hc214]; done))
        have z82 : n0 ≤ (h72).size := (Nat.le_trans (Nat.le_trans z33 K32.1) (Keep.of_wr W72).1)
        obtain ⟨_, _, ⟨T81, L81, k81, n81⟩, -, X81, ⟨Lc81, hQ81, l81, y81, z81⟩, st81⟩ := Jvm.LawKit.callS X72 hx (y := (⟨"com/example/tubeline/tubeline/astm/Frame", "endsMessage", "([B)Z"⟩ : MethodName)) hown (mvT hZ (hw _ (List.mem_of_getElem? (i := 5) rfl))) (mvT hZ (hw _ (List.mem_of_getElem? (i := 6) rfl))) (mvT hZ (hw _ (List.mem_of_getElem? (i := 7) rfl))) (mvT hZ (hw _ (List.mem_of_getElem? (i := 8) rfl))) (by decide) (backOf (W := 0) (rm2 l Z aw hw [] (b3) (k3) (x5_6) (ws72) (h72) n0 z82 V72 (own_n x5_6 hx5_6).2.2) hZ (hw _ (List.mem_of_getElem? (i := 8) rfl)) (hw _ (List.mem_of_getElem? (i := 7) rfl)) (by decide) (by decide)) (g := (mkF m 237 #[.val (.int p0), .val (.long q1), .second, .val (.long q2), .second, .val (.int x5_6), .val (.int x6_13), .val (.ref b3), .val (.int m233_s0), .unset] [(.ref b3)])) rfl (by rw [hml]; rfl) (argsL := [(.ref b3)]) (rest := []) (lenOf pd_2 rfl) rfl (by show 2 * 0 + _ ≤ _; exact Nat.le_of_eq rfl) (hb hby at_237) (fun _ _ => ⟨rfl, e72, (by decide : 1 + 0 ≤ _), (by decide : 15 + 0 ≤ _)⟩)
        dsimp only [Pt.U, Pt.locs, Pt.cells, Pt.slots] at X81 l81 y81 z81 st81 hQ81
        subst l81 y81 z81
        obtain ⟨rfl, Nq81, eq81⟩ := hQ81
        have N81 := Fr.app N72 Nq81
        obtain ⟨x9_242, hx9_242, pre83⟩ : ∃ z : Int32, z = (own_f2 x5_6 ws72) ∧ own_Pre p e below (s₁.setTop (entryFrame m #[(.int p0), (.long q1), (.long q2)] maxLocals)) (T81.setTop (mkF m 242 #[.val (.int p0), .val (.long q1), .second, .val (.long q2), .second, .val (.int x5_6), .val (.int x6_13), .val (.ref b3), .val (.int m233_s0), .val (.int z)] [])) := ⟨_, rfl, fun t k => pre74 t (by
            show Steps p.tables e below (T72.setTop (mkF m 233 #[.val (.int p0), .val (.long q1), .second, .val (.long q2), .second, .val (.int x5_6), .val (.int x6_13), .val (.ref b3), .unset, .unset] [(.int m233_s0)])) _
            refine XS.istore X72.here hx rfl (hb hby at_233) rfl (l' := #[.val (.int p0), .val (.long q1), .second, .val (.long q2), .second, .val (.int x5_6), .val (.int x6_13), .val (.ref b3), .val (.int m233_s0), .unset]) rfl ?_
            show Steps p.tables e below (T72.setTop (mkF m 235 #[.val (.int p0), .val (.long q1), .second, .val (.long q2), .second, .val (.int x5_6), .val (.int x6_13), .val (.ref b3), .val (.int m233_s0), .unset] [])) _
            refine XS.aload X72.here hx rfl (hb hby at_235) rfl rfl ?_
            show Steps p.tables e below (T72.setTop (mkF m 237 #[.val (.int p0), .val (.long q1), .second, .val (.long q2), .second, .val (.int x5_6), .val (.int x6_13), .val (.ref b3), .val (.int m233_s0), .unset] [(.ref b3)])) _
            refine st81 _ ?_
            show Steps p.tables e below (T81.setTop (mkF m 240 #[.val (.int p0), .val (.long q1), .second, .val (.long q2), .second, .val (.int x5_6), .val (.int x6_13), .val (.ref b3), .val (.int m233_s0), .unset] [(.int (own_f2 x5_6 ws72))])) _
            refine XS.istore X81.here hx rfl (hb hby at_240) rfl (l' := #[.val (.int p0), .val (.long q1), .second, .val (.long q2), .second, .val (.int x5_6), .val (.int x6_13), .val (.ref b3), .val (.int m233_s0), .val (.int (own_f2 x5_6 ws72))]) rfl ?_
            exact k)⟩
        have hc246 : (x9_242 = m233_s0) := by rw [hx9_242, hm233_s0]; exact own_plain _ _
        obtain ⟨fs, hr, hrun, hended, hW, hsame⟩ := X81.leave (v := some (.int (1 : Int32))) (fun h => by rw [Bd.returns] at h; cases h)
        refine ⟨_, _, pre83 _ ?_, hrun, hended, _, _, rfl, ?_, ⟨_, rfl⟩, hW, hsame.mono (by decide) (by decide)⟩
        · show Steps p.tables e below (T81.setTop (mkF m 242 #[.val (.int p0), .val (.long q1), .second, .val (.long q2), .second, .val (.int x5_6), .val (.int x6_13), .val (.ref b3), .val (.int m233_s0), .val (.int x9_242)] [])) _
          refine XS.iload X81.here hx rfl (hb hby at_242) rfl ?_
          show Steps p.tables e below (T81.setTop (mkF m 244 #[.val (.int p0), .val (.long q1), .second, .val (.long q2), .second, .val (.int x5_6), .val (.int x6_13), .val (.ref b3), .val (.int m233_s0), .val (.int x9_242)] [(.int x9_242)])) _
          refine XS.iload X81.here hx rfl (hb hby at_244) rfl ?_
          show Steps p.tables e below (T81.setTop (mkF m 246 #[.val (.int p0), .val (.long q1), .second, .val (.long q2), .second, .val (.int x5_6), .val (.int x6_13), .val (.ref b3), .val (.int m233_s0), .val (.int x9_242)] [(.int m233_s0), (.int x9_242)])) _
          refine XS.icmpNo X81.here hx rfl (hb hby at_246) rfl (teq hc246).2 ?_
          show Steps p.tables e below (T81.setTop (mkF m 249 #[.val (.int p0), .val (.long q1), .second, .val (.long q2), .second, .val (.int x5_6), .val (.int x6_13), .val (.ref b3), .val (.int m233_s0), .val (.int x9_242)] [])) _
          refine XS.iconst X81.here hx rfl (hb hby at_249) ?_
          show Steps p.tables e below (T81.setTop (mkF m 250 #[.val (.int p0), .val (.long q1), .second, .val (.long q2), .second, .val (.int x5_6), .val (.int x6_13), .val (.ref b3), .val (.int m233_s0), .val (.int x9_242)] [(.int (1 : Int32))])) _
          refine XS.goto X81.here hx rfl (pc0 := 250) (pc' := 254) rfl (hb hby at_250) (by decide) (by decide) ?_
          show Steps p.tables e below (T81.setTop (mkF m 254 #[.val (.int p0), .val (.long q1), .second, .val (.long q2), .second, .val (.int x5_6), .val (.int x6_13), .val (.ref b3), .val (.int m233_s0), .val (.int x9_242)] [(.int (1 : Int32))])) _
          exact retN X81 hx (t := .boolean) Bd.returns (by simp) (hb hby at_254) hr
        · show Q0 Z p0 q1 q2 h0 n0 _ T81.heap _
          rw [eq81]
          unfold Q0
          refine ⟨rfl, N81⟩
    · have pre84 : own_Pre p e below (s₁.setTop (entryFrame m #[(.int p0), (.long q1), (.long q2)] maxLocals)) (T32.setTop (mkF m 191 #[.val (.int p0), .val (.long q1), .second, .val (.long q2), .second, .val (.int x5_6), .val (.int x6_13), .val (.ref b3), .unset, .unset] [(.int (3 : Int32)), (.int x6_13)])) := fun t k => pre59 t (by
          show Steps p.tables e below (T32.setTop (mkF m 171 #[.val (.int p0), .val (.long q1), .second, .val (.long q2), .second, .val (.int x5_6), .val (.int x6_13), .val (.ref b3), .unset, .unset] [(.int (2 : Int32)), (.int x6_13)])) _
          refine XS.icmpYes X32.here hx rfl (pc0 := 171) (pc' := 188) rfl (hb hby at_171) rfl (feq hc171).2 (by decide) (by decide) ?_
          show Steps p.tables e below (T32.setTop (mkF m 188 #[.val (.int p0), .val (.long q1), .second, .val (.long q2), .second, .val (.int x5_6), .val (.int x6_13), .val (.ref b3), .unset, .unset] [])) _
          refine XS.iload X32.here hx rfl (hb hby at_188) rfl ?_
          show Steps p.tables e below (T32.setTop (mkF m 190 #[.val (.int p0), .val (.long q1), .second, .val (.long q2), .second, .val (.int x5_6), .val (.int x6_13), .val (.ref b3), .unset, .unset] [(.int x6_13)])) _
          refine XS.iconst X32.here hx rfl (hb hby at_190) ?_
          exact k)
      by_cases hc191 : x6_13 = (3 : Int32)
      · have pre85 : own_Pre p e below (s₁.setTop (entryFrame m #[(.int p0), (.long q1), (.long q2)] maxLocals)) (T32.setTop (mkF m 198 #[.val (.int p0), .val (.long q1), .second, .val (.long q2), .second, .val (.int x5_6), .val (.int x6_13), .val (.ref b3), .unset, .unset] [(.int (6 : Int32)), (.int x5_6)])) := fun t k => pre84 t (by
            show Steps p.tables e below (T32.setTop (mkF m 191 #[.val (.int p0), .val (.long q1), .second, .val (.long q2), .second, .val (.int x5_6), .val (.int x6_13), .val (.ref b3), .unset, .unset] [(.int (3 : Int32)), (.int x6_13)])) _
            refine XS.icmpNo X32.here hx rfl (hb hby at_191) rfl (teq hc191).2 ?_
            show Steps p.tables e below (T32.setTop (mkF m 194 #[.val (.int p0), .val (.long q1), .second, .val (.long q2), .second, .val (.int x5_6), .val (.int x6_13), .val (.ref b3), .unset, .unset] [])) _
            refine XS.iload X32.here hx rfl (hb hby at_194) rfl ?_
            show Steps p.tables e below (T32.setTop (mkF m 196 #[.val (.int p0), .val (.long q1), .second, .val (.long q2), .second, .val (.int x5_6), .val (.int x6_13), .val (.ref b3), .unset, .unset] [(.int x5_6)])) _
            refine XS.bipush X32.here hx rfl (hb hby at_196) ?_
            exact k)
        by_cases hc198 : x5_6 < (6 : Int32)
        · have pre88 : own_Pre p e below (s₁.setTop (entryFrame m #[(.int p0), (.long q1), (.long q2)] maxLocals)) (T32.setTop (mkF m 214 #[.val (.int p0), .val (.long q1), .second, .val (.long q2), .second, .val (.int x5_6), .val (.int x6_13), .val (.ref b3), .unset, .unset] [(.int (7 : Int32)), (.int x5_6)])) := fun t k => pre85 t (by
              show Steps p.tables e below (T32.setTop (mkF m 198 #[.val (.int p0), .val (.long q1), .second, .val (.long q2), .second, .val (.int x5_6), .val (.int x6_13), .val (.ref b3), .unset, .unset] [(.int (6 : Int32)), (.int x5_6)])) _
              refine XS.icmpYes X32.here hx rfl (pc0 := 198) (pc' := 210) rfl (hb hby at_198) rfl (tlt hc198).1 (by decide) (by decide) ?_
              show Steps p.tables e below (T32.setTop (mkF m 210 #[.val (.int p0), .val (.long q1), .second, .val (.long q2), .second, .val (.int x5_6), .val (.int x6_13), .val (.ref b3), .unset, .unset] [])) _
              refine XS.iload X32.here hx rfl (hb hby at_210) rfl ?_
              show Steps p.tables e below (T32.setTop (mkF m 212 #[.val (.int p0), .val (.long q1), .second, .val (.long q2), .second, .val (.int x5_6), .val (.int x6_13), .val (.ref b3), .unset, .unset] [(.int x5_6)])) _
              refine XS.bipush X32.here hx rfl (hb hby at_212) ?_
              exact k)
          obtain ⟨m233_s0, hm233_s0, pre87⟩ : ∃ (m233_s0 : Int32), m233_s0 = (own_m0_233_s0 x5_6 wn32) ∧ own_Pre p e below (s₁.setTop (entryFrame m #[(.int p0), (.long q1), (.long q2)] maxLocals)) (T32.setTop (mkF m 233 #[.val (.int p0), .val (.long q1), .second, .val (.long q2), .second, .val (.int x5_6), .val (.int x6_13), .val (.ref b3), .unset, .unset] [(.int m233_s0)])) := by
            by_cases hc214 : (7 : Int32) < x5_6
            · obtain ⟨cl89, Ar89, hin89, hat89⟩ := own_AI.at po32_0 (j := (x5_6 - (5 : Int32))) (own_in5 hc214 (own_n x5_6 hx5_6).2.2)
              have pre90 : own_Pre p e below (s₁.setTop (entryFrame m #[(.int p0), (.long q1), (.long q2)] maxLocals)) (T32.setTop (mkF m 225 #[.val (.int p0), .val (.long q1), .second, .val (.long q2), .second, .val (.int x5_6), .val (.int x6_13), .val (.ref b3), .unset, .unset] [(.int (3 : Int32)), (.int (wn32.getD ((x5_6 - (5 : Int32))).toNatClampNeg (0 : Int32)))])) := fun t k => pre88 t (by
                  show Steps p.tables e below (T32.setTop (mkF m 214 #[.val (.int p0), .val (.long q1), .second, .val (.long q2), .second, .val (.int x5_6), .val (.int x6_13), .val (.ref b3), .unset, .unset] [(.int (7 : Int32)), (.int x5_6)])) _
                  refine XS.icmpNo X32.here hx rfl (hb hby at_214) rfl (tlt hc214).2.2.2 ?_
                  show Steps p.tables e below (T32.setTop (mkF m 217 #[.val (.int p0), .val (.long q1), .second, .val (.long q2), .second, .val (.int x5_6), .val (.int x6_13), .val (.ref b3), .unset, .unset] [])) _
                  refine XS.aload X32.here hx rfl (hb hby at_217) rfl rfl ?_
                  show Steps p.tables e below (T32.setTop (mkF m 219 #[.val (.int p0), .val (.long q1), .second, .val (.long q2), .second, .val (.int x5_6), .val (.int x6_13), .val (.ref b3), .unset, .unset] [(.ref b3)])) _
                  refine XS.iload X32.here hx rfl (hb hby at_219) rfl ?_
                  show Steps p.tables e below (T32.setTop (mkF m 221 #[.val (.int p0), .val (.long q1), .second, .val (.long q2), .second, .val (.int x5_6), .val (.int x6_13), .val (.ref b3), .unset, .unset] [(.int x5_6), (.ref b3)])) _
                  refine XS.iconst X32.here hx rfl (hb hby at_221) ?_
                  show Steps p.tables e below (T32.setTop (mkF m 222 #[.val (.int p0), .val (.long q1), .second, .val (.long q2), .second, .val (.int x5_6), .val (.int x6_13), .val (.ref b3), .unset, .unset] [(.int (5 : Int32)), (.int x5_6), (.ref b3)])) _
                  refine XS.isub X32.here hx rfl (hb hby at_222) rfl ?_
                  show Steps p.tables e below (T32.setTop (mkF m 223 #[.val (.int p0), .val (.long q1), .second, .val (.long q2), .second, .val (.int x5_6), .val (.int x6_13), .val (.ref b3), .unset, .unset] [(.int (x5_6 - (5 : Int32))), (.ref b3)])) _
                  refine X32.baloadBytes hx (j := (x5_6 - (5 : Int32))) (v := (.int (wn32.getD ((x5_6 - (5 : Int32))).toNatClampNeg (0 : Int32)))) Ar89.1 (State.isArrayOf_alike hZ.alike Ar89.2.1) Ar89.2.2 hin89 hat89 (g := (mkF m 223 #[.val (.int p0), .val (.long q1), .second, .val (.long q2), .second, .val (.int x5_6), .val (.int x6_13), .val (.ref b3), .unset, .unset] [(.int (x5_6 - (5 : Int32))), (.ref b3)])) rfl rfl (hb hby at_223) _ ?_
                  show Steps p.tables e below (T32.setTop (mkF m 224 #[.val (.int p0), .val (.long q1), .second, .val (.long q2), .second, .val (.int x5_6), .val (.int x6_13), .val (.ref b3), .unset, .unset] [(.int (wn32.getD ((x5_6 - (5 : Int32))).toNatClampNeg (0 : Int32)))])) _
                  refine XS.iconst X32.here hx rfl (hb hby at_224) ?_
                  exact k)
              by_cases hc225 : (wn32.getD ((x5_6 - (5 : Int32))).toNatClampNeg (0 : Int32)) = (3 : Int32)
              · have pre91 : own_Pre p e below (s₁.setTop (entryFrame m #[(.int p0), (.long q1), (.long q2)] maxLocals)) (T32.setTop (mkF m 233 #[.val (.int p0), .val (.long q1), .second, .val (.long q2), .second, .val (.int x5_6), .val (.int x6_13), .val (.ref b3), .unset, .unset] [(.int (1 : Int32))])) := fun t k => pre90 t (by
                    show Steps p.tables e below (T32.setTop (mkF m 225 #[.val (.int p0), .val (.long q1), .second, .val (.long q2), .second, .val (.int x5_6), .val (.int x6_13), .val (.ref b3), .unset, .unset] [(.int (3 : Int32)), (.int (wn32.getD ((x5_6 - (5 : Int32))).toNatClampNeg (0 : Int32)))])) _
                    refine XS.icmpNo X32.here hx rfl (hb hby at_225) rfl (teq hc225).2 ?_
                    show Steps p.tables e below (T32.setTop (mkF m 228 #[.val (.int p0), .val (.long q1), .second, .val (.long q2), .second, .val (.int x5_6), .val (.int x6_13), .val (.ref b3), .unset, .unset] [])) _
                    refine XS.iconst X32.here hx rfl (hb hby at_228) ?_
                    show Steps p.tables e below (T32.setTop (mkF m 229 #[.val (.int p0), .val (.long q1), .second, .val (.long q2), .second, .val (.int x5_6), .val (.int x6_13), .val (.ref b3), .unset, .unset] [(.int (1 : Int32))])) _
                    refine XS.goto X32.here hx rfl (pc0 := 229) (pc' := 233) rfl (hb hby at_229) (by decide) (by decide) ?_
                    exact k)
                refine ⟨_, ?_, pre91⟩
                all_goals (first | (simp only [own_m0_233_s0, if_pos hc214, if_pos hc225]; done) | (simp [own_m0_233_s0, if_pos hc214, if_pos hc225]; done))
              · have pre92 : own_Pre p e below (s₁.setTop (entryFrame m #[(.int p0), (.long q1), (.long q2)] maxLocals)) (T32.setTop (mkF m 233 #[.val (.int p0), .val (.long q1), .second, .val (.long q2), .second, .val (.int x5_6), .val (.int x6_13), .val (.ref b3), .unset, .unset] [(.int (0 : Int32))])) := fun t k => pre90 t (by
                    show Steps p.tables e below (T32.setTop (mkF m 225 #[.val (.int p0), .val (.long q1), .second, .val (.long q2), .second, .val (.int x5_6), .val (.int x6_13), .val (.ref b3), .unset, .unset] [(.int (3 : Int32)), (.int (wn32.getD ((x5_6 - (5 : Int32))).toNatClampNeg (0 : Int32)))])) _
                    refine XS.icmpYes X32.here hx rfl (pc0 := 225) (pc' := 232) rfl (hb hby at_225) rfl (feq hc225).2 (by decide) (by decide) ?_
                    show Steps p.tables e below (T32.setTop (mkF m 232 #[.val (.int p0), .val (.long q1), .second, .val (.long q2), .second, .val (.int x5_6), .val (.int x6_13), .val (.ref b3), .unset, .unset] [])) _
                    refine XS.iconst X32.here hx rfl (hb hby at_232) ?_
                    exact k)
                refine ⟨_, ?_, pre92⟩
                all_goals (first | (simp only [own_m0_233_s0, if_pos hc214, if_neg hc225]; done) | (simp [own_m0_233_s0, if_pos hc214, if_neg hc225]; done))
            · have pre93 : own_Pre p e below (s₁.setTop (entryFrame m #[(.int p0), (.long q1), (.long q2)] maxLocals)) (T32.setTop (mkF m 233 #[.val (.int p0), .val (.long q1), .second, .val (.long q2), .second, .val (.int x5_6), .val (.int x6_13), .val (.ref b3), .unset, .unset] [(.int (0 : Int32))])) := fun t k => pre88 t (by
                  show Steps p.tables e below (T32.setTop (mkF m 214 #[.val (.int p0), .val (.long q1), .second, .val (.long q2), .second, .val (.int x5_6), .val (.int x6_13), .val (.ref b3), .unset, .unset] [(.int (7 : Int32)), (.int x5_6)])) _
                  refine XS.icmpYes X32.here hx rfl (pc0 := 214) (pc' := 232) rfl (hb hby at_214) rfl (flt hc214).2.2.2 (by decide) (by decide) ?_
                  show Steps p.tables e below (T32.setTop (mkF m 232 #[.val (.int p0), .val (.long q1), .second, .val (.long q2), .second, .val (.int x5_6), .val (.int x6_13), .val (.ref b3), .unset, .unset] [])) _
                  refine XS.iconst X32.here hx rfl (hb hby at_232) ?_
                  exact k)
              refine ⟨_, ?_, pre93⟩
              all_goals (first | (simp only [own_m0_233_s0, if_neg hc214]; done) | (simp [own_m0_233_s0, if_neg hc214]; done))
          have z95 : n0 ≤ (T32.heap).size := (Nat.le_trans z33 K32.1)
          obtain ⟨_, _, ⟨T94, L94, k94, n94⟩, -, X94, ⟨Lc94, hQ94, l94, y94, z94⟩, st94⟩ := Jvm.LawKit.callS X32 hx (y := (⟨"com/example/tubeline/tubeline/astm/Frame", "endsMessage", "([B)Z"⟩ : MethodName)) hown (mvT hZ (hw _ (List.mem_of_getElem? (i := 5) rfl))) (mvT hZ (hw _ (List.mem_of_getElem? (i := 6) rfl))) (mvT hZ (hw _ (List.mem_of_getElem? (i := 7) rfl))) (mvT hZ (hw _ (List.mem_of_getElem? (i := 8) rfl))) (by decide) (backOf (W := 0) (rm2 l Z aw hw [] (b3) (k3) (x5_6) (wn32) (T32.heap) n0 z95 po32_0 (own_n x5_6 hx5_6).2.2) hZ (hw _ (List.mem_of_getElem? (i := 8) rfl)) (hw _ (List.mem_of_getElem? (i := 7) rfl)) (by decide) (by decide)) (g := (mkF m 237 #[.val (.int p0), .val (.long q1), .second, .val (.long q2), .second, .val (.int x5_6), .val (.int x6_13), .val (.ref b3), .val (.int m233_s0), .unset] [(.ref b3)])) rfl (by rw [hml]; rfl) (argsL := [(.ref b3)]) (rest := []) (lenOf pd_2 rfl) rfl (by show 2 * 0 + _ ≤ _; exact Nat.le_of_eq rfl) (hb hby at_237) (fun _ _ => ⟨rfl, rfl, (by decide : 1 + 0 ≤ _), (by decide : 15 + 0 ≤ _)⟩)
          dsimp only [Pt.U, Pt.locs, Pt.cells, Pt.slots] at X94 l94 y94 z94 st94 hQ94
          subst l94 y94 z94
          obtain ⟨rfl, Nq94, eq94⟩ := hQ94
          have N94 := Fr.app N32 Nq94
          obtain ⟨x9_242, hx9_242, pre96⟩ : ∃ z : Int32, z = (own_f2 x5_6 wn32) ∧ own_Pre p e below (s₁.setTop (entryFrame m #[(.int p0), (.long q1), (.long q2)] maxLocals)) (T94.setTop (mkF m 242 #[.val (.int p0), .val (.long q1), .second, .val (.long q2), .second, .val (.int x5_6), .val (.int x6_13), .val (.ref b3), .val (.int m233_s0), .val (.int z)] [])) := ⟨_, rfl, fun t k => pre87 t (by
              show Steps p.tables e below (T32.setTop (mkF m 233 #[.val (.int p0), .val (.long q1), .second, .val (.long q2), .second, .val (.int x5_6), .val (.int x6_13), .val (.ref b3), .unset, .unset] [(.int m233_s0)])) _
              refine XS.istore X32.here hx rfl (hb hby at_233) rfl (l' := #[.val (.int p0), .val (.long q1), .second, .val (.long q2), .second, .val (.int x5_6), .val (.int x6_13), .val (.ref b3), .val (.int m233_s0), .unset]) rfl ?_
              show Steps p.tables e below (T32.setTop (mkF m 235 #[.val (.int p0), .val (.long q1), .second, .val (.long q2), .second, .val (.int x5_6), .val (.int x6_13), .val (.ref b3), .val (.int m233_s0), .unset] [])) _
              refine XS.aload X32.here hx rfl (hb hby at_235) rfl rfl ?_
              show Steps p.tables e below (T32.setTop (mkF m 237 #[.val (.int p0), .val (.long q1), .second, .val (.long q2), .second, .val (.int x5_6), .val (.int x6_13), .val (.ref b3), .val (.int m233_s0), .unset] [(.ref b3)])) _
              refine st94 _ ?_
              show Steps p.tables e below (T94.setTop (mkF m 240 #[.val (.int p0), .val (.long q1), .second, .val (.long q2), .second, .val (.int x5_6), .val (.int x6_13), .val (.ref b3), .val (.int m233_s0), .unset] [(.int (own_f2 x5_6 wn32))])) _
              refine XS.istore X94.here hx rfl (hb hby at_240) rfl (l' := #[.val (.int p0), .val (.long q1), .second, .val (.long q2), .second, .val (.int x5_6), .val (.int x6_13), .val (.ref b3), .val (.int m233_s0), .val (.int (own_f2 x5_6 wn32))]) rfl ?_
              exact k)⟩
          have hc246 : (x9_242 = m233_s0) := by rw [hx9_242, hm233_s0]; exact own_plain _ _
          obtain ⟨fs, hr, hrun, hended, hW, hsame⟩ := X94.leave (v := some (.int (1 : Int32))) (fun h => by rw [Bd.returns] at h; cases h)
          refine ⟨_, _, pre96 _ ?_, hrun, hended, _, _, rfl, ?_, ⟨_, rfl⟩, hW, hsame.mono (by decide) (by decide)⟩
          · show Steps p.tables e below (T94.setTop (mkF m 242 #[.val (.int p0), .val (.long q1), .second, .val (.long q2), .second, .val (.int x5_6), .val (.int x6_13), .val (.ref b3), .val (.int m233_s0), .val (.int x9_242)] [])) _
            refine XS.iload X94.here hx rfl (hb hby at_242) rfl ?_
            show Steps p.tables e below (T94.setTop (mkF m 244 #[.val (.int p0), .val (.long q1), .second, .val (.long q2), .second, .val (.int x5_6), .val (.int x6_13), .val (.ref b3), .val (.int m233_s0), .val (.int x9_242)] [(.int x9_242)])) _
            refine XS.iload X94.here hx rfl (hb hby at_244) rfl ?_
            show Steps p.tables e below (T94.setTop (mkF m 246 #[.val (.int p0), .val (.long q1), .second, .val (.long q2), .second, .val (.int x5_6), .val (.int x6_13), .val (.ref b3), .val (.int m233_s0), .val (.int x9_242)] [(.int m233_s0), (.int x9_242)])) _
            refine XS.icmpNo X94.here hx rfl (hb hby at_246) rfl (teq hc246).2 ?_
            show Steps p.tables e below (T94.setTop (mkF m 249 #[.val (.int p0), .val (.long q1), .second, .val (.long q2), .second, .val (.int x5_6), .val (.int x6_13), .val (.ref b3), .val (.int m233_s0), .val (.int x9_242)] [])) _
            refine XS.iconst X94.here hx rfl (hb hby at_249) ?_
            show Steps p.tables e below (T94.setTop (mkF m 250 #[.val (.int p0), .val (.long q1), .second, .val (.long q2), .second, .val (.int x5_6), .val (.int x6_13), .val (.ref b3), .val (.int m233_s0), .val (.int x9_242)] [(.int (1 : Int32))])) _
            refine XS.goto X94.here hx rfl (pc0 := 250) (pc' := 254) rfl (hb hby at_250) (by decide) (by decide) ?_
            show Steps p.tables e below (T94.setTop (mkF m 254 #[.val (.int p0), .val (.long q1), .second, .val (.long q2), .second, .val (.int x5_6), .val (.int x6_13), .val (.ref b3), .val (.int m233_s0), .val (.int x9_242)] [(.int (1 : Int32))])) _
            exact retN X94 hx (t := .boolean) Bd.returns (by simp) (hb hby at_254) hr
          · show Q0 Z p0 q1 q2 h0 n0 _ T94.heap _
            rw [eq94]
            unfold Q0
            refine ⟨rfl, N94⟩
        · obtain ⟨cl97, Ar97, hin97, set97⟩ := own_AI.arr po32_0 (j := (x5_6 - (6 : Int32))) (own_k6 (own_n x5_6 hx5_6).2.2 hc198)
          obtain ⟨T97, h97, X97, e97, W97, st97⟩ := stB X32 hx hZ rfl Ar97 (j := (x5_6 - (6 : Int32))) hin97 (g := (mkF m 209 #[.val (.int p0), .val (.long q1), .second, .val (.long q2), .second, .val (.int x5_6), .val (.int x6_13), .val (.ref b3), .unset, .unset] [(.int (3 : Int32)), (.int (x5_6 - (6 : Int32))), (.ref b3)])) rfl rfl (hb hby at_209)
          have V97 : own_AI Z h97 b3 k3 .byte x5_6 (wn32.set ((x5_6 - (6 : Int32))).toNatClampNeg (3 : Int32)) := set97 _ _ rfl W97
          obtain ⟨ws97, hws97⟩ : ∃ z, z = (wn32.set ((x5_6 - (6 : Int32))).toNatClampNeg (3 : Int32)) := ⟨_, rfl⟩
          rw [← hws97] at V97
          have N97 := Fr.snoc X97 N32 g_b3
          have pre100 : own_Pre p e below (s₁.setTop (entryFrame m #[(.int p0), (.long q1), (.long q2)] maxLocals)) (T97.setTop (mkF m 214 #[.val (.int p0), .val (.long q1), .second, .val (.long q2), .second, .val (.int x5_6), .val (.int x6_13), .val (.ref b3), .unset, .unset] [(.int (7 : Int32)), (.int x5_6)])) := fun t k => pre85 t (by
              show Steps p.tables e below (T32.setTop (mkF m 198 #[.val (.int p0), .val (.long q1), .second, .val (.long q2), .second, .val (.int x5_6), .val (.int x6_13), .val (.ref b3), .unset, .unset] [(.int (6 : Int32)), (.int x5_6)])) _
              refine XS.icmpNo X32.here hx rfl (hb hby at_198) rfl (flt hc198).1 ?_
              show Steps p.tables e below (T32.setTop (mkF m 201 #[.val (.int p0), .val (.long q1), .second, .val (.long q2), .second, .val (.int x5_6), .val (.int x6_13), .val (.ref b3), .unset, .unset] [])) _
              refine XS.aload X32.here hx rfl (hb hby at_201) rfl rfl ?_
              show Steps p.tables e below (T32.setTop (mkF m 203 #[.val (.int p0), .val (.long q1), .second, .val (.long q2), .second, .val (.int x5_6), .val (.int x6_13), .val (.ref b3), .unset, .unset] [(.ref b3)])) _
              refine XS.iload X32.here hx rfl (hb hby at_203) rfl ?_
              show Steps p.tables e below (T32.setTop (mkF m 205 #[.val (.int p0), .val (.long q1), .second, .val (.long q2), .second, .val (.int x5_6), .val (.int x6_13), .val (.ref b3), .unset, .unset] [(.int x5_6), (.ref b3)])) _
              refine XS.bipush X32.here hx rfl (hb hby at_205) ?_
              show Steps p.tables e below (T32.setTop (mkF m 207 #[.val (.int p0), .val (.long q1), .second, .val (.long q2), .second, .val (.int x5_6), .val (.int x6_13), .val (.ref b3), .unset, .unset] [(.int (6 : Int32)), (.int x5_6), (.ref b3)])) _
              refine XS.isub X32.here hx rfl (hb hby at_207) rfl ?_
              show Steps p.tables e below (T32.setTop (mkF m 208 #[.val (.int p0), .val (.long q1), .second, .val (.long q2), .second, .val (.int x5_6), .val (.int x6_13), .val (.ref b3), .unset, .unset] [(.int (x5_6 - (6 : Int32))), (.ref b3)])) _
              refine XS.iconst X32.here hx rfl (hb hby at_208) ?_
              show Steps p.tables e below (T32.setTop (mkF m 209 #[.val (.int p0), .val (.long q1), .second, .val (.long q2), .second, .val (.int x5_6), .val (.int x6_13), .val (.ref b3), .unset, .unset] [(.int (3 : Int32)), (.int (x5_6 - (6 : Int32))), (.ref b3)])) _
              refine st97 _ ?_
              show Steps p.tables e below (T97.setTop (mkF m 210 #[.val (.int p0), .val (.long q1), .second, .val (.long q2), .second, .val (.int x5_6), .val (.int x6_13), .val (.ref b3), .unset, .unset] [])) _
              refine XS.iload X97.here hx rfl (hb hby at_210) rfl ?_
              show Steps p.tables e below (T97.setTop (mkF m 212 #[.val (.int p0), .val (.long q1), .second, .val (.long q2), .second, .val (.int x5_6), .val (.int x6_13), .val (.ref b3), .unset, .unset] [(.int x5_6)])) _
              refine XS.bipush X97.here hx rfl (hb hby at_212) ?_
              exact k)
          obtain ⟨m233_s0, hm233_s0, pre99⟩ : ∃ (m233_s0 : Int32), m233_s0 = (own_m0_233_s0 x5_6 ws97) ∧ own_Pre p e below (s₁.setTop (entryFrame m #[(.int p0), (.long q1), (.long q2)] maxLocals)) (T97.setTop (mkF m 233 #[.val (.int p0), .val (.long q1), .second, .val (.long q2), .second, .val (.int x5_6), .val (.int x6_13), .val (.ref b3), .unset, .unset] [(.int m233_s0)])) := by
            by_cases hc214 : (7 : Int32) < x5_6
            · obtain ⟨cl101, Ar101, hin101, hat101⟩ := own_AI.at V97 (j := (x5_6 - (5 : Int32))) (own_in5 hc214 (own_n x5_6 hx5_6).2.2)
              have pre102 : own_Pre p e below (s₁.setTop (entryFrame m #[(.int p0), (.long q1), (.long q2)] maxLocals)) (T97.setTop (mkF m 225 #[.val (.int p0), .val (.long q1), .second, .val (.long q2), .second, .val (.int x5_6), .val (.int x6_13), .val (.ref b3), .unset, .unset] [(.int (3 : Int32)), (.int (ws97.getD ((x5_6 - (5 : Int32))).toNatClampNeg (0 : Int32)))])) := fun t k => pre100 t (by
                  show Steps p.tables e below (T97.setTop (mkF m 214 #[.val (.int p0), .val (.long q1), .second, .val (.long q2), .second, .val (.int x5_6), .val (.int x6_13), .val (.ref b3), .unset, .unset] [(.int (7 : Int32)), (.int x5_6)])) _
                  refine XS.icmpNo X97.here hx rfl (hb hby at_214) rfl (tlt hc214).2.2.2 ?_
                  show Steps p.tables e below (T97.setTop (mkF m 217 #[.val (.int p0), .val (.long q1), .second, .val (.long q2), .second, .val (.int x5_6), .val (.int x6_13), .val (.ref b3), .unset, .unset] [])) _
                  refine XS.aload X97.here hx rfl (hb hby at_217) rfl rfl ?_
                  show Steps p.tables e below (T97.setTop (mkF m 219 #[.val (.int p0), .val (.long q1), .second, .val (.long q2), .second, .val (.int x5_6), .val (.int x6_13), .val (.ref b3), .unset, .unset] [(.ref b3)])) _
                  refine XS.iload X97.here hx rfl (hb hby at_219) rfl ?_
                  show Steps p.tables e below (T97.setTop (mkF m 221 #[.val (.int p0), .val (.long q1), .second, .val (.long q2), .second, .val (.int x5_6), .val (.int x6_13), .val (.ref b3), .unset, .unset] [(.int x5_6), (.ref b3)])) _
                  refine XS.iconst X97.here hx rfl (hb hby at_221) ?_
                  show Steps p.tables e below (T97.setTop (mkF m 222 #[.val (.int p0), .val (.long q1), .second, .val (.long q2), .second, .val (.int x5_6), .val (.int x6_13), .val (.ref b3), .unset, .unset] [(.int (5 : Int32)), (.int x5_6), (.ref b3)])) _
                  refine XS.isub X97.here hx rfl (hb hby at_222) rfl ?_
                  show Steps p.tables e below (T97.setTop (mkF m 223 #[.val (.int p0), .val (.long q1), .second, .val (.long q2), .second, .val (.int x5_6), .val (.int x6_13), .val (.ref b3), .unset, .unset] [(.int (x5_6 - (5 : Int32))), (.ref b3)])) _
                  refine X97.baloadBytes hx (j := (x5_6 - (5 : Int32))) (v := (.int (ws97.getD ((x5_6 - (5 : Int32))).toNatClampNeg (0 : Int32)))) (by rw [e97]; exact Ar101.1) (State.isArrayOf_alike hZ.alike Ar101.2.1) Ar101.2.2 hin101 hat101 (g := (mkF m 223 #[.val (.int p0), .val (.long q1), .second, .val (.long q2), .second, .val (.int x5_6), .val (.int x6_13), .val (.ref b3), .unset, .unset] [(.int (x5_6 - (5 : Int32))), (.ref b3)])) rfl rfl (hb hby at_223) _ ?_
                  show Steps p.tables e below (T97.setTop (mkF m 224 #[.val (.int p0), .val (.long q1), .second, .val (.long q2), .second, .val (.int x5_6), .val (.int x6_13), .val (.ref b3), .unset, .unset] [(.int (ws97.getD ((x5_6 - (5 : Int32))).toNatClampNeg (0 : Int32)))])) _
                  refine XS.iconst X97.here hx rfl (hb hby at_224) ?_
                  exact k)
              by_cases hc225 : (ws97.getD ((x5_6 - (5 : Int32))).toNatClampNeg (0 : Int32)) = (3 : Int32)
              · have pre103 : own_Pre p e below (s₁.setTop (entryFrame m #[(.int p0), (.long q1), (.long q2)] maxLocals)) (T97.setTop (mkF m 233 #[.val (.int p0), .val (.long q1), .second, .val (.long q2), .second, .val (.int x5_6), .val (.int x6_13), .val (.ref b3), .unset, .unset] [(.int (1 : Int32))])) := fun t k => pre102 t (by
                    show Steps p.tables e below (T97.setTop (mkF m 225 #[.val (.int p0), .val (.long q1), .second, .val (.long q2), .second, .val (.int x5_6), .val (.int x6_13), .val (.ref b3), .unset, .unset] [(.int (3 : Int32)), (.int (ws97.getD ((x5_6 - (5 : Int32))).toNatClampNeg (0 : Int32)))])) _
                    refine XS.icmpNo X97.here hx rfl (hb hby at_225) rfl (teq hc225).2 ?_
                    show Steps p.tables e below (T97.setTop (mkF m 228 #[.val (.int p0), .val (.long q1), .second, .val (.long q2), .second, .val (.int x5_6), .val (.int x6_13), .val (.ref b3), .unset, .unset] [])) _
                    refine XS.iconst X97.here hx rfl (hb hby at_228) ?_
                    show Steps p.tables e below (T97.setTop (mkF m 229 #[.val (.int p0), .val (.long q1), .second, .val (.long q2), .second, .val (.int x5_6), .val (.int x6_13), .val (.ref b3), .unset, .unset] [(.int (1 : Int32))])) _
                    refine XS.goto X97.here hx rfl (pc0 := 229) (pc' := 233) rfl (hb hby at_229) (by decide) (by decide) ?_
                    exact k)
                refine ⟨_, ?_, pre103⟩
                all_goals (first | (simp only [own_m0_233_s0, if_pos hc214, if_pos hc225]; done) | (simp [own_m0_233_s0, if_pos hc214, if_pos hc225]; done))
              · have pre104 : own_Pre p e below (s₁.setTop (entryFrame m #[(.int p0), (.long q1), (.long q2)] maxLocals)) (T97.setTop (mkF m 233 #[.val (.int p0), .val (.long q1), .second, .val (.long q2), .second, .val (.int x5_6), .val (.int x6_13), .val (.ref b3), .unset, .unset] [(.int (0 : Int32))])) := fun t k => pre102 t (by
                    show Steps p.tables e below (T97.setTop (mkF m 225 #[.val (.int p0), .val (.long q1), .second, .val (.long q2), .second, .val (.int x5_6), .val (.int x6_13), .val (.ref b3), .unset, .unset] [(.int (3 : Int32)), (.int (ws97.getD ((x5_6 - (5 : Int32))).toNatClampNeg (0 : Int32)))])) _
                    refine XS.icmpYes X97.here hx rfl (pc0 := 225) (pc' := 232) rfl (hb hby at_225) rfl (feq hc225).2 (by decide) (by decide) ?_
                    show Steps p.tables e below (T97.setTop (mkF m 232 #[.val (.int p0), .val (.long q1), .second, .val (.long q2), .second, .val (.int x5_6), .val (.int x6_13), .val (.ref b3), .unset, .unset] [])) _
                    refine XS.iconst X97.here hx rfl (hb hby at_232) ?_
                    exact k)
                refine ⟨_, ?_, pre104⟩
                all_goals (first | (simp only [own_m0_233_s0, if_pos hc214, if_neg hc225]; done) | (simp [own_m0_233_s0, if_pos hc214, if_neg hc225]; done))
            · have pre105 : own_Pre p e below (s₁.setTop (entryFrame m #[(.int p0), (.long q1), (.long q2)] maxLocals)) (T97.setTop (mkF m 233 #[.val (.int p0), .val (.long q1), .second, .val (.long q2), .second, .val (.int x5_6), .val (.int x6_13), .val (.ref b3), .unset, .unset] [(.int (0 : Int32))])) := fun t k => pre100 t (by
                  show Steps p.tables e below (T97.setTop (mkF m 214 #[.val (.int p0), .val (.long q1), .second, .val (.long q2), .second, .val (.int x5_6), .val (.int x6_13), .val (.ref b3), .unset, .unset] [(.int (7 : Int32)), (.int x5_6)])) _
                  refine XS.icmpYes X97.here hx rfl (pc0 := 214) (pc' := 232) rfl (hb hby at_214) rfl (flt hc214).2.2.2 (by decide) (by decide) ?_
                  show Steps p.tables e below (T97.setTop (mkF m 232 #[.val (.int p0), .val (.long q1), .second, .val (.long q2), .second, .val (.int x5_6), .val (.int x6_13), .val (.ref b3), .unset, .unset] [])) _
                  refine XS.iconst X97.here hx rfl (hb hby at_232) ?_
                  exact k)
              refine ⟨_, ?_, pre105⟩
              all_goals (first | (simp only [own_m0_233_s0, if_neg hc214]; done) | (simp [own_m0_233_s0, if_neg hc214]; done))
          have z107 : n0 ≤ (h97).size := (Nat.le_trans (Nat.le_trans z33 K32.1) (Keep.of_wr W97).1)
          obtain ⟨_, _, ⟨T106, L106, k106, n106⟩, -, X106, ⟨Lc106, hQ106, l106, y106, z106⟩, st106⟩ := Jvm.LawKit.callS X97 hx (y := (⟨"com/example/tubeline/tubeline/astm/Frame", "endsMessage", "([B)Z"⟩ : MethodName)) hown (mvT hZ (hw _ (List.mem_of_getElem? (i := 5) rfl))) (mvT hZ (hw _ (List.mem_of_getElem? (i := 6) rfl))) (mvT hZ (hw _ (List.mem_of_getElem? (i := 7) rfl))) (mvT hZ (hw _ (List.mem_of_getElem? (i := 8) rfl))) (by decide) (backOf (W := 0) (rm2 l Z aw hw [] (b3) (k3) (x5_6) (ws97) (h97) n0 z107 V97 (own_n x5_6 hx5_6).2.2) hZ (hw _ (List.mem_of_getElem? (i := 8) rfl)) (hw _ (List.mem_of_getElem? (i := 7) rfl)) (by decide) (by decide)) (g := (mkF m 237 #[.val (.int p0), .val (.long q1), .second, .val (.long q2), .second, .val (.int x5_6), .val (.int x6_13), .val (.ref b3), .val (.int m233_s0), .unset] [(.ref b3)])) rfl (by rw [hml]; rfl) (argsL := [(.ref b3)]) (rest := []) (lenOf pd_2 rfl) rfl (by show 2 * 0 + _ ≤ _; exact Nat.le_of_eq rfl) (hb hby at_237) (fun _ _ => ⟨rfl, e97, (by decide : 1 + 0 ≤ _), (by decide : 15 + 0 ≤ _)⟩)
          dsimp only [Pt.U, Pt.locs, Pt.cells, Pt.slots] at X106 l106 y106 z106 st106 hQ106
          subst l106 y106 z106
          obtain ⟨rfl, Nq106, eq106⟩ := hQ106
          have N106 := Fr.app N97 Nq106
          obtain ⟨x9_242, hx9_242, pre108⟩ : ∃ z : Int32, z = (own_f2 x5_6 ws97) ∧ own_Pre p e below (s₁.setTop (entryFrame m #[(.int p0), (.long q1), (.long q2)] maxLocals)) (T106.setTop (mkF m 242 #[.val (.int p0), .val (.long q1), .second, .val (.long q2), .second, .val (.int x5_6), .val (.int x6_13), .val (.ref b3), .val (.int m233_s0), .val (.int z)] [])) := ⟨_, rfl, fun t k => pre99 t (by
              show Steps p.tables e below (T97.setTop (mkF m 233 #[.val (.int p0), .val (.long q1), .second, .val (.long q2), .second, .val (.int x5_6), .val (.int x6_13), .val (.ref b3), .unset, .unset] [(.int m233_s0)])) _
              refine XS.istore X97.here hx rfl (hb hby at_233) rfl (l' := #[.val (.int p0), .val (.long q1), .second, .val (.long q2), .second, .val (.int x5_6), .val (.int x6_13), .val (.ref b3), .val (.int m233_s0), .unset]) rfl ?_
              show Steps p.tables e below (T97.setTop (mkF m 235 #[.val (.int p0), .val (.long q1), .second, .val (.long q2), .second, .val (.int x5_6), .val (.int x6_13), .val (.ref b3), .val (.int m233_s0), .unset] [])) _
              refine XS.aload X97.here hx rfl (hb hby at_235) rfl rfl ?_
              show Steps p.tables e below (T97.setTop (mkF m 237 #[.val (.int p0), .val (.long q1), .second, .val (.long q2), .second, .val (.int x5_6), .val (.int x6_13), .val (.ref b3), .val (.int m233_s0), .unset] [(.ref b3)])) _
              refine st106 _ ?_
              show Steps p.tables e below (T106.setTop (mkF m 240 #[.val (.int p0), .val (.long q1), .second, .val (.long q2), .second, .val (.int x5_6), .val (.int x6_13), .val (.ref b3), .val (.int m233_s0), .unset] [(.int (own_f2 x5_6 ws97))])) _
              refine XS.istore X106.here hx rfl (hb hby at_240) rfl (l' := #[.val (.int p0), .val (.long q1), .second, .val (.long q2), .second, .val (.int x5_6), .val (.int x6_13), .val (.ref b3), .val (.int m233_s0), .val (.int (own_f2 x5_6 ws97))]) rfl ?_
              exact k)⟩
          have hc246 : (x9_242 = m233_s0) := by rw [hx9_242, hm233_s0]; exact own_plain _ _
          obtain ⟨fs, hr, hrun, hended, hW, hsame⟩ := X106.leave (v := some (.int (1 : Int32))) (fun h => by rw [Bd.returns] at h; cases h)
          refine ⟨_, _, pre108 _ ?_, hrun, hended, _, _, rfl, ?_, ⟨_, rfl⟩, hW, hsame.mono (by decide) (by decide)⟩
          · show Steps p.tables e below (T106.setTop (mkF m 242 #[.val (.int p0), .val (.long q1), .second, .val (.long q2), .second, .val (.int x5_6), .val (.int x6_13), .val (.ref b3), .val (.int m233_s0), .val (.int x9_242)] [])) _
            refine XS.iload X106.here hx rfl (hb hby at_242) rfl ?_
            show Steps p.tables e below (T106.setTop (mkF m 244 #[.val (.int p0), .val (.long q1), .second, .val (.long q2), .second, .val (.int x5_6), .val (.int x6_13), .val (.ref b3), .val (.int m233_s0), .val (.int x9_242)] [(.int x9_242)])) _
            refine XS.iload X106.here hx rfl (hb hby at_244) rfl ?_
            show Steps p.tables e below (T106.setTop (mkF m 246 #[.val (.int p0), .val (.long q1), .second, .val (.long q2), .second, .val (.int x5_6), .val (.int x6_13), .val (.ref b3), .val (.int m233_s0), .val (.int x9_242)] [(.int m233_s0), (.int x9_242)])) _
            refine XS.icmpNo X106.here hx rfl (hb hby at_246) rfl (teq hc246).2 ?_
            show Steps p.tables e below (T106.setTop (mkF m 249 #[.val (.int p0), .val (.long q1), .second, .val (.long q2), .second, .val (.int x5_6), .val (.int x6_13), .val (.ref b3), .val (.int m233_s0), .val (.int x9_242)] [])) _
            refine XS.iconst X106.here hx rfl (hb hby at_249) ?_
            show Steps p.tables e below (T106.setTop (mkF m 250 #[.val (.int p0), .val (.long q1), .second, .val (.long q2), .second, .val (.int x5_6), .val (.int x6_13), .val (.ref b3), .val (.int m233_s0), .val (.int x9_242)] [(.int (1 : Int32))])) _
            refine XS.goto X106.here hx rfl (pc0 := 250) (pc' := 254) rfl (hb hby at_250) (by decide) (by decide) ?_
            show Steps p.tables e below (T106.setTop (mkF m 254 #[.val (.int p0), .val (.long q1), .second, .val (.long q2), .second, .val (.int x5_6), .val (.int x6_13), .val (.ref b3), .val (.int m233_s0), .val (.int x9_242)] [(.int (1 : Int32))])) _
            exact retN X106 hx (t := .boolean) Bd.returns (by simp) (hb hby at_254) hr
          · show Q0 Z p0 q1 q2 h0 n0 _ T106.heap _
            rw [eq106]
            unfold Q0
            refine ⟨rfl, N106⟩
      · have pre111 : own_Pre p e below (s₁.setTop (entryFrame m #[(.int p0), (.long q1), (.long q2)] maxLocals)) (T32.setTop (mkF m 214 #[.val (.int p0), .val (.long q1), .second, .val (.long q2), .second, .val (.int x5_6), .val (.int x6_13), .val (.ref b3), .unset, .unset] [(.int (7 : Int32)), (.int x5_6)])) := fun t k => pre84 t (by
            show Steps p.tables e below (T32.setTop (mkF m 191 #[.val (.int p0), .val (.long q1), .second, .val (.long q2), .second, .val (.int x5_6), .val (.int x6_13), .val (.ref b3), .unset, .unset] [(.int (3 : Int32)), (.int x6_13)])) _
            refine XS.icmpYes X32.here hx rfl (pc0 := 191) (pc' := 210) rfl (hb hby at_191) rfl (feq hc191).2 (by decide) (by decide) ?_
            show Steps p.tables e below (T32.setTop (mkF m 210 #[.val (.int p0), .val (.long q1), .second, .val (.long q2), .second, .val (.int x5_6), .val (.int x6_13), .val (.ref b3), .unset, .unset] [])) _
            refine XS.iload X32.here hx rfl (hb hby at_210) rfl ?_
            show Steps p.tables e below (T32.setTop (mkF m 212 #[.val (.int p0), .val (.long q1), .second, .val (.long q2), .second, .val (.int x5_6), .val (.int x6_13), .val (.ref b3), .unset, .unset] [(.int x5_6)])) _
            refine XS.bipush X32.here hx rfl (hb hby at_212) ?_
            exact k)
        obtain ⟨m233_s0, hm233_s0, pre110⟩ : ∃ (m233_s0 : Int32), m233_s0 = (own_m0_233_s0 x5_6 wn32) ∧ own_Pre p e below (s₁.setTop (entryFrame m #[(.int p0), (.long q1), (.long q2)] maxLocals)) (T32.setTop (mkF m 233 #[.val (.int p0), .val (.long q1), .second, .val (.long q2), .second, .val (.int x5_6), .val (.int x6_13), .val (.ref b3), .unset, .unset] [(.int m233_s0)])) := by
          by_cases hc214 : (7 : Int32) < x5_6
          · obtain ⟨cl112, Ar112, hin112, hat112⟩ := own_AI.at po32_0 (j := (x5_6 - (5 : Int32))) (own_in5 hc214 (own_n x5_6 hx5_6).2.2)
            have pre113 : own_Pre p e below (s₁.setTop (entryFrame m #[(.int p0), (.long q1), (.long q2)] maxLocals)) (T32.setTop (mkF m 225 #[.val (.int p0), .val (.long q1), .second, .val (.long q2), .second, .val (.int x5_6), .val (.int x6_13), .val (.ref b3), .unset, .unset] [(.int (3 : Int32)), (.int (wn32.getD ((x5_6 - (5 : Int32))).toNatClampNeg (0 : Int32)))])) := fun t k => pre111 t (by
                show Steps p.tables e below (T32.setTop (mkF m 214 #[.val (.int p0), .val (.long q1), .second, .val (.long q2), .second, .val (.int x5_6), .val (.int x6_13), .val (.ref b3), .unset, .unset] [(.int (7 : Int32)), (.int x5_6)])) _
                refine XS.icmpNo X32.here hx rfl (hb hby at_214) rfl (tlt hc214).2.2.2 ?_
                show Steps p.tables e below (T32.setTop (mkF m 217 #[.val (.int p0), .val (.long q1), .second, .val (.long q2), .second, .val (.int x5_6), .val (.int x6_13), .val (.ref b3), .unset, .unset] [])) _
                refine XS.aload X32.here hx rfl (hb hby at_217) rfl rfl ?_
                show Steps p.tables e below (T32.setTop (mkF m 219 #[.val (.int p0), .val (.long q1), .second, .val (.long q2), .second, .val (.int x5_6), .val (.int x6_13), .val (.ref b3), .unset, .unset] [(.ref b3)])) _
                refine XS.iload X32.here hx rfl (hb hby at_219) rfl ?_
                show Steps p.tables e below (T32.setTop (mkF m 221 #[.val (.int p0), .val (.long q1), .second, .val (.long q2), .second, .val (.int x5_6), .val (.int x6_13), .val (.ref b3), .unset, .unset] [(.int x5_6), (.ref b3)])) _
                refine XS.iconst X32.here hx rfl (hb hby at_221) ?_
                show Steps p.tables e below (T32.setTop (mkF m 222 #[.val (.int p0), .val (.long q1), .second, .val (.long q2), .second, .val (.int x5_6), .val (.int x6_13), .val (.ref b3), .unset, .unset] [(.int (5 : Int32)), (.int x5_6), (.ref b3)])) _
                refine XS.isub X32.here hx rfl (hb hby at_222) rfl ?_
                show Steps p.tables e below (T32.setTop (mkF m 223 #[.val (.int p0), .val (.long q1), .second, .val (.long q2), .second, .val (.int x5_6), .val (.int x6_13), .val (.ref b3), .unset, .unset] [(.int (x5_6 - (5 : Int32))), (.ref b3)])) _
                refine X32.baloadBytes hx (j := (x5_6 - (5 : Int32))) (v := (.int (wn32.getD ((x5_6 - (5 : Int32))).toNatClampNeg (0 : Int32)))) Ar112.1 (State.isArrayOf_alike hZ.alike Ar112.2.1) Ar112.2.2 hin112 hat112 (g := (mkF m 223 #[.val (.int p0), .val (.long q1), .second, .val (.long q2), .second, .val (.int x5_6), .val (.int x6_13), .val (.ref b3), .unset, .unset] [(.int (x5_6 - (5 : Int32))), (.ref b3)])) rfl rfl (hb hby at_223) _ ?_
                show Steps p.tables e below (T32.setTop (mkF m 224 #[.val (.int p0), .val (.long q1), .second, .val (.long q2), .second, .val (.int x5_6), .val (.int x6_13), .val (.ref b3), .unset, .unset] [(.int (wn32.getD ((x5_6 - (5 : Int32))).toNatClampNeg (0 : Int32)))])) _
                refine XS.iconst X32.here hx rfl (hb hby at_224) ?_
                exact k)
            by_cases hc225 : (wn32.getD ((x5_6 - (5 : Int32))).toNatClampNeg (0 : Int32)) = (3 : Int32)
            · have pre114 : own_Pre p e below (s₁.setTop (entryFrame m #[(.int p0), (.long q1), (.long q2)] maxLocals)) (T32.setTop (mkF m 233 #[.val (.int p0), .val (.long q1), .second, .val (.long q2), .second, .val (.int x5_6), .val (.int x6_13), .val (.ref b3), .unset, .unset] [(.int (1 : Int32))])) := fun t k => pre113 t (by
                  show Steps p.tables e below (T32.setTop (mkF m 225 #[.val (.int p0), .val (.long q1), .second, .val (.long q2), .second, .val (.int x5_6), .val (.int x6_13), .val (.ref b3), .unset, .unset] [(.int (3 : Int32)), (.int (wn32.getD ((x5_6 - (5 : Int32))).toNatClampNeg (0 : Int32)))])) _
                  refine XS.icmpNo X32.here hx rfl (hb hby at_225) rfl (teq hc225).2 ?_
                  show Steps p.tables e below (T32.setTop (mkF m 228 #[.val (.int p0), .val (.long q1), .second, .val (.long q2), .second, .val (.int x5_6), .val (.int x6_13), .val (.ref b3), .unset, .unset] [])) _
                  refine XS.iconst X32.here hx rfl (hb hby at_228) ?_
                  show Steps p.tables e below (T32.setTop (mkF m 229 #[.val (.int p0), .val (.long q1), .second, .val (.long q2), .second, .val (.int x5_6), .val (.int x6_13), .val (.ref b3), .unset, .unset] [(.int (1 : Int32))])) _
                  refine XS.goto X32.here hx rfl (pc0 := 229) (pc' := 233) rfl (hb hby at_229) (by decide) (by decide) ?_
                  exact k)
              refine ⟨_, ?_, pre114⟩
              all_goals (first | (simp only [own_m0_233_s0, if_pos hc214, if_pos hc225]; done) | (simp [own_m0_233_s0, if_pos hc214, if_pos hc225]; done))
            · have pre115 : own_Pre p e below (s₁.setTop (entryFrame m #[(.int p0), (.long q1), (.long q2)] maxLocals)) (T32.setTop (mkF m 233 #[.val (.int p0), .val (.long q1), .second, .val (.long q2), .second, .val (.int x5_6), .val (.int x6_13), .val (.ref b3), .unset, .unset] [(.int (0 : Int32))])) := fun t k => pre113 t (by
                  show Steps p.tables e below (T32.setTop (mkF m 225 #[.val (.int p0), .val (.long q1), .second, .val (.long q2), .second, .val (.int x5_6), .val (.int x6_13), .val (.ref b3), .unset, .unset] [(.int (3 : Int32)), (.int (wn32.getD ((x5_6 - (5 : Int32))).toNatClampNeg (0 : Int32)))])) _
                  refine XS.icmpYes X32.here hx rfl (pc0 := 225) (pc' := 232) rfl (hb hby at_225) rfl (feq hc225).2 (by decide) (by decide) ?_
                  show Steps p.tables e below (T32.setTop (mkF m 232 #[.val (.int p0), .val (.long q1), .second, .val (.long q2), .second, .val (.int x5_6), .val (.int x6_13), .val (.ref b3), .unset, .unset] [])) _
                  refine XS.iconst X32.here hx rfl (hb hby at_232) ?_
                  exact k)
              refine ⟨_, ?_, pre115⟩
              all_goals (first | (simp only [own_m0_233_s0, if_pos hc214, if_neg hc225]; done) | (simp [own_m0_233_s0, if_pos hc214, if_neg hc225]; done))
          · have pre116 : own_Pre p e below (s₁.setTop (entryFrame m #[(.int p0), (.long q1), (.long q2)] maxLocals)) (T32.setTop (mkF m 233 #[.val (.int p0), .val (.long q1), .second, .val (.long q2), .second, .val (.int x5_6), .val (.int x6_13), .val (.ref b3), .unset, .unset] [(.int (0 : Int32))])) := fun t k => pre111 t (by
                show Steps p.tables e below (T32.setTop (mkF m 214 #[.val (.int p0), .val (.long q1), .second, .val (.long q2), .second, .val (.int x5_6), .val (.int x6_13), .val (.ref b3), .unset, .unset] [(.int (7 : Int32)), (.int x5_6)])) _
                refine XS.icmpYes X32.here hx rfl (pc0 := 214) (pc' := 232) rfl (hb hby at_214) rfl (flt hc214).2.2.2 (by decide) (by decide) ?_
                show Steps p.tables e below (T32.setTop (mkF m 232 #[.val (.int p0), .val (.long q1), .second, .val (.long q2), .second, .val (.int x5_6), .val (.int x6_13), .val (.ref b3), .unset, .unset] [])) _
                refine XS.iconst X32.here hx rfl (hb hby at_232) ?_
                exact k)
            refine ⟨_, ?_, pre116⟩
            all_goals (first | (simp only [own_m0_233_s0, if_neg hc214]; done) | (simp [own_m0_233_s0, if_neg hc214]; done))
        have z118 : n0 ≤ (T32.heap).size := (Nat.le_trans z33 K32.1)
        obtain ⟨_, _, ⟨T117, L117, k117, n117⟩, -, X117, ⟨Lc117, hQ117, l117, y117, z117⟩, st117⟩ := Jvm.LawKit.callS X32 hx (y := (⟨"com/example/tubeline/tubeline/astm/Frame", "endsMessage", "([B)Z"⟩ : MethodName)) hown (mvT hZ (hw _ (List.mem_of_getElem? (i := 5) rfl))) (mvT hZ (hw _ (List.mem_of_getElem? (i := 6) rfl))) (mvT hZ (hw _ (List.mem_of_getElem? (i := 7) rfl))) (mvT hZ (hw _ (List.mem_of_getElem? (i := 8) rfl))) (by decide) (backOf (W := 0) (rm2 l Z aw hw [] (b3) (k3) (x5_6) (wn32) (T32.heap) n0 z118 po32_0 (own_n x5_6 hx5_6).2.2) hZ (hw _ (List.mem_of_getElem? (i := 8) rfl)) (hw _ (List.mem_of_getElem? (i := 7) rfl)) (by decide) (by decide)) (g := (mkF m 237 #[.val (.int p0), .val (.long q1), .second, .val (.long q2), .second, .val (.int x5_6), .val (.int x6_13), .val (.ref b3), .val (.int m233_s0), .unset] [(.ref b3)])) rfl (by rw [hml]; rfl) (argsL := [(.ref b3)]) (rest := []) (lenOf pd_2 rfl) rfl (by show 2 * 0 + _ ≤ _; exact Nat.le_of_eq rfl) (hb hby at_237) (fun _ _ => ⟨rfl, rfl, (by decide : 1 + 0 ≤ _), (by decide : 15 + 0 ≤ _)⟩)
        dsimp only [Pt.U, Pt.locs, Pt.cells, Pt.slots] at X117 l117 y117 z117 st117 hQ117
        subst l117 y117 z117
        obtain ⟨rfl, Nq117, eq117⟩ := hQ117
        have N117 := Fr.app N32 Nq117
        obtain ⟨x9_242, hx9_242, pre119⟩ : ∃ z : Int32, z = (own_f2 x5_6 wn32) ∧ own_Pre p e below (s₁.setTop (entryFrame m #[(.int p0), (.long q1), (.long q2)] maxLocals)) (T117.setTop (mkF m 242 #[.val (.int p0), .val (.long q1), .second, .val (.long q2), .second, .val (.int x5_6), .val (.int x6_13), .val (.ref b3), .val (.int m233_s0), .val (.int z)] [])) := ⟨_, rfl, fun t k => pre110 t (by
            show Steps p.tables e below (T32.setTop (mkF m 233 #[.val (.int p0), .val (.long q1), .second, .val (.long q2), .second, .val (.int x5_6), .val (.int x6_13), .val (.ref b3), .unset, .unset] [(.int m233_s0)])) _
            refine XS.istore X32.here hx rfl (hb hby at_233) rfl (l' := #[.val (.int p0), .val (.long q1), .second, .val (.long q2), .second, .val (.int x5_6), .val (.int x6_13), .val (.ref b3), .val (.int m233_s0), .unset]) rfl ?_
            show Steps p.tables e below (T32.setTop (mkF m 235 #[.val (.int p0), .val (.long q1), .second, .val (.long q2), .second, .val (.int x5_6), .val (.int x6_13), .val (.ref b3), .val (.int m233_s0), .unset] [])) _
            refine XS.aload X32.here hx rfl (hb hby at_235) rfl rfl ?_
            show Steps p.tables e below (T32.setTop (mkF m 237 #[.val (.int p0), .val (.long q1), .second, .val (.long q2), .second, .val (.int x5_6), .val (.int x6_13), .val (.ref b3), .val (.int m233_s0), .unset] [(.ref b3)])) _
            refine st117 _ ?_
            show Steps p.tables e below (T117.setTop (mkF m 240 #[.val (.int p0), .val (.long q1), .second, .val (.long q2), .second, .val (.int x5_6), .val (.int x6_13), .val (.ref b3), .val (.int m233_s0), .unset] [(.int (own_f2 x5_6 wn32))])) _
            refine XS.istore X117.here hx rfl (hb hby at_240) rfl (l' := #[.val (.int p0), .val (.long q1), .second, .val (.long q2), .second, .val (.int x5_6), .val (.int x6_13), .val (.ref b3), .val (.int m233_s0), .val (.int (own_f2 x5_6 wn32))]) rfl ?_
            exact k)⟩
        have hc246 : (x9_242 = m233_s0) := by rw [hx9_242, hm233_s0]; exact own_plain _ _
        obtain ⟨fs, hr, hrun, hended, hW, hsame⟩ := X117.leave (v := some (.int (1 : Int32))) (fun h => by rw [Bd.returns] at h; cases h)
        refine ⟨_, _, pre119 _ ?_, hrun, hended, _, _, rfl, ?_, ⟨_, rfl⟩, hW, hsame.mono (by decide) (by decide)⟩
        · show Steps p.tables e below (T117.setTop (mkF m 242 #[.val (.int p0), .val (.long q1), .second, .val (.long q2), .second, .val (.int x5_6), .val (.int x6_13), .val (.ref b3), .val (.int m233_s0), .val (.int x9_242)] [])) _
          refine XS.iload X117.here hx rfl (hb hby at_242) rfl ?_
          show Steps p.tables e below (T117.setTop (mkF m 244 #[.val (.int p0), .val (.long q1), .second, .val (.long q2), .second, .val (.int x5_6), .val (.int x6_13), .val (.ref b3), .val (.int m233_s0), .val (.int x9_242)] [(.int x9_242)])) _
          refine XS.iload X117.here hx rfl (hb hby at_244) rfl ?_
          show Steps p.tables e below (T117.setTop (mkF m 246 #[.val (.int p0), .val (.long q1), .second, .val (.long q2), .second, .val (.int x5_6), .val (.int x6_13), .val (.ref b3), .val (.int m233_s0), .val (.int x9_242)] [(.int m233_s0), (.int x9_242)])) _
          refine XS.icmpNo X117.here hx rfl (hb hby at_246) rfl (teq hc246).2 ?_
          show Steps p.tables e below (T117.setTop (mkF m 249 #[.val (.int p0), .val (.long q1), .second, .val (.long q2), .second, .val (.int x5_6), .val (.int x6_13), .val (.ref b3), .val (.int m233_s0), .val (.int x9_242)] [])) _
          refine XS.iconst X117.here hx rfl (hb hby at_249) ?_
          show Steps p.tables e below (T117.setTop (mkF m 250 #[.val (.int p0), .val (.long q1), .second, .val (.long q2), .second, .val (.int x5_6), .val (.int x6_13), .val (.ref b3), .val (.int m233_s0), .val (.int x9_242)] [(.int (1 : Int32))])) _
          refine XS.goto X117.here hx rfl (pc0 := 250) (pc' := 254) rfl (hb hby at_250) (by decide) (by decide) ?_
          show Steps p.tables e below (T117.setTop (mkF m 254 #[.val (.int p0), .val (.long q1), .second, .val (.long q2), .second, .val (.int x5_6), .val (.int x6_13), .val (.ref b3), .val (.int m233_s0), .val (.int x9_242)] [(.int (1 : Int32))])) _
          exact retN X117 hx (t := .boolean) Bd.returns (by simp) (hb hby at_254) hr
        · show Q0 Z p0 q1 q2 h0 n0 _ T117.heap _
          rw [eq117]
          unfold Q0
          refine ⟨rfl, N117⟩
set_option maxRecDepth 65536 in
set_option maxHeartbeats 40000000 in
theorem comes_1 {Post : Tables → Env → Array Value → State → Outcome → State → Prop} (hpost : ∀ tb e args s v u, (limb_1_1.after args s (.returned v) u = true ∧ limb_1_2.after args s (.returned v) u = true ∧ True) → FrameEnd s (.returned v) u (Jvm.fieldLocs frame_1_writes args s ++ Jvm.arrayLocs frame_1_arrays args s ++ Jvm.staticLocs frame_1_statics s) 16 128 → Post tb e args s (.returned v) u) :
    ArmFor flags0 classFile x code maxLocals ret World_1 tables_1 room_1 Calls_1 rest_1 Pre_1 Post := by
  intro l hfl _ _ p e ha hc hk s m args below hf hA hF happ hP
  obtain ⟨hcalls, hrest, hpre⟩ := hP
  obtain ⟨-, -, -, hnamed, -, -, -, hat⟩ := (Spec.applies_iff hf).mp happ
  obtain ⟨hg, hn⟩ := and_e (Cond.before_iff.mp (show (Jvm.Cond.and given_1 narrow_1).before args s = true from hpre))
  obtain ⟨gv1, gv2⟩ := and_e hg
  obtain ⟨gv3, gv4⟩ := and_e gv2
  obtain ⟨gv5, gv6⟩ := and_e gv4
  obtain ⟨w0, w1, w2, rfl⟩ : ∃ w0 w1 w2 : Value, args = #[w0, w1, w2] := by
    have hs : args.size = 3 := by simpa [Cond.value, given_1] using gv1
    obtain ⟨L⟩ := args
    match L, hs with
    | [w0, w1, w2], _ => exact ⟨w0, w1, w2, rfl⟩
  have hw := fun d (hd : d ∈ tables_1) => atoms_spec (ws := Jvm.Cond.code x code maxLocals ret :: tables_1) hat d (List.mem_cons_of_mem _ hd)
  obtain ⟨i0, ei0⟩ := is_v gv3
  obtain rfl : w0 = (.int i0) := Option.some.inj ei0
  obtain ⟨i1, ei1⟩ := isL_v gv5
  obtain rfl : w1 = (.long i1) := Option.some.inj ei1
  obtain ⟨i2, ei2⟩ := isL_v gv6
  obtain rfl : w2 = (.long i2) := Option.some.inj ei2
  obtain ⟨n, o, h1, h2, h3, _, L, rfl, ⟨rfl, N⟩, hq⟩ := rm0 l s _ hw tables_1 i0 i1 i2 s.heap s.heap.size (Nat.le_refl _) p e ha hc hk s m _ below hf ((Spec.applies_iff_loose hf).mp happ).1 ⟨rfl, State.Warmed39.refl s, rfl⟩ trivial
  refine ⟨n, _, h1, h2, h3, hpost _ _ _ _ _ _ ⟨Cond.after_iff.mpr rfl, Cond.after_iff.mpr (eq_i res_at (Term.int_eval (1)) rfl), trivial⟩ ⟨hq.1, hq.2.1, (hq.2.2.sift fun y hy => Or.inr (N y hy)).mono (by decide) (by decide)⟩⟩
theorem main_1_1 : Claimed_1_1 := comes_1 fun _ _ _ _ _ _ h hF => ⟨h.1, hF⟩
theorem main_1_2 : Claimed_1_2 := comes_1 fun _ _ _ _ _ _ h hF => ⟨h.2.1, hF⟩
end Jvm.Pilot.@@N@@
namespace Jvm.Pilot.@@N@@
open Jvm Jvm.ClassFile Sem Op Lib Jvm.Free Jvm.Stand Jvm.Pilot.@@N@@.Jvm.D
/-! MADE BY PROGRAM (witnessworld.py) out of the Statement's table words and the real class files: 9 classes; the members and pool entries that the words name. The judged class is class 1, her method 3. -/
namespace start1
open Jvm.ClassFile
def u (s : String) : CpInfo := .utf8 (stringToUtf16 s)
/-- a pool by its gaps: so many unusable entries, then the entry; so many at the end -/
def gap : Nat → List CpInfo → List CpInfo
  | 0, r => r
  | n + 1, r => .unusable :: gap n r
def poolList (es : List (Nat × CpInfo)) (last : Nat) : List CpInfo := es.foldr (fun e r => gap e.1 (e.2 :: r)) (gap last [])
def pool (es : List (Nat × CpInfo)) (last : Nat) : Array CpInfo := ⟨poolList es last⟩
def fileOf (pool : Array CpInfo) (this : Nat) (attrs : Array Attribute := #[]) (ms : Array MethodInfo := #[]) (fl : Nat := 33) (sup : Nat := 0) (ifs : Array Nat := #[]) (fds : Array FieldInfo := #[]) : ClassFile where
  minorVersion := 0
  majorVersion := 65
  constantPool := pool
  accessFlags := fl
  thisClass := this
  superClass := sup
  interfaces := ifs
  fields := fds
  methods := ms
  attributes := attrs
def plain (name : String) (sup : Option ClassId) : Class where
  name := name
  kind := .ordinary
  loader := none
  accessFlags := 33
  super := sup
  interfaces := #[]
  cf := none
  fields := #[]
  methods := #[]
  instanceTypes := #[]
  staticTypes := #[]
  resolved := #[]
  callSites := []
  init := .initialized
  statics := none
  mirror := none

def pool0 : Array CpInfo := pool [(5, u "<init>"), (0, u "()V"), (1, .class_ 10), (1, u "java/lang/Object")] 113

def k0m0 : Method := { name := "<init>", desc := "()V", sig := { parameters := [], returnType := none }, accessFlags := 1, code := none }
/-- java/lang/Object -/
def k0 : Class := { plain "java/lang/Object" none with
  accessFlags := 33
  interfaces := #[]
  cf := some (fileOf pool0 8 #[] #[{ accessFlags := 1, nameIndex := 5, descriptorIndex := 6, attributes := #[] }] 33 0 #[] #[])
  fields := #[]
  methods := #[k0m0]
  instanceTypes := #[]
  staticTypes := #[]
  resolved := Array.replicate 124 none
  statics := none }

def pool1 : Array CpInfo := pool [(2, .class_ 4), (1, u "java/lang/Object"), (0, u "<init>"), (0, u "()V"), (0, .methodref 8 9), (0, .class_ 10), (0, .nameAndType 11 12), (0, u "com/example/tubeline/tubeline/astm/FrameEndsMessagePinLaw"), (0, u "drawn"), (0, u "(JJI)B"), (0, .methodref 8 14), (0, .nameAndType 15 16), (0, u "put"), (0, u "([BIJJ)V"), (0, .methodref 18 19), (0, .class_ 20), (0, .nameAndType 21 22), (0, u "com/example/tubeline/tubeline/astm/Frame"), (0, u "endsMessage"), (0, u "([B)Z"), (3, u "law"), (0, u "(IJJ)Z")] 4

def k1m0 : Method := { name := "<init>", desc := "()V", sig := { parameters := [], returnType := none }, accessFlags := 1, code := none }
def k1c1 : Code := { maxStack := 3, maxLocals := 8, code := method_2_code, exceptionTable := #[], attributes := #[] }
def k1m1 : Method := { name := "drawn", desc := "(JJI)B", sig := { parameters := [.long, .long, .int], returnType := some .byte }, accessFlags := 10, code := some k1c1 }
def k1c2 : Code := { maxStack := 7, maxLocals := 6, code := method_3_code, exceptionTable := #[], attributes := #[] }
def k1m2 : Method := { name := "put", desc := "([BIJJ)V", sig := { parameters := [(.array .byte), .int, .long, .long], returnType := none }, accessFlags := 10, code := some k1c2 }
def k1c3 : Code := { maxStack := 6, maxLocals := 10, code := code, exceptionTable := #[], attributes := #[] }
def k1m3 : Method := { name := "law", desc := "(IJJ)Z", sig := { parameters := [.int, .long, .long], returnType := some .boolean }, accessFlags := 9, code := some k1c3 }
/-- com/example/tubeline/tubeline/astm/FrameEndsMessagePinLaw -/
def k1 : Class := { plain "com/example/tubeline/tubeline/astm/FrameEndsMessagePinLaw" (some 0) with
  accessFlags := 49
  interfaces := #[]
  cf := some (fileOf pool1 8 #[] #[{ accessFlags := 1, nameIndex := 5, descriptorIndex := 6, attributes := #[] }, { accessFlags := 10, nameIndex := 11, descriptorIndex := 12, attributes := #[] }, { accessFlags := 10, nameIndex := 15, descriptorIndex := 16, attributes := #[] }, { accessFlags := 9, nameIndex := 26, descriptorIndex := 27, attributes := #[] }] 49 2 #[] #[])
  fields := #[]
  methods := #[k1m0, k1m1, k1m2, k1m3]
  instanceTypes := #[]
  staticTypes := #[]
  resolved := Array.replicate 32 none
  statics := none }

def pool2 : Array CpInfo := pool [(1, .class_ 2), (0, u "com/example/tubeline/tubeline/astm/Frame"), (1, .class_ 6), (1, u "java/lang/Object"), (4, u "number"), (0, u "I"), (2, u "text"), (0, u "[B"), (2, u "last"), (0, u "Z"), (71, u "MAX_TEXT"), (2, u "OVERHEAD"), (1, u "MAX_LENGTH"), (11, u "([B)Z"), (0, u "endsMessage")] 7

def k2c0 : Code := { maxStack := 3, maxLocals := 1, code := prog_8_method_5_code, exceptionTable := #[], attributes := #[] }
def k2m0 : Method := { name := "endsMessage", desc := "([B)Z", sig := { parameters := [(.array .byte)], returnType := some .boolean }, accessFlags := 8, code := some k2c0 }
/-- com/example/tubeline/tubeline/astm/Frame -/
def k2 : Class := { plain "com/example/tubeline/tubeline/astm/Frame" (some 0) with
  accessFlags := 48
  interfaces := #[]
  cf := some (fileOf pool2 1 #[] #[{ accessFlags := 8, nameIndex := 110, descriptorIndex := 109, attributes := #[] }] 48 4 #[] #[{ accessFlags := 24, nameIndex := 92, descriptorIndex := 12, attributes := #[] }, { accessFlags := 26, nameIndex := 95, descriptorIndex := 12, attributes := #[] }, { accessFlags := 24, nameIndex := 97, descriptorIndex := 12, attributes := #[] }, { accessFlags := 18, nameIndex := 11, descriptorIndex := 12, attributes := #[] }, { accessFlags := 18, nameIndex := 15, descriptorIndex := 16, attributes := #[] }, { accessFlags := 18, nameIndex := 19, descriptorIndex := 20, attributes := #[] }])
  fields := #[{ name := "MAX_TEXT", type := .int, accessFlags := 24, slot := 0, constantValue := 0 }, { name := "OVERHEAD", type := .int, accessFlags := 26, slot := 1, constantValue := 0 }, { name := "MAX_LENGTH", type := .int, accessFlags := 24, slot := 2, constantValue := 0 }, { name := "number", type := .int, accessFlags := 18, slot := 0, constantValue := 0 }, { name := "text", type := (.array .byte), accessFlags := 18, slot := 1, constantValue := 0 }, { name := "last", type := .boolean, accessFlags := 18, slot := 2, constantValue := 0 }]
  methods := #[k2m0]
  instanceTypes := #[.int, (.array .byte), .boolean]
  staticTypes := #[.int, .int, .int]
  resolved := Array.replicate 118 none
  statics := none }

def pool3 : Array CpInfo := pool [(1, u "java/lang/Cloneable"), (0, .class_ 1), (0, u "java/lang/Object"), (0, .class_ 3)] 3

/-- java/lang/Cloneable -/
def k3 : Class := { plain "java/lang/Cloneable" (some 0) with
  accessFlags := 1537
  interfaces := #[]
  cf := some (fileOf pool3 2 #[] #[] 1537 4 #[] #[])
  fields := #[]
  methods := #[]
  instanceTypes := #[]
  staticTypes := #[]
  resolved := Array.replicate 8 none
  statics := none }

def pool4 : Array CpInfo := pool [(1, u "java/io/Serializable"), (0, .class_ 1), (0, u "java/lang/Object"), (0, .class_ 3)] 3

/-- java/io/Serializable -/
def k4 : Class := { plain "java/io/Serializable" (some 0) with
  accessFlags := 1537
  interfaces := #[]
  cf := some (fileOf pool4 2 #[] #[] 1537 4 #[] #[])
  fields := #[]
  methods := #[]
  instanceTypes := #[]
  staticTypes := #[]
  resolved := Array.replicate 8 none
  statics := none }

/-- the primitive byte -/
def k5 : Class := { plain "byte" none with kind := .primitive 'B', accessFlags := 0x411 }
/-- [B -/
def k6 : Class := { plain "[B" (some 0) with kind := .array 5 .byte, interfaces := #[3, 4], accessFlags := 1041 }

/-- the primitive int -/
def k7 : Class := { plain "int" none with kind := .primitive 'I', accessFlags := 0x411 }
/-- [I -/
def k8 : Class := { plain "[I" (some 0) with kind := .array 7 .int, interfaces := #[3, 4], accessFlags := 1041 }

def heap : Heap := #[]
def classes : Array Class := #[k0, k1, k2, k3, k4, k5, k6, k7, k8]
def interned : List (Array UInt16 × Addr) := []
def slotsUsed : Nat := 0
def theMethod : MethodId := ⟨1, 3⟩
def args0 : Array Value := #[.int 5, .long 6, .long 7]
def aboutOver (below : List Frame) : State where
  vm := { classes := classes, interned := interned.toArray }
  heap := heap
  slotsUsed := slotsUsed
  threads := #[{ frames := .invoking theMethod args0 :: below }]
def below0 : List Frame := [.native { method := ⟨0, 0⟩, args := #[] }]
def about1 : State := aboutOver below0
def p0 : Program := .bare "" "" ""
def e0 : Env := launch0.env 0 0 0
theorem w_frames : about1.frames = Frame.invoking theMethod args0 :: below0 := rfl
set_option maxRecDepth 65536 in
theorem w_args : argsFit about1.vm theMethod args0 = true := by decide +kernel
set_option maxRecDepth 65536 in
theorem w_heap : heapFits about1 = true := by decide +kernel
set_option maxRecDepth 65536 in
theorem w_runnable : about1.curStatus? = some .runnable := by decide +kernel
set_option maxRecDepth 65536 in
theorem w_alone : about1.alone = true := by decide +kernel
set_option maxRecDepth 65536 in
theorem w_named : about1.methodNamed? x = some theMethod := by decide +kernel
set_option maxRecDepth 65536 in
theorem w_hears : about1.hears theMethod below0 = true := by decide +kernel
set_option maxRecDepth 65536 in
theorem w_ripe : about1.ripe theMethod args0 below0 = true := by decide +kernel
theorem w_running : about1.status = .running := rfl
set_option maxRecDepth 65536 in
theorem w_room : about1.hasRoom e0.platform room_1 = true :=
  launch0.hasRoom_least _ room_1 (by decide +kernel) (by decide +kernel) (by decide +kernel) (by decide +kernel) (by decide +kernel) (by decide +kernel)
theorem allAtoms_all (ts : List Jvm.Cond) (a : Array Jvm.Value) (st : Jvm.State) : (allAtoms ts).before a st = ts.all (fun c => c.before a st) := by
  induction ts with
  | nil => rfl
  | cons c t ih =>
    show (Jvm.Cond.and c (allAtoms t)).before a st = _
    rw [Jvm.Cond.before_and, ih, List.all_cons]
def words1 : List Jvm.Cond := Jvm.Cond.code x code maxLocals ret :: tables_1
/-- a 'code' word, met by the world's own term for the bytes: nothing is compared byte by byte -/
theorem code_word {y : MethodName} {bytes : ByteArray} {mx : Nat} {rt : Option FieldType} {a : Array Value} {s : State} {m : MethodId} {meth : Method} {c : Code} (h1 : s.methodNamed? y = some m) (h2 : s.vm.method? m = some meth) (h3 : meth.code = some c) (h4 : c.code = bytes)
    (h5 : (c.maxLocals == mx && c.exceptionTable.isEmpty && decide (c.maxStack ≤ mostOperands) && decide (meth.sig.returnType = rt) && !meth.locks && decide (parseMethodDescriptor y.desc = some meth.sig)) = true) : (Jvm.Cond.code y bytes mx rt).before a s = true := by
  simp only [Bool.and_eq_true, beq_iff_eq, Bool.not_eq_true', decide_eq_true_eq] at h5
  obtain ⟨⟨⟨⟨⟨g1, g2⟩, g3⟩, g4⟩, g5⟩, g6⟩ := h5
  simp [Cond.before, Cond.holds, Cond.value, h1, h2, h3, h4, g1, g2, g3, g4, g5, g6]
def isCode : Jvm.Cond → Bool
  | .code _ _ _ _ => true
  | _ => false
theorem all_split {L : List Jvm.Cond} {P : Jvm.Cond → Bool} (h1 : L.all (fun c => isCode c || P c) = true) (h2 : ∀ c ∈ L.filter isCode, P c = true) : L.all P = true := by
  refine List.all_eq_true.mpr fun c hc => ?_
  have h := List.all_eq_true.mp h1 c hc
  rcases Bool.eq_false_or_eq_true (isCode c) with hi | hi
  · exact h2 c (List.mem_filter.mpr ⟨hc, hi⟩)
  · simpa [hi] using h
set_option maxRecDepth 65536 in
theorem w_c0 : (Jvm.Cond.code x code maxLocals ret).before args0 about1 = true := code_word (m := ⟨1, 3⟩) (meth := k1m3) (c := k1c3) (by decide +kernel) rfl rfl rfl (by decide +kernel)
set_option maxRecDepth 65536 in
theorem w_c1 : (Jvm.Cond.code ({ cls := "com/example/tubeline/tubeline/astm/FrameEndsMessagePinLaw", name := "put", desc := "([BIJJ)V" } : Jvm.MethodName) method_3_code (6 : Nat) (Option.none : Option Jvm.ClassFile.FieldType)).before args0 about1 = true := code_word (m := ⟨1, 2⟩) (meth := k1m2) (c := k1c2) (by decide +kernel) rfl rfl rfl (by decide +kernel)
set_option maxRecDepth 65536 in
theorem w_c2 : (Jvm.Cond.code ({ cls := "com/example/tubeline/tubeline/astm/Frame", name := "endsMessage", desc := "([B)Z" } : Jvm.MethodName) prog_8_method_5_code (1 : Nat) (Option.some Jvm.ClassFile.FieldType.boolean)).before args0 about1 = true := code_word (m := ⟨2, 0⟩) (meth := k2m0) (c := k2c0) (by decide +kernel) rfl rfl rfl (by decide +kernel)
set_option maxRecDepth 65536 in
theorem w_c3 : (Jvm.Cond.code ({ cls := "com/example/tubeline/tubeline/astm/FrameEndsMessagePinLaw", name := "drawn", desc := "(JJI)B" } : Jvm.MethodName) method_2_code (8 : Nat) (Option.some Jvm.ClassFile.FieldType.byte)).before args0 about1 = true := code_word (m := ⟨1, 1⟩) (meth := k1m1) (c := k1c1) (by decide +kernel) rfl rfl rfl (by decide +kernel)
def codes1 : List Jvm.Cond := [Jvm.Cond.code x code maxLocals ret, Jvm.Cond.code ({ cls := "com/example/tubeline/tubeline/astm/FrameEndsMessagePinLaw", name := "put", desc := "([BIJJ)V" } : Jvm.MethodName) method_3_code (6 : Nat) (Option.none : Option Jvm.ClassFile.FieldType), Jvm.Cond.code ({ cls := "com/example/tubeline/tubeline/astm/Frame", name := "endsMessage", desc := "([B)Z" } : Jvm.MethodName) prog_8_method_5_code (1 : Nat) (Option.some Jvm.ClassFile.FieldType.boolean), Jvm.Cond.code ({ cls := "com/example/tubeline/tubeline/astm/FrameEndsMessagePinLaw", name := "drawn", desc := "(JJI)B" } : Jvm.MethodName) method_2_code (8 : Nat) (Option.some Jvm.ClassFile.FieldType.byte)]
set_option maxRecDepth 65536 in
theorem codes_eq : words1.filter isCode = codes1 := rfl
theorem w_codes : ∀ c ∈ words1.filter isCode, c.before args0 about1 = true := by
  rw [codes_eq]
  intro c hc
  simp only [codes1, List.mem_cons, List.not_mem_nil, or_false] at hc
  rcases hc with rfl | rfl | rfl | rfl
  · exact w_c0
  · exact w_c1
  · exact w_c2
  · exact w_c3
set_option maxRecDepth 65536 in
theorem w_t1 : words1.all (fun c => isCode c || c.before args0 about1) = true := by decide +kernel
theorem w_tables : (allAtoms (Jvm.Cond.code x code maxLocals ret :: tables_1)).before args0 about1 = true := by
  rw [allAtoms_all]
  show words1.all (fun c => c.before args0 about1) = true
  refine all_split ?_ w_codes
  rw [w_t1]
set_option maxRecDepth 65536 in
theorem w_case : (Jvm.Cond.and given_1 narrow_1).before args0 about1 = true := by decide +kernel
theorem w_applies : (headSpec (Jvm.Cond.code x code maxLocals ret :: tables_1) room_1).applies x e0.platform about1 = true :=
  (Spec.applies_iff w_frames).mpr ⟨w_running, w_runnable, w_alone, w_named, w_hears, w_ripe, w_room, w_tables⟩
theorem atStart : AtStart classFile x code maxLocals ret World_1 tables_1 room_1 Calls_1 rest_1 Pre_1 launch0 p0 e0 about1 theMethod args0 below0 :=
  ⟨lists_1, trivial, launch0.admits_env _ _ _, launch0.least_env, fairChoices_fair.cas, fairChoices_fair.clock, w_frames, w_args, w_heap, w_applies, trivial, trivial, w_case⟩
end start1
theorem witness_1 : WitnessClaimed_1 := ⟨start1.p0, start1.e0, start1.about1, start1.theMethod, start1.args0, start1.below0, start1.atStart⟩
end Jvm.Pilot.@@N@@
