import JvmDerived
import JvmDerived.Pilot.@@N@@Statement
import JvmDerived.Pilot.@@N@@Code
set_option linter.unusedVariables false
set_option linter.unusedSimpArgs false
namespace Jvm.RoadKit
open Sem ClassFile Op Lib Jvm.Stand Jvm.Free Jvm.LawKit
section New
variable {p : Program} {l : Launch} {e : Env} {R : Room} {s : State} {m : MethodId} {args : Array Value} {below : List Frame} {meth : Method} {c : Code} {T : State} {locs : List Loc} {cells slots : Nat}
theorem retI (X : Stand p l e R s m args below meth c T locs cells slots) (hx : p.tables.exec = Jvm.exec) {pc : Nat} {Ls : Array Slot} {z : Int32} {rest : List Value} (hret : meth.sig.returnType = some .int) (hd : decode c.code pc = .ok (.ireturn, 1)) {fs : List Frame}
    (hl : ∀ (f : JFrame) (acts : List Action), f.method = m → f.locked = none → f.entered = [] → (doReturn e (T.setTop f) acts (some (.int z))).1 = T.setFrames fs) : Steps p.tables e below (T.setTop (mkF m pc Ls (.int z :: rest))) (T.setFrames fs) := by
  have hm' : T.vm.method? m = some meth := X.method'
  have hn : narrow .int (.int z) = .int z := rfl
  show Steps p.tables e below (T.setTop { method := m, pc := pc, locals := Ls, stack := _ :: rest, locked := none }) _
  jvm_step X.here [X.here.top, hx, hd, hm', hret, hn]
  first | (intro acts; rw [hl _ acts rfl rfl rfl]) | rw [hl _ _ rfl rfl rfl]
  exact Steps.refl _
theorem retJ (X : Stand p l e R s m args below meth c T locs cells slots) (hx : p.tables.exec = Jvm.exec) {pc : Nat} {Ls : Array Slot} {z : Int64} {rest : List Value} (hret : meth.sig.returnType = some .long) (hd : decode c.code pc = .ok (.lreturn, 1)) {fs : List Frame}
    (hl : ∀ (f : JFrame) (acts : List Action), f.method = m → f.locked = none → f.entered = [] → (doReturn e (T.setTop f) acts (some (.long z))).1 = T.setFrames fs) : Steps p.tables e below (T.setTop (mkF m pc Ls (.long z :: rest))) (T.setFrames fs) := by
  have hm' : T.vm.method? m = some meth := X.method'
  have hn : narrow .long (.long z) = .long z := rfl
  show Steps p.tables e below (T.setTop { method := m, pc := pc, locals := Ls, stack := _ :: rest, locked := none }) _
  jvm_step X.here [X.here.top, hx, hd, hm', hret, hn]
  first | (intro acts; rw [hl _ acts rfl rfl rfl]) | rw [hl _ _ rfl rfl rfl]
  exact Steps.refl _
theorem retR (X : Stand p l e R s m args below meth c T locs cells slots) (hx : p.tables.exec = Jvm.exec) {pc : Nat} {Ls : Array Slot} {v : Value} {rest : List Value} (hv : v.isRef = true) {ty : FieldType} (hret : meth.sig.returnType = some ty) (ht : ty.isReference = true) (hd : decode c.code pc = .ok (.areturn, 1)) {fs : List Frame}
    (hl : ∀ (f : JFrame) (acts : List Action), f.method = m → f.locked = none → f.entered = [] → (doReturn e (T.setTop f) acts (some v)).1 = T.setFrames fs) : Steps p.tables e below (T.setTop (mkF m pc Ls (v :: rest))) (T.setFrames fs) := by
  have hm' : T.vm.method? m = some meth := X.method'
  show Steps p.tables e below (T.setTop { method := m, pc := pc, locals := Ls, stack := _ :: rest, locked := none }) _
  jvm_step X.here [X.here.top, hx, hd, hm', hret, hv, ht]
  first | (intro acts; rw [hl _ acts rfl rfl rfl]) | rw [hl _ _ rfl rfl rfl]
  exact Steps.refl _
end New
end Jvm.RoadKit
namespace Jvm.Pilot.@@N@@
open Jvm Jvm.ClassFile Sem Op Lib Jvm.Free Jvm.Stand Jvm.LawKit Jvm.RoadKit Bundle Jvm.Pilot.@@N@@.Jvm.D
/-- from the state 'cur' on is enough -/
def own_Pre (p : Program) (e : Env) (below : List Frame) (start cur : State) : Prop := ∀ t, Steps p.tables e below cur t → Steps p.tables e below start t
/-- an array of ints (bytes, chars, booleans): its length z, its components ws (at least so many) -/
def own_AI (Z : State) (h : Heap) (a : Addr) (k : ClassId) (ty : FieldType) (z : Int32) (ws : List Int32) : Prop := Arv Z h a k ty z (ws.map Value.int) (.int 0) ∧ z.toNatClampNeg ≤ ws.length
def own_AJ (Z : State) (h : Heap) (a : Addr) (k : ClassId) (ty : FieldType) (z : Int32) (ws : List Int64) : Prop := Arv Z h a k ty z (ws.map Value.long) (.long 0) ∧ z.toNatClampNeg ≤ ws.length
section OwnA
variable {Z : State} {h h' : Heap} {a b : Addr} {k : ClassId} {ty : FieldType} {z : Int32} {ws : List Int32} {wl : List Int64} {sl : Nat} {v : Value} {L : List Addr}
theorem own_AI.lt (F : own_AI Z h a k ty z ws) : a < h.size := Arv.lt F.1
theorem own_AI.ext (F : own_AI Z h a k ty z ws) (E : Ext h h') : own_AI Z h' a k ty z ws := ⟨Arv.ext F.1 E, F.2⟩
theorem own_AI.other (F : own_AI Z h b k ty z ws) (W : Wr h h' a sl v) (q : b ≠ a) : own_AI Z h' b k ty z ws := ⟨Arv.other F.1 W q, F.2⟩
theorem own_AI.keep (F : own_AI Z h a k ty z ws) (K : Keep h h' L) (q : a ∉ L) : own_AI Z h' a k ty z ws := ⟨Arv.keep F.1 K q, F.2⟩
theorem own_AJ.lt (F : own_AJ Z h a k ty z wl) : a < h.size := Arv.lt F.1
theorem own_AJ.ext (F : own_AJ Z h a k ty z wl) (E : Ext h h') : own_AJ Z h' a k ty z wl := ⟨Arv.ext F.1 E, F.2⟩
theorem own_AJ.other (F : own_AJ Z h b k ty z wl) (W : Wr h h' a sl v) (q : b ≠ a) : own_AJ Z h' b k ty z wl := ⟨Arv.other F.1 W q, F.2⟩
theorem own_AJ.keep (F : own_AJ Z h a k ty z wl) (K : Keep h h' L) (q : a ∉ L) : own_AJ Z h' a k ty z wl := ⟨Arv.keep F.1 K q, F.2⟩
theorem own_AI.new (n : Nat) (A : Arr Z h a (newA k ty z) ty) (q : ¬ z < 0) (hn : z.toNatClampNeg ≤ n) (hd : defaultValue ty = .int 0) : own_AI Z h a k ty z (List.replicate n (0 : Int32)) := by
  have := Arv.new A q
  rw [hd] at this
  have r := this.pad (pad_rep [] (.int 0) n)
  exact ⟨by simpa [List.map_replicate] using r, by simpa using hn⟩
theorem own_AJ.new (n : Nat) (A : Arr Z h a (newA k ty z) ty) (q : ¬ z < 0) (hn : z.toNatClampNeg ≤ n) (hd : defaultValue ty = .long 0) : own_AJ Z h a k ty z (List.replicate n (0 : Int64)) := by
  have := Arv.new A q
  rw [hd] at this
  have r := this.pad (pad_rep [] (.long 0) n)
  exact ⟨by simpa [List.map_replicate] using r, by simpa using hn⟩
theorem own_getI (ws : List Int32) (i : Nat) : (ws.map Value.int).getD i (.int 0) = .int (ws.getD i 0) := by
  simp only [List.getD_eq_getElem?_getD, List.getElem?_map]
  cases ws[i]? <;> rfl
theorem own_getJ (ws : List Int64) (i : Nat) : (ws.map Value.long).getD i (.long 0) = .long (ws.getD i 0) := by
  simp only [List.getD_eq_getElem?_getD, List.getElem?_map]
  cases ws[i]? <;> rfl
theorem own_AI.at (F : own_AI Z h a k ty z ws) {j : Int32} (q : ¬ j < 0 ∧ j < z) : ∃ cl : Cell, Arr Z h a cl ty ∧ ¬ (j < 0 ∨ cl.slots.size ≤ j.toNatClampNeg) ∧ cl.slots[j.toNatClampNeg]? = some (.int (ws.getD j.toNatClampNeg 0)) := by
  obtain ⟨⟨cl, A, -, S, -, H, -⟩, -⟩ := F
  have hin := inb_of S q
  exact ⟨cl, A, hin, H.at hin (own_getI _ _)⟩
theorem own_AJ.at (F : own_AJ Z h a k ty z wl) {j : Int32} (q : ¬ j < 0 ∧ j < z) : ∃ cl : Cell, Arr Z h a cl ty ∧ ¬ (j < 0 ∨ cl.slots.size ≤ j.toNatClampNeg) ∧ cl.slots[j.toNatClampNeg]? = some (.long (wl.getD j.toNatClampNeg 0)) := by
  obtain ⟨⟨cl, A, -, S, -, H, -⟩, -⟩ := F
  have hin := inb_of S q
  exact ⟨cl, A, hin, H.at hin (own_getJ _ _)⟩
theorem own_AI.arr (F : own_AI Z h a k ty z ws) {j : Int32} (q : ¬ j < 0 ∧ j < z) : ∃ cl : Cell, Arr Z h a cl ty ∧ ¬ (j < 0 ∨ cl.slots.size ≤ j.toNatClampNeg) ∧ ∀ (h' : Heap) (x : Int32), fits ty (.int x) = true → Wr h h' a j.toNatClampNeg (.int x) → own_AI Z h' a k ty z (ws.set j.toNatClampNeg x) := by
  obtain ⟨⟨cl, A, q1, S, q3, H, G⟩, ln⟩ := F
  have hin := inb_of S q
  refine ⟨cl, A, hin, fun h' x hv W => ?_⟩
  have hl : j.toNatClampNeg < ws.length := by
    rcases Nat.lt_or_ge j.toNatClampNeg ws.length with u | u
    · exact u
    · exact absurd (Or.inr (by omega)) hin
  have := Arv.set A q1 S q3 H G hv W _ rfl (by simpa using hl)
  rw [← List.map_set] at this
  exact ⟨this, by simpa using ln⟩
theorem own_AJ.arr (F : own_AJ Z h a k ty z wl) {j : Int32} (q : ¬ j < 0 ∧ j < z) : ∃ cl : Cell, Arr Z h a cl ty ∧ ¬ (j < 0 ∨ cl.slots.size ≤ j.toNatClampNeg) ∧ ∀ (h' : Heap) (x : Int64), fits ty (.long x) = true → Wr h h' a j.toNatClampNeg (.long x) → own_AJ Z h' a k ty z (wl.set j.toNatClampNeg x) := by
  obtain ⟨⟨cl, A, q1, S, q3, H, G⟩, ln⟩ := F
  have hin := inb_of S q
  refine ⟨cl, A, hin, fun h' x hv W => ?_⟩
  have hl : j.toNatClampNeg < wl.length := by
    rcases Nat.lt_or_ge j.toNatClampNeg wl.length with u | u
    · exact u
    · exact absurd (Or.inr (by omega)) hin
  have := Arv.set A q1 S q3 H G hv W _ rfl (by simpa using hl)
  rw [← List.map_set] at this
  exact ⟨this, by simpa using ln⟩
theorem own_AI.len (F : own_AI Z h a k ty z ws) : ∃ cl : Cell, Arr Z h a cl ty ∧ cl.slots.size = z.toNatClampNeg ∧ ¬ z < 0 := by
  obtain ⟨⟨cl, A, -, S, q3, -, -⟩, -⟩ := F
  exact ⟨cl, A, S, q3⟩
theorem own_AJ.len (F : own_AJ Z h a k ty z wl) : ∃ cl : Cell, Arr Z h a cl ty ∧ cl.slots.size = z.toNatClampNeg ∧ ¬ z < 0 := by
  obtain ⟨⟨cl, A, -, S, q3, -, -⟩, -⟩ := F
  exact ⟨cl, A, S, q3⟩
end OwnA
/-- a private method selects itself, where another method of its class is known to be no interface's -/
theorem own_selp {s : State} {args : Array Value} {y z : MethodName} (hz : (Cond.selects z.cls z z).before args s = true) (hc : z.cls = y.cls) (hpriv : s.PrivateAt y) (hinst : (Cond.instanceMethod y).before args s = true) (hy : y.cls ≠ "java/lang/invoke/MethodHandle" ∧ y.cls ≠ "java/lang/invoke/VarHandle") : (Cond.selects y.cls y y).before args s = true := by
  obtain ⟨c2, r2, m2, -, -, q3, -, kP, hkP, hkPi⟩ := Cond.selects_spec hz
  have hf := findClass_of_methodNamed q3
  rw [hc] at hf
  exact selects_self_of_private hf hkP hkPi hpriv hinst hy
/-- what holds of every byte -/
theorem own_bytes {P : Int32 → Prop} (H : ∀ i : Fin 256, P (Int32.ofInt ((i.1 : Int) - 128))) (x : Int32) : P x.toInt8.toInt32 := by
  obtain ⟨-, h1, h2⟩ := c_i2b x
  have e : x.toInt8.toInt32 = Int32.ofInt (((⟨(x.toInt8.toInt32.toInt + 128).toNat, by omega⟩ : Fin 256).1 : Int) - 128) := by
    apply Int32.toInt_inj.mp
    show _ = (Int32.ofInt (((x.toInt8.toInt32.toInt + 128).toNat : Int) - 128)).toInt
    rw [Int32.toInt_ofInt_of_le (by omega) (by omega)]
    omega
  rw [e]
  exact H _


theorem own_atoms {aw : Array Value} {Z : State} (hw : ∀ d ∈ tables_1, d.before aw Z = true) : ∀ a ∈ Bundle.stringAtoms, a.before aw Z = true := fun a ha => by
  simp only [Bundle.stringAtoms, List.mem_cons, List.not_mem_nil, or_false] at ha
  rcases ha with rfl | rfl | rfl | rfl | rfl | rfl | rfl
  · exact hw _ (List.mem_of_getElem? (i := 16) rfl)
  · exact hw _ (List.mem_of_getElem? (i := 17) rfl)
  · exact hw _ (List.mem_of_getElem? (i := 18) rfl)
  · exact hw _ (List.mem_of_getElem? (i := 19) rfl)
  · exact hw _ (List.mem_of_getElem? (i := 20) rfl)
  · exact hw _ (List.mem_of_getElem? (i := 21) rfl)
  · exact hw _ (List.mem_of_getElem? (i := 22) rfl)
theorem own_mvM {Z s : State} {a0 args : Array Value} {own host : String} {index : Nat} {y : MethodName} (hZ : Z.Warmed39 s.vm) (w : (Cond.methodLinkNest own index y host).before a0 Z = true) : (Cond.methodLinkNest own index y host).before args s = true := (Cond.methodLinkNest_wide hZ w :)
theorem d2_0 : decode jdk_30_method_1_code 0 = .ok (.aload_n 0, 1) := by decide +kernel
theorem d2_1 : decode jdk_30_method_1_code 1 = .ok (.invokespecial 1, 3) := by decide +kernel
theorem d2_4 : decode jdk_30_method_1_code 4 = .ok (.return_, 1) := by decide +kernel
theorem pn_0 : plainName "java/lang/Record" = true := by first | (simp [plainName, overriddenIn]; done) | decide +kernel
theorem ef_2 (m : MethodId) (a0 : Addr) : entryFrame m #[(.ref a0)] 1 = mkF m 0 #[.val (.ref a0)] [] := by first | (simp [entryFrame, mkF, argsToLocals, Value.category]; done) | rfl
def Q2 (Z : State) (a0 : Addr) (h0 : Heap) (n0 : Nat) (v : Option Value) (h : Heap) (L : List Loc) : Prop := v = none ∧ Fr n0 L ∧ h = h0
set_option maxRecDepth 65536 in
set_option maxHeartbeats 40000000 in
theorem rm2 (l : Launch) (Z : State) (aw : Array Value) (hw : ∀ d ∈ tables_1, d.before aw Z = true) (wq : List Jvm.Cond) (a0 : Addr) (h0 : Heap) (n0 : Nat) (Z0 : n0 ≤ h0.size) :
    MetFree l (⟨"java/lang/Record", "<init>", "()V"⟩ : MethodName) (head1 (Jvm.Cond.code (⟨"java/lang/Record", "<init>", "()V"⟩ : MethodName) jdk_30_method_1_code 1 none :: wq) ({ frames := 1, cells := 0, slots := 0, locals := 12 } : Room)) (fun a U => a = #[(.ref a0)] ∧ Z.Warmed39 U.vm ∧ U.heap = h0) (fun _ _ _ _ _ => True) (fun _ U o U' => ∃ v L, o = .returned v ∧ Q2 Z a0 h0 n0 v U'.heap L ∧ FrameEnd U o U' L ({ frames := 1, cells := 0, slots := 0, locals := 12 } : Room).cells ({ frames := 1, cells := 0, slots := 0, locals := 12 } : Room).slots) := by
  refine MetFree.of_bodySF (plainFor_of_name pn_0) hisR ?_
  intro p e s m args below meth c s₁ Bd hml0 hP hK
  obtain ⟨rfl, hZ, hh⟩ := hP
  have hx := Bd.exec
  have hby := Bd.bytes
  have hml : c.maxLocals = 1 := hml0
  have hown : s.vm.findClass "java/lang/Record" = some m.cls := findClass_of_methodNamed Bd.named
  have hnm := (name_of_methodNamed Bd.named Bd.method).1
  have X0 : Stand p l e ({ frames := 1, cells := 0, slots := 0, locals := 12 } : Room) s m #[(.ref a0)] below meth c s₁ [] 0 0 := Stand.of_body Bd
  have e0 : s₁.heap = h0 := by rw [← hh, Bd.state]; rfl
  have N0 := Fr.nil n0
  have pre0 : own_Pre p e below (s₁.setTop (entryFrame m #[(.ref a0)] 1)) (s₁.setTop (mkF m 0 #[.val (.ref a0)] [])) := fun t k => castTop (ef_2 m a0) k
  obtain ⟨T1, X1, e1, st1⟩ := initO X0 hx hZ hown (hw _ (List.mem_of_getElem? (i := 12) rfl)) (hw _ (List.mem_of_getElem? (i := 13) rfl)) (hw _ (List.mem_of_getElem? (i := 14) rfl)) e0 (g := (mkF m 1 #[.val (.ref a0)] [(.ref a0)])) rfl (by rw [hml]; rfl) rfl (hb hby d2_1) (by decide) (W := 0) (by show 2 * 0 + _ ≤ _; exact Nat.le_of_eq rfl) (by decide)
  obtain ⟨fs, hr, hrun, hended, hW, hsame⟩ := X1.leave (v := none) (fun _ => rfl)
  refine ⟨_, _, pre0 _ ?_, hrun, hended, _, _, rfl, ?_, ⟨_, rfl⟩, hW, hsame.mono (by decide) (by decide)⟩
  · show Steps p.tables e below (s₁.setTop (mkF m 0 #[.val (.ref a0)] [])) _
    refine XS.aloadN X0.here hx rfl (hb hby d2_0) rfl rfl ?_
    refine st1 _ ?_
    show Steps p.tables e below (T1.setTop (mkF m 4 #[.val (.ref a0)] [])) _
    exact X1.returnOut hx Bd.returns (hb hby d2_4) hr
  · show Q2 Z a0 h0 n0 _ T1.heap _
    rw [e1]
    unfold Q2
    refine ⟨rfl, N0, rfl⟩
theorem d4_0 : decode prog_34_method_3_code 0 = .ok (.lload_n 1, 1) := by decide +kernel
theorem d4_1 : decode prog_34_method_3_code 1 = .ok (.lconst 0, 1) := by decide +kernel
theorem d4_2 : decode prog_34_method_3_code 2 = .ok (.lcmp, 1) := by decide +kernel
theorem d4_3 : decode prog_34_method_3_code 3 = .ok (.ifCond .gt 17, 3) := by decide +kernel
theorem d4_20 : decode prog_34_method_3_code 20 = .ok (.return_, 1) := by decide +kernel
theorem pn_1 : plainName "com/example/offered_load/offeredload/TimeDistribution" = true := by first | (simp [plainName, overriddenIn]; done) | decide +kernel
theorem ef_4 (m : MethodId) (a0 : Addr) (q1 : Int64) : entryFrame m #[(.ref a0), (.long q1)] 3 = mkF m 0 #[.val (.ref a0), .val (.long q1), .second] [] := by first | (simp [entryFrame, mkF, argsToLocals, Value.category]; done) | rfl
def Q4 (Z : State) (a0 : Addr) (q1 : Int64) (h0 : Heap) (n0 : Nat) (v : Option Value) (h : Heap) (L : List Loc) : Prop := v = none ∧ Fr n0 L ∧ h = h0
set_option maxRecDepth 65536 in
set_option maxHeartbeats 40000000 in
theorem rm4 (l : Launch) (Z : State) (aw : Array Value) (hw : ∀ d ∈ tables_1, d.before aw Z = true) (wq : List Jvm.Cond) (a0 : Addr) (q1 : Int64) (h0 : Heap) (n0 : Nat) (Z0 : n0 ≤ h0.size) (hpos : (0 : Int64) < q1) :
    MetFree l (⟨"com/example/offered_load/offeredload/TimeDistribution", "requireAboveZero", "(Ljava/lang/String;J)V"⟩ : MethodName) (head1 (Jvm.Cond.code (⟨"com/example/offered_load/offeredload/TimeDistribution", "requireAboveZero", "(Ljava/lang/String;J)V"⟩ : MethodName) prog_34_method_3_code 3 none :: wq) ({ frames := 0, cells := 0, slots := 0, locals := 0 } : Room)) (fun a U => a = #[(.ref a0), (.long q1)] ∧ Z.Warmed39 U.vm ∧ U.heap = h0) (fun _ _ _ _ _ => True) (fun _ U o U' => ∃ v L, o = .returned v ∧ Q4 Z a0 q1 h0 n0 v U'.heap L ∧ FrameEnd U o U' L ({ frames := 0, cells := 0, slots := 0, locals := 0 } : Room).cells ({ frames := 0, cells := 0, slots := 0, locals := 0 } : Room).slots) := by
  refine MetFree.of_bodySF (plainFor_of_name pn_1) hisR ?_
  intro p e s m args below meth c s₁ Bd hml0 hP hK
  obtain ⟨rfl, hZ, hh⟩ := hP
  have hx := Bd.exec
  have hby := Bd.bytes
  have hml : c.maxLocals = 3 := hml0
  have hown : s.vm.findClass "com/example/offered_load/offeredload/TimeDistribution" = some m.cls := findClass_of_methodNamed Bd.named
  have hnm := (name_of_methodNamed Bd.named Bd.method).1
  have X0 : Stand p l e ({ frames := 0, cells := 0, slots := 0, locals := 0 } : Room) s m #[(.ref a0), (.long q1)] below meth c s₁ [] 0 0 := Stand.of_body Bd
  have e0 : s₁.heap = h0 := by rw [← hh, Bd.state]; rfl
  have N0 := Fr.nil n0
  have pre0 : own_Pre p e below (s₁.setTop (entryFrame m #[(.ref a0), (.long q1)] 3)) (s₁.setTop (mkF m 0 #[.val (.ref a0), .val (.long q1), .second] [])) := fun t k => castTop (ef_4 m a0 q1) k
  have hc3 : ((0 : Int64) < q1) := hpos
  obtain ⟨fs, hr, hrun, hended, hW, hsame⟩ := X0.leave (v := none) (fun _ => rfl)
  refine ⟨_, _, pre0 _ ?_, hrun, hended, _, _, rfl, ?_, ⟨_, rfl⟩, hW, hsame.mono (by decide) (by decide)⟩
  · show Steps p.tables e below (s₁.setTop (mkF m 0 #[.val (.ref a0), .val (.long q1), .second] [])) _
    refine XS.lloadN X0.here hx rfl (hb hby d4_0) rfl ?_
    refine XS.lconst X0.here hx rfl (hb hby d4_1) ?_
    refine XS.lcmp X0.here hx rfl (hb hby d4_2) rfl ?_
    refine XS.ifYes X0.here hx rfl (pc0 := 3) (pc' := 20) rfl (hb hby d4_3) rfl ((if0 _ _).trans (tlt ((lw_gt _ _).mpr hc3)).2.2.1) (by decide) (by decide) ?_
    show Steps p.tables e below (s₁.setTop (mkF m 20 #[.val (.ref a0), .val (.long q1), .second] [])) _
    exact X0.returnOut hx Bd.returns (hb hby d4_20) hr
  · show Q4 Z a0 q1 h0 n0 _ s₁.heap _
    rw [e0]
    unfold Q4
    refine ⟨rfl, N0, rfl⟩
theorem d1_0 : decode prog_36_method_1_code 0 = .ok (.aload_n 0, 1) := by decide +kernel
theorem d1_1 : decode prog_36_method_1_code 1 = .ok (.invokespecial 1, 3) := by decide +kernel
theorem d1_4 : decode prog_36_method_1_code 4 = .ok (.ldc 7, 2) := by decide +kernel
theorem d1_6 : decode prog_36_method_1_code 6 = .ok (.lload_n 1, 1) := by decide +kernel
theorem d1_7 : decode prog_36_method_1_code 7 = .ok (.invokestatic 9, 3) := by decide +kernel
theorem d1_10 : decode prog_36_method_1_code 10 = .ok (.aload_n 0, 1) := by decide +kernel
theorem d1_11 : decode prog_36_method_1_code 11 = .ok (.lload_n 1, 1) := by decide +kernel
theorem d1_12 : decode prog_36_method_1_code 12 = .ok (.putfield 15, 3) := by decide +kernel
theorem d1_15 : decode prog_36_method_1_code 15 = .ok (.return_, 1) := by decide +kernel
theorem pd_0 : parseMethodDescriptor "()V" = some ⟨[], none⟩ := by decide +kernel
theorem pd_1 : parseMethodDescriptor "(Ljava/lang/String;J)V" = some ⟨[(.object "java/lang/String"), .long], none⟩ := by decide +kernel
theorem pn_2 : plainName "com/example/offered_load/offeredload/TimeDistribution$Exponential" = true := by first | (simp [plainName, overriddenIn]; done) | decide +kernel
theorem ef_1 (m : MethodId) (a0 : Addr) (q1 : Int64) : entryFrame m #[(.ref a0), (.long q1)] 3 = mkF m 0 #[.val (.ref a0), .val (.long q1), .second] [] := by first | (simp [entryFrame, mkF, argsToLocals, Value.category]; done) | rfl
def Q1 (Z : State) (a0 : Addr) (q1 : Int64) (h0 : Heap) (n0 : Nat) (v : Option Value) (h : Heap) (L : List Loc) : Prop := v = none ∧ Fr n0 L ∧ Keep h0 h [a0] ∧ Exa Z h a0 "com/example/offered_load/offeredload/TimeDistribution$Exponential" ∧ Fld Z h a0 "com/example/offered_load/offeredload/TimeDistribution$Exponential" "meanMicros" "J" (.long q1)
set_option maxRecDepth 65536 in
set_option maxHeartbeats 40000000 in
theorem rm1 (l : Launch) (Z : State) (aw : Array Value) (hw : ∀ d ∈ tables_1, d.before aw Z = true) (wq : List Jvm.Cond) (a0 : Addr) (q1 : Int64) (h0 : Heap) (n0 : Nat) (Z0 : n0 ≤ h0.size) (E_a0 : Exa Z h0 a0 "com/example/offered_load/offeredload/TimeDistribution$Exponential") (F_a0_meanMicros : Fld Z h0 a0 "com/example/offered_load/offeredload/TimeDistribution$Exponential" "meanMicros" "J" (.long (0 : Int64))) (g_a0 : n0 ≤ a0) (hpos : (0 : Int64) < q1) :
    MetFree l (⟨"com/example/offered_load/offeredload/TimeDistribution$Exponential", "<init>", "(J)V"⟩ : MethodName) (head1 (Jvm.Cond.code (⟨"com/example/offered_load/offeredload/TimeDistribution$Exponential", "<init>", "(J)V"⟩ : MethodName) prog_36_method_1_code 3 none :: wq) ({ frames := 2, cells := 2, slots := 36, locals := 24 } : Room)) (fun a U => a = #[(.ref a0), (.long q1)] ∧ Z.Warmed39 U.vm ∧ U.heap = h0) (fun _ _ _ _ _ => True) (fun _ U o U' => ∃ v L, o = .returned v ∧ Q1 Z a0 q1 h0 n0 v U'.heap L ∧ ReturnedEndW U o U' L ({ frames := 2, cells := 2, slots := 36, locals := 24 } : Room).cells ({ frames := 2, cells := 2, slots := 36, locals := 24 } : Room).slots) := by
  refine MetFree.of_bodySF (plainFor_of_name pn_2) hisR ?_
  intro p e s m args below meth c s₁ Bd hml0 hP hK
  obtain ⟨rfl, hZ, hh⟩ := hP
  have hx := Bd.exec
  have hby := Bd.bytes
  have hml : c.maxLocals = 3 := hml0
  have hown : s.vm.findClass "com/example/offered_load/offeredload/TimeDistribution$Exponential" = some m.cls := findClass_of_methodNamed Bd.named
  have hnm := (name_of_methodNamed Bd.named Bd.method).1
  have X0 : Stand p l e ({ frames := 2, cells := 2, slots := 36, locals := 24 } : Room) (s.setVm s.vm) m #[(.ref a0), (.long q1)] below meth c s₁ [] 0 0 := Stand.of_body Bd
  have e0 : s₁.heap = h0 := by rw [← hh, Bd.state]; rfl
  have N0 := Fr.nil n0
  have pre0 : own_Pre p e below (s₁.setTop (entryFrame m #[(.ref a0), (.long q1)] 3)) (s₁.setTop (mkF m 0 #[.val (.ref a0), .val (.long q1), .second] [])) := fun t k => castTop (ef_1 m a0 q1) k
  have hS0 := State.WarmedH.since (State.WarmedH.refl s) h0.size
  have hk0 := Nat.le_refl h0.size
  obtain ⟨_, _, ⟨T1, L1, k1, n1⟩, -, X1, ⟨Lc1, hQ1, l1, y1, z1⟩, st1⟩ := X0.specialBack hx (y := (⟨"java/lang/Record", "<init>", "()V"⟩ : MethodName)) rfl hown (mvT hZ (hw _ (List.mem_of_getElem? (i := 7) rfl))) (mvT hZ (hw _ (List.mem_of_getElem? (i := 8) rfl))) (mvT hZ (hw _ (List.mem_of_getElem? (i := 11) rfl))) (by decide) (backOf (W := 0) (rm2 l Z aw hw [] (a0) (h0) n0 Z0) hZ (hw _ (List.mem_of_getElem? (i := 11) rfl)) (hw _ (List.mem_of_getElem? (i := 10) rfl)) (by decide) (by decide)) (g := (mkF m 1 #[.val (.ref a0), .val (.long q1), .second] [(.ref a0)])) rfl (by rw [hml]; rfl) (Steps.refl _) (a := a0) (argsL := []) (rest := []) (lenOf pd_0 rfl) rfl (by show 2 * 0 + _ ≤ _; exact Nat.le_of_eq rfl) (hb hby d1_1) (fun _ _ => ⟨rfl, e0, (by decide : 0 + 0 ≤ _), (by decide : 0 + 0 ≤ _)⟩)
  dsimp only [Pt.U, Pt.locs, Pt.cells, Pt.slots] at X1 l1 y1 z1 st1 hQ1
  subst l1 y1 z1
  obtain ⟨rfl, Nq1, eq1⟩ := hQ1
  have N1 := Fr.app N0 Nq1
  obtain ⟨a2, T2, h2, k2, X2, e2, E2, hS2, hk2, hZ, hown, st2⟩ := Jvm.RoadKit.ldcS X1 hx hZ hown (hw _ (List.mem_of_getElem? (i := 15) rfl)) (own_atoms hw) eq1 hS0 hk0 (g := (mkF m 4 #[.val (.ref a0), .val (.long q1), .second] [])) rfl (hb hby d1_4) (n := 32) (by decide) (by decide) (by decide) (by decide)
  have kp3 : Keep h0 h2 [a0] := (Keep.refl h0 [a0]).ext E2
  have z5 : n0 ≤ (h2).size := (Nat.le_trans Z0 E2.1)
  obtain ⟨_, _, ⟨T4, L4, k4, n4⟩, -, X4, ⟨Lc4, hQ4, l4, y4, z4⟩, st4⟩ := Jvm.RoadKit.callSN X2 hx (y := (⟨"com/example/offered_load/offeredload/TimeDistribution", "requireAboveZero", "(Ljava/lang/String;J)V"⟩ : MethodName)) hown (own_mvM hZ (hw _ (List.mem_of_getElem? (i := 23) rfl))) (mvT hZ (hw _ (List.mem_of_getElem? (i := 24) rfl))) (mvT hZ (hw _ (List.mem_of_getElem? (i := 25) rfl))) (mvT hZ (hw _ (List.mem_of_getElem? (i := 26) rfl))) (by decide) (backOf (W := 0) (rm4 l Z aw hw [] (a2) (q1) (h2) n0 z5 hpos) hZ (hw _ (List.mem_of_getElem? (i := 26) rfl)) (hw _ (List.mem_of_getElem? (i := 25) rfl)) (by decide) (by decide)) (g := (mkF m 7 #[.val (.ref a0), .val (.long q1), .second] [(.long q1), (.ref a2)])) rfl (by rw [hml]; rfl) (argsL := [(.ref a2), (.long q1)]) (rest := []) (lenOf pd_1 rfl) rfl (by show 2 * 0 + _ ≤ _; exact Nat.le_of_eq rfl) (hb hby d1_7) (fun _ _ => ⟨rfl, e2, (by decide : 2 + 0 ≤ _), (by decide : 36 + 0 ≤ _)⟩)
  dsimp only [Pt.U, Pt.locs, Pt.cells, Pt.slots] at X4 l4 y4 z4 st4 hQ4
  subst l4 y4 z4
  obtain ⟨rfl, Nq4, eq4⟩ := hQ4
  have N4 := Fr.app N1 Nq4
  have f6 := (E_a0.ext E2)
  have f7 := (F_a0_meanMicros.ext E2)
  obtain ⟨T8, h8, X8, e8, W8, st8⟩ := putF X4 hx hZ hown (host := "") (Or.inl (hw _ (List.mem_of_getElem? (i := 27) rfl))) Via.refl eq4 f7 f6 (Or.inr ⟨(hw _ (List.mem_of_getElem? (i := 28) rfl)), rfl, hnm⟩) (hw _ (List.mem_of_getElem? (i := 2) rfl)) (ty := .long) (by decide) rfl rfl (g := (mkF m 12 #[.val (.ref a0), .val (.long q1), .second] [(.long q1), (.ref a0)])) rfl rfl (hb hby d1_12)
  have Fw8 := f7.same W8
  have N8 := Fr.snoc X8 N4 g_a0
  have kp9 : Keep h0 h8 [a0] := kp3.wr W8 (Or.inl (List.mem_of_getElem? (i := 0) rfl))
  have hk10 : _ ≤ (h8).size := (Nat.le_trans hk2 (Keep.of_wr W8).1)
  obtain ⟨fs, hr, hrun, hended, hREW⟩ := X8.leaveW hS2 (by rw [e8]; exact hk10) (v := none) (fun _ => rfl)
  refine ⟨_, _, pre0 _ ?_, hrun, hended, _, _, rfl, ?_, hREW.1, hREW.2.1, hREW.2.2.1, hREW.2.2.2.mono (by decide) (by decide)⟩
  · show Steps p.tables e below (s₁.setTop (mkF m 0 #[.val (.ref a0), .val (.long q1), .second] [])) _
    refine XS.aloadN X0.here hx rfl (hb hby d1_0) rfl rfl ?_
    refine st1.trans ?_
    refine st2 _ ?_
    refine XS.lloadN X2.here hx rfl (hb hby d1_6) rfl ?_
    refine st4.trans ?_
    show Steps p.tables e below (T4.setTop (mkF m 10 #[.val (.ref a0), .val (.long q1), .second] [])) _
    refine XS.aloadN X4.here hx rfl (hb hby d1_10) rfl rfl ?_
    refine XS.lloadN X4.here hx rfl (hb hby d1_11) rfl ?_
    refine st8 _ ?_
    show Steps p.tables e below (T8.setTop (mkF m 15 #[.val (.ref a0), .val (.long q1), .second] [])) _
    exact X8.returnOut hx Bd.returns (hb hby d1_15) hr
  · show Q1 Z a0 q1 h0 n0 _ T8.heap _
    rw [e8]
    unfold Q1
    have f11 := (f6.wr W8)
    refine ⟨rfl, N8, kp9, f11, ?_⟩
    · exact Fw8
theorem d5_0 : decode prog_36_method_3_code 0 = .ok (.aload_n 0, 1) := by decide +kernel
theorem d5_1 : decode prog_36_method_3_code 1 = .ok (.getfield 15, 3) := by decide +kernel
theorem d5_4 : decode prog_36_method_3_code 4 = .ok (.ldc2_w 41, 3) := by decide +kernel
theorem d5_7 : decode prog_36_method_3_code 7 = .ok (.lcmp, 1) := by decide +kernel
theorem d5_8 : decode prog_36_method_3_code 8 = .ok (.ifCond .le 9, 3) := by decide +kernel
theorem d5_11 : decode prog_36_method_3_code 11 = .ok (.ldc2_w 43, 3) := by decide +kernel
theorem d5_14 : decode prog_36_method_3_code 14 = .ok (.goto 11, 3) := by decide +kernel
theorem d5_17 : decode prog_36_method_3_code 17 = .ok (.aload_n 0, 1) := by decide +kernel
theorem d5_18 : decode prog_36_method_3_code 18 = .ok (.getfield 15, 3) := by decide +kernel
theorem d5_21 : decode prog_36_method_3_code 21 = .ok (.ldc2_w 45, 3) := by decide +kernel
theorem d5_24 : decode prog_36_method_3_code 24 = .ok (.lmul, 1) := by decide +kernel
theorem d5_25 : decode prog_36_method_3_code 25 = .ok (.lreturn, 1) := by decide +kernel
theorem ef_5 (m : MethodId) (a0 : Addr) : entryFrame m #[(.ref a0)] 1 = mkF m 0 #[.val (.ref a0)] [] := by first | (simp [entryFrame, mkF, argsToLocals, Value.category]; done) | rfl
def own_f5 (mm : Int64) : Int64 := (if (249280325320399346 : Int64) < mm then (9223372036854775807 : Int64) else (mm * (37 : Int64)))
def Q5 (Z : State) (a0 : Addr) (mm : Int64) (h0 : Heap) (n0 : Nat) (v : Option Value) (h : Heap) (L : List Loc) : Prop := v = some (.long (own_f5 mm)) ∧ Fr n0 L ∧ h = h0
set_option maxRecDepth 65536 in
set_option maxHeartbeats 40000000 in
theorem rm5 (l : Launch) (Z : State) (aw : Array Value) (hw : ∀ d ∈ tables_1, d.before aw Z = true) (wq : List Jvm.Cond) (a0 : Addr) (mm : Int64) (h0 : Heap) (n0 : Nat) (Z0 : n0 ≤ h0.size) (E_a0 : Exa Z h0 a0 "com/example/offered_load/offeredload/TimeDistribution$Exponential") (F_a0_meanMicros : Fld Z h0 a0 "com/example/offered_load/offeredload/TimeDistribution$Exponential" "meanMicros" "J" (.long mm)) :
    MetFree l (⟨"com/example/offered_load/offeredload/TimeDistribution$Exponential", "maxMicros", "()J"⟩ : MethodName) (head1 (Jvm.Cond.code (⟨"com/example/offered_load/offeredload/TimeDistribution$Exponential", "maxMicros", "()J"⟩ : MethodName) prog_36_method_3_code 1 (some .long) :: wq) ({ frames := 0, cells := 0, slots := 0, locals := 0 } : Room)) (fun a U => a = #[(.ref a0)] ∧ Z.Warmed39 U.vm ∧ U.heap = h0) (fun _ _ _ _ _ => True) (fun _ U o U' => ∃ v L, o = .returned v ∧ Q5 Z a0 mm h0 n0 v U'.heap L ∧ FrameEnd U o U' L ({ frames := 0, cells := 0, slots := 0, locals := 0 } : Room).cells ({ frames := 0, cells := 0, slots := 0, locals := 0 } : Room).slots) := by
  refine MetFree.of_bodySF (plainFor_of_name pn_2) hisR ?_
  intro p e s m args below meth c s₁ Bd hml0 hP hK
  obtain ⟨rfl, hZ, hh⟩ := hP
  have hx := Bd.exec
  have hby := Bd.bytes
  have hml : c.maxLocals = 1 := hml0
  have hown : s.vm.findClass "com/example/offered_load/offeredload/TimeDistribution$Exponential" = some m.cls := findClass_of_methodNamed Bd.named
  have hnm := (name_of_methodNamed Bd.named Bd.method).1
  have X0 : Stand p l e ({ frames := 0, cells := 0, slots := 0, locals := 0 } : Room) s m #[(.ref a0)] below meth c s₁ [] 0 0 := Stand.of_body Bd
  have e0 : s₁.heap = h0 := by rw [← hh, Bd.state]; rfl
  have N0 := Fr.nil n0
  have pre0 : own_Pre p e below (s₁.setTop (entryFrame m #[(.ref a0)] 1)) (s₁.setTop (mkF m 0 #[.val (.ref a0)] [])) := fun t k => castTop (ef_5 m a0) k
  obtain ⟨T1, X1, e1, st1⟩ := getF X0 hx hZ hown (host := "") (Or.inl (hw _ (List.mem_of_getElem? (i := 27) rfl))) Via.refl e0 F_a0_meanMicros (g := (mkF m 1 #[.val (.ref a0)] [(.ref a0)])) rfl rfl (hb hby d5_1)
  have pre2 : own_Pre p e below (s₁.setTop (entryFrame m #[(.ref a0)] 1)) (T1.setTop (mkF m 8 #[.val (.ref a0)] [(.int (lcmpW mm (249280325320399346 : Int64)))])) := fun t k => pre0 t (by
      show Steps p.tables e below (s₁.setTop (mkF m 0 #[.val (.ref a0)] [])) _
      refine XS.aloadN X0.here hx rfl (hb hby d5_0) rfl rfl ?_
      refine st1 _ ?_
      refine X1.ldc2Long hx hown (mvT hZ (hw _ (List.mem_of_getElem? (i := 34) rfl))) (g := (mkF m 4 #[.val (.ref a0)] [(.long mm)])) rfl (hb hby d5_4) _ ?_
      refine XS.lcmp X1.here hx rfl (hb hby d5_7) rfl ?_
      exact k)
  by_cases hc8 : (249280325320399346 : Int64) < mm
  · obtain ⟨fs, hr, hrun, hended, hW, hsame⟩ := X1.leave (v := some (.long (9223372036854775807 : Int64))) (fun h => by rw [Bd.returns] at h; cases h)
    refine ⟨_, _, pre2 _ ?_, hrun, hended, _, _, rfl, ?_, ⟨_, rfl⟩, hW, hsame.mono (by decide) (by decide)⟩
    · show Steps p.tables e below (T1.setTop (mkF m 8 #[.val (.ref a0)] [(.int (lcmpW mm (249280325320399346 : Int64)))])) _
      refine XS.ifNo X1.here hx rfl (hb hby d5_8) rfl ((if0 _ _).trans (tlt ((lw_gt _ _).mpr hc8)).2.2.2) ?_
      refine X1.ldc2Long hx hown (mvT hZ (hw _ (List.mem_of_getElem? (i := 37) rfl))) (g := (mkF m 11 #[.val (.ref a0)] [])) rfl (hb hby d5_11) _ ?_
      refine XS.goto X1.here hx rfl (pc0 := 14) (pc' := 25) rfl (hb hby d5_14) (by decide) (by decide) ?_
      show Steps p.tables e below (T1.setTop (mkF m 25 #[.val (.ref a0)] [(.long (9223372036854775807 : Int64))])) _
      exact retJ X1 hx Bd.returns (hb hby d5_25) hr
    · show Q5 Z a0 mm h0 n0 _ T1.heap _
      rw [e1]
      unfold Q5
      refine ⟨?_, N0, rfl⟩
      · simp only [own_f5, if_pos hc8]
  · obtain ⟨T3, X3, e3, st3⟩ := getF X1 hx hZ hown (host := "") (Or.inl (hw _ (List.mem_of_getElem? (i := 27) rfl))) Via.refl e1 F_a0_meanMicros (g := (mkF m 18 #[.val (.ref a0)] [(.ref a0)])) rfl rfl (hb hby d5_18)
    obtain ⟨fs, hr, hrun, hended, hW, hsame⟩ := X3.leave (v := some (.long (mm * (37 : Int64)))) (fun h => by rw [Bd.returns] at h; cases h)
    refine ⟨_, _, pre2 _ ?_, hrun, hended, _, _, rfl, ?_, ⟨_, rfl⟩, hW, hsame.mono (by decide) (by decide)⟩
    · show Steps p.tables e below (T1.setTop (mkF m 8 #[.val (.ref a0)] [(.int (lcmpW mm (249280325320399346 : Int64)))])) _
      refine XS.ifYes X1.here hx rfl (pc0 := 8) (pc' := 17) rfl (hb hby d5_8) rfl ((if0 _ _).trans (flt (mt (lw_gt _ _).mp hc8)).2.2.2) (by decide) (by decide) ?_
      refine XS.aloadN X1.here hx rfl (hb hby d5_17) rfl rfl ?_
      refine st3 _ ?_
      refine X3.ldc2Long hx hown (mvT hZ (hw _ (List.mem_of_getElem? (i := 35) rfl))) (g := (mkF m 21 #[.val (.ref a0)] [(.long mm)])) rfl (hb hby d5_21) _ ?_
      refine XS.lmul X3.here hx rfl (hb hby d5_24) rfl ?_
      show Steps p.tables e below (T3.setTop (mkF m 25 #[.val (.ref a0)] [(.long (mm * (37 : Int64)))])) _
      exact retJ X3 hx Bd.returns (hb hby d5_25) hr
    · show Q5 Z a0 mm h0 n0 _ T3.heap _
      rw [e3]
      unfold Q5
      refine ⟨?_, N0, rfl⟩
      · simp only [own_f5, if_neg hc8]
theorem pd_2 : parseMethodDescriptor "(J)V" = some ⟨[.long], none⟩ := by decide +kernel
theorem pd_3 : parseMethodDescriptor "()J" = some ⟨[], some .long⟩ := by decide +kernel
theorem pn_3 : plainName "com/example/offered_load/offeredload/ExponentialMaxMicrosPinLaw" = true := by first | (simp [plainName, overriddenIn]; done) | decide +kernel
theorem ef_0 (m : MethodId) (q0 : Int64) (p1 : Int32) : entryFrame m #[(.long q0), (.int p1)] maxLocals = mkF m 0 #[.val (.long q0), .second, .val (.int p1), .unset, .unset, .unset, .unset, .unset, .unset, .unset, .unset] [] := by first | (simp [entryFrame, mkF, argsToLocals, Value.category, maxLocals]; done) | rfl
def own_m0_25_l3 (v0 : Int32) (v1 : Int64) : Int64 := (if (v0 &&& (1 : Int32)) = (0 : Int32) then ((v1 &&& (9223372036854775807 : Int64))) else (((249280325320399338 : Int64) + (v1 &&& (15 : Int64)))))
def own_m0_72_s0 (v0 : Int64) (v1 : Int64) : Int64 := (if (v0 / (37 : Int64)) = v1 then v0 else (9223372036854775807 : Int64))
theorem own_ldiv (p : Int64) : (p / 37).toInt = p.toInt.tdiv 37 := by
  rw [Int64.toInt_div_of_ne_right _ _ (by decide)]; rfl
theorem own_pos {p1 : Int32} {q0 m : Int64} (h : m = own_m0_25_l3 p1 q0) (n : ¬ m = 0) : (0 : Int64) < m := by
  rw [Int64.lt_iff_toInt_lt]
  have z : (0 : Int64).toInt = 0 := rfl
  have n' : ¬ m.toInt = 0 := fun e => n (Int64.toInt_inj.mp (by rw [e]; rfl))
  have r : 0 ≤ m.toInt := by
    rw [h]; unfold own_m0_25_l3
    split
    · have := c_maskL q0 9223372036854775807 63 (by decide) (by decide)
      rw [this]; omega
    · have a := c_maskL q0 15 4 (by decide) (by decide)
      have b := c_ladd 249280325320399338 (q0 &&& 15)
      have r := rng64 (249280325320399338 + (q0 &&& 15))
      have e : (249280325320399338 : Int64).toInt = 249280325320399338 := rfl
      omega
  omega
theorem own_law {m r p x : Int64} (hm : (0 : Int64) < m) (hr : r = own_f5 m) (hp : p = m * 37) (hx : x = own_m0_72_s0 p m) : r = x ∧ ¬ r < m := by
  rw [Int64.lt_iff_toInt_lt] at hm
  have z : (0 : Int64).toInt = 0 := rfl
  have C : (249280325320399346 : Int64).toInt = 249280325320399346 := rfl
  have MX : (9223372036854775807 : Int64).toInt = 9223372036854775807 := rfl
  have t37 : (37 : Int64).toInt = 37 := rfl
  have rm := rng64 m
  have rp := rng64 p
  have mul := c_lmul m 37
  rw [← hp, t37] at mul
  have dv : (p / 37).toInt = p.toInt.tdiv 37 := own_ldiv p
  rw [hr, hx]; unfold own_f5 own_m0_72_s0
  by_cases k : (249280325320399346 : Int64) < m
  · have k' := k
    rw [Int64.lt_iff_toInt_lt] at k'
    have ne : ¬ p / 37 = m := by
      intro e
      have e' := congrArg Int64.toInt e
      rw [dv] at e'
      have t := Int.tdiv_eq_ediv (a := p.toInt) (b := 37)
      have : p.toInt.tdiv 37 * 37 ≤ p.toInt ∨ p.toInt ≤ 0 := by
        by_cases s : 0 ≤ p.toInt
        · left; rw [Int.tdiv_eq_ediv_of_nonneg s]; omega
        · right; omega
      rcases this with u | u
      · rw [e'] at u; omega
      · have : p.toInt.tdiv 37 ≤ 0 := by
          have h := Int.neg_tdiv (a := p.toInt) (b := 37)
          rw [Int.tdiv_eq_ediv_of_nonneg (by omega : 0 ≤ -p.toInt)] at h
          omega
        omega
    rw [if_pos k, if_neg ne]
    refine ⟨rfl, ?_⟩
    rw [Int64.lt_iff_toInt_lt]; omega
  · have k' := k
    rw [Int64.lt_iff_toInt_lt] at k'
    have pv : p.toInt = m.toInt * 37 := by omega
    have e : p / 37 = m := Int64.toInt_inj.mp (by rw [dv, pv, Int.mul_tdiv_cancel _ (by decide)])
    rw [if_neg k, if_pos e, ← hp]
    refine ⟨rfl, ?_⟩
    rw [Int64.lt_iff_toInt_lt]; omega

def Q0 (Z : State) (q0 : Int64) (p1 : Int32) (h0 : Heap) (n0 : Nat) (v : Option Value) (h : Heap) (L : List Loc) : Prop := v = some (.int (1 : Int32)) ∧ Fr n0 L
set_option maxRecDepth 65536 in
set_option maxHeartbeats 40000000 in
theorem rm0 (l : Launch) (Z : State) (aw : Array Value) (hw : ∀ d ∈ tables_1, d.before aw Z = true) (wq : List Jvm.Cond) (q0 : Int64) (p1 : Int32) (h0 : Heap) (n0 : Nat) (Z0 : n0 ≤ h0.size) :
    MetFree l x (head1 (Jvm.Cond.code x code maxLocals ret :: wq) room_1) (fun a U => a = #[(.long q0), (.int p1)] ∧ Z.Warmed39 U.vm ∧ U.heap = h0) (fun _ _ _ _ _ => True) (fun _ U o U' => ∃ v L, o = .returned v ∧ Q0 Z q0 p1 h0 n0 v U'.heap L ∧ ReturnedEndW U o U' L 3 37) := by
  refine MetFree.of_bodySF (plainFor_of_name pn_3) hisR ?_
  intro p e s m args below meth c s₁ Bd hml0 hP hK
  obtain ⟨rfl, hZ, hh⟩ := hP
  have hx := Bd.exec
  have hby := Bd.bytes
  have hml : c.maxLocals = 11 := hml0
  have hown : s.vm.findClass "com/example/offered_load/offeredload/ExponentialMaxMicrosPinLaw" = some m.cls := findClass_of_methodNamed Bd.named
  have hnm := (name_of_methodNamed Bd.named Bd.method).1
  have X0 : Stand p l e room_1 (s.setVm s.vm) m #[(.long q0), (.int p1)] below meth c s₁ [] 0 0 := Stand.of_body Bd
  have e0 : s₁.heap = h0 := by rw [← hh, Bd.state]; rfl
  have N0 := Fr.nil n0
  have pre0 : own_Pre p e below (s₁.setTop (entryFrame m #[(.long q0), (.int p1)] maxLocals)) (s₁.setTop (mkF m 0 #[.val (.long q0), .second, .val (.int p1), .unset, .unset, .unset, .unset, .unset, .unset, .unset, .unset] [])) := fun t k => castTop (ef_0 m q0 p1) k
  have hS0 := State.WarmedH.since (State.WarmedH.refl s) h0.size
  have hk0 := Nat.le_refl h0.size
  have pre3 : own_Pre p e below (s₁.setTop (entryFrame m #[(.long q0), (.int p1)] maxLocals)) (s₁.setTop (mkF m 3 #[.val (.long q0), .second, .val (.int p1), .unset, .unset, .unset, .unset, .unset, .unset, .unset, .unset] [(.int (p1 &&& (1 : Int32)))])) := fun t k => pre0 t (by
      show Steps p.tables e below (s₁.setTop (mkF m 0 #[.val (.long q0), .second, .val (.int p1), .unset, .unset, .unset, .unset, .unset, .unset, .unset, .unset] [])) _
      refine XS.iloadN X0.here hx rfl (hb hby at_0) rfl ?_
      refine XS.iconst X0.here hx rfl (hb hby at_1) ?_
      refine XS.iand X0.here hx rfl (hb hby at_2) rfl ?_
      exact k)
  obtain ⟨m25_l3, hm25_l3, pre2⟩ : ∃ (m25_l3 : Int64), m25_l3 = (own_m0_25_l3 p1 q0) ∧ own_Pre p e below (s₁.setTop (entryFrame m #[(.long q0), (.int p1)] maxLocals)) (s₁.setTop (mkF m 25 #[.val (.long q0), .second, .val (.int p1), .val (.long m25_l3), .second, .unset, .unset, .unset, .unset, .unset, .unset] [])) := by
    by_cases hc3 : (p1 &&& (1 : Int32)) = (0 : Int32)
    · obtain ⟨x3_25, hx3_25, pre4⟩ : ∃ z : Int64, z = (q0 &&& (9223372036854775807 : Int64)) ∧ own_Pre p e below (s₁.setTop (entryFrame m #[(.long q0), (.int p1)] maxLocals)) (s₁.setTop (mkF m 25 #[.val (.long q0), .second, .val (.int p1), .val (.long z), .second, .unset, .unset, .unset, .unset, .unset, .unset] [])) := ⟨_, rfl, fun t k => pre3 t (by
          show Steps p.tables e below (s₁.setTop (mkF m 3 #[.val (.long q0), .second, .val (.int p1), .unset, .unset, .unset, .unset, .unset, .unset, .unset, .unset] [(.int (p1 &&& (1 : Int32)))])) _
          refine XS.ifYes X0.here hx rfl (pc0 := 3) (pc' := 19) rfl (hb hby at_3) rfl ((if0 _ _).trans (teq hc3).1) (by decide) (by decide) ?_
          refine XS.lloadN X0.here hx rfl (hb hby at_19) rfl ?_
          refine X0.ldc2Long hx hown (mvT hZ (hw _ (List.mem_of_getElem? (i := 0) rfl))) (g := (mkF m 20 #[.val (.long q0), .second, .val (.int p1), .unset, .unset, .unset, .unset, .unset, .unset, .unset, .unset] [(.long q0)])) rfl (hb hby at_20) _ ?_
          refine XS.land X0.here hx rfl (hb hby at_23) rfl ?_
          refine XS.lstoreN X0.here hx rfl (hb hby at_24) rfl (l' := #[.val (.long q0), .second, .val (.int p1), .val (.long (q0 &&& (9223372036854775807 : Int64))), .second, .unset, .unset, .unset, .unset, .unset, .unset]) rfl ?_
          exact k)⟩
      refine ⟨_, ?_, pre4⟩
      all_goals (subst hx3_25; first | (simp only [own_m0_25_l3, if_pos hc3]; done) | (simp [own_m0_25_l3, if_pos hc3]; done))
    · obtain ⟨x3_16, hx3_16, pre5⟩ : ∃ z : Int64, z = ((249280325320399338 : Int64) + (q0 &&& (15 : Int64))) ∧ own_Pre p e below (s₁.setTop (entryFrame m #[(.long q0), (.int p1)] maxLocals)) (s₁.setTop (mkF m 16 #[.val (.long q0), .second, .val (.int p1), .val (.long z), .second, .unset, .unset, .unset, .unset, .unset, .unset] [])) := ⟨_, rfl, fun t k => pre3 t (by
          show Steps p.tables e below (s₁.setTop (mkF m 3 #[.val (.long q0), .second, .val (.int p1), .unset, .unset, .unset, .unset, .unset, .unset, .unset, .unset] [(.int (p1 &&& (1 : Int32)))])) _
          refine XS.ifNo X0.here hx rfl (hb hby at_3) rfl ((if0 _ _).trans (feq hc3).1) ?_
          refine X0.ldc2Long hx hown (mvT hZ (hw _ (List.mem_of_getElem? (i := 38) rfl))) (g := (mkF m 6 #[.val (.long q0), .second, .val (.int p1), .unset, .unset, .unset, .unset, .unset, .unset, .unset, .unset] [])) rfl (hb hby at_6) _ ?_
          refine XS.lloadN X0.here hx rfl (hb hby at_9) rfl ?_
          refine X0.ldc2Long hx hown (mvT hZ (hw _ (List.mem_of_getElem? (i := 39) rfl))) (g := (mkF m 10 #[.val (.long q0), .second, .val (.int p1), .unset, .unset, .unset, .unset, .unset, .unset, .unset, .unset] [(.long q0), (.long (249280325320399338 : Int64))])) rfl (hb hby at_10) _ ?_
          refine XS.land X0.here hx rfl (hb hby at_13) rfl ?_
          show Steps p.tables e below (s₁.setTop (mkF m 14 #[.val (.long q0), .second, .val (.int p1), .unset, .unset, .unset, .unset, .unset, .unset, .unset, .unset] [(.long (q0 &&& (15 : Int64))), (.long (249280325320399338 : Int64))])) _
          refine XS.ladd X0.here hx rfl (hb hby at_14) rfl ?_
          refine XS.lstoreN X0.here hx rfl (hb hby at_15) rfl (l' := #[.val (.long q0), .second, .val (.int p1), .val (.long ((249280325320399338 : Int64) + (q0 &&& (15 : Int64)))), .second, .unset, .unset, .unset, .unset, .unset, .unset]) rfl ?_
          exact k)⟩
      have pre6 : own_Pre p e below (s₁.setTop (entryFrame m #[(.long q0), (.int p1)] maxLocals)) (s₁.setTop (mkF m 25 #[.val (.long q0), .second, .val (.int p1), .val (.long x3_16), .second, .unset, .unset, .unset, .unset, .unset, .unset] [])) := fun t k => pre5 t (by
          show Steps p.tables e below (s₁.setTop (mkF m 16 #[.val (.long q0), .second, .val (.int p1), .val (.long x3_16), .second, .unset, .unset, .unset, .unset, .unset, .unset] [])) _
          refine XS.goto X0.here hx rfl (pc0 := 16) (pc' := 25) rfl (hb hby at_16) (by decide) (by decide) ?_
          exact k)
      refine ⟨_, ?_, pre6⟩
      all_goals (subst hx3_16; first | (simp only [own_m0_25_l3, if_neg hc3]; done) | (simp [own_m0_25_l3, if_neg hc3]; done))
  have pre7 : own_Pre p e below (s₁.setTop (entryFrame m #[(.long q0), (.int p1)] maxLocals)) (s₁.setTop (mkF m 28 #[.val (.long q0), .second, .val (.int p1), .val (.long m25_l3), .second, .unset, .unset, .unset, .unset, .unset, .unset] [(.int (lcmpW m25_l3 (0 : Int64)))])) := fun t k => pre2 t (by
      show Steps p.tables e below (s₁.setTop (mkF m 25 #[.val (.long q0), .second, .val (.int p1), .val (.long m25_l3), .second, .unset, .unset, .unset, .unset, .unset, .unset] [])) _
      refine XS.lloadN X0.here hx rfl (hb hby at_25) rfl ?_
      refine XS.lconst X0.here hx rfl (hb hby at_26) ?_
      refine XS.lcmp X0.here hx rfl (hb hby at_27) rfl ?_
      exact k)
  by_cases hc28 : m25_l3 = (0 : Int64)
  · obtain ⟨fs, hr, hrun, hended, hREW⟩ := X0.leaveW hS0 (by rw [e0]; exact hk0) (v := some (.int (1 : Int32))) (fun h => by rw [Bd.returns] at h; cases h)
    refine ⟨_, _, pre7 _ ?_, hrun, hended, _, _, rfl, ?_, hREW.1, hREW.2.1, hREW.2.2.1, hREW.2.2.2.mono (by decide) (by decide)⟩
    · show Steps p.tables e below (s₁.setTop (mkF m 28 #[.val (.long q0), .second, .val (.int p1), .val (.long m25_l3), .second, .unset, .unset, .unset, .unset, .unset, .unset] [(.int (lcmpW m25_l3 (0 : Int64)))])) _
      refine XS.ifNo X0.here hx rfl (hb hby at_28) rfl ((if0 _ _).trans (teq ((lw_eq _ _).mpr hc28)).2) ?_
      refine XS.iconst X0.here hx rfl (hb hby at_31) ?_
      show Steps p.tables e below (s₁.setTop (mkF m 32 #[.val (.long q0), .second, .val (.int p1), .val (.long m25_l3), .second, .unset, .unset, .unset, .unset, .unset, .unset] [(.int (1 : Int32))])) _
      exact retN X0 hx (t := .boolean) Bd.returns (by simp) (hb hby at_32) hr
    · show Q0 Z q0 p1 h0 n0 _ s₁.heap _
      rw [e0]
      unfold Q0
      refine ⟨rfl, N0⟩
  · obtain ⟨T8, h8, X8, e8, E8, A8, D8, -, st8⟩ := newO X0 hx hZ hown (hw _ (List.mem_of_getElem? (i := 1) rfl)) (hw _ (List.mem_of_getElem? (i := 2) rfl)) (hw _ (List.mem_of_getElem? (i := 3) rfl)) e0 (g := (mkF m 33 #[.val (.long q0), .second, .val (.int p1), .val (.long m25_l3), .second, .unset, .unset, .unset, .unset, .unset, .unset] [])) rfl (hb hby at_33) (by decide) (by decide)
    obtain ⟨b8, gq8⟩ : ∃ z, z = (h0).size := ⟨_, rfl⟩
    rw [← gq8] at A8 D8 st8
    have g_b8 : n0 ≤ b8 := Nat.le_trans Z0 (Nat.le_of_eq gq8.symm)
    have F_b8_meanMicros : Fld Z h8 b8 "com/example/offered_load/offeredload/TimeDistribution$Exponential" "meanMicros" "J" (.long (0 : Int64)) := D8 (Or.inr (hw _ (List.mem_of_getElem? (i := 28) rfl))) (ty := .long) (by decide)
    have z10 : n0 ≤ (h8).size := (Nat.le_trans Z0 E8.1)
    have hk11 : _ ≤ (h8).size := (Nat.le_trans hk0 E8.1)
    obtain ⟨_, _, ⟨T9, L9, k9, n9⟩, -, X9, hs9, gr9, ⟨Lc9, hQ9, l9, y9, z9⟩, st9⟩ := X8.specialBackS hx (y := (⟨"com/example/offered_load/offeredload/TimeDistribution$Exponential", "<init>", "(J)V"⟩ : MethodName)) rfl hown (mvT hZ (hw _ (List.mem_of_getElem? (i := 4) rfl))) (mvT hZ (hw _ (List.mem_of_getElem? (i := 5) rfl))) (mvT hZ (hw _ (List.mem_of_getElem? (i := 6) rfl))) (by decide) (Jvm.RoadKit.backOfS (W := 1) (rm1 l Z aw hw [] (b8) (m25_l3) (h8) n0 z10 A8 F_b8_meanMicros g_b8 (own_pos hm25_l3 hc28)) hZ (hw _ (List.mem_of_getElem? (i := 6) rfl)) (hw _ (List.mem_of_getElem? (i := 3) rfl)) (by decide) (by decide)) (g := (mkF m 38 #[.val (.long q0), .second, .val (.int p1), .val (.long m25_l3), .second, .unset, .unset, .unset, .unset, .unset, .unset] [(.long m25_l3), (.ref b8), (.ref b8)])) rfl (by rw [hml]; rfl) (Steps.refl _) (a := b8) (argsL := [(.long m25_l3)]) (rest := [(.ref b8)]) (lenOf pd_2 rfl) rfl (by show 2 * 0 + _ ≤ _; exact Nat.le_of_eq rfl) (hb hby at_38) (fun _ _ => ⟨rfl, e8, (by decide : 1 + 2 ≤ _), (by decide : 1 + 36 ≤ _)⟩)
    dsimp only [Pt.U, Pt.locs, Pt.cells, Pt.slots] at X9 l9 y9 z9 st9 hQ9 hs9 gr9
    subst l9 y9 z9
    obtain ⟨X9, hS9⟩ := X9.againW hS0 hs9 (Nat.le_trans hk11 (by rw [← e8]; exact gr9))
    have hZ : Z.Warmed39 (s.setVm T9.vm).vm := State.Warmed39.trans (t := (s.setVm s.vm)) hZ hs9.1
    have hown : (s.setVm T9.vm).vm.findClass "com/example/offered_load/offeredload/ExponentialMaxMicrosPinLaw" = some m.cls := by rw [show (s.setVm T9.vm).vm = T9.vm from rfl, hs9.1.alike.findClass]; exact hown
    have hk9 : T9.heap.size ≤ T9.heap.size := Nat.le_refl _
    obtain ⟨rfl, Nq9, K9, po9_0, po9_1⟩ := hQ9
    have N9 := Fr.app N0 Nq9
    have z13 : n0 ≤ (T9.heap).size := (Nat.le_trans z10 K9.1)
    obtain ⟨cq12, kq12, q12a, q12b, q12c⟩ := isOf hZ rfl po9_0
    obtain ⟨_, _, ⟨T12, L12, k12, n12⟩, -, X12, ⟨Lc12, hQ12, l12, y12, z12⟩, st12⟩ := X9.virtualBack hx (y := (⟨"com/example/offered_load/offeredload/TimeDistribution$Exponential", "maxMicros", "()J"⟩ : MethodName)) (z := (⟨"com/example/offered_load/offeredload/TimeDistribution$Exponential", "maxMicros", "()J"⟩ : MethodName)) hown (mvT hZ (hw _ (List.mem_of_getElem? (i := 29) rfl))) (mvT hZ (hw _ (List.mem_of_getElem? (i := 30) rfl))) (notFace_of_selects (args := #[]) (mvT hZ (hw _ (List.mem_of_getElem? (i := 32) rfl)))) (mvT hZ (hw _ (List.mem_of_getElem? (i := 32) rfl))) (mvT hZ (hw _ (List.mem_of_getElem? (i := 31) rfl))) (by decide) (backOf (W := 0) (rm5 l Z aw hw [] (b8) (m25_l3) (T9.heap) n0 z13 po9_0 po9_1) hZ (hw _ (List.mem_of_getElem? (i := 33) rfl)) (hw _ (List.mem_of_getElem? (i := 3) rfl)) (by decide) (by decide)) q12a q12c (g := (mkF m 41 #[.val (.long q0), .second, .val (.int p1), .val (.long m25_l3), .second, .unset, .unset, .unset, .unset, .unset, .unset] [(.ref b8)])) rfl (by rw [hml]; rfl) (Steps.refl _) (argsL := []) (rest := []) (lenOf pd_3 rfl) rfl (by show 2 * 0 + _ ≤ _; exact Nat.le_of_eq rfl) (hb hby at_41) (fun _ _ => ⟨rfl, rfl, (by decide : 3 + 0 ≤ _), (by decide : 37 + 0 ≤ _)⟩)
    dsimp only [Pt.U, Pt.locs, Pt.cells, Pt.slots] at X12 l12 y12 z12 st12 hQ12
    subst l12 y12 z12
    obtain ⟨rfl, Nq12, eq12⟩ := hQ12
    have N12 := Fr.app N9 Nq12
    obtain ⟨x5_46, hx5_46, pre14⟩ : ∃ z : Int64, z = (own_f5 m25_l3) ∧ own_Pre p e below (s₁.setTop (entryFrame m #[(.long q0), (.int p1)] maxLocals)) (T12.setTop (mkF m 46 #[.val (.long q0), .second, .val (.int p1), .val (.long m25_l3), .second, .val (.long z), .second, .unset, .unset, .unset, .unset] [])) := ⟨_, rfl, fun t k => pre7 t (by
        show Steps p.tables e below (s₁.setTop (mkF m 28 #[.val (.long q0), .second, .val (.int p1), .val (.long m25_l3), .second, .unset, .unset, .unset, .unset, .unset, .unset] [(.int (lcmpW m25_l3 (0 : Int64)))])) _
        refine XS.ifYes X0.here hx rfl (pc0 := 28) (pc' := 33) rfl (hb hby at_28) rfl ((if0 _ _).trans (feq (mt (lw_eq _ _).mp hc28)).2) (by decide) (by decide) ?_
        refine st8 _ ?_
        refine XS.dup X8.here hx rfl (hb hby at_36) rfl rfl ?_
        refine XS.lloadN X8.here hx rfl (hb hby at_37) rfl ?_
        refine st9.trans ?_
        show Steps p.tables e below (T9.setTop (mkF m 41 #[.val (.long q0), .second, .val (.int p1), .val (.long m25_l3), .second, .unset, .unset, .unset, .unset, .unset, .unset] [(.ref b8)])) _
        refine st12.trans ?_
        refine XS.lstore X12.here hx rfl (hb hby at_44) rfl (l' := #[.val (.long q0), .second, .val (.int p1), .val (.long m25_l3), .second, .val (.long (own_f5 m25_l3)), .second, .unset, .unset, .unset, .unset]) rfl ?_
        exact k)⟩
    obtain ⟨x7_53, hx7_53, pre15⟩ : ∃ z : Int64, z = (m25_l3 * (37 : Int64)) ∧ own_Pre p e below (s₁.setTop (entryFrame m #[(.long q0), (.int p1)] maxLocals)) (T12.setTop (mkF m 53 #[.val (.long q0), .second, .val (.int p1), .val (.long m25_l3), .second, .val (.long x5_46), .second, .val (.long z), .second, .unset, .unset] [])) := ⟨_, rfl, fun t k => pre14 t (by
        show Steps p.tables e below (T12.setTop (mkF m 46 #[.val (.long q0), .second, .val (.int p1), .val (.long m25_l3), .second, .val (.long x5_46), .second, .unset, .unset, .unset, .unset] [])) _
        refine XS.lloadN X12.here hx rfl (hb hby at_46) rfl ?_
        refine X12.ldc2Long hx hown (mvT hZ (hw _ (List.mem_of_getElem? (i := 36) rfl))) (g := (mkF m 47 #[.val (.long q0), .second, .val (.int p1), .val (.long m25_l3), .second, .val (.long x5_46), .second, .unset, .unset, .unset, .unset] [(.long m25_l3)])) rfl (hb hby at_47) _ ?_
        refine XS.lmul X12.here hx rfl (hb hby at_50) rfl ?_
        refine XS.lstore X12.here hx rfl (hb hby at_51) rfl (l' := #[.val (.long q0), .second, .val (.int p1), .val (.long m25_l3), .second, .val (.long x5_46), .second, .val (.long (m25_l3 * (37 : Int64))), .second, .unset, .unset]) rfl ?_
        exact k)⟩
    have pre18 : own_Pre p e below (s₁.setTop (entryFrame m #[(.long q0), (.int p1)] maxLocals)) (T12.setTop (mkF m 61 #[.val (.long q0), .second, .val (.int p1), .val (.long m25_l3), .second, .val (.long x5_46), .second, .val (.long x7_53), .second, .unset, .unset] [(.int (lcmpW (x7_53 / (37 : Int64)) m25_l3))])) := fun t k => pre15 t (by
        show Steps p.tables e below (T12.setTop (mkF m 53 #[.val (.long q0), .second, .val (.int p1), .val (.long m25_l3), .second, .val (.long x5_46), .second, .val (.long x7_53), .second, .unset, .unset] [])) _
        refine XS.lload X12.here hx rfl (hb hby at_53) rfl ?_
        refine X12.ldc2Long hx hown (mvT hZ (hw _ (List.mem_of_getElem? (i := 36) rfl))) (g := (mkF m 55 #[.val (.long q0), .second, .val (.int p1), .val (.long m25_l3), .second, .val (.long x5_46), .second, .val (.long x7_53), .second, .unset, .unset] [(.long x7_53)])) rfl (hb hby at_55) _ ?_
        refine XS.ldiv X12.here hx rfl (hb hby at_58) rfl (by decide) ?_
        refine XS.lloadN X12.here hx rfl (hb hby at_59) rfl ?_
        refine XS.lcmp X12.here hx rfl (hb hby at_60) rfl ?_
        exact k)
    obtain ⟨m72_s0, hm72_s0, pre17⟩ : ∃ (m72_s0 : Int64), m72_s0 = (own_m0_72_s0 x7_53 m25_l3) ∧ own_Pre p e below (s₁.setTop (entryFrame m #[(.long q0), (.int p1)] maxLocals)) (T12.setTop (mkF m 72 #[.val (.long q0), .second, .val (.int p1), .val (.long m25_l3), .second, .val (.long x5_46), .second, .val (.long x7_53), .second, .unset, .unset] [(.long m72_s0)])) := by
      by_cases hc61 : (x7_53 / (37 : Int64)) = m25_l3
      · have pre19 : own_Pre p e below (s₁.setTop (entryFrame m #[(.long q0), (.int p1)] maxLocals)) (T12.setTop (mkF m 72 #[.val (.long q0), .second, .val (.int p1), .val (.long m25_l3), .second, .val (.long x5_46), .second, .val (.long x7_53), .second, .unset, .unset] [(.long x7_53)])) := fun t k => pre18 t (by
            show Steps p.tables e below (T12.setTop (mkF m 61 #[.val (.long q0), .second, .val (.int p1), .val (.long m25_l3), .second, .val (.long x5_46), .second, .val (.long x7_53), .second, .unset, .unset] [(.int (lcmpW (x7_53 / (37 : Int64)) m25_l3))])) _
            refine XS.ifNo X12.here hx rfl (hb hby at_61) rfl ((if0 _ _).trans (teq ((lw_eq _ _).mpr hc61)).2) ?_
            refine XS.lload X12.here hx rfl (hb hby at_64) rfl ?_
            refine XS.goto X12.here hx rfl (pc0 := 66) (pc' := 72) rfl (hb hby at_66) (by decide) (by decide) ?_
            exact k)
        refine ⟨_, ?_, pre19⟩
        all_goals (first | (simp only [own_m0_72_s0, if_pos hc61]; done) | (simp [own_m0_72_s0, if_pos hc61]; done))
      · have pre20 : own_Pre p e below (s₁.setTop (entryFrame m #[(.long q0), (.int p1)] maxLocals)) (T12.setTop (mkF m 72 #[.val (.long q0), .second, .val (.int p1), .val (.long m25_l3), .second, .val (.long x5_46), .second, .val (.long x7_53), .second, .unset, .unset] [(.long (9223372036854775807 : Int64))])) := fun t k => pre18 t (by
            show Steps p.tables e below (T12.setTop (mkF m 61 #[.val (.long q0), .second, .val (.int p1), .val (.long m25_l3), .second, .val (.long x5_46), .second, .val (.long x7_53), .second, .unset, .unset] [(.int (lcmpW (x7_53 / (37 : Int64)) m25_l3))])) _
            refine XS.ifYes X12.here hx rfl (pc0 := 61) (pc' := 69) rfl (hb hby at_61) rfl ((if0 _ _).trans (feq (mt (lw_eq _ _).mp hc61)).2) (by decide) (by decide) ?_
            refine X12.ldc2Long hx hown (mvT hZ (hw _ (List.mem_of_getElem? (i := 0) rfl))) (g := (mkF m 69 #[.val (.long q0), .second, .val (.int p1), .val (.long m25_l3), .second, .val (.long x5_46), .second, .val (.long x7_53), .second, .unset, .unset] [])) rfl (hb hby at_69) _ ?_
            exact k)
        refine ⟨_, ?_, pre20⟩
        all_goals (first | (simp only [own_m0_72_s0, if_neg hc61]; done) | (simp [own_m0_72_s0, if_neg hc61]; done))
    have hc79 : (x5_46 = m72_s0) := (own_law (own_pos hm25_l3 hc28) hx5_46 hx7_53 hm72_s0).1
    have hc86 : ¬ (x5_46 < m25_l3) := (own_law (own_pos hm25_l3 hc28) hx5_46 hx7_53 hm72_s0).2
    obtain ⟨fs, hr, hrun, hended, hREW⟩ := X12.leaveW hS9 (by rw [eq12]; exact hk9) (v := some (.int (1 : Int32))) (fun h => by rw [Bd.returns] at h; cases h)
    refine ⟨_, _, pre17 _ ?_, hrun, hended, _, _, rfl, ?_, hREW.1, hREW.2.1, hREW.2.2.1, hREW.2.2.2.mono (by decide) (by decide)⟩
    · show Steps p.tables e below (T12.setTop (mkF m 72 #[.val (.long q0), .second, .val (.int p1), .val (.long m25_l3), .second, .val (.long x5_46), .second, .val (.long x7_53), .second, .unset, .unset] [(.long m72_s0)])) _
      refine XS.lstore X12.here hx rfl (hb hby at_72) rfl (l' := #[.val (.long q0), .second, .val (.int p1), .val (.long m25_l3), .second, .val (.long x5_46), .second, .val (.long x7_53), .second, .val (.long m72_s0), .second]) rfl ?_
      refine XS.lload X12.here hx rfl (hb hby at_74) rfl ?_
      refine XS.lload X12.here hx rfl (hb hby at_76) rfl ?_
      refine XS.lcmp X12.here hx rfl (hb hby at_78) rfl ?_
      refine XS.ifNo X12.here hx rfl (hb hby at_79) rfl ((if0 _ _).trans (teq ((lw_eq _ _).mpr hc79)).2) ?_
      show Steps p.tables e below (T12.setTop (mkF m 82 #[.val (.long q0), .second, .val (.int p1), .val (.long m25_l3), .second, .val (.long x5_46), .second, .val (.long x7_53), .second, .val (.long m72_s0), .second] [])) _
      refine XS.lload X12.here hx rfl (hb hby at_82) rfl ?_
      refine XS.lloadN X12.here hx rfl (hb hby at_84) rfl ?_
      refine XS.lcmp X12.here hx rfl (hb hby at_85) rfl ?_
      refine XS.ifNo X12.here hx rfl (hb hby at_86) rfl ((if0 _ _).trans (flt (mt (lw_lt _ _).mp hc86)).1) ?_
      refine XS.iconst X12.here hx rfl (hb hby at_89) ?_
      show Steps p.tables e below (T12.setTop (mkF m 90 #[.val (.long q0), .second, .val (.int p1), .val (.long m25_l3), .second, .val (.long x5_46), .second, .val (.long x7_53), .second, .val (.long m72_s0), .second] [(.int (1 : Int32))])) _
      refine XS.goto X12.here hx rfl (pc0 := 90) (pc' := 94) rfl (hb hby at_90) (by decide) (by decide) ?_
      show Steps p.tables e below (T12.setTop (mkF m 94 #[.val (.long q0), .second, .val (.int p1), .val (.long m25_l3), .second, .val (.long x5_46), .second, .val (.long x7_53), .second, .val (.long m72_s0), .second] [(.int (1 : Int32))])) _
      exact retN X12 hx (t := .boolean) Bd.returns (by simp) (hb hby at_94) hr
    · show Q0 Z q0 p1 h0 n0 _ T12.heap _
      rw [eq12]
      unfold Q0
      refine ⟨rfl, N12⟩
set_option maxRecDepth 65536 in
set_option maxHeartbeats 40000000 in
theorem comes_1 {Post : Tables → Env → Array Value → State → Outcome → State → Prop} (hpost : ∀ tb e args s v u, (limb_1_1.after args s (.returned v) u = true ∧ limb_1_2.after args s (.returned v) u = true ∧ True) → ReturnedEndW s (.returned v) u (Jvm.fieldLocs frame_1_writes args s ++ Jvm.arrayLocs frame_1_arrays args s ++ Jvm.staticLocs frame_1_statics s) 16 1152 → Post tb e args s (.returned v) u) :
    ArmFor flags0 classFile x code maxLocals ret World_1 tables_1 room_1 Calls_1 rest_1 Pre_1 Post := by
  intro l hfl _ _ p e ha hc hk s m args below hf hA hF happ hP
  obtain ⟨hcalls, hrest, hpre⟩ := hP
  obtain ⟨-, -, -, hnamed, -, -, -, hat⟩ := (Spec.applies_iff hf).mp happ
  obtain ⟨hg, hn⟩ := and_e (Cond.before_iff.mp (show (Jvm.Cond.and given_1 narrow_1).before args s = true from hpre))
  obtain ⟨gv1, gv2⟩ := and_e hg
  obtain ⟨gv3, gv4⟩ := and_e gv2
  obtain ⟨w0, w1, rfl⟩ : ∃ w0 w1 : Value, args = #[w0, w1] := by
    have hs : args.size = 2 := by simpa [Cond.value, given_1] using gv1
    obtain ⟨L⟩ := args
    match L, hs with
    | [w0, w1], _ => exact ⟨w0, w1, rfl⟩
  have hw := fun d (hd : d ∈ tables_1) => atoms_spec (ws := Jvm.Cond.code x code maxLocals ret :: tables_1) hat d (List.mem_cons_of_mem _ hd)
  obtain ⟨i0, ei0⟩ := isL_v gv3
  obtain rfl : w0 = (.long i0) := Option.some.inj ei0
  obtain ⟨i1, ei1⟩ := is_v gv4
  obtain rfl : w1 = (.int i1) := Option.some.inj ei1
  obtain ⟨n, o, h1, h2, h3, _, L, rfl, ⟨rfl, N⟩, hq⟩ := rm0 l s _ hw tables_1 i0 i1 s.heap s.heap.size (Nat.le_refl _) p e ha hc hk s m _ below hf ((Spec.applies_iff_loose hf).mp happ).1 ⟨rfl, State.Warmed39.refl s, rfl⟩ trivial
  refine ⟨n, _, h1, h2, h3, hpost _ _ _ _ _ _ ⟨Cond.after_iff.mpr rfl, Cond.after_iff.mpr (eq_i res_at (Term.int_eval (1)) rfl), trivial⟩ ⟨hq.1, hq.2.1, hq.2.2.1, (hq.2.2.2.sift fun y hy => Or.inr (N y hy)).mono (by decide) (by decide)⟩⟩
theorem main_1_1 : Claimed_1_1 := comes_1 fun _ _ _ _ _ _ h hF => ⟨h.1, hF⟩
theorem main_1_2 : Claimed_1_2 := comes_1 fun _ _ _ _ _ _ h hF => ⟨h.2.1, hF⟩
end Jvm.Pilot.@@N@@
namespace Jvm.Pilot.@@N@@
open Jvm Jvm.ClassFile Sem Op Lib Jvm.Free Jvm.Stand Jvm.Pilot.@@N@@.Jvm.D
/-! MADE BY PROGRAM (witnessworld.py) out of the Statement's table words and the real class files: 16 classes; the members and pool entries that the words name. The judged class is class 1, her method 1. -/
namespace start1
open Jvm.ClassFile
def u (s : String) : CpInfo := .utf8 (stringToUtf16 s)
/-- a pool by its gaps: so many unusable entries, then the entry; so many at the end -/
def gap : Nat → List CpInfo → List CpInfo
  | 0, r => r
  | n + 1, r => .unusable :: gap n r
def poolList (es : List (Nat × CpInfo)) (last : Nat) : List CpInfo := es.foldr (fun e r => gap e.1 (e.2 :: r)) (gap last [])
def pool (es : List (Nat × CpInfo)) (last : Nat) : Array CpInfo := ⟨poolList es last⟩
def fileOf (pool : Array CpInfo) (this : Nat) (attrs : Array Attribute := #[]) (ms : Array MethodInfo := #[]) (fl : Nat := 33) (sup : Nat := 0) (ifs : Array Nat := #[]) (fds : Array FieldInfo := #[]) : ClassFile where
  minorVersion := 0
  majorVersion := 65
  constantPool := pool
  accessFlags := fl
  thisClass := this
  superClass := sup
  interfaces := ifs
  fields := fds
  methods := ms
  attributes := attrs
def plain (name : String) (sup : Option ClassId) : Class where
  name := name
  kind := .ordinary
  loader := none
  accessFlags := 33
  super := sup
  interfaces := #[]
  cf := none
  fields := #[]
  methods := #[]
  instanceTypes := #[]
  staticTypes := #[]
  resolved := #[]
  callSites := []
  init := .initialized
  statics := none
  mirror := none

def pool0 : Array CpInfo := pool [(5, u "<init>"), (0, u "()V"), (1, .class_ 10), (1, u "java/lang/Object")] 113

def k0c0 : Code := { maxStack := 0, maxLocals := 1, code := object_method_1_code, exceptionTable := #[], attributes := #[] }
def k0m0 : Method := { name := "<init>", desc := "()V", sig := { parameters := [], returnType := none }, accessFlags := 1, code := some k0c0 }
/-- java/lang/Object -/
def k0 : Class := { plain "java/lang/Object" none with
  accessFlags := 33
  interfaces := #[]
  cf := some (fileOf pool0 8 #[] #[{ accessFlags := 1, nameIndex := 5, descriptorIndex := 6, attributes := #[] }] 33 0 #[] #[])
  fields := #[]
  methods := #[k0m0]
  instanceTypes := #[]
  staticTypes := #[]
  resolved := Array.replicate 124 none
  statics := none }

def pool1 : Array CpInfo := pool [(2, .class_ 4), (1, u "java/lang/Object"), (0, u "<init>"), (0, u "()V"), (2, .long 249280325320399338), (1, .long 15), (1, .long 9223372036854775807), (1, .class_ 16), (0, u "com/example/offered_load/offeredload/TimeDistribution$Exponential"), (0, .methodref 15 18), (0, .nameAndType 5 19), (0, u "(J)V"), (0, .methodref 15 21), (0, .nameAndType 22 23), (0, u "maxMicros"), (0, u "()J"), (0, .long 37), (1, .class_ 27), (0, u "com/example/offered_load/offeredload/ExponentialMaxMicrosPinLaw"), (2, u "law"), (0, u "(JI)Z")] 7

def k1m0 : Method := { name := "<init>", desc := "()V", sig := { parameters := [], returnType := none }, accessFlags := 1, code := none }
def k1c1 : Code := { maxStack := 6, maxLocals := 11, code := code, exceptionTable := #[], attributes := #[] }
def k1m1 : Method := { name := "law", desc := "(JI)Z", sig := { parameters := [.long, .int], returnType := some .boolean }, accessFlags := 9, code := some k1c1 }
/-- com/example/offered_load/offeredload/ExponentialMaxMicrosPinLaw -/
def k1 : Class := { plain "com/example/offered_load/offeredload/ExponentialMaxMicrosPinLaw" (some 0) with
  accessFlags := 49
  interfaces := #[]
  cf := some (fileOf pool1 26 #[] #[{ accessFlags := 1, nameIndex := 5, descriptorIndex := 6, attributes := #[] }, { accessFlags := 9, nameIndex := 30, descriptorIndex := 31, attributes := #[] }] 49 2 #[] #[])
  fields := #[]
  methods := #[k1m0, k1m1]
  instanceTypes := #[]
  staticTypes := #[]
  resolved := Array.replicate 39 none
  statics := none }

def pool2 : Array CpInfo := pool [(1, .methodref 2 3), (0, .class_ 4), (0, .nameAndType 5 6), (0, u "java/lang/Object"), (0, u "<init>"), (0, u "()V"), (0, .class_ 8), (0, u "java/lang/Record")] 13

def k2c0 : Code := { maxStack := 1, maxLocals := 1, code := jdk_30_method_1_code, exceptionTable := #[], attributes := #[] }
def k2m0 : Method := { name := "<init>", desc := "()V", sig := { parameters := [], returnType := none }, accessFlags := 4, code := some k2c0 }
/-- java/lang/Record -/
def k2 : Class := { plain "java/lang/Record" (some 0) with
  accessFlags := 1057
  interfaces := #[]
  cf := some (fileOf pool2 7 #[] #[{ accessFlags := 4, nameIndex := 5, descriptorIndex := 6, attributes := #[] }] 1057 2 #[] #[])
  fields := #[]
  methods := #[k2m0]
  instanceTypes := #[]
  staticTypes := #[]
  resolved := Array.replicate 22 none
  statics := none }

def pool3 : Array CpInfo := pool [(11, .class_ 12), (0, u "com/example/offered_load/offeredload/TimeDistribution"), (0, .class_ 14), (0, u "java/lang/Object"), (4, u "requireAboveZero"), (0, u "(Ljava/lang/String;J)V"), (6, .class_ 28), (0, u "com/example/offered_load/offeredload/TimeDistribution$Lognormal"), (0, .class_ 30), (0, u "com/example/offered_load/offeredload/TimeDistribution$Lognormal$Logarithm"), (0, .class_ 32), (0, u "com/example/offered_load/offeredload/TimeDistribution$Discrete"), (0, .class_ 34), (0, u "com/example/offered_load/offeredload/TimeDistribution$Exponential"), (0, .class_ 36), (0, u "com/example/offered_load/offeredload/TimeDistribution$Fixed")] 21

def k3c0 : Code := { maxStack := 4, maxLocals := 3, code := prog_34_method_3_code, exceptionTable := #[], attributes := #[] }
def k3m0 : Method := { name := "requireAboveZero", desc := "(Ljava/lang/String;J)V", sig := { parameters := [(.object "java/lang/String"), .long], returnType := none }, accessFlags := 10, code := some k3c0 }
/-- com/example/offered_load/offeredload/TimeDistribution -/
def k3 : Class := { plain "com/example/offered_load/offeredload/TimeDistribution" (some 0) with
  accessFlags := 1536
  interfaces := #[]
  cf := some (fileOf pool3 11 #[.nestMembers #[27, 29, 31, 33, 35]] #[{ accessFlags := 10, nameIndex := 19, descriptorIndex := 20, attributes := #[] }] 1536 13 #[] #[])
  fields := #[]
  methods := #[k3m0]
  instanceTypes := #[]
  staticTypes := #[]
  resolved := Array.replicate 58 none
  statics := none }

def pool4 : Array CpInfo := pool [(1, .methodref 2 3), (0, .class_ 4), (0, .nameAndType 5 6), (0, u "java/lang/Record"), (0, u "<init>"), (0, u "()V"), (0, .string 8), (0, u "the mean"), (0, .interfaceMethodref 10 11), (0, .class_ 12), (0, .nameAndType 13 14), (0, u "com/example/offered_load/offeredload/TimeDistribution"), (0, u "requireAboveZero"), (0, u "(Ljava/lang/String;J)V"), (0, .fieldref 16 17), (0, .class_ 18), (0, .nameAndType 19 20), (0, u "com/example/offered_load/offeredload/TimeDistribution$Exponential"), (0, u "meanMicros"), (0, u "J"), (20, .long 249280325320399346), (1, .long 9223372036854775807), (1, .long 37), (13, u "MAX_MEANS"), (1, u "(J)V"), (5, u "maxMicros"), (0, u "()J")] 25

def k4c0 : Code := { maxStack := 3, maxLocals := 3, code := prog_36_method_1_code, exceptionTable := #[], attributes := #[] }
def k4m0 : Method := { name := "<init>", desc := "(J)V", sig := { parameters := [.long], returnType := none }, accessFlags := 1, code := some k4c0 }
def k4c1 : Code := { maxStack := 4, maxLocals := 1, code := prog_36_method_3_code, exceptionTable := #[], attributes := #[] }
def k4m1 : Method := { name := "maxMicros", desc := "()J", sig := { parameters := [], returnType := some .long }, accessFlags := 1, code := some k4c1 }
/-- com/example/offered_load/offeredload/TimeDistribution$Exponential -/
def k4 : Class := { plain "com/example/offered_load/offeredload/TimeDistribution$Exponential" (some 2) with
  accessFlags := 49
  interfaces := #[3]
  cf := some (fileOf pool4 16 #[.nestHost 10] #[{ accessFlags := 1, nameIndex := 5, descriptorIndex := 61, attributes := #[] }, { accessFlags := 1, nameIndex := 67, descriptorIndex := 68, attributes := #[] }] 49 2 #[10] #[{ accessFlags := 18, nameIndex := 19, descriptorIndex := 20, attributes := #[] }, { accessFlags := 26, nameIndex := 59, descriptorIndex := 20, attributes := #[] }])
  fields := #[{ name := "meanMicros", type := .long, accessFlags := 18, slot := 0, constantValue := 0 }, { name := "MAX_MEANS", type := .long, accessFlags := 26, slot := 0, constantValue := 0 }]
  methods := #[k4m0, k4m1]
  instanceTypes := #[.long]
  staticTypes := #[.long]
  resolved := Array.replicate 94 none
  statics := none }

def pool5 : Array CpInfo := pool [(1, .class_ 2), (0, u "java/io/Serializable"), (0, .class_ 4), (0, u "java/lang/Object")] 2

/-- java/io/Serializable -/
def k5 : Class := { plain "java/io/Serializable" (some 0) with
  accessFlags := 1537
  interfaces := #[]
  cf := some (fileOf pool5 1 #[] #[] 1537 3 #[] #[])
  fields := #[]
  methods := #[]
  instanceTypes := #[]
  staticTypes := #[]
  resolved := Array.replicate 7 none
  statics := none }

def pool6 : Array CpInfo := pool [(1, .class_ 2), (0, u "java/lang/Comparable"), (0, .class_ 4), (0, u "java/lang/Object")] 7

/-- java/lang/Comparable -/
def k6 : Class := { plain "java/lang/Comparable" (some 0) with
  accessFlags := 1537
  interfaces := #[]
  cf := some (fileOf pool6 1 #[] #[] 1537 3 #[] #[])
  fields := #[]
  methods := #[]
  instanceTypes := #[]
  staticTypes := #[]
  resolved := Array.replicate 12 none
  statics := none }

def pool7 : Array CpInfo := pool [(2, .class_ 4), (1, u "java/lang/CharSequence"), (42, .class_ 48), (0, u "java/lang/CharSequence$1CodePointIterator"), (10, .class_ 60), (0, u "java/lang/CharSequence$1CharIterator"), (5, .class_ 67), (0, u "java/lang/Object")] 63

/-- java/lang/CharSequence -/
def k7 : Class := { plain "java/lang/CharSequence" (some 0) with
  accessFlags := 1537
  interfaces := #[]
  cf := some (fileOf pool7 2 #[.nestMembers #[47, 59]] #[] 1537 66 #[] #[])
  fields := #[]
  methods := #[]
  instanceTypes := #[]
  staticTypes := #[]
  resolved := Array.replicate 131 none
  statics := none }

def pool8 : Array CpInfo := pool [(1, .class_ 2), (0, u "java/lang/constant/Constable"), (0, .class_ 4), (0, u "java/lang/Object")] 6

/-- java/lang/constant/Constable -/
def k8 : Class := { plain "java/lang/constant/Constable" (some 0) with
  accessFlags := 1537
  interfaces := #[]
  cf := some (fileOf pool8 1 #[] #[] 1537 3 #[] #[])
  fields := #[]
  methods := #[]
  instanceTypes := #[]
  staticTypes := #[]
  resolved := Array.replicate 11 none
  statics := none }

def pool9 : Array CpInfo := pool [(1, .class_ 2), (0, u "java/lang/constant/ConstantDesc"), (0, .class_ 4), (0, u "java/lang/Object")] 32

/-- java/lang/constant/ConstantDesc -/
def k9 : Class := { plain "java/lang/constant/ConstantDesc" (some 0) with
  accessFlags := 1537
  interfaces := #[]
  cf := some (fileOf pool9 1 #[] #[] 1537 3 #[] #[])
  fields := #[]
  methods := #[]
  instanceTypes := #[]
  staticTypes := #[]
  resolved := Array.replicate 37 none
  statics := none }

def pool10 : Array CpInfo := pool [(2, .class_ 4), (1, u "java/lang/Object"), (0, u "<init>"), (0, u "()V"), (3, .class_ 12), (1, u "java/lang/String"), (0, u "value"), (0, u "[B"), (2, u "coder"), (0, u "B"), (2, u "hash"), (0, u "I"), (2, u "hashIsZero"), (0, u "Z"), (13, u "COMPACT_STRINGS"), (534, .class_ 576), (0, u "java/lang/CharSequence"), (22, u "CASE_INSENSITIVE_ORDER"), (0, u "Ljava/util/Comparator;"), (500, u "serialPersistentFields"), (0, u "[Ljava/io/ObjectStreamField;"), (0, .class_ 1104), (0, u "java/lang/String$CaseInsensitiveComparator"), (1, .class_ 1107), (0, u "java/io/Serializable"), (0, .class_ 1109), (0, u "java/lang/Comparable"), (0, .class_ 1111), (0, u "java/lang/constant/Constable"), (0, .class_ 1113), (0, u "java/lang/constant/ConstantDesc"), (2, u "serialVersionUID"), (0, u "J"), (3, u "REPL"), (0, u "C"), (2, u "LATIN1"), (1, u "UTF16")] 323

def k10m0 : Method := { name := "<init>", desc := "()V", sig := { parameters := [], returnType := none }, accessFlags := 1, code := none }
/-- java/lang/String -/
def k10 : Class := { plain "java/lang/String" (some 0) with
  accessFlags := 49
  interfaces := #[5, 6, 7, 8, 9]
  cf := some (fileOf pool10 10 #[.nestMembers #[1103]] #[{ accessFlags := 1, nameIndex := 5, descriptorIndex := 6, attributes := #[] }] 49 2 #[1106, 1108, 575, 1110, 1112] #[{ accessFlags := 18, nameIndex := 13, descriptorIndex := 14, attributes := #[] }, { accessFlags := 18, nameIndex := 17, descriptorIndex := 18, attributes := #[] }, { accessFlags := 2, nameIndex := 21, descriptorIndex := 22, attributes := #[] }, { accessFlags := 2, nameIndex := 25, descriptorIndex := 26, attributes := #[] }, { accessFlags := 26, nameIndex := 1116, descriptorIndex := 1117, attributes := #[] }, { accessFlags := 24, nameIndex := 40, descriptorIndex := 26, attributes := #[] }, { accessFlags := 26, nameIndex := 1101, descriptorIndex := 1102, attributes := #[] }, { accessFlags := 26, nameIndex := 1121, descriptorIndex := 1122, attributes := #[] }, { accessFlags := 25, nameIndex := 599, descriptorIndex := 600, attributes := #[] }, { accessFlags := 24, nameIndex := 1125, descriptorIndex := 18, attributes := #[] }, { accessFlags := 24, nameIndex := 1127, descriptorIndex := 18, attributes := #[] }])
  fields := #[{ name := "value", type := (.array .byte), accessFlags := 18, slot := 0, constantValue := 0 }, { name := "coder", type := .byte, accessFlags := 18, slot := 1, constantValue := 0 }, { name := "hash", type := .int, accessFlags := 2, slot := 2, constantValue := 0 }, { name := "hashIsZero", type := .boolean, accessFlags := 2, slot := 3, constantValue := 0 }, { name := "serialVersionUID", type := .long, accessFlags := 26, slot := 0, constantValue := 0 }, { name := "COMPACT_STRINGS", type := .boolean, accessFlags := 24, slot := 1, constantValue := 0 }, { name := "serialPersistentFields", type := (.array (.object "java/io/ObjectStreamField")), accessFlags := 26, slot := 2, constantValue := 0 }, { name := "REPL", type := .char, accessFlags := 26, slot := 3, constantValue := 0 }, { name := "CASE_INSENSITIVE_ORDER", type := (.object "java/util/Comparator"), accessFlags := 25, slot := 4, constantValue := 0 }, { name := "LATIN1", type := .byte, accessFlags := 24, slot := 5, constantValue := 0 }, { name := "UTF16", type := .byte, accessFlags := 24, slot := 6, constantValue := 0 }]
  methods := #[k10m0]
  instanceTypes := #[(.array .byte), .byte, .int, .boolean]
  staticTypes := #[.long, .boolean, (.array (.object "java/io/ObjectStreamField")), .char, (.object "java/util/Comparator"), .byte, .byte]
  resolved := Array.replicate 1451 none
  statics := none }

def pool11 : Array CpInfo := pool [(1, u "java/lang/Cloneable"), (0, .class_ 1), (0, u "java/lang/Object"), (0, .class_ 3)] 3

/-- java/lang/Cloneable -/
def k11 : Class := { plain "java/lang/Cloneable" (some 0) with
  accessFlags := 1537
  interfaces := #[]
  cf := some (fileOf pool11 2 #[] #[] 1537 4 #[] #[])
  fields := #[]
  methods := #[]
  instanceTypes := #[]
  staticTypes := #[]
  resolved := Array.replicate 8 none
  statics := none }

/-- the primitive byte -/
def k12 : Class := { plain "byte" none with kind := .primitive 'B', accessFlags := 0x411 }
/-- [B -/
def k13 : Class := { plain "[B" (some 0) with kind := .array 12 .byte, interfaces := #[11, 5], accessFlags := 1041 }

/-- the primitive int -/
def k14 : Class := { plain "int" none with kind := .primitive 'I', accessFlags := 0x411 }
/-- [I -/
def k15 : Class := { plain "[I" (some 0) with kind := .array 14 .int, interfaces := #[11, 5], accessFlags := 1041 }

def heap : Heap := #[]
def classes : Array Class := #[k0, k1, k2, k3, k4, k5, k6, k7, k8, k9, k10, k11, k12, k13, k14, k15]
def interned : List (Array UInt16 × Addr) := []
def slotsUsed : Nat := 0
def theMethod : MethodId := ⟨1, 1⟩
def args0 : Array Value := #[.long 5, .int 0]
def aboutOver (below : List Frame) : State where
  vm := { classes := classes, interned := interned.toArray }
  heap := heap
  slotsUsed := slotsUsed
  threads := #[{ frames := .invoking theMethod args0 :: below }]
def below0 : List Frame := [.native { method := ⟨0, 0⟩, args := #[] }]
def about1 : State := aboutOver below0
def p0 : Program := .bare "" "" ""
def e0 : Env := launch0.env 0 0 0
theorem w_frames : about1.frames = Frame.invoking theMethod args0 :: below0 := rfl
set_option maxRecDepth 65536 in
theorem w_args : argsFit about1.vm theMethod args0 = true := by decide +kernel
set_option maxRecDepth 65536 in
theorem w_heap : heapFits about1 = true := by decide +kernel
set_option maxRecDepth 65536 in
theorem w_runnable : about1.curStatus? = some .runnable := by decide +kernel
set_option maxRecDepth 65536 in
theorem w_alone : about1.alone = true := by decide +kernel
set_option maxRecDepth 65536 in
theorem w_named : about1.methodNamed? x = some theMethod := by decide +kernel
set_option maxRecDepth 65536 in
theorem w_hears : about1.hears theMethod below0 = true := by decide +kernel
set_option maxRecDepth 65536 in
theorem w_ripe : about1.ripe theMethod args0 below0 = true := by decide +kernel
theorem w_running : about1.status = .running := rfl
set_option maxRecDepth 65536 in
theorem w_room : about1.hasRoom e0.platform room_1 = true :=
  launch0.hasRoom_least _ room_1 (by decide +kernel) (by decide +kernel) (by decide +kernel) (by decide +kernel) (by decide +kernel) (by decide +kernel)
theorem allAtoms_all (ts : List Jvm.Cond) (a : Array Jvm.Value) (st : Jvm.State) : (allAtoms ts).before a st = ts.all (fun c => c.before a st) := by
  induction ts with
  | nil => rfl
  | cons c t ih =>
    show (Jvm.Cond.and c (allAtoms t)).before a st = _
    rw [Jvm.Cond.before_and, ih, List.all_cons]
def words1 : List Jvm.Cond := Jvm.Cond.code x code maxLocals ret :: tables_1
/-- a 'code' word, met by the world's own term for the bytes: nothing is compared byte by byte -/
theorem code_word {y : MethodName} {bytes : ByteArray} {mx : Nat} {rt : Option FieldType} {a : Array Value} {s : State} {m : MethodId} {meth : Method} {c : Code} (h1 : s.methodNamed? y = some m) (h2 : s.vm.method? m = some meth) (h3 : meth.code = some c) (h4 : c.code = bytes)
    (h5 : (c.maxLocals == mx && c.exceptionTable.isEmpty && decide (c.maxStack ≤ mostOperands) && decide (meth.sig.returnType = rt) && !meth.locks && decide (parseMethodDescriptor y.desc = some meth.sig)) = true) : (Jvm.Cond.code y bytes mx rt).before a s = true := by
  simp only [Bool.and_eq_true, beq_iff_eq, Bool.not_eq_true', decide_eq_true_eq] at h5
  obtain ⟨⟨⟨⟨⟨g1, g2⟩, g3⟩, g4⟩, g5⟩, g6⟩ := h5
  simp [Cond.before, Cond.holds, Cond.value, h1, h2, h3, h4, g1, g2, g3, g4, g5, g6]
def isCode : Jvm.Cond → Bool
  | .code _ _ _ _ => true
  | _ => false
theorem all_split {L : List Jvm.Cond} {P : Jvm.Cond → Bool} (h1 : L.all (fun c => isCode c || P c) = true) (h2 : ∀ c ∈ L.filter isCode, P c = true) : L.all P = true := by
  refine List.all_eq_true.mpr fun c hc => ?_
  have h := List.all_eq_true.mp h1 c hc
  rcases Bool.eq_false_or_eq_true (isCode c) with hi | hi
  · exact h2 c (List.mem_filter.mpr ⟨hc, hi⟩)
  · simpa [hi] using h
set_option maxRecDepth 65536 in
theorem w_c0 : (Jvm.Cond.code x code maxLocals ret).before args0 about1 = true := code_word (m := ⟨1, 1⟩) (meth := k1m1) (c := k1c1) (by decide +kernel) rfl rfl rfl (by decide +kernel)
set_option maxRecDepth 65536 in
theorem w_c1 : (Jvm.Cond.code ({ cls := "com/example/offered_load/offeredload/TimeDistribution$Exponential", name := "<init>", desc := "(J)V" } : Jvm.MethodName) prog_36_method_1_code (3 : Nat) (Option.none : Option Jvm.ClassFile.FieldType)).before args0 about1 = true := code_word (m := ⟨4, 0⟩) (meth := k4m0) (c := k4c0) (by decide +kernel) rfl rfl rfl (by decide +kernel)
set_option maxRecDepth 65536 in
theorem w_c2 : (Jvm.Cond.code ({ cls := "java/lang/Record", name := "<init>", desc := "()V" } : Jvm.MethodName) jdk_30_method_1_code (1 : Nat) (Option.none : Option Jvm.ClassFile.FieldType)).before args0 about1 = true := code_word (m := ⟨2, 0⟩) (meth := k2m0) (c := k2c0) (by decide +kernel) rfl rfl rfl (by decide +kernel)
set_option maxRecDepth 65536 in
theorem w_c3 : (Jvm.Cond.code ({ cls := "java/lang/Object", name := "<init>", desc := "()V" } : Jvm.MethodName) object_method_1_code (1 : Nat) (Option.none : Option Jvm.ClassFile.FieldType)).before args0 about1 = true := code_word (m := ⟨0, 0⟩) (meth := k0m0) (c := k0c0) (by decide +kernel) rfl rfl rfl (by decide +kernel)
set_option maxRecDepth 65536 in
theorem w_c4 : (Jvm.Cond.code ({ cls := "com/example/offered_load/offeredload/TimeDistribution", name := "requireAboveZero", desc := "(Ljava/lang/String;J)V" } : Jvm.MethodName) prog_34_method_3_code (3 : Nat) (Option.none : Option Jvm.ClassFile.FieldType)).before args0 about1 = true := code_word (m := ⟨3, 0⟩) (meth := k3m0) (c := k3c0) (by decide +kernel) rfl rfl rfl (by decide +kernel)
set_option maxRecDepth 65536 in
theorem w_c5 : (Jvm.Cond.code ({ cls := "com/example/offered_load/offeredload/TimeDistribution$Exponential", name := "maxMicros", desc := "()J" } : Jvm.MethodName) prog_36_method_3_code (1 : Nat) (Option.some Jvm.ClassFile.FieldType.long)).before args0 about1 = true := code_word (m := ⟨4, 1⟩) (meth := k4m1) (c := k4c1) (by decide +kernel) rfl rfl rfl (by decide +kernel)
def codes1 : List Jvm.Cond := [Jvm.Cond.code x code maxLocals ret, Jvm.Cond.code ({ cls := "com/example/offered_load/offeredload/TimeDistribution$Exponential", name := "<init>", desc := "(J)V" } : Jvm.MethodName) prog_36_method_1_code (3 : Nat) (Option.none : Option Jvm.ClassFile.FieldType), Jvm.Cond.code ({ cls := "java/lang/Record", name := "<init>", desc := "()V" } : Jvm.MethodName) jdk_30_method_1_code (1 : Nat) (Option.none : Option Jvm.ClassFile.FieldType), Jvm.Cond.code ({ cls := "java/lang/Object", name := "<init>", desc := "()V" } : Jvm.MethodName) object_method_1_code (1 : Nat) (Option.none : Option Jvm.ClassFile.FieldType), Jvm.Cond.code ({ cls := "com/example/offered_load/offeredload/TimeDistribution", name := "requireAboveZero", desc := "(Ljava/lang/String;J)V" } : Jvm.MethodName) prog_34_method_3_code (3 : Nat) (Option.none : Option Jvm.ClassFile.FieldType), Jvm.Cond.code ({ cls := "com/example/offered_load/offeredload/TimeDistribution$Exponential", name := "maxMicros", desc := "()J" } : Jvm.MethodName) prog_36_method_3_code (1 : Nat) (Option.some Jvm.ClassFile.FieldType.long)]
set_option maxRecDepth 65536 in
theorem codes_eq : words1.filter isCode = codes1 := rfl
theorem w_codes : ∀ c ∈ words1.filter isCode, c.before args0 about1 = true := by
  rw [codes_eq]
  intro c hc
  simp only [codes1, List.mem_cons, List.not_mem_nil, or_false] at hc
  rcases hc with rfl | rfl | rfl | rfl | rfl | rfl
  · exact w_c0
  · exact w_c1
  · exact w_c2
  · exact w_c3
  · exact w_c4
  · exact w_c5
set_option maxRecDepth 65536 in
theorem w_t1 : (words1.take 24).all (fun c => isCode c || c.before args0 about1) = true := by decide +kernel
set_option maxRecDepth 65536 in
theorem w_t2 : (words1.drop 24).all (fun c => isCode c || c.before args0 about1) = true := by decide +kernel
theorem w_tables : (allAtoms (Jvm.Cond.code x code maxLocals ret :: tables_1)).before args0 about1 = true := by
  rw [allAtoms_all]
  show words1.all (fun c => c.before args0 about1) = true
  refine all_split ?_ w_codes
  rw [← List.take_append_drop 24 words1, List.all_append, w_t1, w_t2]
  rfl
set_option maxRecDepth 65536 in
theorem w_case : (Jvm.Cond.and given_1 narrow_1).before args0 about1 = true := by decide +kernel
theorem w_applies : (headSpec (Jvm.Cond.code x code maxLocals ret :: tables_1) room_1).applies x e0.platform about1 = true :=
  (Spec.applies_iff w_frames).mpr ⟨w_running, w_runnable, w_alone, w_named, w_hears, w_ripe, w_room, w_tables⟩
theorem atStart : AtStart classFile x code maxLocals ret World_1 tables_1 room_1 Calls_1 rest_1 Pre_1 launch0 p0 e0 about1 theMethod args0 below0 :=
  ⟨lists_1, trivial, launch0.admits_env _ _ _, launch0.least_env, fairChoices_fair.cas, fairChoices_fair.clock, w_frames, w_args, w_heap, w_applies, trivial, trivial, w_case⟩
end start1
theorem witness_1 : WitnessClaimed_1 := ⟨start1.p0, start1.e0, start1.about1, start1.theMethod, start1.args0, start1.below0, start1.atStart⟩
end Jvm.Pilot.@@N@@
