import JvmDerived
import JvmDerived.Pilot.@@N@@Statement
import JvmDerived.Pilot.@@N@@Code
set_option linter.unusedVariables false
set_option linter.unusedSimpArgs false
namespace Jvm.RoadKit
open Sem ClassFile Op Lib Jvm.Stand Jvm.Free Jvm.LawKit
section New
variable {p : Program} {l : Launch} {e : Env} {R : Room} {s : State} {m : MethodId} {args : Array Value} {below : List Frame} {meth : Method} {c : Code} {T : State} {locs : List Loc} {cells slots : Nat}
theorem retI (X : Stand p l e R s m args below meth c T locs cells slots) (hx : p.tables.exec = Jvm.exec) {pc : Nat} {Ls : Array Slot} {z : Int32} {rest : List Value} (hret : meth.sig.returnType = some .int) (hd : decode c.code pc = .ok (.ireturn, 1)) {fs : List Frame}
    (hl : ∀ (f : JFrame) (acts : List Action), f.method = m → f.locked = none → f.entered = [] → (doReturn e (T.setTop f) acts (some (.int z))).1 = T.setFrames fs) : Steps p.tables e below (T.setTop (mkF m pc Ls (.int z :: rest))) (T.setFrames fs) := by
  have hm' : T.vm.method? m = some meth := X.method'
  have hn : narrow .int (.int z) = .int z := rfl
  show Steps p.tables e below (T.setTop { method := m, pc := pc, locals := Ls, stack := _ :: rest, locked := none }) _
  jvm_step X.here [X.here.top, hx, hd, hm', hret, hn]
  first | (intro acts; rw [hl _ acts rfl rfl rfl]) | rw [hl _ _ rfl rfl rfl]
  exact Steps.refl _
theorem retJ (X : Stand p l e R s m args below meth c T locs cells slots) (hx : p.tables.exec = Jvm.exec) {pc : Nat} {Ls : Array Slot} {z : Int64} {rest : List Value} (hret : meth.sig.returnType = some .long) (hd : decode c.code pc = .ok (.lreturn, 1)) {fs : List Frame}
    (hl : ∀ (f : JFrame) (acts : List Action), f.method = m → f.locked = none → f.entered = [] → (doReturn e (T.setTop f) acts (some (.long z))).1 = T.setFrames fs) : Steps p.tables e below (T.setTop (mkF m pc Ls (.long z :: rest))) (T.setFrames fs) := by
  have hm' : T.vm.method? m = some meth := X.method'
  have hn : narrow .long (.long z) = .long z := rfl
  show Steps p.tables e below (T.setTop { method := m, pc := pc, locals := Ls, stack := _ :: rest, locked := none }) _
  jvm_step X.here [X.here.top, hx, hd, hm', hret, hn]
  first | (intro acts; rw [hl _ acts rfl rfl rfl]) | rw [hl _ _ rfl rfl rfl]
  exact Steps.refl _
theorem retR (X : Stand p l e R s m args below meth c T locs cells slots) (hx : p.tables.exec = Jvm.exec) {pc : Nat} {Ls : Array Slot} {v : Value} {rest : List Value} (hv : v.isRef = true) {ty : FieldType} (hret : meth.sig.returnType = some ty) (ht : ty.isReference = true) (hd : decode c.code pc = .ok (.areturn, 1)) {fs : List Frame}
    (hl : ∀ (f : JFrame) (acts : List Action), f.method = m → f.locked = none → f.entered = [] → (doReturn e (T.setTop f) acts (some v)).1 = T.setFrames fs) : Steps p.tables e below (T.setTop (mkF m pc Ls (v :: rest))) (T.setFrames fs) := by
  have hm' : T.vm.method? m = some meth := X.method'
  show Steps p.tables e below (T.setTop { method := m, pc := pc, locals := Ls, stack := _ :: rest, locked := none }) _
  jvm_step X.here [X.here.top, hx, hd, hm', hret, hv, ht]
  first | (intro acts; rw [hl _ acts rfl rfl rfl]) | rw [hl _ _ rfl rfl rfl]
  exact Steps.refl _
end New
end Jvm.RoadKit
namespace Jvm.Pilot.@@N@@
open Jvm Jvm.ClassFile Sem Op Lib Jvm.Free Jvm.Stand Jvm.LawKit Jvm.RoadKit Bundle Jvm.Pilot.@@N@@.Jvm.D
/-- from the state 'cur' on is enough -/
def own_Pre (p : Program) (e : Env) (below : List Frame) (start cur : State) : Prop := ∀ t, Steps p.tables e below cur t → Steps p.tables e below start t
/-- an array of ints (bytes, chars, booleans): its length z, its components ws (at least so many) -/
def own_AI (Z : State) (h : Heap) (a : Addr) (k : ClassId) (ty : FieldType) (z : Int32) (ws : List Int32) : Prop := Arv Z h a k ty z (ws.map Value.int) (.int 0) ∧ z.toNatClampNeg ≤ ws.length
def own_AJ (Z : State) (h : Heap) (a : Addr) (k : ClassId) (ty : FieldType) (z : Int32) (ws : List Int64) : Prop := Arv Z h a k ty z (ws.map Value.long) (.long 0) ∧ z.toNatClampNeg ≤ ws.length
section OwnA
variable {Z : State} {h h' : Heap} {a b : Addr} {k : ClassId} {ty : FieldType} {z : Int32} {ws : List Int32} {wl : List Int64} {sl : Nat} {v : Value} {L : List Addr}
theorem own_AI.lt (F : own_AI Z h a k ty z ws) : a < h.size := Arv.lt F.1
theorem own_AI.ext (F : own_AI Z h a k ty z ws) (E : Ext h h') : own_AI Z h' a k ty z ws := ⟨Arv.ext F.1 E, F.2⟩
theorem own_AI.other (F : own_AI Z h b k ty z ws) (W : Wr h h' a sl v) (q : b ≠ a) : own_AI Z h' b k ty z ws := ⟨Arv.other F.1 W q, F.2⟩
theorem own_AI.keep (F : own_AI Z h a k ty z ws) (K : Keep h h' L) (q : a ∉ L) : own_AI Z h' a k ty z ws := ⟨Arv.keep F.1 K q, F.2⟩
theorem own_AJ.lt (F : own_AJ Z h a k ty z wl) : a < h.size := Arv.lt F.1
theorem own_AJ.ext (F : own_AJ Z h a k ty z wl) (E : Ext h h') : own_AJ Z h' a k ty z wl := ⟨Arv.ext F.1 E, F.2⟩
theorem own_AJ.other (F : own_AJ Z h b k ty z wl) (W : Wr h h' a sl v) (q : b ≠ a) : own_AJ Z h' b k ty z wl := ⟨Arv.other F.1 W q, F.2⟩
theorem own_AJ.keep (F : own_AJ Z h a k ty z wl) (K : Keep h h' L) (q : a ∉ L) : own_AJ Z h' a k ty z wl := ⟨Arv.keep F.1 K q, F.2⟩
theorem own_AI.new (n : Nat) (A : Arr Z h a (newA k ty z) ty) (q : ¬ z < 0) (hn : z.toNatClampNeg ≤ n) (hd : defaultValue ty = .int 0) : own_AI Z h a k ty z (List.replicate n (0 : Int32)) := by
  have := Arv.new A q
  rw [hd] at this
  have r := this.pad (pad_rep [] (.int 0) n)
  exact ⟨by simpa [List.map_replicate] using r, by simpa using hn⟩
theorem own_AJ.new (n : Nat) (A : Arr Z h a (newA k ty z) ty) (q : ¬ z < 0) (hn : z.toNatClampNeg ≤ n) (hd : defaultValue ty = .long 0) : own_AJ Z h a k ty z (List.replicate n (0 : Int64)) := by
  have := Arv.new A q
  rw [hd] at this
  have r := this.pad (pad_rep [] (.long 0) n)
  exact ⟨by simpa [List.map_replicate] using r, by simpa using hn⟩
theorem own_getI (ws : List Int32) (i : Nat) : (ws.map Value.int).getD i (.int 0) = .int (ws.getD i 0) := by
  simp only [List.getD_eq_getElem?_getD, List.getElem?_map]
  cases ws[i]? <;> rfl
theorem own_getJ (ws : List Int64) (i : Nat) : (ws.map Value.long).getD i (.long 0) = .long (ws.getD i 0) := by
  simp only [List.getD_eq_getElem?_getD, List.getElem?_map]
  cases ws[i]? <;> rfl
theorem own_AI.at (F : own_AI Z h a k ty z ws) {j : Int32} (q : ¬ j < 0 ∧ j < z) : ∃ cl : Cell, Arr Z h a cl ty ∧ ¬ (j < 0 ∨ cl.slots.size ≤ j.toNatClampNeg) ∧ cl.slots[j.toNatClampNeg]? = some (.int (ws.getD j.toNatClampNeg 0)) := by
  obtain ⟨⟨cl, A, -, S, -, H, -⟩, -⟩ := F
  have hin := inb_of S q
  exact ⟨cl, A, hin, H.at hin (own_getI _ _)⟩
theorem own_AJ.at (F : own_AJ Z h a k ty z wl) {j : Int32} (q : ¬ j < 0 ∧ j < z) : ∃ cl : Cell, Arr Z h a cl ty ∧ ¬ (j < 0 ∨ cl.slots.size ≤ j.toNatClampNeg) ∧ cl.slots[j.toNatClampNeg]? = some (.long (wl.getD j.toNatClampNeg 0)) := by
  obtain ⟨⟨cl, A, -, S, -, H, -⟩, -⟩ := F
  have hin := inb_of S q
  exact ⟨cl, A, hin, H.at hin (own_getJ _ _)⟩
theorem own_AI.arr (F : own_AI Z h a k ty z ws) {j : Int32} (q : ¬ j < 0 ∧ j < z) : ∃ cl : Cell, Arr Z h a cl ty ∧ ¬ (j < 0 ∨ cl.slots.size ≤ j.toNatClampNeg) ∧ ∀ (h' : Heap) (x : Int32), fits ty (.int x) = true → Wr h h' a j.toNatClampNeg (.int x) → own_AI Z h' a k ty z (ws.set j.toNatClampNeg x) := by
  obtain ⟨⟨cl, A, q1, S, q3, H, G⟩, ln⟩ := F
  have hin := inb_of S q
  refine ⟨cl, A, hin, fun h' x hv W => ?_⟩
  have hl : j.toNatClampNeg < ws.length := by
    rcases Nat.lt_or_ge j.toNatClampNeg ws.length with u | u
    · exact u
    · exact absurd (Or.inr (by omega)) hin
  have := Arv.set A q1 S q3 H G hv W _ rfl (by simpa using hl)
  rw [← List.map_set] at this
  exact ⟨this, by simpa using ln⟩
theorem own_AJ.arr (F : own_AJ Z h a k ty z wl) {j : Int32} (q : ¬ j < 0 ∧ j < z) : ∃ cl : Cell, Arr Z h a cl ty ∧ ¬ (j < 0 ∨ cl.slots.size ≤ j.toNatClampNeg) ∧ ∀ (h' : Heap) (x : Int64), fits ty (.long x) = true → Wr h h' a j.toNatClampNeg (.long x) → own_AJ Z h' a k ty z (wl.set j.toNatClampNeg x) := by
  obtain ⟨⟨cl, A, q1, S, q3, H, G⟩, ln⟩ := F
  have hin := inb_of S q
  refine ⟨cl, A, hin, fun h' x hv W => ?_⟩
  have hl : j.toNatClampNeg < wl.length := by
    rcases Nat.lt_or_ge j.toNatClampNeg wl.length with u | u
    · exact u
    · exact absurd (Or.inr (by omega)) hin
  have := Arv.set A q1 S q3 H G hv W _ rfl (by simpa using hl)
  rw [← List.map_set] at this
  exact ⟨this, by simpa using ln⟩
theorem own_AI.len (F : own_AI Z h a k ty z ws) : ∃ cl : Cell, Arr Z h a cl ty ∧ cl.slots.size = z.toNatClampNeg ∧ ¬ z < 0 := by
  obtain ⟨⟨cl, A, -, S, q3, -, -⟩, -⟩ := F
  exact ⟨cl, A, S, q3⟩
theorem own_AJ.len (F : own_AJ Z h a k ty z wl) : ∃ cl : Cell, Arr Z h a cl ty ∧ cl.slots.size = z.toNatClampNeg ∧ ¬ z < 0 := by
  obtain ⟨⟨cl, A, -, S, q3, -, -⟩, -⟩ := F
  exact ⟨cl, A, S, q3⟩
end OwnA
/-- a private method selects itself, where another method of its class is known to be no interface's -/
theorem own_selp {s : State} {args args' : Array Value} {y z : MethodName} (hz : (Cond.selects z.cls z z).before args s = true) (hc : z.cls = y.cls) (hpriv : s.PrivateAt y) (hinst : (Cond.instanceMethod y).before args s = true) (hy : y.cls ≠ "java/lang/invoke/MethodHandle" ∧ y.cls ≠ "java/lang/invoke/VarHandle") : (Cond.selects y.cls y y).before args s = true := by
  obtain ⟨c2, r2, m2, -, -, q3, -, kP, hkP, hkPi⟩ := Cond.selects_spec hz
  have hf := findClass_of_methodNamed q3
  rw [hc] at hf
  exact selects_self_of_private hf hkP hkPi hpriv hinst hy
/-- what holds of every byte -/
theorem own_bytes {P : Int32 → Prop} (H : ∀ i : Fin 256, P (Int32.ofInt ((i.1 : Int) - 128))) (x : Int32) : P x.toInt8.toInt32 := by
  obtain ⟨-, h1, h2⟩ := c_i2b x
  have e : x.toInt8.toInt32 = Int32.ofInt (((⟨(x.toInt8.toInt32.toInt + 128).toNat, by omega⟩ : Fin 256).1 : Int) - 128) := by
    apply Int32.toInt_inj.mp
    show _ = (Int32.ofInt (((x.toInt8.toInt32.toInt + 128).toNat : Int) - 128)).toInt
    rw [Int32.toInt_ofInt_of_le (by omega) (by omega)]
    omega
  rw [e]
  exact H _


theorem d1_0 : decode prog_27_method_1_code 0 = .ok (.aload_n 0, 1) := by decide +kernel
theorem d1_1 : decode prog_27_method_1_code 1 = .ok (.invokespecial 1, 3) := by decide +kernel
theorem d1_4 : decode prog_27_method_1_code 4 = .ok (.aload_n 0, 1) := by decide +kernel
theorem d1_5 : decode prog_27_method_1_code 5 = .ok (.lload_n 1, 1) := by decide +kernel
theorem d1_6 : decode prog_27_method_1_code 6 = .ok (.putfield 7, 3) := by decide +kernel
theorem d1_9 : decode prog_27_method_1_code 9 = .ok (.return_, 1) := by decide +kernel
theorem pn_0 : plainName "com/example/offered_load/offeredload/SplitMix64" = true := by first | (simp [plainName, overriddenIn]; done) | decide +kernel
theorem ef_1 (m : MethodId) (a0 : Addr) (q1 : Int64) : entryFrame m #[(.ref a0), (.long q1)] 3 = mkF m 0 #[.val (.ref a0), .val (.long q1), .second] [] := by first | (simp [entryFrame, mkF, argsToLocals, Value.category]; done) | rfl
def Q1 (Z : State) (a0 : Addr) (q1 : Int64) (h0 : Heap) (n0 : Nat) (v : Option Value) (h : Heap) (L : List Loc) : Prop := v = none ∧ Fr n0 L ∧ Keep h0 h [a0] ∧ Exa Z h a0 "com/example/offered_load/offeredload/SplitMix64" ∧ Fld Z h a0 "com/example/offered_load/offeredload/SplitMix64" "state" "J" (.long q1)
set_option maxRecDepth 65536 in
set_option maxHeartbeats 40000000 in
theorem rm1 (l : Launch) (Z : State) (aw : Array Value) (hw : ∀ d ∈ tables_1, d.before aw Z = true) (wq : List Jvm.Cond) (a0 : Addr) (q1 : Int64) (h0 : Heap) (n0 : Nat) (Z0 : n0 ≤ h0.size) (E_a0 : Exa Z h0 a0 "com/example/offered_load/offeredload/SplitMix64") (F_a0_state : Fld Z h0 a0 "com/example/offered_load/offeredload/SplitMix64" "state" "J" (.long (0 : Int64))) (g_a0 : n0 ≤ a0) :
    MetFree l (⟨"com/example/offered_load/offeredload/SplitMix64", "<init>", "(J)V"⟩ : MethodName) (head1 (Jvm.Cond.code (⟨"com/example/offered_load/offeredload/SplitMix64", "<init>", "(J)V"⟩ : MethodName) prog_27_method_1_code 3 none :: wq) ({ frames := 1, cells := 0, slots := 0, locals := 12 } : Room)) (fun a U => a = #[(.ref a0), (.long q1)] ∧ Z.Warmed39 U.vm ∧ U.heap = h0) (fun _ _ _ _ _ => True) (fun _ U o U' => ∃ v L, o = .returned v ∧ Q1 Z a0 q1 h0 n0 v U'.heap L ∧ FrameEnd U o U' L ({ frames := 1, cells := 0, slots := 0, locals := 12 } : Room).cells ({ frames := 1, cells := 0, slots := 0, locals := 12 } : Room).slots) := by
  refine MetFree.of_bodySF (plainFor_of_name pn_0) hisR ?_
  intro p e s m args below meth c s₁ Bd hml0 hP hK
  obtain ⟨rfl, hZ, hh⟩ := hP
  have hx := Bd.exec
  have hby := Bd.bytes
  have hml : c.maxLocals = 3 := hml0
  have hown : s.vm.findClass "com/example/offered_load/offeredload/SplitMix64" = some m.cls := findClass_of_methodNamed Bd.named
  have hnm := (name_of_methodNamed Bd.named Bd.method).1
  have X0 : Stand p l e ({ frames := 1, cells := 0, slots := 0, locals := 12 } : Room) s m #[(.ref a0), (.long q1)] below meth c s₁ [] 0 0 := Stand.of_body Bd
  have e0 : s₁.heap = h0 := by rw [← hh, Bd.state]; rfl
  have N0 := Fr.nil n0
  have pre0 : own_Pre p e below (s₁.setTop (entryFrame m #[(.ref a0), (.long q1)] 3)) (s₁.setTop (mkF m 0 #[.val (.ref a0), .val (.long q1), .second] [])) := fun t k => castTop (ef_1 m a0 q1) k
  obtain ⟨T1, X1, e1, st1⟩ := initO X0 hx hZ hown (hw _ (List.mem_of_getElem? (i := 6) rfl)) (hw _ (List.mem_of_getElem? (i := 7) rfl)) (hw _ (List.mem_of_getElem? (i := 8) rfl)) e0 (g := (mkF m 1 #[.val (.ref a0), .val (.long q1), .second] [(.ref a0)])) rfl (by rw [hml]; rfl) rfl (hb hby d1_1) (by decide) (W := 0) (by show 2 * 0 + _ ≤ _; exact Nat.le_of_eq rfl) (by decide)
  obtain ⟨T2, h2, X2, e2, W2, st2⟩ := putF X1 hx hZ hown (host := "") (Or.inl (hw _ (List.mem_of_getElem? (i := 9) rfl))) Via.refl e1 F_a0_state E_a0 (Or.inl (hw _ (List.mem_of_getElem? (i := 10) rfl))) (hw _ (List.mem_of_getElem? (i := 1) rfl)) (ty := .long) (by decide) rfl rfl (g := (mkF m 6 #[.val (.ref a0), .val (.long q1), .second] [(.long q1), (.ref a0)])) rfl rfl (hb hby d1_6)
  have Fw2 := F_a0_state.same W2
  have N2 := Fr.snoc X2 N0 g_a0
  have kp3 : Keep h0 h2 [a0] := (Keep.refl h0 [a0]).wr W2 (Or.inl (List.mem_of_getElem? (i := 0) rfl))
  obtain ⟨fs, hr, hrun, hended, hW, hsame⟩ := X2.leave (v := none) (fun _ => rfl)
  refine ⟨_, _, pre0 _ ?_, hrun, hended, _, _, rfl, ?_, ⟨_, rfl⟩, hW, hsame.mono (by decide) (by decide)⟩
  · show Steps p.tables e below (s₁.setTop (mkF m 0 #[.val (.ref a0), .val (.long q1), .second] [])) _
    refine XS.aloadN X0.here hx rfl (hb hby d1_0) rfl rfl ?_
    show Steps p.tables e below (s₁.setTop (mkF m 1 #[.val (.ref a0), .val (.long q1), .second] [(.ref a0)])) _
    refine st1 _ ?_
    show Steps p.tables e below (T1.setTop (mkF m 4 #[.val (.ref a0), .val (.long q1), .second] [])) _
    refine XS.aloadN X1.here hx rfl (hb hby d1_4) rfl rfl ?_
    show Steps p.tables e below (T1.setTop (mkF m 5 #[.val (.ref a0), .val (.long q1), .second] [(.ref a0)])) _
    refine XS.lloadN X1.here hx rfl (hb hby d1_5) rfl ?_
    show Steps p.tables e below (T1.setTop (mkF m 6 #[.val (.ref a0), .val (.long q1), .second] [(.long q1), (.ref a0)])) _
    refine st2 _ ?_
    show Steps p.tables e below (T2.setTop (mkF m 9 #[.val (.ref a0), .val (.long q1), .second] [])) _
    exact X2.returnOut hx Bd.returns (hb hby d1_9) hr
  · show Q1 Z a0 q1 h0 n0 _ T2.heap _
    rw [e2]
    unfold Q1
    have f4 := (E_a0.wr W2)
    refine ⟨rfl, N2, kp3, f4, ?_⟩
    · exact Fw2
theorem d3_0 : decode prog_27_method_2_code 0 = .ok (.aload_n 0, 1) := by decide +kernel
theorem d3_1 : decode prog_27_method_2_code 1 = .ok (.dup, 1) := by decide +kernel
theorem d3_2 : decode prog_27_method_2_code 2 = .ok (.getfield 7, 3) := by decide +kernel
theorem d3_5 : decode prog_27_method_2_code 5 = .ok (.ldc2_w 13, 3) := by decide +kernel
theorem d3_8 : decode prog_27_method_2_code 8 = .ok (.ladd, 1) := by decide +kernel
theorem d3_9 : decode prog_27_method_2_code 9 = .ok (.putfield 7, 3) := by decide +kernel
theorem d3_12 : decode prog_27_method_2_code 12 = .ok (.aload_n 0, 1) := by decide +kernel
theorem d3_13 : decode prog_27_method_2_code 13 = .ok (.getfield 7, 3) := by decide +kernel
theorem d3_16 : decode prog_27_method_2_code 16 = .ok (.lstore_n 1, 1) := by decide +kernel
theorem d3_17 : decode prog_27_method_2_code 17 = .ok (.lload_n 1, 1) := by decide +kernel
theorem d3_18 : decode prog_27_method_2_code 18 = .ok (.lload_n 1, 1) := by decide +kernel
theorem d3_19 : decode prog_27_method_2_code 19 = .ok (.bipush 30, 2) := by decide +kernel
theorem d3_21 : decode prog_27_method_2_code 21 = .ok (.lushr, 1) := by decide +kernel
theorem d3_22 : decode prog_27_method_2_code 22 = .ok (.lxor, 1) := by decide +kernel
theorem d3_23 : decode prog_27_method_2_code 23 = .ok (.ldc2_w 15, 3) := by decide +kernel
theorem d3_26 : decode prog_27_method_2_code 26 = .ok (.lmul, 1) := by decide +kernel
theorem d3_27 : decode prog_27_method_2_code 27 = .ok (.lstore_n 1, 1) := by decide +kernel
theorem d3_28 : decode prog_27_method_2_code 28 = .ok (.lload_n 1, 1) := by decide +kernel
theorem d3_29 : decode prog_27_method_2_code 29 = .ok (.lload_n 1, 1) := by decide +kernel
theorem d3_30 : decode prog_27_method_2_code 30 = .ok (.bipush 27, 2) := by decide +kernel
theorem d3_32 : decode prog_27_method_2_code 32 = .ok (.lushr, 1) := by decide +kernel
theorem d3_33 : decode prog_27_method_2_code 33 = .ok (.lxor, 1) := by decide +kernel
theorem d3_34 : decode prog_27_method_2_code 34 = .ok (.ldc2_w 17, 3) := by decide +kernel
theorem d3_37 : decode prog_27_method_2_code 37 = .ok (.lmul, 1) := by decide +kernel
theorem d3_38 : decode prog_27_method_2_code 38 = .ok (.lstore_n 1, 1) := by decide +kernel
theorem d3_39 : decode prog_27_method_2_code 39 = .ok (.lload_n 1, 1) := by decide +kernel
theorem d3_40 : decode prog_27_method_2_code 40 = .ok (.lload_n 1, 1) := by decide +kernel
theorem d3_41 : decode prog_27_method_2_code 41 = .ok (.bipush 31, 2) := by decide +kernel
theorem d3_43 : decode prog_27_method_2_code 43 = .ok (.lushr, 1) := by decide +kernel
theorem d3_44 : decode prog_27_method_2_code 44 = .ok (.lxor, 1) := by decide +kernel
theorem d3_45 : decode prog_27_method_2_code 45 = .ok (.lreturn, 1) := by decide +kernel
theorem ef_3 (m : MethodId) (a0 : Addr) : entryFrame m #[(.ref a0)] 3 = mkF m 0 #[.val (.ref a0), .unset, .unset] [] := by first | (simp [entryFrame, mkF, argsToLocals, Value.category]; done) | rfl
def own_f3 (s0 : Int64) : Int64 := (((((((((s0 + (-7046029254386353131 : Int64))) ^^^ ((((s0 + (-7046029254386353131 : Int64)))).toUInt64 >>> ((30 : Int32) &&& 0x3f).toInt64.toUInt64).toInt64) * (-4658895280553007687 : Int64))) ^^^ (((((((s0 + (-7046029254386353131 : Int64))) ^^^ ((((s0 + (-7046029254386353131 : Int64)))).toUInt64 >>> ((30 : Int32) &&& 0x3f).toInt64.toUInt64).toInt64) * (-4658895280553007687 : Int64)))).toUInt64 >>> ((27 : Int32) &&& 0x3f).toInt64.toUInt64).toInt64) * (-7723592293110705685 : Int64))) ^^^ ((((((((((s0 + (-7046029254386353131 : Int64))) ^^^ ((((s0 + (-7046029254386353131 : Int64)))).toUInt64 >>> ((30 : Int32) &&& 0x3f).toInt64.toUInt64).toInt64) * (-4658895280553007687 : Int64))) ^^^ (((((((s0 + (-7046029254386353131 : Int64))) ^^^ ((((s0 + (-7046029254386353131 : Int64)))).toUInt64 >>> ((30 : Int32) &&& 0x3f).toInt64.toUInt64).toInt64) * (-4658895280553007687 : Int64)))).toUInt64 >>> ((27 : Int32) &&& 0x3f).toInt64.toUInt64).toInt64) * (-7723592293110705685 : Int64)))).toUInt64 >>> ((31 : Int32) &&& 0x3f).toInt64.toUInt64).toInt64)
def Q3 (Z : State) (a0 : Addr) (s0 : Int64) (h0 : Heap) (n0 : Nat) (v : Option Value) (h : Heap) (L : List Loc) : Prop := v = some (.long (own_f3 s0)) ∧ Fr n0 L ∧ Keep h0 h [a0] ∧ Exa Z h a0 "com/example/offered_load/offeredload/SplitMix64" ∧ Fld Z h a0 "com/example/offered_load/offeredload/SplitMix64" "state" "J" (.long (s0 + (-7046029254386353131 : Int64)))
set_option maxRecDepth 65536 in
set_option maxHeartbeats 40000000 in
theorem rm3 (l : Launch) (Z : State) (aw : Array Value) (hw : ∀ d ∈ tables_1, d.before aw Z = true) (wq : List Jvm.Cond) (a0 : Addr) (s0 : Int64) (h0 : Heap) (n0 : Nat) (Z0 : n0 ≤ h0.size) (E_a0 : Exa Z h0 a0 "com/example/offered_load/offeredload/SplitMix64") (F_a0_state : Fld Z h0 a0 "com/example/offered_load/offeredload/SplitMix64" "state" "J" (.long s0)) (g_a0 : n0 ≤ a0) :
    MetFree l (⟨"com/example/offered_load/offeredload/SplitMix64", "nextLong", "()J"⟩ : MethodName) (head1 (Jvm.Cond.code (⟨"com/example/offered_load/offeredload/SplitMix64", "nextLong", "()J"⟩ : MethodName) prog_27_method_2_code 3 (some .long) :: wq) ({ frames := 0, cells := 0, slots := 0, locals := 0 } : Room)) (fun a U => a = #[(.ref a0)] ∧ Z.Warmed39 U.vm ∧ U.heap = h0) (fun _ _ _ _ _ => True) (fun _ U o U' => ∃ v L, o = .returned v ∧ Q3 Z a0 s0 h0 n0 v U'.heap L ∧ FrameEnd U o U' L ({ frames := 0, cells := 0, slots := 0, locals := 0 } : Room).cells ({ frames := 0, cells := 0, slots := 0, locals := 0 } : Room).slots) := by
  refine MetFree.of_bodySF (plainFor_of_name pn_0) hisR ?_
  intro p e s m args below meth c s₁ Bd hml0 hP hK
  obtain ⟨rfl, hZ, hh⟩ := hP
  have hx := Bd.exec
  have hby := Bd.bytes
  have hml : c.maxLocals = 3 := hml0
  have hown : s.vm.findClass "com/example/offered_load/offeredload/SplitMix64" = some m.cls := findClass_of_methodNamed Bd.named
  have hnm := (name_of_methodNamed Bd.named Bd.method).1
  have X0 : Stand p l e ({ frames := 0, cells := 0, slots := 0, locals := 0 } : Room) s m #[(.ref a0)] below meth c s₁ [] 0 0 := Stand.of_body Bd
  have e0 : s₁.heap = h0 := by rw [← hh, Bd.state]; rfl
  have N0 := Fr.nil n0
  have pre0 : own_Pre p e below (s₁.setTop (entryFrame m #[(.ref a0)] 3)) (s₁.setTop (mkF m 0 #[.val (.ref a0), .unset, .unset] [])) := fun t k => castTop (ef_3 m a0) k
  obtain ⟨T1, X1, e1, st1⟩ := getF X0 hx hZ hown (host := "") (Or.inl (hw _ (List.mem_of_getElem? (i := 9) rfl))) Via.refl e0 F_a0_state (g := (mkF m 2 #[.val (.ref a0), .unset, .unset] [(.ref a0), (.ref a0)])) rfl rfl (hb hby d3_2)
  obtain ⟨T2, h2, X2, e2, W2, st2⟩ := putF X1 hx hZ hown (host := "") (Or.inl (hw _ (List.mem_of_getElem? (i := 9) rfl))) Via.refl e1 F_a0_state E_a0 (Or.inl (hw _ (List.mem_of_getElem? (i := 10) rfl))) (hw _ (List.mem_of_getElem? (i := 1) rfl)) (ty := .long) (by decide) rfl rfl (g := (mkF m 9 #[.val (.ref a0), .unset, .unset] [(.long (s0 + (-7046029254386353131 : Int64))), (.ref a0)])) rfl rfl (hb hby d3_9)
  have Fw2 := F_a0_state.same W2
  have N2 := Fr.snoc X2 N0 g_a0
  have kp3 : Keep h0 h2 [a0] := (Keep.refl h0 [a0]).wr W2 (Or.inl (List.mem_of_getElem? (i := 0) rfl))
  obtain ⟨T4, X4, e4, st4⟩ := getF X2 hx hZ hown (host := "") (Or.inl (hw _ (List.mem_of_getElem? (i := 9) rfl))) Via.refl e2 Fw2 (g := (mkF m 13 #[.val (.ref a0), .unset, .unset] [(.ref a0)])) rfl rfl (hb hby d3_13)
  obtain ⟨x1_17, hx1_17, pre5⟩ : ∃ z : Int64, z = (s0 + (-7046029254386353131 : Int64)) ∧ own_Pre p e below (s₁.setTop (entryFrame m #[(.ref a0)] 3)) (T4.setTop (mkF m 17 #[.val (.ref a0), .val (.long z), .second] [])) := ⟨_, rfl, fun t k => pre0 t (by
      show Steps p.tables e below (s₁.setTop (mkF m 0 #[.val (.ref a0), .unset, .unset] [])) _
      refine XS.aloadN X0.here hx rfl (hb hby d3_0) rfl rfl ?_
      show Steps p.tables e below (s₁.setTop (mkF m 1 #[.val (.ref a0), .unset, .unset] [(.ref a0)])) _
      refine XS.dup X0.here hx rfl (hb hby d3_1) rfl rfl ?_
      show Steps p.tables e below (s₁.setTop (mkF m 2 #[.val (.ref a0), .unset, .unset] [(.ref a0), (.ref a0)])) _
      refine st1 _ ?_
      show Steps p.tables e below (T1.setTop (mkF m 5 #[.val (.ref a0), .unset, .unset] [(.long s0), (.ref a0)])) _
      refine X1.ldc2Long hx hown (mvT hZ (hw _ (List.mem_of_getElem? (i := 16) rfl))) (g := (mkF m 5 #[.val (.ref a0), .unset, .unset] [(.long s0), (.ref a0)])) rfl (hb hby d3_5) _ ?_
      show Steps p.tables e below (T1.setTop (mkF m 8 #[.val (.ref a0), .unset, .unset] [(.long (-7046029254386353131 : Int64)), (.long s0), (.ref a0)])) _
      refine XS.ladd X1.here hx rfl (hb hby d3_8) rfl ?_
      show Steps p.tables e below (T1.setTop (mkF m 9 #[.val (.ref a0), .unset, .unset] [(.long (s0 + (-7046029254386353131 : Int64))), (.ref a0)])) _
      refine st2 _ ?_
      show Steps p.tables e below (T2.setTop (mkF m 12 #[.val (.ref a0), .unset, .unset] [])) _
      refine XS.aloadN X2.here hx rfl (hb hby d3_12) rfl rfl ?_
      show Steps p.tables e below (T2.setTop (mkF m 13 #[.val (.ref a0), .unset, .unset] [(.ref a0)])) _
      refine st4 _ ?_
      show Steps p.tables e below (T4.setTop (mkF m 16 #[.val (.ref a0), .unset, .unset] [(.long (s0 + (-7046029254386353131 : Int64)))])) _
      refine XS.lstoreN X4.here hx rfl (hb hby d3_16) rfl (l' := #[.val (.ref a0), .val (.long (s0 + (-7046029254386353131 : Int64))), .second]) rfl ?_
      exact k)⟩
  obtain ⟨x1_28, hx1_28, pre6⟩ : ∃ z : Int64, z = ((x1_17 ^^^ ((x1_17).toUInt64 >>> ((30 : Int32) &&& 0x3f).toInt64.toUInt64).toInt64) * (-4658895280553007687 : Int64)) ∧ own_Pre p e below (s₁.setTop (entryFrame m #[(.ref a0)] 3)) (T4.setTop (mkF m 28 #[.val (.ref a0), .val (.long z), .second] [])) := ⟨_, rfl, fun t k => pre5 t (by
      show Steps p.tables e below (T4.setTop (mkF m 17 #[.val (.ref a0), .val (.long x1_17), .second] [])) _
      refine XS.lloadN X4.here hx rfl (hb hby d3_17) rfl ?_
      show Steps p.tables e below (T4.setTop (mkF m 18 #[.val (.ref a0), .val (.long x1_17), .second] [(.long x1_17)])) _
      refine XS.lloadN X4.here hx rfl (hb hby d3_18) rfl ?_
      show Steps p.tables e below (T4.setTop (mkF m 19 #[.val (.ref a0), .val (.long x1_17), .second] [(.long x1_17), (.long x1_17)])) _
      refine XS.bipush X4.here hx rfl (hb hby d3_19) ?_
      show Steps p.tables e below (T4.setTop (mkF m 21 #[.val (.ref a0), .val (.long x1_17), .second] [(.int (30 : Int32)), (.long x1_17), (.long x1_17)])) _
      refine XS.lushr X4.here hx rfl (hb hby d3_21) rfl ?_
      show Steps p.tables e below (T4.setTop (mkF m 22 #[.val (.ref a0), .val (.long x1_17), .second] [(.long ((x1_17).toUInt64 >>> ((30 : Int32) &&& 0x3f).toInt64.toUInt64).toInt64), (.long x1_17)])) _
      refine XS.lxor X4.here hx rfl (hb hby d3_22) rfl ?_
      show Steps p.tables e below (T4.setTop (mkF m 23 #[.val (.ref a0), .val (.long x1_17), .second] [(.long (x1_17 ^^^ ((x1_17).toUInt64 >>> ((30 : Int32) &&& 0x3f).toInt64.toUInt64).toInt64))])) _
      refine X4.ldc2Long hx hown (mvT hZ (hw _ (List.mem_of_getElem? (i := 17) rfl))) (g := (mkF m 23 #[.val (.ref a0), .val (.long x1_17), .second] [(.long (x1_17 ^^^ ((x1_17).toUInt64 >>> ((30 : Int32) &&& 0x3f).toInt64.toUInt64).toInt64))])) rfl (hb hby d3_23) _ ?_
      show Steps p.tables e below (T4.setTop (mkF m 26 #[.val (.ref a0), .val (.long x1_17), .second] [(.long (-4658895280553007687 : Int64)), (.long (x1_17 ^^^ ((x1_17).toUInt64 >>> ((30 : Int32) &&& 0x3f).toInt64.toUInt64).toInt64))])) _
      refine XS.lmul X4.here hx rfl (hb hby d3_26) rfl ?_
      show Steps p.tables e below (T4.setTop (mkF m 27 #[.val (.ref a0), .val (.long x1_17), .second] [(.long ((x1_17 ^^^ ((x1_17).toUInt64 >>> ((30 : Int32) &&& 0x3f).toInt64.toUInt64).toInt64) * (-4658895280553007687 : Int64)))])) _
      refine XS.lstoreN X4.here hx rfl (hb hby d3_27) rfl (l' := #[.val (.ref a0), .val (.long ((x1_17 ^^^ ((x1_17).toUInt64 >>> ((30 : Int32) &&& 0x3f).toInt64.toUInt64).toInt64) * (-4658895280553007687 : Int64))), .second]) rfl ?_
      exact k)⟩
  obtain ⟨x1_39, hx1_39, pre7⟩ : ∃ z : Int64, z = ((x1_28 ^^^ ((x1_28).toUInt64 >>> ((27 : Int32) &&& 0x3f).toInt64.toUInt64).toInt64) * (-7723592293110705685 : Int64)) ∧ own_Pre p e below (s₁.setTop (entryFrame m #[(.ref a0)] 3)) (T4.setTop (mkF m 39 #[.val (.ref a0), .val (.long z), .second] [])) := ⟨_, rfl, fun t k => pre6 t (by
      show Steps p.tables e below (T4.setTop (mkF m 28 #[.val (.ref a0), .val (.long x1_28), .second] [])) _
      refine XS.lloadN X4.here hx rfl (hb hby d3_28) rfl ?_
      show Steps p.tables e below (T4.setTop (mkF m 29 #[.val (.ref a0), .val (.long x1_28), .second] [(.long x1_28)])) _
      refine XS.lloadN X4.here hx rfl (hb hby d3_29) rfl ?_
      show Steps p.tables e below (T4.setTop (mkF m 30 #[.val (.ref a0), .val (.long x1_28), .second] [(.long x1_28), (.long x1_28)])) _
      refine XS.bipush X4.here hx rfl (hb hby d3_30) ?_
      show Steps p.tables e below (T4.setTop (mkF m 32 #[.val (.ref a0), .val (.long x1_28), .second] [(.int (27 : Int32)), (.long x1_28), (.long x1_28)])) _
      refine XS.lushr X4.here hx rfl (hb hby d3_32) rfl ?_
      show Steps p.tables e below (T4.setTop (mkF m 33 #[.val (.ref a0), .val (.long x1_28), .second] [(.long ((x1_28).toUInt64 >>> ((27 : Int32) &&& 0x3f).toInt64.toUInt64).toInt64), (.long x1_28)])) _
      refine XS.lxor X4.here hx rfl (hb hby d3_33) rfl ?_
      show Steps p.tables e below (T4.setTop (mkF m 34 #[.val (.ref a0), .val (.long x1_28), .second] [(.long (x1_28 ^^^ ((x1_28).toUInt64 >>> ((27 : Int32) &&& 0x3f).toInt64.toUInt64).toInt64))])) _
      refine X4.ldc2Long hx hown (mvT hZ (hw _ (List.mem_of_getElem? (i := 18) rfl))) (g := (mkF m 34 #[.val (.ref a0), .val (.long x1_28), .second] [(.long (x1_28 ^^^ ((x1_28).toUInt64 >>> ((27 : Int32) &&& 0x3f).toInt64.toUInt64).toInt64))])) rfl (hb hby d3_34) _ ?_
      show Steps p.tables e below (T4.setTop (mkF m 37 #[.val (.ref a0), .val (.long x1_28), .second] [(.long (-7723592293110705685 : Int64)), (.long (x1_28 ^^^ ((x1_28).toUInt64 >>> ((27 : Int32) &&& 0x3f).toInt64.toUInt64).toInt64))])) _
      refine XS.lmul X4.here hx rfl (hb hby d3_37) rfl ?_
      show Steps p.tables e below (T4.setTop (mkF m 38 #[.val (.ref a0), .val (.long x1_28), .second] [(.long ((x1_28 ^^^ ((x1_28).toUInt64 >>> ((27 : Int32) &&& 0x3f).toInt64.toUInt64).toInt64) * (-7723592293110705685 : Int64)))])) _
      refine XS.lstoreN X4.here hx rfl (hb hby d3_38) rfl (l' := #[.val (.ref a0), .val (.long ((x1_28 ^^^ ((x1_28).toUInt64 >>> ((27 : Int32) &&& 0x3f).toInt64.toUInt64).toInt64) * (-7723592293110705685 : Int64))), .second]) rfl ?_
      exact k)⟩
  obtain ⟨fs, hr, hrun, hended, hW, hsame⟩ := X4.leave (v := some (.long (x1_39 ^^^ ((x1_39).toUInt64 >>> ((31 : Int32) &&& 0x3f).toInt64.toUInt64).toInt64))) (fun h => by rw [Bd.returns] at h; cases h)
  refine ⟨_, _, pre7 _ ?_, hrun, hended, _, _, rfl, ?_, ⟨_, rfl⟩, hW, hsame.mono (by decide) (by decide)⟩
  · show Steps p.tables e below (T4.setTop (mkF m 39 #[.val (.ref a0), .val (.long x1_39), .second] [])) _
    refine XS.lloadN X4.here hx rfl (hb hby d3_39) rfl ?_
    show Steps p.tables e below (T4.setTop (mkF m 40 #[.val (.ref a0), .val (.long x1_39), .second] [(.long x1_39)])) _
    refine XS.lloadN X4.here hx rfl (hb hby d3_40) rfl ?_
    show Steps p.tables e below (T4.setTop (mkF m 41 #[.val (.ref a0), .val (.long x1_39), .second] [(.long x1_39), (.long x1_39)])) _
    refine XS.bipush X4.here hx rfl (hb hby d3_41) ?_
    show Steps p.tables e below (T4.setTop (mkF m 43 #[.val (.ref a0), .val (.long x1_39), .second] [(.int (31 : Int32)), (.long x1_39), (.long x1_39)])) _
    refine XS.lushr X4.here hx rfl (hb hby d3_43) rfl ?_
    show Steps p.tables e below (T4.setTop (mkF m 44 #[.val (.ref a0), .val (.long x1_39), .second] [(.long ((x1_39).toUInt64 >>> ((31 : Int32) &&& 0x3f).toInt64.toUInt64).toInt64), (.long x1_39)])) _
    refine XS.lxor X4.here hx rfl (hb hby d3_44) rfl ?_
    show Steps p.tables e below (T4.setTop (mkF m 45 #[.val (.ref a0), .val (.long x1_39), .second] [(.long (x1_39 ^^^ ((x1_39).toUInt64 >>> ((31 : Int32) &&& 0x3f).toInt64.toUInt64).toInt64))])) _
    exact retJ X4 hx Bd.returns (hb hby d3_45) hr
  · show Q3 Z a0 s0 h0 n0 _ T4.heap _
    rw [e4]
    unfold Q3
    have f8 := (E_a0.wr W2)
    refine ⟨?_, N2, kp3, f8, ?_⟩
    · subst hx1_39 hx1_28 hx1_17; simp only [own_f3]
    · exact Fw2
theorem d4_0 : decode method_2_code 0 = .ok (.lload_n 0, 1) := by decide +kernel
theorem d4_1 : decode method_2_code 1 = .ok (.lstore_n 2, 1) := by decide +kernel
theorem d4_2 : decode method_2_code 2 = .ok (.lload_n 2, 1) := by decide +kernel
theorem d4_3 : decode method_2_code 3 = .ok (.lload_n 2, 1) := by decide +kernel
theorem d4_4 : decode method_2_code 4 = .ok (.bipush 31, 2) := by decide +kernel
theorem d4_6 : decode method_2_code 6 = .ok (.lushr, 1) := by decide +kernel
theorem d4_7 : decode method_2_code 7 = .ok (.lxor, 1) := by decide +kernel
theorem d4_8 : decode method_2_code 8 = .ok (.lload_n 2, 1) := by decide +kernel
theorem d4_9 : decode method_2_code 9 = .ok (.bipush 62, 2) := by decide +kernel
theorem d4_11 : decode method_2_code 11 = .ok (.lushr, 1) := by decide +kernel
theorem d4_12 : decode method_2_code 12 = .ok (.lxor, 1) := by decide +kernel
theorem d4_13 : decode method_2_code 13 = .ok (.lstore_n 2, 1) := by decide +kernel
theorem d4_14 : decode method_2_code 14 = .ok (.lload_n 2, 1) := by decide +kernel
theorem d4_15 : decode method_2_code 15 = .ok (.ldc2_w 7, 3) := by decide +kernel
theorem d4_18 : decode method_2_code 18 = .ok (.lmul, 1) := by decide +kernel
theorem d4_19 : decode method_2_code 19 = .ok (.lstore_n 2, 1) := by decide +kernel
theorem d4_20 : decode method_2_code 20 = .ok (.lload_n 2, 1) := by decide +kernel
theorem d4_21 : decode method_2_code 21 = .ok (.lload_n 2, 1) := by decide +kernel
theorem d4_22 : decode method_2_code 22 = .ok (.bipush 27, 2) := by decide +kernel
theorem d4_24 : decode method_2_code 24 = .ok (.lushr, 1) := by decide +kernel
theorem d4_25 : decode method_2_code 25 = .ok (.lxor, 1) := by decide +kernel
theorem d4_26 : decode method_2_code 26 = .ok (.lload_n 2, 1) := by decide +kernel
theorem d4_27 : decode method_2_code 27 = .ok (.bipush 54, 2) := by decide +kernel
theorem d4_29 : decode method_2_code 29 = .ok (.lushr, 1) := by decide +kernel
theorem d4_30 : decode method_2_code 30 = .ok (.lxor, 1) := by decide +kernel
theorem d4_31 : decode method_2_code 31 = .ok (.lstore_n 2, 1) := by decide +kernel
theorem d4_32 : decode method_2_code 32 = .ok (.lload_n 2, 1) := by decide +kernel
theorem d4_33 : decode method_2_code 33 = .ok (.ldc2_w 9, 3) := by decide +kernel
theorem d4_36 : decode method_2_code 36 = .ok (.lmul, 1) := by decide +kernel
theorem d4_37 : decode method_2_code 37 = .ok (.lstore_n 2, 1) := by decide +kernel
theorem d4_38 : decode method_2_code 38 = .ok (.lload_n 2, 1) := by decide +kernel
theorem d4_39 : decode method_2_code 39 = .ok (.lload_n 2, 1) := by decide +kernel
theorem d4_40 : decode method_2_code 40 = .ok (.bipush 30, 2) := by decide +kernel
theorem d4_42 : decode method_2_code 42 = .ok (.lushr, 1) := by decide +kernel
theorem d4_43 : decode method_2_code 43 = .ok (.lxor, 1) := by decide +kernel
theorem d4_44 : decode method_2_code 44 = .ok (.lload_n 2, 1) := by decide +kernel
theorem d4_45 : decode method_2_code 45 = .ok (.bipush 60, 2) := by decide +kernel
theorem d4_47 : decode method_2_code 47 = .ok (.lushr, 1) := by decide +kernel
theorem d4_48 : decode method_2_code 48 = .ok (.lxor, 1) := by decide +kernel
theorem d4_49 : decode method_2_code 49 = .ok (.lstore_n 2, 1) := by decide +kernel
theorem d4_50 : decode method_2_code 50 = .ok (.lload_n 2, 1) := by decide +kernel
theorem d4_51 : decode method_2_code 51 = .ok (.lreturn, 1) := by decide +kernel
theorem pn_1 : plainName "com/example/offered_load/offeredload/SplitMix64NextLongPinLaw" = true := by first | (simp [plainName, overriddenIn]; done) | decide +kernel
theorem ef_4 (m : MethodId) (q0 : Int64) : entryFrame m #[(.long q0)] 4 = mkF m 0 #[.val (.long q0), .second, .unset, .unset] [] := by first | (simp [entryFrame, mkF, argsToLocals, Value.category]; done) | rfl
def own_f4 (q0 : Int64) : Int64 := (((((((((((((q0 ^^^ ((q0).toUInt64 >>> ((31 : Int32) &&& 0x3f).toInt64.toUInt64).toInt64) ^^^ ((q0).toUInt64 >>> ((62 : Int32) &&& 0x3f).toInt64.toUInt64).toInt64)) * (3573116690164977347 : Int64))) ^^^ (((((((q0 ^^^ ((q0).toUInt64 >>> ((31 : Int32) &&& 0x3f).toInt64.toUInt64).toInt64) ^^^ ((q0).toUInt64 >>> ((62 : Int32) &&& 0x3f).toInt64.toUInt64).toInt64)) * (3573116690164977347 : Int64)))).toUInt64 >>> ((27 : Int32) &&& 0x3f).toInt64.toUInt64).toInt64) ^^^ (((((((q0 ^^^ ((q0).toUInt64 >>> ((31 : Int32) &&& 0x3f).toInt64.toUInt64).toInt64) ^^^ ((q0).toUInt64 >>> ((62 : Int32) &&& 0x3f).toInt64.toUInt64).toInt64)) * (3573116690164977347 : Int64)))).toUInt64 >>> ((54 : Int32) &&& 0x3f).toInt64.toUInt64).toInt64)) * (-7575587736534282103 : Int64))) ^^^ ((((((((((((q0 ^^^ ((q0).toUInt64 >>> ((31 : Int32) &&& 0x3f).toInt64.toUInt64).toInt64) ^^^ ((q0).toUInt64 >>> ((62 : Int32) &&& 0x3f).toInt64.toUInt64).toInt64)) * (3573116690164977347 : Int64))) ^^^ (((((((q0 ^^^ ((q0).toUInt64 >>> ((31 : Int32) &&& 0x3f).toInt64.toUInt64).toInt64) ^^^ ((q0).toUInt64 >>> ((62 : Int32) &&& 0x3f).toInt64.toUInt64).toInt64)) * (3573116690164977347 : Int64)))).toUInt64 >>> ((27 : Int32) &&& 0x3f).toInt64.toUInt64).toInt64) ^^^ (((((((q0 ^^^ ((q0).toUInt64 >>> ((31 : Int32) &&& 0x3f).toInt64.toUInt64).toInt64) ^^^ ((q0).toUInt64 >>> ((62 : Int32) &&& 0x3f).toInt64.toUInt64).toInt64)) * (3573116690164977347 : Int64)))).toUInt64 >>> ((54 : Int32) &&& 0x3f).toInt64.toUInt64).toInt64)) * (-7575587736534282103 : Int64)))).toUInt64 >>> ((30 : Int32) &&& 0x3f).toInt64.toUInt64).toInt64) ^^^ ((((((((((((q0 ^^^ ((q0).toUInt64 >>> ((31 : Int32) &&& 0x3f).toInt64.toUInt64).toInt64) ^^^ ((q0).toUInt64 >>> ((62 : Int32) &&& 0x3f).toInt64.toUInt64).toInt64)) * (3573116690164977347 : Int64))) ^^^ (((((((q0 ^^^ ((q0).toUInt64 >>> ((31 : Int32) &&& 0x3f).toInt64.toUInt64).toInt64) ^^^ ((q0).toUInt64 >>> ((62 : Int32) &&& 0x3f).toInt64.toUInt64).toInt64)) * (3573116690164977347 : Int64)))).toUInt64 >>> ((27 : Int32) &&& 0x3f).toInt64.toUInt64).toInt64) ^^^ (((((((q0 ^^^ ((q0).toUInt64 >>> ((31 : Int32) &&& 0x3f).toInt64.toUInt64).toInt64) ^^^ ((q0).toUInt64 >>> ((62 : Int32) &&& 0x3f).toInt64.toUInt64).toInt64)) * (3573116690164977347 : Int64)))).toUInt64 >>> ((54 : Int32) &&& 0x3f).toInt64.toUInt64).toInt64)) * (-7575587736534282103 : Int64)))).toUInt64 >>> ((60 : Int32) &&& 0x3f).toInt64.toUInt64).toInt64))
def Q4 (Z : State) (q0 : Int64) (h0 : Heap) (n0 : Nat) (v : Option Value) (h : Heap) (L : List Loc) : Prop := v = some (.long (own_f4 q0)) ∧ Fr n0 L ∧ h = h0
set_option maxRecDepth 65536 in
set_option maxHeartbeats 40000000 in
theorem rm4 (l : Launch) (Z : State) (aw : Array Value) (hw : ∀ d ∈ tables_1, d.before aw Z = true) (wq : List Jvm.Cond) (q0 : Int64) (h0 : Heap) (n0 : Nat) (Z0 : n0 ≤ h0.size) :
    MetFree l (⟨"com/example/offered_load/offeredload/SplitMix64NextLongPinLaw", "unmix", "(J)J"⟩ : MethodName) (head1 (Jvm.Cond.code (⟨"com/example/offered_load/offeredload/SplitMix64NextLongPinLaw", "unmix", "(J)J"⟩ : MethodName) method_2_code 4 (some .long) :: wq) ({ frames := 0, cells := 0, slots := 0, locals := 0 } : Room)) (fun a U => a = #[(.long q0)] ∧ Z.Warmed39 U.vm ∧ U.heap = h0) (fun _ _ _ _ _ => True) (fun _ U o U' => ∃ v L, o = .returned v ∧ Q4 Z q0 h0 n0 v U'.heap L ∧ FrameEnd U o U' L ({ frames := 0, cells := 0, slots := 0, locals := 0 } : Room).cells ({ frames := 0, cells := 0, slots := 0, locals := 0 } : Room).slots) := by
  refine MetFree.of_bodySF (plainFor_of_name pn_1) hisR ?_
  intro p e s m args below meth c s₁ Bd hml0 hP hK
  obtain ⟨rfl, hZ, hh⟩ := hP
  have hx := Bd.exec
  have hby := Bd.bytes
  have hml : c.maxLocals = 4 := hml0
  have hown : s.vm.findClass "com/example/offered_load/offeredload/SplitMix64NextLongPinLaw" = some m.cls := findClass_of_methodNamed Bd.named
  have hnm := (name_of_methodNamed Bd.named Bd.method).1
  have X0 : Stand p l e ({ frames := 0, cells := 0, slots := 0, locals := 0 } : Room) s m #[(.long q0)] below meth c s₁ [] 0 0 := Stand.of_body Bd
  have e0 : s₁.heap = h0 := by rw [← hh, Bd.state]; rfl
  have N0 := Fr.nil n0
  have pre0 : own_Pre p e below (s₁.setTop (entryFrame m #[(.long q0)] 4)) (s₁.setTop (mkF m 0 #[.val (.long q0), .second, .unset, .unset] [])) := fun t k => castTop (ef_4 m q0) k
  obtain ⟨x2_14, hx2_14, pre1⟩ : ∃ z : Int64, z = ((q0 ^^^ ((q0).toUInt64 >>> ((31 : Int32) &&& 0x3f).toInt64.toUInt64).toInt64) ^^^ ((q0).toUInt64 >>> ((62 : Int32) &&& 0x3f).toInt64.toUInt64).toInt64) ∧ own_Pre p e below (s₁.setTop (entryFrame m #[(.long q0)] 4)) (s₁.setTop (mkF m 14 #[.val (.long q0), .second, .val (.long z), .second] [])) := ⟨_, rfl, fun t k => pre0 t (by
      show Steps p.tables e below (s₁.setTop (mkF m 0 #[.val (.long q0), .second, .unset, .unset] [])) _
      refine XS.lloadN X0.here hx rfl (hb hby d4_0) rfl ?_
      show Steps p.tables e below (s₁.setTop (mkF m 1 #[.val (.long q0), .second, .unset, .unset] [(.long q0)])) _
      refine XS.lstoreN X0.here hx rfl (hb hby d4_1) rfl (l' := #[.val (.long q0), .second, .val (.long q0), .second]) rfl ?_
      show Steps p.tables e below (s₁.setTop (mkF m 2 #[.val (.long q0), .second, .val (.long q0), .second] [])) _
      refine XS.lloadN X0.here hx rfl (hb hby d4_2) rfl ?_
      show Steps p.tables e below (s₁.setTop (mkF m 3 #[.val (.long q0), .second, .val (.long q0), .second] [(.long q0)])) _
      refine XS.lloadN X0.here hx rfl (hb hby d4_3) rfl ?_
      show Steps p.tables e below (s₁.setTop (mkF m 4 #[.val (.long q0), .second, .val (.long q0), .second] [(.long q0), (.long q0)])) _
      refine XS.bipush X0.here hx rfl (hb hby d4_4) ?_
      show Steps p.tables e below (s₁.setTop (mkF m 6 #[.val (.long q0), .second, .val (.long q0), .second] [(.int (31 : Int32)), (.long q0), (.long q0)])) _
      refine XS.lushr X0.here hx rfl (hb hby d4_6) rfl ?_
      show Steps p.tables e below (s₁.setTop (mkF m 7 #[.val (.long q0), .second, .val (.long q0), .second] [(.long ((q0).toUInt64 >>> ((31 : Int32) &&& 0x3f).toInt64.toUInt64).toInt64), (.long q0)])) _
      refine XS.lxor X0.here hx rfl (hb hby d4_7) rfl ?_
      show Steps p.tables e below (s₁.setTop (mkF m 8 #[.val (.long q0), .second, .val (.long q0), .second] [(.long (q0 ^^^ ((q0).toUInt64 >>> ((31 : Int32) &&& 0x3f).toInt64.toUInt64).toInt64))])) _
      refine XS.lloadN X0.here hx rfl (hb hby d4_8) rfl ?_
      show Steps p.tables e below (s₁.setTop (mkF m 9 #[.val (.long q0), .second, .val (.long q0), .second] [(.long q0), (.long (q0 ^^^ ((q0).toUInt64 >>> ((31 : Int32) &&& 0x3f).toInt64.toUInt64).toInt64))])) _
      refine XS.bipush X0.here hx rfl (hb hby d4_9) ?_
      show Steps p.tables e below (s₁.setTop (mkF m 11 #[.val (.long q0), .second, .val (.long q0), .second] [(.int (62 : Int32)), (.long q0), (.long (q0 ^^^ ((q0).toUInt64 >>> ((31 : Int32) &&& 0x3f).toInt64.toUInt64).toInt64))])) _
      refine XS.lushr X0.here hx rfl (hb hby d4_11) rfl ?_
      show Steps p.tables e below (s₁.setTop (mkF m 12 #[.val (.long q0), .second, .val (.long q0), .second] [(.long ((q0).toUInt64 >>> ((62 : Int32) &&& 0x3f).toInt64.toUInt64).toInt64), (.long (q0 ^^^ ((q0).toUInt64 >>> ((31 : Int32) &&& 0x3f).toInt64.toUInt64).toInt64))])) _
      refine XS.lxor X0.here hx rfl (hb hby d4_12) rfl ?_
      show Steps p.tables e below (s₁.setTop (mkF m 13 #[.val (.long q0), .second, .val (.long q0), .second] [(.long ((q0 ^^^ ((q0).toUInt64 >>> ((31 : Int32) &&& 0x3f).toInt64.toUInt64).toInt64) ^^^ ((q0).toUInt64 >>> ((62 : Int32) &&& 0x3f).toInt64.toUInt64).toInt64))])) _
      refine XS.lstoreN X0.here hx rfl (hb hby d4_13) rfl (l' := #[.val (.long q0), .second, .val (.long ((q0 ^^^ ((q0).toUInt64 >>> ((31 : Int32) &&& 0x3f).toInt64.toUInt64).toInt64) ^^^ ((q0).toUInt64 >>> ((62 : Int32) &&& 0x3f).toInt64.toUInt64).toInt64)), .second]) rfl ?_
      exact k)⟩
  obtain ⟨x2_20, hx2_20, pre2⟩ : ∃ z : Int64, z = (x2_14 * (3573116690164977347 : Int64)) ∧ own_Pre p e below (s₁.setTop (entryFrame m #[(.long q0)] 4)) (s₁.setTop (mkF m 20 #[.val (.long q0), .second, .val (.long z), .second] [])) := ⟨_, rfl, fun t k => pre1 t (by
      show Steps p.tables e below (s₁.setTop (mkF m 14 #[.val (.long q0), .second, .val (.long x2_14), .second] [])) _
      refine XS.lloadN X0.here hx rfl (hb hby d4_14) rfl ?_
      show Steps p.tables e below (s₁.setTop (mkF m 15 #[.val (.long q0), .second, .val (.long x2_14), .second] [(.long x2_14)])) _
      refine X0.ldc2Long hx hown (mvT hZ (hw _ (List.mem_of_getElem? (i := 23) rfl))) (g := (mkF m 15 #[.val (.long q0), .second, .val (.long x2_14), .second] [(.long x2_14)])) rfl (hb hby d4_15) _ ?_
      show Steps p.tables e below (s₁.setTop (mkF m 18 #[.val (.long q0), .second, .val (.long x2_14), .second] [(.long (3573116690164977347 : Int64)), (.long x2_14)])) _
      refine XS.lmul X0.here hx rfl (hb hby d4_18) rfl ?_
      show Steps p.tables e below (s₁.setTop (mkF m 19 #[.val (.long q0), .second, .val (.long x2_14), .second] [(.long (x2_14 * (3573116690164977347 : Int64)))])) _
      refine XS.lstoreN X0.here hx rfl (hb hby d4_19) rfl (l' := #[.val (.long q0), .second, .val (.long (x2_14 * (3573116690164977347 : Int64))), .second]) rfl ?_
      exact k)⟩
  obtain ⟨x2_32, hx2_32, pre3⟩ : ∃ z : Int64, z = ((x2_20 ^^^ ((x2_20).toUInt64 >>> ((27 : Int32) &&& 0x3f).toInt64.toUInt64).toInt64) ^^^ ((x2_20).toUInt64 >>> ((54 : Int32) &&& 0x3f).toInt64.toUInt64).toInt64) ∧ own_Pre p e below (s₁.setTop (entryFrame m #[(.long q0)] 4)) (s₁.setTop (mkF m 32 #[.val (.long q0), .second, .val (.long z), .second] [])) := ⟨_, rfl, fun t k => pre2 t (by
      show Steps p.tables e below (s₁.setTop (mkF m 20 #[.val (.long q0), .second, .val (.long x2_20), .second] [])) _
      refine XS.lloadN X0.here hx rfl (hb hby d4_20) rfl ?_
      show Steps p.tables e below (s₁.setTop (mkF m 21 #[.val (.long q0), .second, .val (.long x2_20), .second] [(.long x2_20)])) _
      refine XS.lloadN X0.here hx rfl (hb hby d4_21) rfl ?_
      show Steps p.tables e below (s₁.setTop (mkF m 22 #[.val (.long q0), .second, .val (.long x2_20), .second] [(.long x2_20), (.long x2_20)])) _
      refine XS.bipush X0.here hx rfl (hb hby d4_22) ?_
      show Steps p.tables e below (s₁.setTop (mkF m 24 #[.val (.long q0), .second, .val (.long x2_20), .second] [(.int (27 : Int32)), (.long x2_20), (.long x2_20)])) _
      refine XS.lushr X0.here hx rfl (hb hby d4_24) rfl ?_
      show Steps p.tables e below (s₁.setTop (mkF m 25 #[.val (.long q0), .second, .val (.long x2_20), .second] [(.long ((x2_20).toUInt64 >>> ((27 : Int32) &&& 0x3f).toInt64.toUInt64).toInt64), (.long x2_20)])) _
      refine XS.lxor X0.here hx rfl (hb hby d4_25) rfl ?_
      show Steps p.tables e below (s₁.setTop (mkF m 26 #[.val (.long q0), .second, .val (.long x2_20), .second] [(.long (x2_20 ^^^ ((x2_20).toUInt64 >>> ((27 : Int32) &&& 0x3f).toInt64.toUInt64).toInt64))])) _
      refine XS.lloadN X0.here hx rfl (hb hby d4_26) rfl ?_
      show Steps p.tables e below (s₁.setTop (mkF m 27 #[.val (.long q0), .second, .val (.long x2_20), .second] [(.long x2_20), (.long (x2_20 ^^^ ((x2_20).toUInt64 >>> ((27 : Int32) &&& 0x3f).toInt64.toUInt64).toInt64))])) _
      refine XS.bipush X0.here hx rfl (hb hby d4_27) ?_
      show Steps p.tables e below (s₁.setTop (mkF m 29 #[.val (.long q0), .second, .val (.long x2_20), .second] [(.int (54 : Int32)), (.long x2_20), (.long (x2_20 ^^^ ((x2_20).toUInt64 >>> ((27 : Int32) &&& 0x3f).toInt64.toUInt64).toInt64))])) _
      refine XS.lushr X0.here hx rfl (hb hby d4_29) rfl ?_
      show Steps p.tables e below (s₁.setTop (mkF m 30 #[.val (.long q0), .second, .val (.long x2_20), .second] [(.long ((x2_20).toUInt64 >>> ((54 : Int32) &&& 0x3f).toInt64.toUInt64).toInt64), (.long (x2_20 ^^^ ((x2_20).toUInt64 >>> ((27 : Int32) &&& 0x3f).toInt64.toUInt64).toInt64))])) _
      refine XS.lxor X0.here hx rfl (hb hby d4_30) rfl ?_
      show Steps p.tables e below (s₁.setTop (mkF m 31 #[.val (.long q0), .second, .val (.long x2_20), .second] [(.long ((x2_20 ^^^ ((x2_20).toUInt64 >>> ((27 : Int32) &&& 0x3f).toInt64.toUInt64).toInt64) ^^^ ((x2_20).toUInt64 >>> ((54 : Int32) &&& 0x3f).toInt64.toUInt64).toInt64))])) _
      refine XS.lstoreN X0.here hx rfl (hb hby d4_31) rfl (l' := #[.val (.long q0), .second, .val (.long ((x2_20 ^^^ ((x2_20).toUInt64 >>> ((27 : Int32) &&& 0x3f).toInt64.toUInt64).toInt64) ^^^ ((x2_20).toUInt64 >>> ((54 : Int32) &&& 0x3f).toInt64.toUInt64).toInt64)), .second]) rfl ?_
      exact k)⟩
  obtain ⟨x2_38, hx2_38, pre4⟩ : ∃ z : Int64, z = (x2_32 * (-7575587736534282103 : Int64)) ∧ own_Pre p e below (s₁.setTop (entryFrame m #[(.long q0)] 4)) (s₁.setTop (mkF m 38 #[.val (.long q0), .second, .val (.long z), .second] [])) := ⟨_, rfl, fun t k => pre3 t (by
      show Steps p.tables e below (s₁.setTop (mkF m 32 #[.val (.long q0), .second, .val (.long x2_32), .second] [])) _
      refine XS.lloadN X0.here hx rfl (hb hby d4_32) rfl ?_
      show Steps p.tables e below (s₁.setTop (mkF m 33 #[.val (.long q0), .second, .val (.long x2_32), .second] [(.long x2_32)])) _
      refine X0.ldc2Long hx hown (mvT hZ (hw _ (List.mem_of_getElem? (i := 24) rfl))) (g := (mkF m 33 #[.val (.long q0), .second, .val (.long x2_32), .second] [(.long x2_32)])) rfl (hb hby d4_33) _ ?_
      show Steps p.tables e below (s₁.setTop (mkF m 36 #[.val (.long q0), .second, .val (.long x2_32), .second] [(.long (-7575587736534282103 : Int64)), (.long x2_32)])) _
      refine XS.lmul X0.here hx rfl (hb hby d4_36) rfl ?_
      show Steps p.tables e below (s₁.setTop (mkF m 37 #[.val (.long q0), .second, .val (.long x2_32), .second] [(.long (x2_32 * (-7575587736534282103 : Int64)))])) _
      refine XS.lstoreN X0.here hx rfl (hb hby d4_37) rfl (l' := #[.val (.long q0), .second, .val (.long (x2_32 * (-7575587736534282103 : Int64))), .second]) rfl ?_
      exact k)⟩
  obtain ⟨x2_50, hx2_50, pre5⟩ : ∃ z : Int64, z = ((x2_38 ^^^ ((x2_38).toUInt64 >>> ((30 : Int32) &&& 0x3f).toInt64.toUInt64).toInt64) ^^^ ((x2_38).toUInt64 >>> ((60 : Int32) &&& 0x3f).toInt64.toUInt64).toInt64) ∧ own_Pre p e below (s₁.setTop (entryFrame m #[(.long q0)] 4)) (s₁.setTop (mkF m 50 #[.val (.long q0), .second, .val (.long z), .second] [])) := ⟨_, rfl, fun t k => pre4 t (by
      show Steps p.tables e below (s₁.setTop (mkF m 38 #[.val (.long q0), .second, .val (.long x2_38), .second] [])) _
      refine XS.lloadN X0.here hx rfl (hb hby d4_38) rfl ?_
      show Steps p.tables e below (s₁.setTop (mkF m 39 #[.val (.long q0), .second, .val (.long x2_38), .second] [(.long x2_38)])) _
      refine XS.lloadN X0.here hx rfl (hb hby d4_39) rfl ?_
      show Steps p.tables e below (s₁.setTop (mkF m 40 #[.val (.long q0), .second, .val (.long x2_38), .second] [(.long x2_38), (.long x2_38)])) _
      refine XS.bipush X0.here hx rfl (hb hby d4_40) ?_
      show Steps p.tables e below (s₁.setTop (mkF m 42 #[.val (.long q0), .second, .val (.long x2_38), .second] [(.int (30 : Int32)), (.long x2_38), (.long x2_38)])) _
      refine XS.lushr X0.here hx rfl (hb hby d4_42) rfl ?_
      show Steps p.tables e below (s₁.setTop (mkF m 43 #[.val (.long q0), .second, .val (.long x2_38), .second] [(.long ((x2_38).toUInt64 >>> ((30 : Int32) &&& 0x3f).toInt64.toUInt64).toInt64), (.long x2_38)])) _
      refine XS.lxor X0.here hx rfl (hb hby d4_43) rfl ?_
      show Steps p.tables e below (s₁.setTop (mkF m 44 #[.val (.long q0), .second, .val (.long x2_38), .second] [(.long (x2_38 ^^^ ((x2_38).toUInt64 >>> ((30 : Int32) &&& 0x3f).toInt64.toUInt64).toInt64))])) _
      refine XS.lloadN X0.here hx rfl (hb hby d4_44) rfl ?_
      show Steps p.tables e below (s₁.setTop (mkF m 45 #[.val (.long q0), .second, .val (.long x2_38), .second] [(.long x2_38), (.long (x2_38 ^^^ ((x2_38).toUInt64 >>> ((30 : Int32) &&& 0x3f).toInt64.toUInt64).toInt64))])) _
      refine XS.bipush X0.here hx rfl (hb hby d4_45) ?_
      show Steps p.tables e below (s₁.setTop (mkF m 47 #[.val (.long q0), .second, .val (.long x2_38), .second] [(.int (60 : Int32)), (.long x2_38), (.long (x2_38 ^^^ ((x2_38).toUInt64 >>> ((30 : Int32) &&& 0x3f).toInt64.toUInt64).toInt64))])) _
      refine XS.lushr X0.here hx rfl (hb hby d4_47) rfl ?_
      show Steps p.tables e below (s₁.setTop (mkF m 48 #[.val (.long q0), .second, .val (.long x2_38), .second] [(.long ((x2_38).toUInt64 >>> ((60 : Int32) &&& 0x3f).toInt64.toUInt64).toInt64), (.long (x2_38 ^^^ ((x2_38).toUInt64 >>> ((30 : Int32) &&& 0x3f).toInt64.toUInt64).toInt64))])) _
      refine XS.lxor X0.here hx rfl (hb hby d4_48) rfl ?_
      show Steps p.tables e below (s₁.setTop (mkF m 49 #[.val (.long q0), .second, .val (.long x2_38), .second] [(.long ((x2_38 ^^^ ((x2_38).toUInt64 >>> ((30 : Int32) &&& 0x3f).toInt64.toUInt64).toInt64) ^^^ ((x2_38).toUInt64 >>> ((60 : Int32) &&& 0x3f).toInt64.toUInt64).toInt64))])) _
      refine XS.lstoreN X0.here hx rfl (hb hby d4_49) rfl (l' := #[.val (.long q0), .second, .val (.long ((x2_38 ^^^ ((x2_38).toUInt64 >>> ((30 : Int32) &&& 0x3f).toInt64.toUInt64).toInt64) ^^^ ((x2_38).toUInt64 >>> ((60 : Int32) &&& 0x3f).toInt64.toUInt64).toInt64)), .second]) rfl ?_
      exact k)⟩
  obtain ⟨fs, hr, hrun, hended, hW, hsame⟩ := X0.leave (v := some (.long x2_50)) (fun h => by rw [Bd.returns] at h; cases h)
  refine ⟨_, _, pre5 _ ?_, hrun, hended, _, _, rfl, ?_, ⟨_, rfl⟩, hW, hsame.mono (by decide) (by decide)⟩
  · show Steps p.tables e below (s₁.setTop (mkF m 50 #[.val (.long q0), .second, .val (.long x2_50), .second] [])) _
    refine XS.lloadN X0.here hx rfl (hb hby d4_50) rfl ?_
    show Steps p.tables e below (s₁.setTop (mkF m 51 #[.val (.long q0), .second, .val (.long x2_50), .second] [(.long x2_50)])) _
    exact retJ X0 hx Bd.returns (hb hby d4_51) hr
  · show Q4 Z q0 h0 n0 _ s₁.heap _
    rw [e0]
    unfold Q4
    refine ⟨?_, N0, rfl⟩
    · subst hx2_50 hx2_38 hx2_32 hx2_20 hx2_14; simp only [own_f4]
theorem pd_0 : parseMethodDescriptor "(J)V" = some ⟨[.long], none⟩ := by decide +kernel
theorem pd_1 : parseMethodDescriptor "()J" = some ⟨[], some .long⟩ := by decide +kernel
theorem pd_2 : parseMethodDescriptor "(J)J" = some ⟨[.long], some .long⟩ := by decide +kernel
theorem ef_0 (m : MethodId) (q0 : Int64) : entryFrame m #[(.long q0)] maxLocals = mkF m 0 #[.val (.long q0), .second, .unset, .unset, .unset, .unset, .unset, .unset, .unset] [] := by first | (simp [entryFrame, mkF, argsToLocals, Value.category, maxLocals]; done) | rfl
theorem own_xs31 (x : BitVec 64) : (x ^^^ x >>> 31) ^^^ (x ^^^ x >>> 31) >>> 31 ^^^ (x ^^^ x >>> 31) >>> 62 = x := by
  apply BitVec.eq_of_getLsbD_eq
  intro i hi
  have h : x.getLsbD (31 + (31 + (31 + i))) = false := BitVec.getLsbD_of_ge _ _ (by omega)
  have e1 : 62 + i = 31 + (31 + i) := by omega
  have e2 : 31 + (62 + i) = 31 + (31 + (31 + i)) := by omega
  simp only [BitVec.getLsbD_xor, BitVec.getLsbD_ushiftRight, e2, h, e1]
  cases x.getLsbD i <;> cases x.getLsbD (31 + i) <;> cases x.getLsbD (31 + (31 + i)) <;> rfl
theorem own_xs27 (x : BitVec 64) : (x ^^^ x >>> 27) ^^^ (x ^^^ x >>> 27) >>> 27 ^^^ (x ^^^ x >>> 27) >>> 54 = x := by
  apply BitVec.eq_of_getLsbD_eq
  intro i hi
  have h : x.getLsbD (27 + (27 + (27 + i))) = false := BitVec.getLsbD_of_ge _ _ (by omega)
  have e1 : 54 + i = 27 + (27 + i) := by omega
  have e2 : 27 + (54 + i) = 27 + (27 + (27 + i)) := by omega
  simp only [BitVec.getLsbD_xor, BitVec.getLsbD_ushiftRight, e2, h, e1]
  cases x.getLsbD i <;> cases x.getLsbD (27 + i) <;> cases x.getLsbD (27 + (27 + i)) <;> rfl
theorem own_xs30 (x : BitVec 64) : (x ^^^ x >>> 30) ^^^ (x ^^^ x >>> 30) >>> 30 ^^^ (x ^^^ x >>> 30) >>> 60 = x := by
  apply BitVec.eq_of_getLsbD_eq
  intro i hi
  have h : x.getLsbD (30 + (30 + (30 + i))) = false := BitVec.getLsbD_of_ge _ _ (by omega)
  have e1 : 60 + i = 30 + (30 + i) := by omega
  have e2 : 30 + (60 + i) = 30 + (30 + (30 + i)) := by omega
  simp only [BitVec.getLsbD_xor, BitVec.getLsbD_ushiftRight, e2, h, e1]
  cases x.getLsbD i <;> cases x.getLsbD (30 + i) <;> cases x.getLsbD (30 + (30 + i)) <;> rfl
theorem own_s31 (z : Int64) : (((z).toUInt64 >>> ((31 : Int32) &&& 0x3f).toInt64.toUInt64).toInt64).toBitVec = z.toBitVec >>> 31 := rfl
theorem own_s62 (z : Int64) : (((z).toUInt64 >>> ((62 : Int32) &&& 0x3f).toInt64.toUInt64).toInt64).toBitVec = z.toBitVec >>> 62 := rfl
theorem own_s27 (z : Int64) : (((z).toUInt64 >>> ((27 : Int32) &&& 0x3f).toInt64.toUInt64).toInt64).toBitVec = z.toBitVec >>> 27 := rfl
theorem own_s54 (z : Int64) : (((z).toUInt64 >>> ((54 : Int32) &&& 0x3f).toInt64.toUInt64).toInt64).toBitVec = z.toBitVec >>> 54 := rfl
theorem own_s30 (z : Int64) : (((z).toUInt64 >>> ((30 : Int32) &&& 0x3f).toInt64.toUInt64).toInt64).toBitVec = z.toBitVec >>> 30 := rfl
theorem own_s60 (z : Int64) : (((z).toUInt64 >>> ((60 : Int32) &&& 0x3f).toInt64.toUInt64).toInt64).toBitVec = z.toBitVec >>> 60 := rfl
theorem own_mul1 (t : BitVec 64) : t * (-7723592293110705685 : Int64).toBitVec * (3573116690164977347 : Int64).toBitVec = t := by
  rw [BitVec.mul_assoc]
  have : (-7723592293110705685 : Int64).toBitVec * (3573116690164977347 : Int64).toBitVec = 1#64 := by decide +kernel
  rw [this, BitVec.mul_one]
theorem own_mul2 (t : BitVec 64) : t * (-4658895280553007687 : Int64).toBitVec * (-7575587736534282103 : Int64).toBitVec = t := by
  rw [BitVec.mul_assoc]
  have : (-4658895280553007687 : Int64).toBitVec * (-7575587736534282103 : Int64).toBitVec = 1#64 := by decide +kernel
  rw [this, BitVec.mul_one]
theorem own_plain (s : Int64) : own_f4 (own_f3 s) = s + (-7046029254386353131 : Int64) := by
  apply Int64.toBitVec_inj.mp
  unfold own_f4 own_f3
  generalize s + (-7046029254386353131 : Int64) = z
  simp only [Int64.toBitVec_xor, Int64.toBitVec_mul, own_s31, own_s62, own_s27, own_s54, own_s30, own_s60, own_xs31, own_mul1, own_xs27, own_mul2, own_xs30]
def Q0 (Z : State) (q0 : Int64) (h0 : Heap) (n0 : Nat) (v : Option Value) (h : Heap) (L : List Loc) : Prop := v = some (.int (1 : Int32)) ∧ Fr n0 L
set_option maxRecDepth 65536 in
set_option maxHeartbeats 40000000 in
theorem rm0 (l : Launch) (Z : State) (aw : Array Value) (hw : ∀ d ∈ tables_1, d.before aw Z = true) (wq : List Jvm.Cond) (q0 : Int64) (h0 : Heap) (n0 : Nat) (Z0 : n0 ≤ h0.size) :
    MetFree l x (head1 (Jvm.Cond.code x code maxLocals ret :: wq) room_1) (fun a U => a = #[(.long q0)] ∧ Z.Warmed39 U.vm ∧ U.heap = h0) (fun _ _ _ _ _ => True) (fun _ U o U' => ∃ v L, o = .returned v ∧ Q0 Z q0 h0 n0 v U'.heap L ∧ FrameEnd U o U' L 1 1) := by
  refine MetFree.of_bodySF (plainFor_of_name pn_1) hisR ?_
  intro p e s m args below meth c s₁ Bd hml0 hP hK
  obtain ⟨rfl, hZ, hh⟩ := hP
  have hx := Bd.exec
  have hby := Bd.bytes
  have hml : c.maxLocals = 9 := hml0
  have hown : s.vm.findClass "com/example/offered_load/offeredload/SplitMix64NextLongPinLaw" = some m.cls := findClass_of_methodNamed Bd.named
  have hnm := (name_of_methodNamed Bd.named Bd.method).1
  have X0 : Stand p l e room_1 s m #[(.long q0)] below meth c s₁ [] 0 0 := Stand.of_body Bd
  have e0 : s₁.heap = h0 := by rw [← hh, Bd.state]; rfl
  have N0 := Fr.nil n0
  have pre0 : own_Pre p e below (s₁.setTop (entryFrame m #[(.long q0)] maxLocals)) (s₁.setTop (mkF m 0 #[.val (.long q0), .second, .unset, .unset, .unset, .unset, .unset, .unset, .unset] [])) := fun t k => castTop (ef_0 m q0) k
  obtain ⟨T1, h1, X1, e1, E1, A1, D1, -, st1⟩ := newO X0 hx hZ hown (hw _ (List.mem_of_getElem? (i := 0) rfl)) (hw _ (List.mem_of_getElem? (i := 1) rfl)) (hw _ (List.mem_of_getElem? (i := 2) rfl)) e0 (g := (mkF m 0 #[.val (.long q0), .second, .unset, .unset, .unset, .unset, .unset, .unset, .unset] [])) rfl (hb hby at_0) (by decide) (by decide)
  obtain ⟨b1, gq1⟩ : ∃ z, z = (h0).size := ⟨_, rfl⟩
  rw [← gq1] at A1 D1 st1
  have g_b1 : n0 ≤ b1 := Nat.le_trans Z0 (Nat.le_of_eq gq1.symm)
  have F_b1_state : Fld Z h1 b1 "com/example/offered_load/offeredload/SplitMix64" "state" "J" (.long (0 : Int64)) := D1 (Or.inl (hw _ (List.mem_of_getElem? (i := 10) rfl))) (ty := .long) (by decide)
  have z3 : n0 ≤ (h1).size := (Nat.le_trans Z0 E1.1)
  obtain ⟨_, _, ⟨T2, L2, k2, n2⟩, -, X2, ⟨Lc2, hQ2, l2, y2, z2⟩, st2⟩ := X1.specialBack hx (y := (⟨"com/example/offered_load/offeredload/SplitMix64", "<init>", "(J)V"⟩ : MethodName)) rfl hown (mvT hZ (hw _ (List.mem_of_getElem? (i := 3) rfl))) (mvT hZ (hw _ (List.mem_of_getElem? (i := 4) rfl))) (mvT hZ (hw _ (List.mem_of_getElem? (i := 5) rfl))) (by decide) (backOf (W := 1) (rm1 l Z aw hw [] (b1) (q0) (h1) n0 z3 A1 F_b1_state g_b1) hZ (hw _ (List.mem_of_getElem? (i := 5) rfl)) (hw _ (List.mem_of_getElem? (i := 2) rfl)) (by decide) (by decide)) (g := (mkF m 5 #[.val (.long q0), .second, .unset, .unset, .unset, .unset, .unset, .unset, .unset] [(.long q0), (.ref b1), (.ref b1)])) rfl (by rw [hml]; rfl) (Steps.refl _) (a := b1) (argsL := [(.long q0)]) (rest := [(.ref b1)]) (lenOf pd_0 rfl) rfl (by show 2 * 0 + _ ≤ _; exact Nat.le_of_eq rfl) (hb hby at_5) (fun _ _ => ⟨rfl, e1, (by decide : 1 + 0 ≤ _), (by decide : 1 + 0 ≤ _)⟩)
  dsimp only [Pt.U, Pt.locs, Pt.cells, Pt.slots] at X2 l2 y2 z2 st2 hQ2
  subst l2 y2 z2
  obtain ⟨rfl, Nq2, K2, po2_0, po2_1⟩ := hQ2
  have N2 := Fr.app N0 Nq2
  have z5 : n0 ≤ (T2.heap).size := (Nat.le_trans z3 K2.1)
  obtain ⟨cq4, kq4, q4a, q4b, q4c⟩ := isOf hZ rfl po2_0
  obtain ⟨_, _, ⟨T4, L4, k4, n4⟩, -, X4, ⟨Lc4, hQ4, l4, y4, z4⟩, st4⟩ := X2.virtualBack hx (y := (⟨"com/example/offered_load/offeredload/SplitMix64", "nextLong", "()J"⟩ : MethodName)) (z := (⟨"com/example/offered_load/offeredload/SplitMix64", "nextLong", "()J"⟩ : MethodName)) hown (mvT hZ (hw _ (List.mem_of_getElem? (i := 11) rfl))) (mvT hZ (hw _ (List.mem_of_getElem? (i := 12) rfl))) (notFace_of_selects (args := #[]) (mvT hZ (hw _ (List.mem_of_getElem? (i := 14) rfl)))) (mvT hZ (hw _ (List.mem_of_getElem? (i := 14) rfl))) (mvT hZ (hw _ (List.mem_of_getElem? (i := 13) rfl))) (by decide) (backOf (W := 0) (rm3 l Z aw hw [] (b1) (q0) (T2.heap) n0 z5 po2_0 po2_1 g_b1) hZ (hw _ (List.mem_of_getElem? (i := 15) rfl)) (hw _ (List.mem_of_getElem? (i := 2) rfl)) (by decide) (by decide)) q4a q4c (g := (mkF m 10 #[.val (.long q0), .second, .val (.ref b1), .unset, .unset, .unset, .unset, .unset, .unset] [(.ref b1)])) rfl (by rw [hml]; rfl) (Steps.refl _) (argsL := []) (rest := []) (lenOf pd_1 rfl) rfl (by show 2 * 0 + _ ≤ _; exact Nat.le_of_eq rfl) (hb hby at_10) (fun _ _ => ⟨rfl, rfl, (by decide : 1 + 0 ≤ _), (by decide : 1 + 0 ≤ _)⟩)
  dsimp only [Pt.U, Pt.locs, Pt.cells, Pt.slots] at X4 l4 y4 z4 st4 hQ4
  subst l4 y4 z4
  obtain ⟨rfl, Nq4, K4, po4_0, po4_1⟩ := hQ4
  have N4 := Fr.app N2 Nq4
  obtain ⟨x3_14, hx3_14, pre6⟩ : ∃ z : Int64, z = (own_f3 q0) ∧ own_Pre p e below (s₁.setTop (entryFrame m #[(.long q0)] maxLocals)) (T4.setTop (mkF m 14 #[.val (.long q0), .second, .val (.ref b1), .val (.long z), .second, .unset, .unset, .unset, .unset] [])) := ⟨_, rfl, fun t k => pre0 t (by
      show Steps p.tables e below (s₁.setTop (mkF m 0 #[.val (.long q0), .second, .unset, .unset, .unset, .unset, .unset, .unset, .unset] [])) _
      refine st1 _ ?_
      show Steps p.tables e below (T1.setTop (mkF m 3 #[.val (.long q0), .second, .unset, .unset, .unset, .unset, .unset, .unset, .unset] [(.ref b1)])) _
      refine XS.dup X1.here hx rfl (hb hby at_3) rfl rfl ?_
      show Steps p.tables e below (T1.setTop (mkF m 4 #[.val (.long q0), .second, .unset, .unset, .unset, .unset, .unset, .unset, .unset] [(.ref b1), (.ref b1)])) _
      refine XS.lloadN X1.here hx rfl (hb hby at_4) rfl ?_
      show Steps p.tables e below (T1.setTop (mkF m 5 #[.val (.long q0), .second, .unset, .unset, .unset, .unset, .unset, .unset, .unset] [(.long q0), (.ref b1), (.ref b1)])) _
      refine st2.trans ?_
      show Steps p.tables e below (T2.setTop (mkF m 8 #[.val (.long q0), .second, .unset, .unset, .unset, .unset, .unset, .unset, .unset] [(.ref b1)])) _
      refine XS.astoreN X2.here hx rfl (hb hby at_8) rfl rfl (l' := #[.val (.long q0), .second, .val (.ref b1), .unset, .unset, .unset, .unset, .unset, .unset]) rfl ?_
      show Steps p.tables e below (T2.setTop (mkF m 9 #[.val (.long q0), .second, .val (.ref b1), .unset, .unset, .unset, .unset, .unset, .unset] [])) _
      refine XS.aloadN X2.here hx rfl (hb hby at_9) rfl rfl ?_
      show Steps p.tables e below (T2.setTop (mkF m 10 #[.val (.long q0), .second, .val (.ref b1), .unset, .unset, .unset, .unset, .unset, .unset] [(.ref b1)])) _
      refine st4.trans ?_
      show Steps p.tables e below (T4.setTop (mkF m 13 #[.val (.long q0), .second, .val (.ref b1), .unset, .unset, .unset, .unset, .unset, .unset] [(.long (own_f3 q0))])) _
      refine XS.lstoreN X4.here hx rfl (hb hby at_13) rfl (l' := #[.val (.long q0), .second, .val (.ref b1), .val (.long (own_f3 q0)), .second, .unset, .unset, .unset, .unset]) rfl ?_
      exact k)⟩
  have z8 : n0 ≤ (T4.heap).size := (Nat.le_trans z5 K4.1)
  obtain ⟨cq7, kq7, q7a, q7b, q7c⟩ := isOf hZ rfl po4_0
  obtain ⟨_, _, ⟨T7, L7, k7, n7⟩, -, X7, ⟨Lc7, hQ7, l7, y7, z7⟩, st7⟩ := X4.virtualBack hx (y := (⟨"com/example/offered_load/offeredload/SplitMix64", "nextLong", "()J"⟩ : MethodName)) (z := (⟨"com/example/offered_load/offeredload/SplitMix64", "nextLong", "()J"⟩ : MethodName)) hown (mvT hZ (hw _ (List.mem_of_getElem? (i := 11) rfl))) (mvT hZ (hw _ (List.mem_of_getElem? (i := 12) rfl))) (notFace_of_selects (args := #[]) (mvT hZ (hw _ (List.mem_of_getElem? (i := 14) rfl)))) (mvT hZ (hw _ (List.mem_of_getElem? (i := 14) rfl))) (mvT hZ (hw _ (List.mem_of_getElem? (i := 13) rfl))) (by decide) (backOf (W := 0) (rm3 l Z aw hw [] (b1) ((q0 + (-7046029254386353131 : Int64))) (T4.heap) n0 z8 po4_0 po4_1 g_b1) hZ (hw _ (List.mem_of_getElem? (i := 15) rfl)) (hw _ (List.mem_of_getElem? (i := 2) rfl)) (by decide) (by decide)) q7a q7c (g := (mkF m 15 #[.val (.long q0), .second, .val (.ref b1), .val (.long x3_14), .second, .unset, .unset, .unset, .unset] [(.ref b1)])) rfl (by rw [hml]; rfl) (Steps.refl _) (argsL := []) (rest := []) (lenOf pd_1 rfl) rfl (by show 2 * 0 + _ ≤ _; exact Nat.le_of_eq rfl) (hb hby at_15) (fun _ _ => ⟨rfl, rfl, (by decide : 1 + 0 ≤ _), (by decide : 1 + 0 ≤ _)⟩)
  dsimp only [Pt.U, Pt.locs, Pt.cells, Pt.slots] at X7 l7 y7 z7 st7 hQ7
  subst l7 y7 z7
  obtain ⟨rfl, Nq7, K7, po7_0, po7_1⟩ := hQ7
  have N7 := Fr.app N4 Nq7
  obtain ⟨x5_20, hx5_20, pre9⟩ : ∃ z : Int64, z = (own_f3 ((q0 + (-7046029254386353131 : Int64)))) ∧ own_Pre p e below (s₁.setTop (entryFrame m #[(.long q0)] maxLocals)) (T7.setTop (mkF m 20 #[.val (.long q0), .second, .val (.ref b1), .val (.long x3_14), .second, .val (.long z), .second, .unset, .unset] [])) := ⟨_, rfl, fun t k => pre6 t (by
      show Steps p.tables e below (T4.setTop (mkF m 14 #[.val (.long q0), .second, .val (.ref b1), .val (.long x3_14), .second, .unset, .unset, .unset, .unset] [])) _
      refine XS.aloadN X4.here hx rfl (hb hby at_14) rfl rfl ?_
      show Steps p.tables e below (T4.setTop (mkF m 15 #[.val (.long q0), .second, .val (.ref b1), .val (.long x3_14), .second, .unset, .unset, .unset, .unset] [(.ref b1)])) _
      refine st7.trans ?_
      show Steps p.tables e below (T7.setTop (mkF m 18 #[.val (.long q0), .second, .val (.ref b1), .val (.long x3_14), .second, .unset, .unset, .unset, .unset] [(.long (own_f3 ((q0 + (-7046029254386353131 : Int64)))))])) _
      refine XS.lstore X7.here hx rfl (hb hby at_18) rfl (l' := #[.val (.long q0), .second, .val (.ref b1), .val (.long x3_14), .second, .val (.long (own_f3 ((q0 + (-7046029254386353131 : Int64))))), .second, .unset, .unset]) rfl ?_
      exact k)⟩
  have z11 : n0 ≤ (T7.heap).size := (Nat.le_trans z8 K7.1)
  obtain ⟨_, _, ⟨T10, L10, k10, n10⟩, -, X10, ⟨Lc10, hQ10, l10, y10, z10⟩, st10⟩ := Jvm.LawKit.callS X7 hx (y := (⟨"com/example/offered_load/offeredload/SplitMix64NextLongPinLaw", "unmix", "(J)J"⟩ : MethodName)) hown (mvT hZ (hw _ (List.mem_of_getElem? (i := 19) rfl))) (mvT hZ (hw _ (List.mem_of_getElem? (i := 20) rfl))) (mvT hZ (hw _ (List.mem_of_getElem? (i := 21) rfl))) (mvT hZ (hw _ (List.mem_of_getElem? (i := 22) rfl))) (by decide) (backOf (W := 0) (rm4 l Z aw hw [] (x3_14) (T7.heap) n0 z11) hZ (hw _ (List.mem_of_getElem? (i := 22) rfl)) (hw _ (List.mem_of_getElem? (i := 21) rfl)) (by decide) (by decide)) (g := (mkF m 21 #[.val (.long q0), .second, .val (.ref b1), .val (.long x3_14), .second, .val (.long x5_20), .second, .unset, .unset] [(.long x3_14)])) rfl (by rw [hml]; rfl) (argsL := [(.long x3_14)]) (rest := []) (lenOf pd_2 rfl) rfl (by show 2 * 0 + _ ≤ _; exact Nat.le_of_eq rfl) (hb hby at_21) (fun _ _ => ⟨rfl, rfl, (by decide : 1 + 0 ≤ _), (by decide : 1 + 0 ≤ _)⟩)
  dsimp only [Pt.U, Pt.locs, Pt.cells, Pt.slots] at X10 l10 y10 z10 st10 hQ10
  subst l10 y10 z10
  obtain ⟨rfl, Nq10, eq10⟩ := hQ10
  have N10 := Fr.app N7 Nq10
  have hc30 : ((own_f4 x3_14) = (q0 + (-7046029254386353131 : Int64))) := by rw [hx3_14]; exact own_plain _
  obtain ⟨_, _, ⟨T12, L12, k12, n12⟩, -, X12, ⟨Lc12, hQ12, l12, y12, z12⟩, st12⟩ := Jvm.LawKit.callS X10 hx (y := (⟨"com/example/offered_load/offeredload/SplitMix64NextLongPinLaw", "unmix", "(J)J"⟩ : MethodName)) hown (mvT hZ (hw _ (List.mem_of_getElem? (i := 19) rfl))) (mvT hZ (hw _ (List.mem_of_getElem? (i := 20) rfl))) (mvT hZ (hw _ (List.mem_of_getElem? (i := 21) rfl))) (mvT hZ (hw _ (List.mem_of_getElem? (i := 22) rfl))) (by decide) (backOf (W := 0) (rm4 l Z aw hw [] (x5_20) (T7.heap) n0 z11) hZ (hw _ (List.mem_of_getElem? (i := 22) rfl)) (hw _ (List.mem_of_getElem? (i := 21) rfl)) (by decide) (by decide)) (g := (mkF m 42 #[.val (.long q0), .second, .val (.ref b1), .val (.long x3_14), .second, .val (.long x5_20), .second, .val (.int (1 : Int32)), .unset] [(.long x5_20)])) rfl (by rw [hml]; rfl) (argsL := [(.long x5_20)]) (rest := []) (lenOf pd_2 rfl) rfl (by show 2 * 0 + _ ≤ _; exact Nat.le_of_eq rfl) (hb hby at_42) (fun _ _ => ⟨rfl, eq10, (by decide : 1 + 0 ≤ _), (by decide : 1 + 0 ≤ _)⟩)
  dsimp only [Pt.U, Pt.locs, Pt.cells, Pt.slots] at X12 l12 y12 z12 st12 hQ12
  subst l12 y12 z12
  obtain ⟨rfl, Nq12, eq12⟩ := hQ12
  have N12 := Fr.app N10 Nq12
  have hc55 : ((own_f4 x5_20) = ((q0 + (-7046029254386353131 : Int64)) + (-7046029254386353131 : Int64))) := by rw [hx5_20]; exact own_plain _
  obtain ⟨fs, hr, hrun, hended, hW, hsame⟩ := X12.leave (v := some (.int (1 : Int32))) (fun h => by rw [Bd.returns] at h; cases h)
  refine ⟨_, _, pre9 _ ?_, hrun, hended, _, _, rfl, ?_, ⟨_, rfl⟩, hW, hsame.mono (by decide) (by decide)⟩
  · show Steps p.tables e below (T7.setTop (mkF m 20 #[.val (.long q0), .second, .val (.ref b1), .val (.long x3_14), .second, .val (.long x5_20), .second, .unset, .unset] [])) _
    refine XS.lloadN X7.here hx rfl (hb hby at_20) rfl ?_
    show Steps p.tables e below (T7.setTop (mkF m 21 #[.val (.long q0), .second, .val (.ref b1), .val (.long x3_14), .second, .val (.long x5_20), .second, .unset, .unset] [(.long x3_14)])) _
    refine st10 _ ?_
    show Steps p.tables e below (T10.setTop (mkF m 24 #[.val (.long q0), .second, .val (.ref b1), .val (.long x3_14), .second, .val (.long x5_20), .second, .unset, .unset] [(.long (own_f4 x3_14))])) _
    refine XS.lloadN X10.here hx rfl (hb hby at_24) rfl ?_
    show Steps p.tables e below (T10.setTop (mkF m 25 #[.val (.long q0), .second, .val (.ref b1), .val (.long x3_14), .second, .val (.long x5_20), .second, .unset, .unset] [(.long q0), (.long (own_f4 x3_14))])) _
    refine X10.ldc2Long hx hown (mvT hZ (hw _ (List.mem_of_getElem? (i := 25) rfl))) (g := (mkF m 25 #[.val (.long q0), .second, .val (.ref b1), .val (.long x3_14), .second, .val (.long x5_20), .second, .unset, .unset] [(.long q0), (.long (own_f4 x3_14))])) rfl (hb hby at_25) _ ?_
    show Steps p.tables e below (T10.setTop (mkF m 28 #[.val (.long q0), .second, .val (.ref b1), .val (.long x3_14), .second, .val (.long x5_20), .second, .unset, .unset] [(.long (-7046029254386353131 : Int64)), (.long q0), (.long (own_f4 x3_14))])) _
    refine XS.ladd X10.here hx rfl (hb hby at_28) rfl ?_
    show Steps p.tables e below (T10.setTop (mkF m 29 #[.val (.long q0), .second, .val (.ref b1), .val (.long x3_14), .second, .val (.long x5_20), .second, .unset, .unset] [(.long (q0 + (-7046029254386353131 : Int64))), (.long (own_f4 x3_14))])) _
    refine XS.lcmp X10.here hx rfl (hb hby at_29) rfl ?_
    show Steps p.tables e below (T10.setTop (mkF m 30 #[.val (.long q0), .second, .val (.ref b1), .val (.long x3_14), .second, .val (.long x5_20), .second, .unset, .unset] [(.int (lcmpW (own_f4 x3_14) (q0 + (-7046029254386353131 : Int64))))])) _
    refine XS.ifNo X10.here hx rfl (hb hby at_30) rfl ((if0 _ _).trans (teq ((lw_eq _ _).mpr hc30)).2) ?_
    show Steps p.tables e below (T10.setTop (mkF m 33 #[.val (.long q0), .second, .val (.ref b1), .val (.long x3_14), .second, .val (.long x5_20), .second, .unset, .unset] [])) _
    refine XS.iconst X10.here hx rfl (hb hby at_33) ?_
    show Steps p.tables e below (T10.setTop (mkF m 34 #[.val (.long q0), .second, .val (.ref b1), .val (.long x3_14), .second, .val (.long x5_20), .second, .unset, .unset] [(.int (1 : Int32))])) _
    refine XS.goto X10.here hx rfl (pc0 := 34) (pc' := 38) rfl (hb hby at_34) (by decide) (by decide) ?_
    show Steps p.tables e below (T10.setTop (mkF m 38 #[.val (.long q0), .second, .val (.ref b1), .val (.long x3_14), .second, .val (.long x5_20), .second, .unset, .unset] [(.int (1 : Int32))])) _
    refine XS.istore X10.here hx rfl (hb hby at_38) rfl (l' := #[.val (.long q0), .second, .val (.ref b1), .val (.long x3_14), .second, .val (.long x5_20), .second, .val (.int (1 : Int32)), .unset]) rfl ?_
    show Steps p.tables e below (T10.setTop (mkF m 40 #[.val (.long q0), .second, .val (.ref b1), .val (.long x3_14), .second, .val (.long x5_20), .second, .val (.int (1 : Int32)), .unset] [])) _
    refine XS.lload X10.here hx rfl (hb hby at_40) rfl ?_
    show Steps p.tables e below (T10.setTop (mkF m 42 #[.val (.long q0), .second, .val (.ref b1), .val (.long x3_14), .second, .val (.long x5_20), .second, .val (.int (1 : Int32)), .unset] [(.long x5_20)])) _
    refine st12 _ ?_
    show Steps p.tables e below (T12.setTop (mkF m 45 #[.val (.long q0), .second, .val (.ref b1), .val (.long x3_14), .second, .val (.long x5_20), .second, .val (.int (1 : Int32)), .unset] [(.long (own_f4 x5_20))])) _
    refine XS.lloadN X12.here hx rfl (hb hby at_45) rfl ?_
    show Steps p.tables e below (T12.setTop (mkF m 46 #[.val (.long q0), .second, .val (.ref b1), .val (.long x3_14), .second, .val (.long x5_20), .second, .val (.int (1 : Int32)), .unset] [(.long q0), (.long (own_f4 x5_20))])) _
    refine X12.ldc2Long hx hown (mvT hZ (hw _ (List.mem_of_getElem? (i := 25) rfl))) (g := (mkF m 46 #[.val (.long q0), .second, .val (.ref b1), .val (.long x3_14), .second, .val (.long x5_20), .second, .val (.int (1 : Int32)), .unset] [(.long q0), (.long (own_f4 x5_20))])) rfl (hb hby at_46) _ ?_
    show Steps p.tables e below (T12.setTop (mkF m 49 #[.val (.long q0), .second, .val (.ref b1), .val (.long x3_14), .second, .val (.long x5_20), .second, .val (.int (1 : Int32)), .unset] [(.long (-7046029254386353131 : Int64)), (.long q0), (.long (own_f4 x5_20))])) _
    refine XS.ladd X12.here hx rfl (hb hby at_49) rfl ?_
    show Steps p.tables e below (T12.setTop (mkF m 50 #[.val (.long q0), .second, .val (.ref b1), .val (.long x3_14), .second, .val (.long x5_20), .second, .val (.int (1 : Int32)), .unset] [(.long (q0 + (-7046029254386353131 : Int64))), (.long (own_f4 x5_20))])) _
    refine X12.ldc2Long hx hown (mvT hZ (hw _ (List.mem_of_getElem? (i := 25) rfl))) (g := (mkF m 50 #[.val (.long q0), .second, .val (.ref b1), .val (.long x3_14), .second, .val (.long x5_20), .second, .val (.int (1 : Int32)), .unset] [(.long (q0 + (-7046029254386353131 : Int64))), (.long (own_f4 x5_20))])) rfl (hb hby at_50) _ ?_
    show Steps p.tables e below (T12.setTop (mkF m 53 #[.val (.long q0), .second, .val (.ref b1), .val (.long x3_14), .second, .val (.long x5_20), .second, .val (.int (1 : Int32)), .unset] [(.long (-7046029254386353131 : Int64)), (.long (q0 + (-7046029254386353131 : Int64))), (.long (own_f4 x5_20))])) _
    refine XS.ladd X12.here hx rfl (hb hby at_53) rfl ?_
    show Steps p.tables e below (T12.setTop (mkF m 54 #[.val (.long q0), .second, .val (.ref b1), .val (.long x3_14), .second, .val (.long x5_20), .second, .val (.int (1 : Int32)), .unset] [(.long ((q0 + (-7046029254386353131 : Int64)) + (-7046029254386353131 : Int64))), (.long (own_f4 x5_20))])) _
    refine XS.lcmp X12.here hx rfl (hb hby at_54) rfl ?_
    show Steps p.tables e below (T12.setTop (mkF m 55 #[.val (.long q0), .second, .val (.ref b1), .val (.long x3_14), .second, .val (.long x5_20), .second, .val (.int (1 : Int32)), .unset] [(.int (lcmpW (own_f4 x5_20) ((q0 + (-7046029254386353131 : Int64)) + (-7046029254386353131 : Int64))))])) _
    refine XS.ifNo X12.here hx rfl (hb hby at_55) rfl ((if0 _ _).trans (teq ((lw_eq _ _).mpr hc55)).2) ?_
    show Steps p.tables e below (T12.setTop (mkF m 58 #[.val (.long q0), .second, .val (.ref b1), .val (.long x3_14), .second, .val (.long x5_20), .second, .val (.int (1 : Int32)), .unset] [])) _
    refine XS.iconst X12.here hx rfl (hb hby at_58) ?_
    show Steps p.tables e below (T12.setTop (mkF m 59 #[.val (.long q0), .second, .val (.ref b1), .val (.long x3_14), .second, .val (.long x5_20), .second, .val (.int (1 : Int32)), .unset] [(.int (1 : Int32))])) _
    refine XS.goto X12.here hx rfl (pc0 := 59) (pc' := 63) rfl (hb hby at_59) (by decide) (by decide) ?_
    show Steps p.tables e below (T12.setTop (mkF m 63 #[.val (.long q0), .second, .val (.ref b1), .val (.long x3_14), .second, .val (.long x5_20), .second, .val (.int (1 : Int32)), .unset] [(.int (1 : Int32))])) _
    refine XS.istore X12.here hx rfl (hb hby at_63) rfl (l' := #[.val (.long q0), .second, .val (.ref b1), .val (.long x3_14), .second, .val (.long x5_20), .second, .val (.int (1 : Int32)), .val (.int (1 : Int32))]) rfl ?_
    show Steps p.tables e below (T12.setTop (mkF m 65 #[.val (.long q0), .second, .val (.ref b1), .val (.long x3_14), .second, .val (.long x5_20), .second, .val (.int (1 : Int32)), .val (.int (1 : Int32))] [])) _
    refine XS.iload X12.here hx rfl (hb hby at_65) rfl ?_
    show Steps p.tables e below (T12.setTop (mkF m 67 #[.val (.long q0), .second, .val (.ref b1), .val (.long x3_14), .second, .val (.long x5_20), .second, .val (.int (1 : Int32)), .val (.int (1 : Int32))] [(.int (1 : Int32))])) _
    refine XS.ifNo X12.here hx rfl (hb hby at_67) rfl ((if0 _ _).trans (feq (by decide : ¬ ((1 : Int32) = (0 : Int32)))).1) ?_
    show Steps p.tables e below (T12.setTop (mkF m 70 #[.val (.long q0), .second, .val (.ref b1), .val (.long x3_14), .second, .val (.long x5_20), .second, .val (.int (1 : Int32)), .val (.int (1 : Int32))] [])) _
    refine XS.iload X12.here hx rfl (hb hby at_70) rfl ?_
    show Steps p.tables e below (T12.setTop (mkF m 72 #[.val (.long q0), .second, .val (.ref b1), .val (.long x3_14), .second, .val (.long x5_20), .second, .val (.int (1 : Int32)), .val (.int (1 : Int32))] [(.int (1 : Int32))])) _
    refine XS.ifNo X12.here hx rfl (hb hby at_72) rfl ((if0 _ _).trans (feq (by decide : ¬ ((1 : Int32) = (0 : Int32)))).1) ?_
    show Steps p.tables e below (T12.setTop (mkF m 75 #[.val (.long q0), .second, .val (.ref b1), .val (.long x3_14), .second, .val (.long x5_20), .second, .val (.int (1 : Int32)), .val (.int (1 : Int32))] [])) _
    refine XS.iconst X12.here hx rfl (hb hby at_75) ?_
    show Steps p.tables e below (T12.setTop (mkF m 76 #[.val (.long q0), .second, .val (.ref b1), .val (.long x3_14), .second, .val (.long x5_20), .second, .val (.int (1 : Int32)), .val (.int (1 : Int32))] [(.int (1 : Int32))])) _
    refine XS.goto X12.here hx rfl (pc0 := 76) (pc' := 80) rfl (hb hby at_76) (by decide) (by decide) ?_
    show Steps p.tables e below (T12.setTop (mkF m 80 #[.val (.long q0), .second, .val (.ref b1), .val (.long x3_14), .second, .val (.long x5_20), .second, .val (.int (1 : Int32)), .val (.int (1 : Int32))] [(.int (1 : Int32))])) _
    exact retN X12 hx (t := .boolean) Bd.returns (by simp) (hb hby at_80) hr
  · show Q0 Z q0 h0 n0 _ T12.heap _
    rw [eq12]
    unfold Q0
    refine ⟨rfl, N12⟩
set_option maxRecDepth 65536 in
set_option maxHeartbeats 40000000 in
theorem comes_1 {Post : Tables → Env → Array Value → State → Outcome → State → Prop} (hpost : ∀ tb e args s v u, (limb_1_1.after args s (.returned v) u = true ∧ limb_1_2.after args s (.returned v) u = true ∧ True) → FrameEnd s (.returned v) u (Jvm.fieldLocs frame_1_writes args s ++ Jvm.arrayLocs frame_1_arrays args s ++ Jvm.staticLocs frame_1_statics s) 16 128 → Post tb e args s (.returned v) u) :
    ArmFor flags0 classFile x code maxLocals ret World_1 tables_1 room_1 Calls_1 rest_1 Pre_1 Post := by
  intro l hfl _ _ p e ha hc hk s m args below hf hA hF happ hP
  obtain ⟨hcalls, hrest, hpre⟩ := hP
  obtain ⟨-, -, -, hnamed, -, -, -, hat⟩ := (Spec.applies_iff hf).mp happ
  obtain ⟨hg, hn⟩ := and_e (Cond.before_iff.mp (show (Jvm.Cond.and given_1 narrow_1).before args s = true from hpre))
  obtain ⟨gv1, gv2⟩ := and_e hg
  obtain ⟨w0, rfl⟩ : ∃ w0 : Value, args = #[w0] := by
    have hs : args.size = 1 := by simpa [Cond.value, given_1] using gv1
    obtain ⟨L⟩ := args
    match L, hs with
    | [w0], _ => exact ⟨w0, rfl⟩
  have hw := fun d (hd : d ∈ tables_1) => atoms_spec (ws := Jvm.Cond.code x code maxLocals ret :: tables_1) hat d (List.mem_cons_of_mem _ hd)
  obtain ⟨i0, ei0⟩ := isL_v gv2
  obtain rfl : w0 = (.long i0) := Option.some.inj ei0
  obtain ⟨n, o, h1, h2, h3, _, L, rfl, ⟨rfl, N⟩, hq⟩ := rm0 l s _ hw tables_1 i0 s.heap s.heap.size (Nat.le_refl _) p e ha hc hk s m _ below hf ((Spec.applies_iff_loose hf).mp happ).1 ⟨rfl, State.Warmed39.refl s, rfl⟩ trivial
  refine ⟨n, _, h1, h2, h3, hpost _ _ _ _ _ _ ⟨Cond.after_iff.mpr rfl, Cond.after_iff.mpr (eq_i res_at (Term.int_eval (1)) rfl), trivial⟩ ⟨hq.1, hq.2.1, (hq.2.2.sift fun y hy => Or.inr (N y hy)).mono (by decide) (by decide)⟩⟩
theorem main_1_1 : Claimed_1_1 := comes_1 fun _ _ _ _ _ _ h hF => ⟨h.1, hF⟩
theorem main_1_2 : Claimed_1_2 := comes_1 fun _ _ _ _ _ _ h hF => ⟨h.2.1, hF⟩
end Jvm.Pilot.@@N@@
namespace Jvm.Pilot.@@N@@
open Jvm Jvm.ClassFile Sem Op Lib Jvm.Free Jvm.Stand Jvm.Pilot.@@N@@.Jvm.D
/-! MADE BY PROGRAM (witnessworld.py) out of the Statement's table words and the real class files: 9 classes; the members and pool entries that the words name. The judged class is class 1, her method 2. -/
namespace start1
open Jvm.ClassFile
def u (s : String) : CpInfo := .utf8 (stringToUtf16 s)
/-- a pool by its gaps: so many unusable entries, then the entry; so many at the end -/
def gap : Nat → List CpInfo → List CpInfo
  | 0, r => r
  | n + 1, r => .unusable :: gap n r
def poolList (es : List (Nat × CpInfo)) (last : Nat) : List CpInfo := es.foldr (fun e r => gap e.1 (e.2 :: r)) (gap last [])
def pool (es : List (Nat × CpInfo)) (last : Nat) : Array CpInfo := ⟨poolList es last⟩
def fileOf (pool : Array CpInfo) (this : Nat) (attrs : Array Attribute := #[]) (ms : Array MethodInfo := #[]) (fl : Nat := 33) (sup : Nat := 0) (ifs : Array Nat := #[]) (fds : Array FieldInfo := #[]) : ClassFile where
  minorVersion := 0
  majorVersion := 65
  constantPool := pool
  accessFlags := fl
  thisClass := this
  superClass := sup
  interfaces := ifs
  fields := fds
  methods := ms
  attributes := attrs
def plain (name : String) (sup : Option ClassId) : Class where
  name := name
  kind := .ordinary
  loader := none
  accessFlags := 33
  super := sup
  interfaces := #[]
  cf := none
  fields := #[]
  methods := #[]
  instanceTypes := #[]
  staticTypes := #[]
  resolved := #[]
  callSites := []
  init := .initialized
  statics := none
  mirror := none

def pool0 : Array CpInfo := pool [(5, u "<init>"), (0, u "()V"), (1, .class_ 10), (1, u "java/lang/Object")] 113

def k0c0 : Code := { maxStack := 0, maxLocals := 1, code := object_method_1_code, exceptionTable := #[], attributes := #[] }
def k0m0 : Method := { name := "<init>", desc := "()V", sig := { parameters := [], returnType := none }, accessFlags := 1, code := some k0c0 }
/-- java/lang/Object -/
def k0 : Class := { plain "java/lang/Object" none with
  accessFlags := 33
  interfaces := #[]
  cf := some (fileOf pool0 8 #[] #[{ accessFlags := 1, nameIndex := 5, descriptorIndex := 6, attributes := #[] }] 33 0 #[] #[])
  fields := #[]
  methods := #[k0m0]
  instanceTypes := #[]
  staticTypes := #[]
  resolved := Array.replicate 124 none
  statics := none }

def pool1 : Array CpInfo := pool [(2, .class_ 4), (1, u "java/lang/Object"), (0, u "<init>"), (0, u "()V"), (0, .long 3573116690164977347), (1, .long 10871156337175269513), (1, .class_ 12), (0, u "com/example/offered_load/offeredload/SplitMix64"), (0, .methodref 11 14), (0, .nameAndType 5 15), (0, u "(J)V"), (0, .methodref 11 17), (0, .nameAndType 18 19), (0, u "nextLong"), (0, u "()J"), (0, .methodref 21 22), (0, .class_ 23), (0, .nameAndType 24 25), (0, u "com/example/offered_load/offeredload/SplitMix64NextLongPinLaw"), (0, u "unmix"), (0, u "(J)J"), (0, .long 11400714819323198485), (3, u "law"), (0, u "(J)Z")] 3

def k1m0 : Method := { name := "<init>", desc := "()V", sig := { parameters := [], returnType := none }, accessFlags := 2, code := none }
def k1c1 : Code := { maxStack := 5, maxLocals := 4, code := method_2_code, exceptionTable := #[], attributes := #[] }
def k1m1 : Method := { name := "unmix", desc := "(J)J", sig := { parameters := [.long], returnType := some .long }, accessFlags := 10, code := some k1c1 }
def k1c2 : Code := { maxStack := 6, maxLocals := 9, code := code, exceptionTable := #[], attributes := #[] }
def k1m2 : Method := { name := "law", desc := "(J)Z", sig := { parameters := [.long], returnType := some .boolean }, accessFlags := 9, code := some k1c2 }
/-- com/example/offered_load/offeredload/SplitMix64NextLongPinLaw -/
def k1 : Class := { plain "com/example/offered_load/offeredload/SplitMix64NextLongPinLaw" (some 0) with
  accessFlags := 49
  interfaces := #[]
  cf := some (fileOf pool1 21 #[] #[{ accessFlags := 2, nameIndex := 5, descriptorIndex := 6, attributes := #[] }, { accessFlags := 10, nameIndex := 24, descriptorIndex := 25, attributes := #[] }, { accessFlags := 9, nameIndex := 30, descriptorIndex := 31, attributes := #[] }] 49 2 #[] #[])
  fields := #[]
  methods := #[k1m0, k1m1, k1m2]
  instanceTypes := #[]
  staticTypes := #[]
  resolved := Array.replicate 35 none
  statics := none }

def pool2 : Array CpInfo := pool [(1, .methodref 2 3), (0, .class_ 4), (0, .nameAndType 5 6), (0, u "java/lang/Object"), (0, u "<init>"), (0, u "()V"), (0, .fieldref 8 9), (0, .class_ 10), (0, .nameAndType 11 12), (0, u "com/example/offered_load/offeredload/SplitMix64"), (0, u "state"), (0, u "J"), (0, .long 11400714819323198485), (1, .long 13787848793156543929), (1, .long 10723151780598845931), (3, u "nextLong"), (0, u "()J"), (2, u "GOLDEN_GAMMA"), (1, u "(J)V")] 6

def k2c0 : Code := { maxStack := 3, maxLocals := 3, code := prog_27_method_1_code, exceptionTable := #[], attributes := #[] }
def k2m0 : Method := { name := "<init>", desc := "(J)V", sig := { parameters := [.long], returnType := none }, accessFlags := 0, code := some k2c0 }
def k2c1 : Code := { maxStack := 5, maxLocals := 3, code := prog_27_method_2_code, exceptionTable := #[], attributes := #[] }
def k2m1 : Method := { name := "nextLong", desc := "()J", sig := { parameters := [], returnType := some .long }, accessFlags := 0, code := some k2c1 }
/-- com/example/offered_load/offeredload/SplitMix64 -/
def k2 : Class := { plain "com/example/offered_load/offeredload/SplitMix64" (some 0) with
  accessFlags := 48
  interfaces := #[]
  cf := some (fileOf pool2 8 #[] #[{ accessFlags := 0, nameIndex := 5, descriptorIndex := 27, attributes := #[] }, { accessFlags := 0, nameIndex := 21, descriptorIndex := 22, attributes := #[] }] 48 2 #[] #[{ accessFlags := 26, nameIndex := 25, descriptorIndex := 12, attributes := #[] }, { accessFlags := 2, nameIndex := 11, descriptorIndex := 12, attributes := #[] }])
  fields := #[{ name := "GOLDEN_GAMMA", type := .long, accessFlags := 26, slot := 0, constantValue := 0 }, { name := "state", type := .long, accessFlags := 2, slot := 0, constantValue := 0 }]
  methods := #[k2m0, k2m1]
  instanceTypes := #[.long]
  staticTypes := #[.long]
  resolved := Array.replicate 34 none
  statics := none }

def pool3 : Array CpInfo := pool [(1, u "java/lang/Cloneable"), (0, .class_ 1), (0, u "java/lang/Object"), (0, .class_ 3)] 3

/-- java/lang/Cloneable -/
def k3 : Class := { plain "java/lang/Cloneable" (some 0) with
  accessFlags := 1537
  interfaces := #[]
  cf := some (fileOf pool3 2 #[] #[] 1537 4 #[] #[])
  fields := #[]
  methods := #[]
  instanceTypes := #[]
  staticTypes := #[]
  resolved := Array.replicate 8 none
  statics := none }

def pool4 : Array CpInfo := pool [(1, u "java/io/Serializable"), (0, .class_ 1), (0, u "java/lang/Object"), (0, .class_ 3)] 3

/-- java/io/Serializable -/
def k4 : Class := { plain "java/io/Serializable" (some 0) with
  accessFlags := 1537
  interfaces := #[]
  cf := some (fileOf pool4 2 #[] #[] 1537 4 #[] #[])
  fields := #[]
  methods := #[]
  instanceTypes := #[]
  staticTypes := #[]
  resolved := Array.replicate 8 none
  statics := none }

/-- the primitive byte -/
def k5 : Class := { plain "byte" none with kind := .primitive 'B', accessFlags := 0x411 }
/-- [B -/
def k6 : Class := { plain "[B" (some 0) with kind := .array 5 .byte, interfaces := #[3, 4], accessFlags := 1041 }

/-- the primitive int -/
def k7 : Class := { plain "int" none with kind := .primitive 'I', accessFlags := 0x411 }
/-- [I -/
def k8 : Class := { plain "[I" (some 0) with kind := .array 7 .int, interfaces := #[3, 4], accessFlags := 1041 }

def heap : Heap := #[]
def classes : Array Class := #[k0, k1, k2, k3, k4, k5, k6, k7, k8]
def interned : List (Array UInt16 × Addr) := []
def slotsUsed : Nat := 0
def theMethod : MethodId := ⟨1, 2⟩
def args0 : Array Value := #[.long 5]
def aboutOver (below : List Frame) : State where
  vm := { classes := classes, interned := interned.toArray }
  heap := heap
  slotsUsed := slotsUsed
  threads := #[{ frames := .invoking theMethod args0 :: below }]
def below0 : List Frame := [.native { method := ⟨0, 0⟩, args := #[] }]
def about1 : State := aboutOver below0
def p0 : Program := .bare "" "" ""
def e0 : Env := launch0.env 0 0 0
theorem w_frames : about1.frames = Frame.invoking theMethod args0 :: below0 := rfl
set_option maxRecDepth 65536 in
theorem w_args : argsFit about1.vm theMethod args0 = true := by decide +kernel
set_option maxRecDepth 65536 in
theorem w_heap : heapFits about1 = true := by decide +kernel
set_option maxRecDepth 65536 in
theorem w_runnable : about1.curStatus? = some .runnable := by decide +kernel
set_option maxRecDepth 65536 in
theorem w_alone : about1.alone = true := by decide +kernel
set_option maxRecDepth 65536 in
theorem w_named : about1.methodNamed? x = some theMethod := by decide +kernel
set_option maxRecDepth 65536 in
theorem w_hears : about1.hears theMethod below0 = true := by decide +kernel
set_option maxRecDepth 65536 in
theorem w_ripe : about1.ripe theMethod args0 below0 = true := by decide +kernel
theorem w_running : about1.status = .running := rfl
set_option maxRecDepth 65536 in
theorem w_room : about1.hasRoom e0.platform room_1 = true :=
  launch0.hasRoom_least _ room_1 (by decide +kernel) (by decide +kernel) (by decide +kernel) (by decide +kernel) (by decide +kernel) (by decide +kernel)
theorem allAtoms_all (ts : List Jvm.Cond) (a : Array Jvm.Value) (st : Jvm.State) : (allAtoms ts).before a st = ts.all (fun c => c.before a st) := by
  induction ts with
  | nil => rfl
  | cons c t ih =>
    show (Jvm.Cond.and c (allAtoms t)).before a st = _
    rw [Jvm.Cond.before_and, ih, List.all_cons]
def words1 : List Jvm.Cond := Jvm.Cond.code x code maxLocals ret :: tables_1
/-- a 'code' word, met by the world's own term for the bytes: nothing is compared byte by byte -/
theorem code_word {y : MethodName} {bytes : ByteArray} {mx : Nat} {rt : Option FieldType} {a : Array Value} {s : State} {m : MethodId} {meth : Method} {c : Code} (h1 : s.methodNamed? y = some m) (h2 : s.vm.method? m = some meth) (h3 : meth.code = some c) (h4 : c.code = bytes)
    (h5 : (c.maxLocals == mx && c.exceptionTable.isEmpty && decide (c.maxStack ≤ mostOperands) && decide (meth.sig.returnType = rt) && !meth.locks && decide (parseMethodDescriptor y.desc = some meth.sig)) = true) : (Jvm.Cond.code y bytes mx rt).before a s = true := by
  simp only [Bool.and_eq_true, beq_iff_eq, Bool.not_eq_true', decide_eq_true_eq] at h5
  obtain ⟨⟨⟨⟨⟨g1, g2⟩, g3⟩, g4⟩, g5⟩, g6⟩ := h5
  simp [Cond.before, Cond.holds, Cond.value, h1, h2, h3, h4, g1, g2, g3, g4, g5, g6]
def isCode : Jvm.Cond → Bool
  | .code _ _ _ _ => true
  | _ => false
theorem all_split {L : List Jvm.Cond} {P : Jvm.Cond → Bool} (h1 : L.all (fun c => isCode c || P c) = true) (h2 : ∀ c ∈ L.filter isCode, P c = true) : L.all P = true := by
  refine List.all_eq_true.mpr fun c hc => ?_
  have h := List.all_eq_true.mp h1 c hc
  rcases Bool.eq_false_or_eq_true (isCode c) with hi | hi
  · exact h2 c (List.mem_filter.mpr ⟨hc, hi⟩)
  · simpa [hi] using h
set_option maxRecDepth 65536 in
theorem w_c0 : (Jvm.Cond.code x code maxLocals ret).before args0 about1 = true := code_word (m := ⟨1, 2⟩) (meth := k1m2) (c := k1c2) (by decide +kernel) rfl rfl rfl (by decide +kernel)
set_option maxRecDepth 65536 in
theorem w_c1 : (Jvm.Cond.code ({ cls := "com/example/offered_load/offeredload/SplitMix64", name := "<init>", desc := "(J)V" } : Jvm.MethodName) prog_27_method_1_code (3 : Nat) (Option.none : Option Jvm.ClassFile.FieldType)).before args0 about1 = true := code_word (m := ⟨2, 0⟩) (meth := k2m0) (c := k2c0) (by decide +kernel) rfl rfl rfl (by decide +kernel)
set_option maxRecDepth 65536 in
theorem w_c2 : (Jvm.Cond.code ({ cls := "java/lang/Object", name := "<init>", desc := "()V" } : Jvm.MethodName) object_method_1_code (1 : Nat) (Option.none : Option Jvm.ClassFile.FieldType)).before args0 about1 = true := code_word (m := ⟨0, 0⟩) (meth := k0m0) (c := k0c0) (by decide +kernel) rfl rfl rfl (by decide +kernel)
set_option maxRecDepth 65536 in
theorem w_c3 : (Jvm.Cond.code ({ cls := "com/example/offered_load/offeredload/SplitMix64", name := "nextLong", desc := "()J" } : Jvm.MethodName) prog_27_method_2_code (3 : Nat) (Option.some Jvm.ClassFile.FieldType.long)).before args0 about1 = true := code_word (m := ⟨2, 1⟩) (meth := k2m1) (c := k2c1) (by decide +kernel) rfl rfl rfl (by decide +kernel)
set_option maxRecDepth 65536 in
theorem w_c4 : (Jvm.Cond.code ({ cls := "com/example/offered_load/offeredload/SplitMix64NextLongPinLaw", name := "unmix", desc := "(J)J" } : Jvm.MethodName) method_2_code (4 : Nat) (Option.some Jvm.ClassFile.FieldType.long)).before args0 about1 = true := code_word (m := ⟨1, 1⟩) (meth := k1m1) (c := k1c1) (by decide +kernel) rfl rfl rfl (by decide +kernel)
def codes1 : List Jvm.Cond := [Jvm.Cond.code x code maxLocals ret, Jvm.Cond.code ({ cls := "com/example/offered_load/offeredload/SplitMix64", name := "<init>", desc := "(J)V" } : Jvm.MethodName) prog_27_method_1_code (3 : Nat) (Option.none : Option Jvm.ClassFile.FieldType), Jvm.Cond.code ({ cls := "java/lang/Object", name := "<init>", desc := "()V" } : Jvm.MethodName) object_method_1_code (1 : Nat) (Option.none : Option Jvm.ClassFile.FieldType), Jvm.Cond.code ({ cls := "com/example/offered_load/offeredload/SplitMix64", name := "nextLong", desc := "()J" } : Jvm.MethodName) prog_27_method_2_code (3 : Nat) (Option.some Jvm.ClassFile.FieldType.long), Jvm.Cond.code ({ cls := "com/example/offered_load/offeredload/SplitMix64NextLongPinLaw", name := "unmix", desc := "(J)J" } : Jvm.MethodName) method_2_code (4 : Nat) (Option.some Jvm.ClassFile.FieldType.long)]
set_option maxRecDepth 65536 in
theorem codes_eq : words1.filter isCode = codes1 := rfl
theorem w_codes : ∀ c ∈ words1.filter isCode, c.before args0 about1 = true := by
  rw [codes_eq]
  intro c hc
  simp only [codes1, List.mem_cons, List.not_mem_nil, or_false] at hc
  rcases hc with rfl | rfl | rfl | rfl | rfl
  · exact w_c0
  · exact w_c1
  · exact w_c2
  · exact w_c3
  · exact w_c4
set_option maxRecDepth 65536 in
theorem w_t1 : (words1.take 24).all (fun c => isCode c || c.before args0 about1) = true := by decide +kernel
set_option maxRecDepth 65536 in
theorem w_t2 : (words1.drop 24).all (fun c => isCode c || c.before args0 about1) = true := by decide +kernel
theorem w_tables : (allAtoms (Jvm.Cond.code x code maxLocals ret :: tables_1)).before args0 about1 = true := by
  rw [allAtoms_all]
  show words1.all (fun c => c.before args0 about1) = true
  refine all_split ?_ w_codes
  rw [← List.take_append_drop 24 words1, List.all_append, w_t1, w_t2]
  rfl
set_option maxRecDepth 65536 in
theorem w_case : (Jvm.Cond.and given_1 narrow_1).before args0 about1 = true := by decide +kernel
theorem w_applies : (headSpec (Jvm.Cond.code x code maxLocals ret :: tables_1) room_1).applies x e0.platform about1 = true :=
  (Spec.applies_iff w_frames).mpr ⟨w_running, w_runnable, w_alone, w_named, w_hears, w_ripe, w_room, w_tables⟩
theorem atStart : AtStart classFile x code maxLocals ret World_1 tables_1 room_1 Calls_1 rest_1 Pre_1 launch0 p0 e0 about1 theMethod args0 below0 :=
  ⟨lists_1, trivial, launch0.admits_env _ _ _, launch0.least_env, fairChoices_fair.cas, fairChoices_fair.clock, w_frames, w_args, w_heap, w_applies, trivial, trivial, w_case⟩
end start1
theorem witness_1 : WitnessClaimed_1 := ⟨start1.p0, start1.e0, start1.about1, start1.theMethod, start1.args0, start1.below0, start1.atStart⟩
end Jvm.Pilot.@@N@@
