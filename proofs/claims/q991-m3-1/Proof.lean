import JvmDerived
import JvmDerived.Pilot.@@N@@Statement
import JvmDerived.Pilot.@@N@@Code
set_option linter.unusedVariables false
set_option linter.unusedSimpArgs false
namespace Jvm.RoadKit
open Sem ClassFile Op Lib Jvm.Stand Jvm.Free Jvm.LawKit
section New
variable {p : Program} {l : Launch} {e : Env} {R : Room} {s : State} {m : MethodId} {args : Array Value} {below : List Frame} {meth : Method} {c : Code} {T : State} {locs : List Loc} {cells slots : Nat}
theorem retI (X : Stand p l e R s m args below meth c T locs cells slots) (hx : p.tables.exec = Jvm.exec) {pc : Nat} {Ls : Array Slot} {z : Int32} {rest : List Value} (hret : meth.sig.returnType = some .int) (hd : decode c.code pc = .ok (.ireturn, 1)) {fs : List Frame}
    (hl : ∀ (f : JFrame) (acts : List Action), f.method = m → f.locked = none → f.entered = [] → (doReturn e (T.setTop f) acts (some (.int z))).1 = T.setFrames fs) : Steps p.tables e below (T.setTop (mkF m pc Ls (.int z :: rest))) (T.setFrames fs) := by
  have hm' : T.vm.method? m = some meth := X.method'
  have hn : narrow .int (.int z) = .int z := rfl
  show Steps p.tables e below (T.setTop { method := m, pc := pc, locals := Ls, stack := _ :: rest, locked := none }) _
  jvm_step X.here [X.here.top, hx, hd, hm', hret, hn]
  first | (intro acts; rw [hl _ acts rfl rfl rfl]) | rw [hl _ _ rfl rfl rfl]
  exact Steps.refl _
theorem retJ (X : Stand p l e R s m args below meth c T locs cells slots) (hx : p.tables.exec = Jvm.exec) {pc : Nat} {Ls : Array Slot} {z : Int64} {rest : List Value} (hret : meth.sig.returnType = some .long) (hd : decode c.code pc = .ok (.lreturn, 1)) {fs : List Frame}
    (hl : ∀ (f : JFrame) (acts : List Action), f.method = m → f.locked = none → f.entered = [] → (doReturn e (T.setTop f) acts (some (.long z))).1 = T.setFrames fs) : Steps p.tables e below (T.setTop (mkF m pc Ls (.long z :: rest))) (T.setFrames fs) := by
  have hm' : T.vm.method? m = some meth := X.method'
  have hn : narrow .long (.long z) = .long z := rfl
  show Steps p.tables e below (T.setTop { method := m, pc := pc, locals := Ls, stack := _ :: rest, locked := none }) _
  jvm_step X.here [X.here.top, hx, hd, hm', hret, hn]
  first | (intro acts; rw [hl _ acts rfl rfl rfl]) | rw [hl _ _ rfl rfl rfl]
  exact Steps.refl _
theorem retR (X : Stand p l e R s m args below meth c T locs cells slots) (hx : p.tables.exec = Jvm.exec) {pc : Nat} {Ls : Array Slot} {v : Value} {rest : List Value} (hv : v.isRef = true) {ty : FieldType} (hret : meth.sig.returnType = some ty) (ht : ty.isReference = true) (hd : decode c.code pc = .ok (.areturn, 1)) {fs : List Frame}
    (hl : ∀ (f : JFrame) (acts : List Action), f.method = m → f.locked = none → f.entered = [] → (doReturn e (T.setTop f) acts (some v)).1 = T.setFrames fs) : Steps p.tables e below (T.setTop (mkF m pc Ls (v :: rest))) (T.setFrames fs) := by
  have hm' : T.vm.method? m = some meth := X.method'
  show Steps p.tables e below (T.setTop { method := m, pc := pc, locals := Ls, stack := _ :: rest, locked := none }) _
  jvm_step X.here [X.here.top, hx, hd, hm', hret, hv, ht]
  first | (intro acts; rw [hl _ acts rfl rfl rfl]) | rw [hl _ _ rfl rfl rfl]
  exact Steps.refl _
end New
end Jvm.RoadKit
namespace Jvm.Pilot.@@N@@
open Jvm Jvm.ClassFile Sem Op Lib Jvm.Free Jvm.Stand Jvm.LawKit Jvm.RoadKit Bundle Jvm.Pilot.@@N@@.Jvm.D
/-- from the state 'cur' on is enough -/
def own_Pre (p : Program) (e : Env) (below : List Frame) (start cur : State) : Prop := ∀ t, Steps p.tables e below cur t → Steps p.tables e below start t
/-- an array of ints (bytes, chars, booleans): its length z, its components ws (at least so many) -/
def own_AI (Z : State) (h : Heap) (a : Addr) (k : ClassId) (ty : FieldType) (z : Int32) (ws : List Int32) : Prop := Arv Z h a k ty z (ws.map Value.int) (.int 0) ∧ z.toNatClampNeg ≤ ws.length
def own_AJ (Z : State) (h : Heap) (a : Addr) (k : ClassId) (ty : FieldType) (z : Int32) (ws : List Int64) : Prop := Arv Z h a k ty z (ws.map Value.long) (.long 0) ∧ z.toNatClampNeg ≤ ws.length
section OwnA
variable {Z : State} {h h' : Heap} {a b : Addr} {k : ClassId} {ty : FieldType} {z : Int32} {ws : List Int32} {wl : List Int64} {sl : Nat} {v : Value} {L : List Addr}
theorem own_AI.lt (F : own_AI Z h a k ty z ws) : a < h.size := Arv.lt F.1
theorem own_AI.ext (F : own_AI Z h a k ty z ws) (E : Ext h h') : own_AI Z h' a k ty z ws := ⟨Arv.ext F.1 E, F.2⟩
theorem own_AI.other (F : own_AI Z h b k ty z ws) (W : Wr h h' a sl v) (q : b ≠ a) : own_AI Z h' b k ty z ws := ⟨Arv.other F.1 W q, F.2⟩
theorem own_AI.keep (F : own_AI Z h a k ty z ws) (K : Keep h h' L) (q : a ∉ L) : own_AI Z h' a k ty z ws := ⟨Arv.keep F.1 K q, F.2⟩
theorem own_AJ.lt (F : own_AJ Z h a k ty z wl) : a < h.size := Arv.lt F.1
theorem own_AJ.ext (F : own_AJ Z h a k ty z wl) (E : Ext h h') : own_AJ Z h' a k ty z wl := ⟨Arv.ext F.1 E, F.2⟩
theorem own_AJ.other (F : own_AJ Z h b k ty z wl) (W : Wr h h' a sl v) (q : b ≠ a) : own_AJ Z h' b k ty z wl := ⟨Arv.other F.1 W q, F.2⟩
theorem own_AJ.keep (F : own_AJ Z h a k ty z wl) (K : Keep h h' L) (q : a ∉ L) : own_AJ Z h' a k ty z wl := ⟨Arv.keep F.1 K q, F.2⟩
theorem own_AI.new (n : Nat) (A : Arr Z h a (newA k ty z) ty) (q : ¬ z < 0) (hn : z.toNatClampNeg ≤ n) (hd : defaultValue ty = .int 0) : own_AI Z h a k ty z (List.replicate n (0 : Int32)) := by
  have := Arv.new A q
  rw [hd] at this
  have r := this.pad (pad_rep [] (.int 0) n)
  exact ⟨by simpa [List.map_replicate] using r, by simpa using hn⟩
theorem own_AJ.new (n : Nat) (A : Arr Z h a (newA k ty z) ty) (q : ¬ z < 0) (hn : z.toNatClampNeg ≤ n) (hd : defaultValue ty = .long 0) : own_AJ Z h a k ty z (List.replicate n (0 : Int64)) := by
  have := Arv.new A q
  rw [hd] at this
  have r := this.pad (pad_rep [] (.long 0) n)
  exact ⟨by simpa [List.map_replicate] using r, by simpa using hn⟩
theorem own_getI (ws : List Int32) (i : Nat) : (ws.map Value.int).getD i (.int 0) = .int (ws.getD i 0) := by
  simp only [List.getD_eq_getElem?_getD, List.getElem?_map]
  cases ws[i]? <;> rfl
theorem own_getJ (ws : List Int64) (i : Nat) : (ws.map Value.long).getD i (.long 0) = .long (ws.getD i 0) := by
  simp only [List.getD_eq_getElem?_getD, List.getElem?_map]
  cases ws[i]? <;> rfl
theorem own_AI.at (F : own_AI Z h a k ty z ws) {j : Int32} (q : ¬ j < 0 ∧ j < z) : ∃ cl : Cell, Arr Z h a cl ty ∧ ¬ (j < 0 ∨ cl.slots.size ≤ j.toNatClampNeg) ∧ cl.slots[j.toNatClampNeg]? = some (.int (ws.getD j.toNatClampNeg 0)) := by
  obtain ⟨⟨cl, A, -, S, -, H, -⟩, -⟩ := F
  have hin := inb_of S q
  exact ⟨cl, A, hin, H.at hin (own_getI _ _)⟩
theorem own_AJ.at (F : own_AJ Z h a k ty z wl) {j : Int32} (q : ¬ j < 0 ∧ j < z) : ∃ cl : Cell, Arr Z h a cl ty ∧ ¬ (j < 0 ∨ cl.slots.size ≤ j.toNatClampNeg) ∧ cl.slots[j.toNatClampNeg]? = some (.long (wl.getD j.toNatClampNeg 0)) := by
  obtain ⟨⟨cl, A, -, S, -, H, -⟩, -⟩ := F
  have hin := inb_of S q
  exact ⟨cl, A, hin, H.at hin (own_getJ _ _)⟩
theorem own_AI.arr (F : own_AI Z h a k ty z ws) {j : Int32} (q : ¬ j < 0 ∧ j < z) : ∃ cl : Cell, Arr Z h a cl ty ∧ ¬ (j < 0 ∨ cl.slots.size ≤ j.toNatClampNeg) ∧ ∀ (h' : Heap) (x : Int32), fits ty (.int x) = true → Wr h h' a j.toNatClampNeg (.int x) → own_AI Z h' a k ty z (ws.set j.toNatClampNeg x) := by
  obtain ⟨⟨cl, A, q1, S, q3, H, G⟩, ln⟩ := F
  have hin := inb_of S q
  refine ⟨cl, A, hin, fun h' x hv W => ?_⟩
  have hl : j.toNatClampNeg < ws.length := by
    rcases Nat.lt_or_ge j.toNatClampNeg ws.length with u | u
    · exact u
    · exact absurd (Or.inr (by omega)) hin
  have := Arv.set A q1 S q3 H G hv W _ rfl (by simpa using hl)
  rw [← List.map_set] at this
  exact ⟨this, by simpa using ln⟩
theorem own_AJ.arr (F : own_AJ Z h a k ty z wl) {j : Int32} (q : ¬ j < 0 ∧ j < z) : ∃ cl : Cell, Arr Z h a cl ty ∧ ¬ (j < 0 ∨ cl.slots.size ≤ j.toNatClampNeg) ∧ ∀ (h' : Heap) (x : Int64), fits ty (.long x) = true → Wr h h' a j.toNatClampNeg (.long x) → own_AJ Z h' a k ty z (wl.set j.toNatClampNeg x) := by
  obtain ⟨⟨cl, A, q1, S, q3, H, G⟩, ln⟩ := F
  have hin := inb_of S q
  refine ⟨cl, A, hin, fun h' x hv W => ?_⟩
  have hl : j.toNatClampNeg < wl.length := by
    rcases Nat.lt_or_ge j.toNatClampNeg wl.length with u | u
    · exact u
    · exact absurd (Or.inr (by omega)) hin
  have := Arv.set A q1 S q3 H G hv W _ rfl (by simpa using hl)
  rw [← List.map_set] at this
  exact ⟨this, by simpa using ln⟩
theorem own_AI.len (F : own_AI Z h a k ty z ws) : ∃ cl : Cell, Arr Z h a cl ty ∧ cl.slots.size = z.toNatClampNeg ∧ ¬ z < 0 := by
  obtain ⟨⟨cl, A, -, S, q3, -, -⟩, -⟩ := F
  exact ⟨cl, A, S, q3⟩
theorem own_AJ.len (F : own_AJ Z h a k ty z wl) : ∃ cl : Cell, Arr Z h a cl ty ∧ cl.slots.size = z.toNatClampNeg ∧ ¬ z < 0 := by
  obtain ⟨⟨cl, A, -, S, q3, -, -⟩, -⟩ := F
  exact ⟨cl, A, S, q3⟩
end OwnA
/-- a private method selects itself, where another method of its class is known to be no interface's -/
theorem own_selp {s : State} {args : Array Value} {y z : MethodName} (hz : (Cond.selects z.cls z z).before args s = true) (hc : z.cls = y.cls) (hpriv : s.PrivateAt y) (hinst : (Cond.instanceMethod y).before args s = true) (hy : y.cls ≠ "java/lang/invoke/MethodHandle" ∧ y.cls ≠ "java/lang/invoke/VarHandle") : (Cond.selects y.cls y y).before args s = true := by
  obtain ⟨c2, r2, m2, -, -, q3, -, kP, hkP, hkPi⟩ := Cond.selects_spec hz
  have hf := findClass_of_methodNamed q3
  rw [hc] at hf
  exact selects_self_of_private hf hkP hkPi hpriv hinst hy
/-- what holds of every byte -/
theorem own_bytes {P : Int32 → Prop} (H : ∀ i : Fin 256, P (Int32.ofInt ((i.1 : Int) - 128))) (x : Int32) : P x.toInt8.toInt32 := by
  obtain ⟨-, h1, h2⟩ := c_i2b x
  have e : x.toInt8.toInt32 = Int32.ofInt (((⟨(x.toInt8.toInt32.toInt + 128).toNat, by omega⟩ : Fin 256).1 : Int) - 128) := by
    apply Int32.toInt_inj.mp
    show _ = (Int32.ofInt (((x.toInt8.toInt32.toInt + 128).toNat : Int) - 128)).toInt
    rw [Int32.toInt_ofInt_of_le (by omega) (by omega)]
    omega
  rw [e]
  exact H _

theorem own_w {α : Type} {l : List α} {a : α} (i : Nat) (h : l[i]? = some a) : a ∈ l := List.mem_of_getElem? h

theorem d1_0 : decode jdk_29_method_69_code 0 = .ok (.iload_n 0, 1) := by decide +kernel
theorem d1_1 : decode jdk_29_method_69_code 1 = .ok (.iload_n 1, 1) := by decide +kernel
theorem d1_2 : decode jdk_29_method_69_code 2 = .ok (.if_icmp .gt 7, 3) := by decide +kernel
theorem d1_5 : decode jdk_29_method_69_code 5 = .ok (.iload_n 0, 1) := by decide +kernel
theorem d1_6 : decode jdk_29_method_69_code 6 = .ok (.goto 4, 3) := by decide +kernel
theorem d1_9 : decode jdk_29_method_69_code 9 = .ok (.iload_n 1, 1) := by decide +kernel
theorem d1_10 : decode jdk_29_method_69_code 10 = .ok (.ireturn, 1) := by decide +kernel
theorem ef_1 (m : MethodId) (p0 : Int32) (p1 : Int32) : entryFrame m #[(.int p0), (.int p1)] 2 = mkF m 0 #[.val (.int p0), .val (.int p1)] [] := by first | (simp [entryFrame, mkF, argsToLocals, Value.category]; done) | rfl
def own_f1 (p0 : Int32) (p1 : Int32) : Int32 := (if p1 < p0 then p1 else p0)
def Q1 (Z : State) (p0 : Int32) (p1 : Int32) (h0 : Heap) (n0 : Nat) (v : Option Value) (h : Heap) (L : List Loc) : Prop := v = some (.int (own_f1 p0 p1)) ∧ Fr n0 L ∧ h = h0
set_option maxRecDepth 65536 in
set_option maxHeartbeats 40000000 in
theorem rm1 (l : Launch) (Z : State) (aw : Array Value) (hw : ∀ d ∈ tables_1, d.before aw Z = true) (wq : List Jvm.Cond) (p0 : Int32) (p1 : Int32) (h0 : Heap) (n0 : Nat) (Z0 : n0 ≤ h0.size) :
    MetFree l (⟨"java/lang/Math", "min", "(II)I"⟩ : MethodName) (head1 (Jvm.Cond.code (⟨"java/lang/Math", "min", "(II)I"⟩ : MethodName) jdk_29_method_69_code 2 (some .int) :: wq) ({ frames := 0, cells := 0, slots := 0, locals := 0 } : Room)) (fun a U => a = #[(.int p0), (.int p1)] ∧ Z.Warmed39 U.vm ∧ U.heap = h0) (fun _ _ _ _ _ => True) (fun _ U o U' => ∃ v L, o = .returned v ∧ Q1 Z p0 p1 h0 n0 v U'.heap L ∧ FrameEnd U o U' L ({ frames := 0, cells := 0, slots := 0, locals := 0 } : Room).cells ({ frames := 0, cells := 0, slots := 0, locals := 0 } : Room).slots) := by
  refine MetFree.of_bodySF (Jvm.Free.JP.mathPlain rfl (by decide +kernel)) hisR ?_
  intro p e s m args below meth c s₁ Bd hml0 hP hK
  obtain ⟨rfl, hZ, hh⟩ := hP
  have hx := Bd.exec
  have hby := Bd.bytes
  have hml : c.maxLocals = 2 := hml0
  have hown : s.vm.findClass "java/lang/Math" = some m.cls := findClass_of_methodNamed Bd.named
  have hnm := (name_of_methodNamed Bd.named Bd.method).1
  have X0 : Stand p l e ({ frames := 0, cells := 0, slots := 0, locals := 0 } : Room) s m #[(.int p0), (.int p1)] below meth c s₁ [] 0 0 := Stand.of_body Bd
  have e0 : s₁.heap = h0 := by rw [← hh, Bd.state]; rfl
  have N0 := Fr.nil n0
  have pre0 : own_Pre p e below (s₁.setTop (entryFrame m #[(.int p0), (.int p1)] 2)) (s₁.setTop (mkF m 0 #[.val (.int p0), .val (.int p1)] [])) := fun t k => castTop (ef_1 m p0 p1) k
  have pre1 : own_Pre p e below (s₁.setTop (entryFrame m #[(.int p0), (.int p1)] 2)) (s₁.setTop (mkF m 2 #[.val (.int p0), .val (.int p1)] [(.int p1), (.int p0)])) := fun t k => pre0 t (by
      show Steps p.tables e below (s₁.setTop (mkF m 0 #[.val (.int p0), .val (.int p1)] [])) _
      refine XS.iloadN X0.here hx rfl (hb hby d1_0) rfl ?_
      refine XS.iloadN X0.here hx rfl (hb hby d1_1) rfl ?_
      exact k)
  by_cases hc2 : p1 < p0
  · obtain ⟨fs, hr, hrun, hended, hW, hsame⟩ := X0.leave (v := some (.int p1)) (fun h => by rw [Bd.returns] at h; cases h)
    refine ⟨_, _, pre1 _ ?_, hrun, hended, _, _, rfl, ?_, ⟨_, rfl⟩, hW, hsame.mono (by decide) (by decide)⟩
    · show Steps p.tables e below (s₁.setTop (mkF m 2 #[.val (.int p0), .val (.int p1)] [(.int p1), (.int p0)])) _
      refine XS.icmpYes X0.here hx rfl (pc0 := 2) (pc' := 9) rfl (hb hby d1_2) rfl (tlt hc2).2.2.1 (by decide) (by decide) ?_
      refine XS.iloadN X0.here hx rfl (hb hby d1_9) rfl ?_
      show Steps p.tables e below (s₁.setTop (mkF m 10 #[.val (.int p0), .val (.int p1)] [(.int p1)])) _
      exact retI X0 hx Bd.returns (hb hby d1_10) hr
    · show Q1 Z p0 p1 h0 n0 _ s₁.heap _
      rw [e0]
      unfold Q1
      refine ⟨?_, N0, rfl⟩
      · simp only [own_f1, if_pos hc2]
  · obtain ⟨fs, hr, hrun, hended, hW, hsame⟩ := X0.leave (v := some (.int p0)) (fun h => by rw [Bd.returns] at h; cases h)
    refine ⟨_, _, pre1 _ ?_, hrun, hended, _, _, rfl, ?_, ⟨_, rfl⟩, hW, hsame.mono (by decide) (by decide)⟩
    · show Steps p.tables e below (s₁.setTop (mkF m 2 #[.val (.int p0), .val (.int p1)] [(.int p1), (.int p0)])) _
      refine XS.icmpNo X0.here hx rfl (hb hby d1_2) rfl (flt hc2).2.2.1 ?_
      refine XS.iloadN X0.here hx rfl (hb hby d1_5) rfl ?_
      refine XS.goto X0.here hx rfl (pc0 := 6) (pc' := 10) rfl (hb hby d1_6) (by decide) (by decide) ?_
      show Steps p.tables e below (s₁.setTop (mkF m 10 #[.val (.int p0), .val (.int p1)] [(.int p0)])) _
      exact retI X0 hx Bd.returns (hb hby d1_10) hr
    · show Q1 Z p0 p1 h0 n0 _ s₁.heap _
      rw [e0]
      unfold Q1
      refine ⟨?_, N0, rfl⟩
      · simp only [own_f1, if_neg hc2]
theorem d2_0 : decode jdk_29_method_65_code 0 = .ok (.iload_n 0, 1) := by decide +kernel
theorem d2_1 : decode jdk_29_method_65_code 1 = .ok (.iload_n 1, 1) := by decide +kernel
theorem d2_2 : decode jdk_29_method_65_code 2 = .ok (.if_icmp .lt 7, 3) := by decide +kernel
theorem d2_5 : decode jdk_29_method_65_code 5 = .ok (.iload_n 0, 1) := by decide +kernel
theorem d2_6 : decode jdk_29_method_65_code 6 = .ok (.goto 4, 3) := by decide +kernel
theorem d2_9 : decode jdk_29_method_65_code 9 = .ok (.iload_n 1, 1) := by decide +kernel
theorem d2_10 : decode jdk_29_method_65_code 10 = .ok (.ireturn, 1) := by decide +kernel
theorem ef_2 (m : MethodId) (p0 : Int32) (p1 : Int32) : entryFrame m #[(.int p0), (.int p1)] 2 = mkF m 0 #[.val (.int p0), .val (.int p1)] [] := by first | (simp [entryFrame, mkF, argsToLocals, Value.category]; done) | rfl
def own_f2 (p0 : Int32) (p1 : Int32) : Int32 := (if p0 < p1 then p1 else p0)
def Q2 (Z : State) (p0 : Int32) (p1 : Int32) (h0 : Heap) (n0 : Nat) (v : Option Value) (h : Heap) (L : List Loc) : Prop := v = some (.int (own_f2 p0 p1)) ∧ Fr n0 L ∧ h = h0
set_option maxRecDepth 65536 in
set_option maxHeartbeats 40000000 in
theorem rm2 (l : Launch) (Z : State) (aw : Array Value) (hw : ∀ d ∈ tables_1, d.before aw Z = true) (wq : List Jvm.Cond) (p0 : Int32) (p1 : Int32) (h0 : Heap) (n0 : Nat) (Z0 : n0 ≤ h0.size) :
    MetFree l (⟨"java/lang/Math", "max", "(II)I"⟩ : MethodName) (head1 (Jvm.Cond.code (⟨"java/lang/Math", "max", "(II)I"⟩ : MethodName) jdk_29_method_65_code 2 (some .int) :: wq) ({ frames := 0, cells := 0, slots := 0, locals := 0 } : Room)) (fun a U => a = #[(.int p0), (.int p1)] ∧ Z.Warmed39 U.vm ∧ U.heap = h0) (fun _ _ _ _ _ => True) (fun _ U o U' => ∃ v L, o = .returned v ∧ Q2 Z p0 p1 h0 n0 v U'.heap L ∧ FrameEnd U o U' L ({ frames := 0, cells := 0, slots := 0, locals := 0 } : Room).cells ({ frames := 0, cells := 0, slots := 0, locals := 0 } : Room).slots) := by
  refine MetFree.of_bodySF (Jvm.Free.JP.mathPlain rfl (by decide +kernel)) hisR ?_
  intro p e s m args below meth c s₁ Bd hml0 hP hK
  obtain ⟨rfl, hZ, hh⟩ := hP
  have hx := Bd.exec
  have hby := Bd.bytes
  have hml : c.maxLocals = 2 := hml0
  have hown : s.vm.findClass "java/lang/Math" = some m.cls := findClass_of_methodNamed Bd.named
  have hnm := (name_of_methodNamed Bd.named Bd.method).1
  have X0 : Stand p l e ({ frames := 0, cells := 0, slots := 0, locals := 0 } : Room) s m #[(.int p0), (.int p1)] below meth c s₁ [] 0 0 := Stand.of_body Bd
  have e0 : s₁.heap = h0 := by rw [← hh, Bd.state]; rfl
  have N0 := Fr.nil n0
  have pre0 : own_Pre p e below (s₁.setTop (entryFrame m #[(.int p0), (.int p1)] 2)) (s₁.setTop (mkF m 0 #[.val (.int p0), .val (.int p1)] [])) := fun t k => castTop (ef_2 m p0 p1) k
  have pre1 : own_Pre p e below (s₁.setTop (entryFrame m #[(.int p0), (.int p1)] 2)) (s₁.setTop (mkF m 2 #[.val (.int p0), .val (.int p1)] [(.int p1), (.int p0)])) := fun t k => pre0 t (by
      show Steps p.tables e below (s₁.setTop (mkF m 0 #[.val (.int p0), .val (.int p1)] [])) _
      refine XS.iloadN X0.here hx rfl (hb hby d2_0) rfl ?_
      refine XS.iloadN X0.here hx rfl (hb hby d2_1) rfl ?_
      exact k)
  by_cases hc2 : p0 < p1
  · obtain ⟨fs, hr, hrun, hended, hW, hsame⟩ := X0.leave (v := some (.int p1)) (fun h => by rw [Bd.returns] at h; cases h)
    refine ⟨_, _, pre1 _ ?_, hrun, hended, _, _, rfl, ?_, ⟨_, rfl⟩, hW, hsame.mono (by decide) (by decide)⟩
    · show Steps p.tables e below (s₁.setTop (mkF m 2 #[.val (.int p0), .val (.int p1)] [(.int p1), (.int p0)])) _
      refine XS.icmpYes X0.here hx rfl (pc0 := 2) (pc' := 9) rfl (hb hby d2_2) rfl (tlt hc2).1 (by decide) (by decide) ?_
      refine XS.iloadN X0.here hx rfl (hb hby d2_9) rfl ?_
      show Steps p.tables e below (s₁.setTop (mkF m 10 #[.val (.int p0), .val (.int p1)] [(.int p1)])) _
      exact retI X0 hx Bd.returns (hb hby d2_10) hr
    · show Q2 Z p0 p1 h0 n0 _ s₁.heap _
      rw [e0]
      unfold Q2
      refine ⟨?_, N0, rfl⟩
      · simp only [own_f2, if_pos hc2]
  · obtain ⟨fs, hr, hrun, hended, hW, hsame⟩ := X0.leave (v := some (.int p0)) (fun h => by rw [Bd.returns] at h; cases h)
    refine ⟨_, _, pre1 _ ?_, hrun, hended, _, _, rfl, ?_, ⟨_, rfl⟩, hW, hsame.mono (by decide) (by decide)⟩
    · show Steps p.tables e below (s₁.setTop (mkF m 2 #[.val (.int p0), .val (.int p1)] [(.int p1), (.int p0)])) _
      refine XS.icmpNo X0.here hx rfl (hb hby d2_2) rfl (flt hc2).1 ?_
      refine XS.iloadN X0.here hx rfl (hb hby d2_5) rfl ?_
      refine XS.goto X0.here hx rfl (pc0 := 6) (pc' := 10) rfl (hb hby d2_6) (by decide) (by decide) ?_
      show Steps p.tables e below (s₁.setTop (mkF m 10 #[.val (.int p0), .val (.int p1)] [(.int p0)])) _
      exact retI X0 hx Bd.returns (hb hby d2_10) hr
    · show Q2 Z p0 p1 h0 n0 _ s₁.heap _
      rw [e0]
      unfold Q2
      refine ⟨?_, N0, rfl⟩
      · simp only [own_f2, if_neg hc2]
theorem d3_0 : decode prog_28_method_1_code 0 = .ok (.aload_n 0, 1) := by decide +kernel
theorem d3_1 : decode prog_28_method_1_code 1 = .ok (.invokespecial 1, 3) := by decide +kernel
theorem d3_4 : decode prog_28_method_1_code 4 = .ok (.aload_n 0, 1) := by decide +kernel
theorem d3_5 : decode prog_28_method_1_code 5 = .ok (.iconst 4, 1) := by decide +kernel
theorem d3_6 : decode prog_28_method_1_code 6 = .ok (.newarray .int, 2) := by decide +kernel
theorem d3_8 : decode prog_28_method_1_code 8 = .ok (.putfield 7, 3) := by decide +kernel
theorem d3_11 : decode prog_28_method_1_code 11 = .ok (.aload_n 0, 1) := by decide +kernel
theorem d3_12 : decode prog_28_method_1_code 12 = .ok (.iconst 4, 1) := by decide +kernel
theorem d3_13 : decode prog_28_method_1_code 13 = .ok (.newarray .int, 2) := by decide +kernel
theorem d3_15 : decode prog_28_method_1_code 15 = .ok (.putfield 13, 3) := by decide +kernel
theorem d3_18 : decode prog_28_method_1_code 18 = .ok (.aload_n 0, 1) := by decide +kernel
theorem d3_19 : decode prog_28_method_1_code 19 = .ok (.iconst 4, 1) := by decide +kernel
theorem d3_20 : decode prog_28_method_1_code 20 = .ok (.newarray .int, 2) := by decide +kernel
theorem d3_22 : decode prog_28_method_1_code 22 = .ok (.putfield 16, 3) := by decide +kernel
theorem d3_25 : decode prog_28_method_1_code 25 = .ok (.return_, 1) := by decide +kernel
theorem pn_0 : plainName "com/example/trawl/trawl/load/ColumnShifts" = true := by first | (simp [plainName, overriddenIn]; done) | decide +kernel
theorem ef_3 (m : MethodId) (a0 : Addr) : entryFrame m #[(.ref a0)] 1 = mkF m 0 #[.val (.ref a0)] [] := by first | (simp [entryFrame, mkF, argsToLocals, Value.category]; done) | rfl
def Q3 (Z : State) (a0 : Addr) (h0 : Heap) (n0 : Nat) (v : Option Value) (h : Heap) (L : List Loc) : Prop := ∃ (la : Addr) (ea : Addr) (ca : Addr) (kl : ClassId) (ke : ClassId) (kc : ClassId), v = none ∧ Fr n0 L ∧ Keep h0 h [a0] ∧ Exa Z h a0 "com/example/trawl/trawl/load/ColumnShifts" ∧ h0.size ≤ la ∧ h0.size ≤ ea ∧ h0.size ≤ ca ∧ la ≠ ea ∧ la ≠ ca ∧ ea ≠ ca ∧ Fld Z h a0 "com/example/trawl/trawl/load/ColumnShifts" "lines" "[I" (.ref la) ∧ Fld Z h a0 "com/example/trawl/trawl/load/ColumnShifts" "ends" "[I" (.ref ea) ∧ Fld Z h a0 "com/example/trawl/trawl/load/ColumnShifts" "changes" "[I" (.ref ca) ∧ Fld Z h a0 "com/example/trawl/trawl/load/ColumnShifts" "first" "I" (.int (0 : Int32)) ∧ Fld Z h a0 "com/example/trawl/trawl/load/ColumnShifts" "end" "I" (.int (0 : Int32)) ∧ Fld Z h a0 "com/example/trawl/trawl/load/ColumnShifts" "recordedLine" "I" (.int (0 : Int32)) ∧ Fld Z h a0 "com/example/trawl/trawl/load/ColumnShifts" "recordedChange" "I" (.int (0 : Int32)) ∧ Fld Z h a0 "com/example/trawl/trawl/load/ColumnShifts" "askedLine" "I" (.int (0 : Int32)) ∧ Fld Z h a0 "com/example/trawl/trawl/load/ColumnShifts" "passedChange" "I" (.int (0 : Int32)) ∧ own_AI Z h la kl .int (4 : Int32) (List.replicate 4 (0 : Int32)) ∧ own_AI Z h ea ke .int (4 : Int32) (List.replicate 4 (0 : Int32)) ∧ own_AI Z h ca kc .int (4 : Int32) (List.replicate 4 (0 : Int32))
set_option maxRecDepth 65536 in
set_option maxHeartbeats 40000000 in
theorem rm3 (l : Launch) (Z : State) (aw : Array Value) (hw : ∀ d ∈ tables_1, d.before aw Z = true) (wq : List Jvm.Cond) (a0 : Addr) (h0 : Heap) (n0 : Nat) (Z0 : n0 ≤ h0.size) (E_a0 : Exa Z h0 a0 "com/example/trawl/trawl/load/ColumnShifts") (F_a0_lines : Fld Z h0 a0 "com/example/trawl/trawl/load/ColumnShifts" "lines" "[I" .null) (F_a0_ends : Fld Z h0 a0 "com/example/trawl/trawl/load/ColumnShifts" "ends" "[I" .null) (F_a0_changes : Fld Z h0 a0 "com/example/trawl/trawl/load/ColumnShifts" "changes" "[I" .null) (F_a0_first : Fld Z h0 a0 "com/example/trawl/trawl/load/ColumnShifts" "first" "I" (.int (0 : Int32))) (F_a0_end : Fld Z h0 a0 "com/example/trawl/trawl/load/ColumnShifts" "end" "I" (.int (0 : Int32))) (F_a0_recordedLine : Fld Z h0 a0 "com/example/trawl/trawl/load/ColumnShifts" "recordedLine" "I" (.int (0 : Int32))) (F_a0_recordedChange : Fld Z h0 a0 "com/example/trawl/trawl/load/ColumnShifts" "recordedChange" "I" (.int (0 : Int32))) (F_a0_askedLine : Fld Z h0 a0 "com/example/trawl/trawl/load/ColumnShifts" "askedLine" "I" (.int (0 : Int32))) (F_a0_passedChange : Fld Z h0 a0 "com/example/trawl/trawl/load/ColumnShifts" "passedChange" "I" (.int (0 : Int32))) (g_a0 : n0 ≤ a0) :
    MetFree l (⟨"com/example/trawl/trawl/load/ColumnShifts", "<init>", "()V"⟩ : MethodName) (head1 (Jvm.Cond.code (⟨"com/example/trawl/trawl/load/ColumnShifts", "<init>", "()V"⟩ : MethodName) prog_28_method_1_code 1 none :: wq) ({ frames := 1, cells := 3, slots := 12, locals := 12 } : Room)) (fun a U => a = #[(.ref a0)] ∧ Z.Warmed39 U.vm ∧ U.heap = h0) (fun _ _ _ _ _ => True) (fun _ U o U' => ∃ v L, o = .returned v ∧ Q3 Z a0 h0 n0 v U'.heap L ∧ FrameEnd U o U' L ({ frames := 1, cells := 3, slots := 12, locals := 12 } : Room).cells ({ frames := 1, cells := 3, slots := 12, locals := 12 } : Room).slots) := by
  refine MetFree.of_bodySF (plainFor_of_name pn_0) hisR ?_
  intro p e s m args below meth c s₁ Bd hml0 hP hK
  obtain ⟨rfl, hZ, hh⟩ := hP
  have hx := Bd.exec
  have hby := Bd.bytes
  have hml : c.maxLocals = 1 := hml0
  have hown : s.vm.findClass "com/example/trawl/trawl/load/ColumnShifts" = some m.cls := findClass_of_methodNamed Bd.named
  have hnm := (name_of_methodNamed Bd.named Bd.method).1
  have X0 : Stand p l e ({ frames := 1, cells := 3, slots := 12, locals := 12 } : Room) s m #[(.ref a0)] below meth c s₁ [] 0 0 := Stand.of_body Bd
  have e0 : s₁.heap = h0 := by rw [← hh, Bd.state]; rfl
  have N0 := Fr.nil n0
  have pre0 : own_Pre p e below (s₁.setTop (entryFrame m #[(.ref a0)] 1)) (s₁.setTop (mkF m 0 #[.val (.ref a0)] [])) := fun t k => castTop (ef_3 m a0) k
  obtain ⟨T1, X1, e1, st1⟩ := initO X0 hx hZ hown (hw _ (own_w 13 rfl)) (hw _ (own_w 14 rfl)) (hw _ (own_w 15 rfl)) e0 (g := (mkF m 1 #[.val (.ref a0)] [(.ref a0)])) rfl (by rw [hml]; rfl) rfl (hb hby d3_1) (by decide) (W := 0) (by show 2 * 0 + _ ≤ _; exact Nat.le_of_eq rfl) (by decide)
  obtain ⟨T2, h2, k2, X2, e2, E2, A2, st2⟩ := newP X1 hx hZ (hw _ (own_w 16 rfl)) e1 (g := (mkF m 6 #[.val (.ref a0)] [(.int (4 : Int32)), (.ref a0)])) rfl (hb hby d3_6) rfl (by decide) (cap := 4) (by decide) (by decide) (by decide) (by decide)
  obtain ⟨la, gq2⟩ : ∃ z, z = (h0).size := ⟨_, rfl⟩
  rw [← gq2] at A2 st2
  have ne_a0_la : a0 ≠ la := Nat.ne_of_lt (Nat.lt_of_lt_of_le E_a0.lt (Nat.le_of_eq gq2.symm))
  have g_la : n0 ≤ la := Nat.le_trans Z0 (Nat.le_of_eq gq2.symm)
  have sz_la : h0.size ≤ la := Nat.le_trans (Keep.refl h0 [a0]).1 (Nat.le_of_eq gq2.symm)
  have kp3 : Keep h0 h2 [a0] := (Keep.refl h0 [a0]).ext E2
  have V_la : own_AI Z h2 la k2 .int (4 : Int32) (List.replicate 4 (0 : Int32)) := own_AI.new 4 A2 (by decide) (by decide) rfl
  have f4 := (E_a0.ext E2)
  have f5 := (F_a0_lines.ext E2)
  obtain ⟨T6, h6, X6, e6, W6, st6⟩ := putF X2 hx hZ hown (host := "") (Or.inl (hw _ (own_w 17 rfl))) Via.refl e2 f5 f4 (Or.inl (hw _ (own_w 18 rfl))) (hw _ (own_w 8 rfl)) (ty := (.array .int)) (by decide) rfl rfl (g := (mkF m 8 #[.val (.ref a0)] [(.ref la), (.ref a0)])) rfl rfl (hb hby d3_8)
  have Fw6 := f5.same W6
  have N6 := Fr.snoc X6 N0 g_a0
  have kp7 : Keep h0 h6 [a0] := kp3.wr W6 (Or.inl (own_w 0 rfl))
  have z9 : n0 ≤ (h6).size := (Nat.le_trans (Nat.le_trans Z0 E2.1) (Keep.of_wr W6).1)
  obtain ⟨T8, h8, k8, X8, e8, E8, A8, st8⟩ := newP X6 hx hZ (hw _ (own_w 16 rfl)) e6 (g := (mkF m 13 #[.val (.ref a0)] [(.int (4 : Int32)), (.ref a0)])) rfl (hb hby d3_13) rfl (by decide) (cap := 4) (by decide) (by decide) (by decide) (by decide)
  obtain ⟨ea, gq8⟩ : ∃ z, z = (h6).size := ⟨_, rfl⟩
  rw [← gq8] at A8 st8
  have f10 := (f4.wr W6)
  have ne_a0_ea : a0 ≠ ea := Nat.ne_of_lt (Nat.lt_of_lt_of_le f10.lt (Nat.le_of_eq gq8.symm))
  have f11 := (V_la.other W6 (Ne.symm ne_a0_la))
  have ne_la_ea : la ≠ ea := Nat.ne_of_lt (Nat.lt_of_lt_of_le f11.lt (Nat.le_of_eq gq8.symm))
  have g_ea : n0 ≤ ea := Nat.le_trans z9 (Nat.le_of_eq gq8.symm)
  have sz_ea : h0.size ≤ ea := Nat.le_trans kp7.1 (Nat.le_of_eq gq8.symm)
  have kp12 : Keep h0 h8 [a0] := kp7.ext E8
  have V_ea : own_AI Z h8 ea k8 .int (4 : Int32) (List.replicate 4 (0 : Int32)) := own_AI.new 4 A8 (by decide) (by decide) rfl
  have f13 := (f10.ext E8)
  have f14 := (((F_a0_ends.ext E2).other W6 (Or.inr (slot_ne (Or.inl (hw _ (own_w 20 rfl))) (Or.inl (hw _ (own_w 18 rfl))) (by decide) (t := (.array .int)) (t' := (.array .int)) (by decide) (by decide)))).ext E8)
  obtain ⟨T15, h15, X15, e15, W15, st15⟩ := putF X8 hx hZ hown (host := "") (Or.inl (hw _ (own_w 19 rfl))) Via.refl e8 f14 f13 (Or.inl (hw _ (own_w 20 rfl))) (hw _ (own_w 8 rfl)) (ty := (.array .int)) (by decide) rfl rfl (g := (mkF m 15 #[.val (.ref a0)] [(.ref ea), (.ref a0)])) rfl rfl (hb hby d3_15)
  have Fw15 := f14.same W15
  have N15 := Fr.snoc X15 N6 g_a0
  have kp16 : Keep h0 h15 [a0] := kp12.wr W15 (Or.inl (own_w 0 rfl))
  have z18 : n0 ≤ (h15).size := (Nat.le_trans (Nat.le_trans z9 E8.1) (Keep.of_wr W15).1)
  obtain ⟨T17, h17, k17, X17, e17, E17, A17, st17⟩ := newP X15 hx hZ (hw _ (own_w 16 rfl)) e15 (g := (mkF m 20 #[.val (.ref a0)] [(.int (4 : Int32)), (.ref a0)])) rfl (hb hby d3_20) rfl (by decide) (cap := 4) (by decide) (by decide) (by decide) (by decide)
  obtain ⟨ca, gq17⟩ : ∃ z, z = (h15).size := ⟨_, rfl⟩
  rw [← gq17] at A17 st17
  have f19 := (f13.wr W15)
  have ne_a0_ca : a0 ≠ ca := Nat.ne_of_lt (Nat.lt_of_lt_of_le f19.lt (Nat.le_of_eq gq17.symm))
  have f20 := (V_ea.other W15 (Ne.symm ne_a0_ea))
  have ne_ea_ca : ea ≠ ca := Nat.ne_of_lt (Nat.lt_of_lt_of_le f20.lt (Nat.le_of_eq gq17.symm))
  have f21 := ((f11.ext E8).other W15 (Ne.symm ne_a0_la))
  have ne_la_ca : la ≠ ca := Nat.ne_of_lt (Nat.lt_of_lt_of_le f21.lt (Nat.le_of_eq gq17.symm))
  have g_ca : n0 ≤ ca := Nat.le_trans z18 (Nat.le_of_eq gq17.symm)
  have sz_ca : h0.size ≤ ca := Nat.le_trans kp16.1 (Nat.le_of_eq gq17.symm)
  have kp22 : Keep h0 h17 [a0] := kp16.ext E17
  have V_ca : own_AI Z h17 ca k17 .int (4 : Int32) (List.replicate 4 (0 : Int32)) := own_AI.new 4 A17 (by decide) (by decide) rfl
  have f23 := (f19.ext E17)
  have f24 := (((((F_a0_changes.ext E2).other W6 (Or.inr (slot_ne (Or.inl (hw _ (own_w 22 rfl))) (Or.inl (hw _ (own_w 18 rfl))) (by decide) (t := (.array .int)) (t' := (.array .int)) (by decide) (by decide)))).ext E8).other W15 (Or.inr (slot_ne (Or.inl (hw _ (own_w 22 rfl))) (Or.inl (hw _ (own_w 20 rfl))) (by decide) (t := (.array .int)) (t' := (.array .int)) (by decide) (by decide)))).ext E17)
  obtain ⟨T25, h25, X25, e25, W25, st25⟩ := putF X17 hx hZ hown (host := "") (Or.inl (hw _ (own_w 21 rfl))) Via.refl e17 f24 f23 (Or.inl (hw _ (own_w 22 rfl))) (hw _ (own_w 8 rfl)) (ty := (.array .int)) (by decide) rfl rfl (g := (mkF m 22 #[.val (.ref a0)] [(.ref ca), (.ref a0)])) rfl rfl (hb hby d3_22)
  have Fw25 := f24.same W25
  have N25 := Fr.snoc X25 N15 g_a0
  have kp26 : Keep h0 h25 [a0] := kp22.wr W25 (Or.inl (own_w 0 rfl))
  obtain ⟨fs, hr, hrun, hended, hW, hsame⟩ := X25.leave (v := none) (fun _ => rfl)
  refine ⟨_, _, pre0 _ ?_, hrun, hended, _, _, rfl, ?_, ⟨_, rfl⟩, hW, hsame.mono (by decide) (by decide)⟩
  · show Steps p.tables e below (s₁.setTop (mkF m 0 #[.val (.ref a0)] [])) _
    refine XS.aloadN X0.here hx rfl (hb hby d3_0) rfl rfl ?_
    refine st1 _ ?_
    refine XS.aloadN X1.here hx rfl (hb hby d3_4) rfl rfl ?_
    refine XS.iconst X1.here hx rfl (hb hby d3_5) ?_
    refine st2 _ ?_
    show Steps p.tables e below (T2.setTop (mkF m 8 #[.val (.ref a0)] [(.ref la), (.ref a0)])) _
    refine st6 _ ?_
    refine XS.aloadN X6.here hx rfl (hb hby d3_11) rfl rfl ?_
    refine XS.iconst X6.here hx rfl (hb hby d3_12) ?_
    refine st8 _ ?_
    refine st15 _ ?_
    show Steps p.tables e below (T15.setTop (mkF m 18 #[.val (.ref a0)] [])) _
    refine XS.aloadN X15.here hx rfl (hb hby d3_18) rfl rfl ?_
    refine XS.iconst X15.here hx rfl (hb hby d3_19) ?_
    refine st17 _ ?_
    refine st25 _ ?_
    show Steps p.tables e below (T25.setTop (mkF m 25 #[.val (.ref a0)] [])) _
    exact X25.returnOut hx Bd.returns (hb hby d3_25) hr
  · show Q3 Z a0 h0 n0 _ T25.heap _
    rw [e25]
    unfold Q3
    have f27 := (f23.wr W25)
    have f28 := ((((Fw6.ext E8).other W15 (Or.inr (slot_ne (Or.inl (hw _ (own_w 18 rfl))) (Or.inl (hw _ (own_w 20 rfl))) (by decide) (t := (.array .int)) (t' := (.array .int)) (by decide) (by decide)))).ext E17).other W25 (Or.inr (slot_ne (Or.inl (hw _ (own_w 18 rfl))) (Or.inl (hw _ (own_w 22 rfl))) (by decide) (t := (.array .int)) (t' := (.array .int)) (by decide) (by decide))))
    have f29 := ((Fw15.ext E17).other W25 (Or.inr (slot_ne (Or.inl (hw _ (own_w 20 rfl))) (Or.inl (hw _ (own_w 22 rfl))) (by decide) (t := (.array .int)) (t' := (.array .int)) (by decide) (by decide))))
    have f30 := ((((((F_a0_first.ext E2).other W6 (Or.inr (slot_ne (Or.inl (hw _ (own_w 33 rfl))) (Or.inl (hw _ (own_w 18 rfl))) (by decide) (t := .int) (t' := (.array .int)) (by decide) (by decide)))).ext E8).other W15 (Or.inr (slot_ne (Or.inl (hw _ (own_w 33 rfl))) (Or.inl (hw _ (own_w 20 rfl))) (by decide) (t := .int) (t' := (.array .int)) (by decide) (by decide)))).ext E17).other W25 (Or.inr (slot_ne (Or.inl (hw _ (own_w 33 rfl))) (Or.inl (hw _ (own_w 22 rfl))) (by decide) (t := .int) (t' := (.array .int)) (by decide) (by decide))))
    have f31 := ((((((F_a0_end.ext E2).other W6 (Or.inr (slot_ne (Or.inl (hw _ (own_w 35 rfl))) (Or.inl (hw _ (own_w 18 rfl))) (by decide) (t := .int) (t' := (.array .int)) (by decide) (by decide)))).ext E8).other W15 (Or.inr (slot_ne (Or.inl (hw _ (own_w 35 rfl))) (Or.inl (hw _ (own_w 20 rfl))) (by decide) (t := .int) (t' := (.array .int)) (by decide) (by decide)))).ext E17).other W25 (Or.inr (slot_ne (Or.inl (hw _ (own_w 35 rfl))) (Or.inl (hw _ (own_w 22 rfl))) (by decide) (t := .int) (t' := (.array .int)) (by decide) (by decide))))
    have f32 := ((((((F_a0_recordedLine.ext E2).other W6 (Or.inr (slot_ne (Or.inl (hw _ (own_w 46 rfl))) (Or.inl (hw _ (own_w 18 rfl))) (by decide) (t := .int) (t' := (.array .int)) (by decide) (by decide)))).ext E8).other W15 (Or.inr (slot_ne (Or.inl (hw _ (own_w 46 rfl))) (Or.inl (hw _ (own_w 20 rfl))) (by decide) (t := .int) (t' := (.array .int)) (by decide) (by decide)))).ext E17).other W25 (Or.inr (slot_ne (Or.inl (hw _ (own_w 46 rfl))) (Or.inl (hw _ (own_w 22 rfl))) (by decide) (t := .int) (t' := (.array .int)) (by decide) (by decide))))
    have f33 := ((((((F_a0_recordedChange.ext E2).other W6 (Or.inr (slot_ne (Or.inl (hw _ (own_w 48 rfl))) (Or.inl (hw _ (own_w 18 rfl))) (by decide) (t := .int) (t' := (.array .int)) (by decide) (by decide)))).ext E8).other W15 (Or.inr (slot_ne (Or.inl (hw _ (own_w 48 rfl))) (Or.inl (hw _ (own_w 20 rfl))) (by decide) (t := .int) (t' := (.array .int)) (by decide) (by decide)))).ext E17).other W25 (Or.inr (slot_ne (Or.inl (hw _ (own_w 48 rfl))) (Or.inl (hw _ (own_w 22 rfl))) (by decide) (t := .int) (t' := (.array .int)) (by decide) (by decide))))
    have f34 := ((((((F_a0_askedLine.ext E2).other W6 (Or.inr (slot_ne (Or.inl (hw _ (own_w 29 rfl))) (Or.inl (hw _ (own_w 18 rfl))) (by decide) (t := .int) (t' := (.array .int)) (by decide) (by decide)))).ext E8).other W15 (Or.inr (slot_ne (Or.inl (hw _ (own_w 29 rfl))) (Or.inl (hw _ (own_w 20 rfl))) (by decide) (t := .int) (t' := (.array .int)) (by decide) (by decide)))).ext E17).other W25 (Or.inr (slot_ne (Or.inl (hw _ (own_w 29 rfl))) (Or.inl (hw _ (own_w 22 rfl))) (by decide) (t := .int) (t' := (.array .int)) (by decide) (by decide))))
    have f35 := ((((((F_a0_passedChange.ext E2).other W6 (Or.inr (slot_ne (Or.inl (hw _ (own_w 31 rfl))) (Or.inl (hw _ (own_w 18 rfl))) (by decide) (t := .int) (t' := (.array .int)) (by decide) (by decide)))).ext E8).other W15 (Or.inr (slot_ne (Or.inl (hw _ (own_w 31 rfl))) (Or.inl (hw _ (own_w 20 rfl))) (by decide) (t := .int) (t' := (.array .int)) (by decide) (by decide)))).ext E17).other W25 (Or.inr (slot_ne (Or.inl (hw _ (own_w 31 rfl))) (Or.inl (hw _ (own_w 22 rfl))) (by decide) (t := .int) (t' := (.array .int)) (by decide) (by decide))))
    have f36 := ((f21.ext E17).other W25 (Ne.symm ne_a0_la))
    have f37 := ((f20.ext E17).other W25 (Ne.symm ne_a0_ea))
    have f38 := (V_ca.other W25 (Ne.symm ne_a0_ca))
    refine ⟨la, ea, ca, k2, k8, k17, rfl, N25, kp26, f27, sz_la, sz_ea, sz_ca, ne_la_ea, ne_la_ca, ne_ea_ca, ?_, ?_, ?_, ?_, ?_, ?_, ?_, ?_, ?_, ?_, ?_, ?_⟩
    · exact f28
    · exact f29
    · exact Fw25
    · exact f30
    · exact f31
    · exact f32
    · exact f33
    · exact f34
    · exact f35
    · exact f36
    · exact f37
    · exact f38
theorem d7_0 : decode prog_28_method_2_code 0 = .ok (.iload_n 1, 1) := by decide +kernel
theorem d7_1 : decode prog_28_method_2_code 1 = .ok (.aload_n 0, 1) := by decide +kernel
theorem d7_2 : decode prog_28_method_2_code 2 = .ok (.getfield 19, 3) := by decide +kernel
theorem d7_5 : decode prog_28_method_2_code 5 = .ok (.if_icmp .eq 13, 3) := by decide +kernel
theorem d7_8 : decode prog_28_method_2_code 8 = .ok (.aload_n 0, 1) := by decide +kernel
theorem d7_9 : decode prog_28_method_2_code 9 = .ok (.iload_n 1, 1) := by decide +kernel
theorem d7_10 : decode prog_28_method_2_code 10 = .ok (.putfield 19, 3) := by decide +kernel
theorem d7_13 : decode prog_28_method_2_code 13 = .ok (.aload_n 0, 1) := by decide +kernel
theorem d7_14 : decode prog_28_method_2_code 14 = .ok (.iconst 0, 1) := by decide +kernel
theorem d7_15 : decode prog_28_method_2_code 15 = .ok (.putfield 23, 3) := by decide +kernel
theorem d7_18 : decode prog_28_method_2_code 18 = .ok (.aload_n 0, 1) := by decide +kernel
theorem d7_19 : decode prog_28_method_2_code 19 = .ok (.getfield 26, 3) := by decide +kernel
theorem d7_22 : decode prog_28_method_2_code 22 = .ok (.aload_n 0, 1) := by decide +kernel
theorem d7_23 : decode prog_28_method_2_code 23 = .ok (.getfield 7, 3) := by decide +kernel
theorem d7_26 : decode prog_28_method_2_code 26 = .ok (.arraylength, 1) := by decide +kernel
theorem d7_27 : decode prog_28_method_2_code 27 = .ok (.if_icmp .ne 7, 3) := by decide +kernel
theorem d7_34 : decode prog_28_method_2_code 34 = .ok (.aload_n 0, 1) := by decide +kernel
theorem d7_35 : decode prog_28_method_2_code 35 = .ok (.getfield 7, 3) := by decide +kernel
theorem d7_38 : decode prog_28_method_2_code 38 = .ok (.aload_n 0, 1) := by decide +kernel
theorem d7_39 : decode prog_28_method_2_code 39 = .ok (.getfield 26, 3) := by decide +kernel
theorem d7_42 : decode prog_28_method_2_code 42 = .ok (.iload_n 1, 1) := by decide +kernel
theorem d7_43 : decode prog_28_method_2_code 43 = .ok (.iastore, 1) := by decide +kernel
theorem d7_44 : decode prog_28_method_2_code 44 = .ok (.aload_n 0, 1) := by decide +kernel
theorem d7_45 : decode prog_28_method_2_code 45 = .ok (.getfield 13, 3) := by decide +kernel
theorem d7_48 : decode prog_28_method_2_code 48 = .ok (.aload_n 0, 1) := by decide +kernel
theorem d7_49 : decode prog_28_method_2_code 49 = .ok (.getfield 26, 3) := by decide +kernel
theorem d7_52 : decode prog_28_method_2_code 52 = .ok (.iload_n 2, 1) := by decide +kernel
theorem d7_53 : decode prog_28_method_2_code 53 = .ok (.aload_n 0, 1) := by decide +kernel
theorem d7_54 : decode prog_28_method_2_code 54 = .ok (.getfield 23, 3) := by decide +kernel
theorem d7_57 : decode prog_28_method_2_code 57 = .ok (.iadd, 1) := by decide +kernel
theorem d7_58 : decode prog_28_method_2_code 58 = .ok (.iload 4, 2) := by decide +kernel
theorem d7_60 : decode prog_28_method_2_code 60 = .ok (.iadd, 1) := by decide +kernel
theorem d7_61 : decode prog_28_method_2_code 61 = .ok (.iastore, 1) := by decide +kernel
theorem d7_62 : decode prog_28_method_2_code 62 = .ok (.aload_n 0, 1) := by decide +kernel
theorem d7_63 : decode prog_28_method_2_code 63 = .ok (.getfield 16, 3) := by decide +kernel
theorem d7_66 : decode prog_28_method_2_code 66 = .ok (.aload_n 0, 1) := by decide +kernel
theorem d7_67 : decode prog_28_method_2_code 67 = .ok (.getfield 26, 3) := by decide +kernel
theorem d7_70 : decode prog_28_method_2_code 70 = .ok (.iload 4, 2) := by decide +kernel
theorem d7_72 : decode prog_28_method_2_code 72 = .ok (.iload_n 3, 1) := by decide +kernel
theorem d7_73 : decode prog_28_method_2_code 73 = .ok (.isub, 1) := by decide +kernel
theorem d7_74 : decode prog_28_method_2_code 74 = .ok (.iastore, 1) := by decide +kernel
theorem d7_75 : decode prog_28_method_2_code 75 = .ok (.aload_n 0, 1) := by decide +kernel
theorem d7_76 : decode prog_28_method_2_code 76 = .ok (.dup, 1) := by decide +kernel
theorem d7_77 : decode prog_28_method_2_code 77 = .ok (.getfield 26, 3) := by decide +kernel
theorem d7_80 : decode prog_28_method_2_code 80 = .ok (.iconst 1, 1) := by decide +kernel
theorem d7_81 : decode prog_28_method_2_code 81 = .ok (.iadd, 1) := by decide +kernel
theorem d7_82 : decode prog_28_method_2_code 82 = .ok (.putfield 26, 3) := by decide +kernel
theorem d7_85 : decode prog_28_method_2_code 85 = .ok (.aload_n 0, 1) := by decide +kernel
theorem d7_86 : decode prog_28_method_2_code 86 = .ok (.dup, 1) := by decide +kernel
theorem d7_87 : decode prog_28_method_2_code 87 = .ok (.getfield 23, 3) := by decide +kernel
theorem d7_90 : decode prog_28_method_2_code 90 = .ok (.iload 4, 2) := by decide +kernel
theorem d7_92 : decode prog_28_method_2_code 92 = .ok (.iload_n 3, 1) := by decide +kernel
theorem d7_93 : decode prog_28_method_2_code 93 = .ok (.isub, 1) := by decide +kernel
theorem d7_94 : decode prog_28_method_2_code 94 = .ok (.iadd, 1) := by decide +kernel
theorem d7_95 : decode prog_28_method_2_code 95 = .ok (.putfield 23, 3) := by decide +kernel
theorem d7_98 : decode prog_28_method_2_code 98 = .ok (.return_, 1) := by decide +kernel
theorem ef_7_0 (m : MethodId) (a0 : Addr) (p1 : Int32) (p2 : Int32) (p3 : Int32) (p4 : Int32) : entryFrame m #[(.ref a0), (.int p1), (.int p2), (.int p3), (.int p4)] 5 = mkF m 0 #[.val (.ref a0), .val (.int p1), .val (.int p2), .val (.int p3), .val (.int p4)] [] := by first | (simp [entryFrame, mkF, argsToLocals, Value.category]; done) | rfl
def own_p7_0_la (p1 : Int32) (wl : List Int32) : List Int32 := ((wl.set 0 p1))
def own_p7_0_ea (p1 : Int32) (p2 : Int32) (p4 : Int32) (we : List Int32) (rl : Int32) (rc : Int32) : List Int32 := (if p1 = rl then ((we.set 0 ((p2 + rc) + p4))) else ((we.set 0 ((p2 + (0 : Int32)) + p4))))
def own_p7_0_ca (p3 : Int32) (p4 : Int32) (wc : List Int32) : List Int32 := ((wc.set 0 (p4 - p3)))
def own_p7_0_recordedChange (p1 : Int32) (p3 : Int32) (p4 : Int32) (rl : Int32) (rc : Int32) : Int32 := (if p1 = rl then (rc + (p4 - p3)) else ((0 : Int32) + (p4 - p3)))
def Q7_0 (Z : State) (a0 : Addr) (p1 : Int32) (p2 : Int32) (p3 : Int32) (p4 : Int32) (la : Addr) (ea : Addr) (ca : Addr) (kl : ClassId) (ke : ClassId) (kc : ClassId) (wl : List Int32) (we : List Int32) (wc : List Int32) (rl : Int32) (rc : Int32) (h0 : Heap) (n0 : Nat) (v : Option Value) (h : Heap) (L : List Loc) : Prop := v = none ∧ Fr n0 L ∧ Keep h0 h [a0, la, ea, ca] ∧ Exa Z h a0 "com/example/trawl/trawl/load/ColumnShifts" ∧ Fld Z h a0 "com/example/trawl/trawl/load/ColumnShifts" "lines" "[I" (.ref la) ∧ Fld Z h a0 "com/example/trawl/trawl/load/ColumnShifts" "ends" "[I" (.ref ea) ∧ Fld Z h a0 "com/example/trawl/trawl/load/ColumnShifts" "changes" "[I" (.ref ca) ∧ own_AI Z h la kl .int (4 : Int32) (own_p7_0_la p1 wl) ∧ own_AI Z h ea ke .int (4 : Int32) (own_p7_0_ea p1 p2 p4 we rl rc) ∧ own_AI Z h ca kc .int (4 : Int32) (own_p7_0_ca p3 p4 wc) ∧ Fld Z h a0 "com/example/trawl/trawl/load/ColumnShifts" "first" "I" (.int (0 : Int32)) ∧ Fld Z h a0 "com/example/trawl/trawl/load/ColumnShifts" "end" "I" (.int (1 : Int32)) ∧ Fld Z h a0 "com/example/trawl/trawl/load/ColumnShifts" "recordedLine" "I" (.int p1) ∧ Fld Z h a0 "com/example/trawl/trawl/load/ColumnShifts" "recordedChange" "I" (.int (own_p7_0_recordedChange p1 p3 p4 rl rc)) ∧ Fld Z h a0 "com/example/trawl/trawl/load/ColumnShifts" "askedLine" "I" (.int (0 : Int32)) ∧ Fld Z h a0 "com/example/trawl/trawl/load/ColumnShifts" "passedChange" "I" (.int (0 : Int32))
set_option maxRecDepth 65536 in
set_option maxHeartbeats 40000000 in
theorem rm7_0 (l : Launch) (Z : State) (aw : Array Value) (hw : ∀ d ∈ tables_1, d.before aw Z = true) (wq : List Jvm.Cond) (a0 : Addr) (p1 : Int32) (p2 : Int32) (p3 : Int32) (p4 : Int32) (la : Addr) (ea : Addr) (ca : Addr) (kl : ClassId) (ke : ClassId) (kc : ClassId) (wl : List Int32) (we : List Int32) (wc : List Int32) (rl : Int32) (rc : Int32) (h0 : Heap) (n0 : Nat) (Z0 : n0 ≤ h0.size) (E_a0 : Exa Z h0 a0 "com/example/trawl/trawl/load/ColumnShifts") (F_a0_lines : Fld Z h0 a0 "com/example/trawl/trawl/load/ColumnShifts" "lines" "[I" (.ref la)) (F_a0_ends : Fld Z h0 a0 "com/example/trawl/trawl/load/ColumnShifts" "ends" "[I" (.ref ea)) (F_a0_changes : Fld Z h0 a0 "com/example/trawl/trawl/load/ColumnShifts" "changes" "[I" (.ref ca)) (V_la : own_AI Z h0 la kl .int (4 : Int32) wl) (V_ea : own_AI Z h0 ea ke .int (4 : Int32) we) (V_ca : own_AI Z h0 ca kc .int (4 : Int32) wc) (ne_la_ea : la ≠ ea) (ne_la_ca : la ≠ ca) (ne_ea_ca : ea ≠ ca) (ne_a0_la : a0 ≠ la) (ne_a0_ea : a0 ≠ ea) (ne_a0_ca : a0 ≠ ca) (g_a0 : n0 ≤ a0) (g_la : n0 ≤ la) (g_ea : n0 ≤ ea) (g_ca : n0 ≤ ca) (F_a0_first : Fld Z h0 a0 "com/example/trawl/trawl/load/ColumnShifts" "first" "I" (.int (0 : Int32))) (F_a0_end : Fld Z h0 a0 "com/example/trawl/trawl/load/ColumnShifts" "end" "I" (.int (0 : Int32))) (F_a0_recordedLine : Fld Z h0 a0 "com/example/trawl/trawl/load/ColumnShifts" "recordedLine" "I" (.int rl)) (F_a0_recordedChange : Fld Z h0 a0 "com/example/trawl/trawl/load/ColumnShifts" "recordedChange" "I" (.int rc)) (F_a0_askedLine : Fld Z h0 a0 "com/example/trawl/trawl/load/ColumnShifts" "askedLine" "I" (.int (0 : Int32))) (F_a0_passedChange : Fld Z h0 a0 "com/example/trawl/trawl/load/ColumnShifts" "passedChange" "I" (.int (0 : Int32))) :
    MetFree l (⟨"com/example/trawl/trawl/load/ColumnShifts", "add", "(IIII)V"⟩ : MethodName) (head1 (Jvm.Cond.code (⟨"com/example/trawl/trawl/load/ColumnShifts", "add", "(IIII)V"⟩ : MethodName) prog_28_method_2_code 5 none :: wq) ({ frames := 0, cells := 0, slots := 0, locals := 0 } : Room)) (fun a U => a = #[(.ref a0), (.int p1), (.int p2), (.int p3), (.int p4)] ∧ Z.Warmed39 U.vm ∧ U.heap = h0) (fun _ _ _ _ _ => True) (fun _ U o U' => ∃ v L, o = .returned v ∧ Q7_0 Z a0 p1 p2 p3 p4 la ea ca kl ke kc wl we wc rl rc h0 n0 v U'.heap L ∧ FrameEnd U o U' L ({ frames := 0, cells := 0, slots := 0, locals := 0 } : Room).cells ({ frames := 0, cells := 0, slots := 0, locals := 0 } : Room).slots) := by
  refine MetFree.of_bodySF (plainFor_of_name pn_0) hisR ?_
  intro p e s m args below meth c s₁ Bd hml0 hP hK
  obtain ⟨rfl, hZ, hh⟩ := hP
  have hx := Bd.exec
  have hby := Bd.bytes
  have hml : c.maxLocals = 5 := hml0
  have hown : s.vm.findClass "com/example/trawl/trawl/load/ColumnShifts" = some m.cls := findClass_of_methodNamed Bd.named
  have hnm := (name_of_methodNamed Bd.named Bd.method).1
  have X0 : Stand p l e ({ frames := 0, cells := 0, slots := 0, locals := 0 } : Room) s m #[(.ref a0), (.int p1), (.int p2), (.int p3), (.int p4)] below meth c s₁ [] 0 0 := Stand.of_body Bd
  have e0 : s₁.heap = h0 := by rw [← hh, Bd.state]; rfl
  have N0 := Fr.nil n0
  have pre0 : own_Pre p e below (s₁.setTop (entryFrame m #[(.ref a0), (.int p1), (.int p2), (.int p3), (.int p4)] 5)) (s₁.setTop (mkF m 0 #[.val (.ref a0), .val (.int p1), .val (.int p2), .val (.int p3), .val (.int p4)] [])) := fun t k => castTop (ef_7_0 m a0 p1 p2 p3 p4) k
  obtain ⟨T1, X1, e1, st1⟩ := getF X0 hx hZ hown (host := "") (Or.inl (hw _ (own_w 45 rfl))) Via.refl e0 F_a0_recordedLine (g := (mkF m 2 #[.val (.ref a0), .val (.int p1), .val (.int p2), .val (.int p3), .val (.int p4)] [(.ref a0), (.int p1)])) rfl rfl (hb hby d7_2)
  have pre2 : own_Pre p e below (s₁.setTop (entryFrame m #[(.ref a0), (.int p1), (.int p2), (.int p3), (.int p4)] 5)) (T1.setTop (mkF m 5 #[.val (.ref a0), .val (.int p1), .val (.int p2), .val (.int p3), .val (.int p4)] [(.int rl), (.int p1)])) := fun t k => pre0 t (by
      show Steps p.tables e below (s₁.setTop (mkF m 0 #[.val (.ref a0), .val (.int p1), .val (.int p2), .val (.int p3), .val (.int p4)] [])) _
      refine XS.iloadN X0.here hx rfl (hb hby d7_0) rfl ?_
      refine XS.aloadN X0.here hx rfl (hb hby d7_1) rfl rfl ?_
      refine st1 _ ?_
      exact k)
  by_cases hc5 : p1 = rl
  · obtain ⟨T3, X3, e3, st3⟩ := getF X1 hx hZ hown (host := "") (Or.inl (hw _ (own_w 34 rfl))) Via.refl e1 F_a0_end (g := (mkF m 19 #[.val (.ref a0), .val (.int p1), .val (.int p2), .val (.int p3), .val (.int p4)] [(.ref a0)])) rfl rfl (hb hby d7_19)
    obtain ⟨T4, X4, e4, st4⟩ := getF X3 hx hZ hown (host := "") (Or.inl (hw _ (own_w 17 rfl))) Via.refl e3 F_a0_lines (g := (mkF m 23 #[.val (.ref a0), .val (.int p1), .val (.int p2), .val (.int p3), .val (.int p4)] [(.ref a0), (.int (0 : Int32))])) rfl rfl (hb hby d7_23)
    obtain ⟨cl5, Ar5, S5, M5⟩ := V_la.len
    obtain ⟨T6, X6, e6, st6⟩ := getF X4 hx hZ hown (host := "") (Or.inl (hw _ (own_w 17 rfl))) Via.refl e4 F_a0_lines (g := (mkF m 35 #[.val (.ref a0), .val (.int p1), .val (.int p2), .val (.int p3), .val (.int p4)] [(.ref a0)])) rfl rfl (hb hby d7_35)
    obtain ⟨T7, X7, e7, st7⟩ := getF X6 hx hZ hown (host := "") (Or.inl (hw _ (own_w 34 rfl))) Via.refl e6 F_a0_end (g := (mkF m 39 #[.val (.ref a0), .val (.int p1), .val (.int p2), .val (.int p3), .val (.int p4)] [(.ref a0), (.ref la)])) rfl rfl (hb hby d7_39)
    obtain ⟨cl8, Ar8, hin8, set8⟩ := own_AI.arr V_la (j := (0 : Int32)) ⟨by decide, by decide⟩
    obtain ⟨T8, h8, X8, e8, W8, st8⟩ := stI X7 hx hZ e7 Ar8 (j := (0 : Int32)) hin8 (g := (mkF m 43 #[.val (.ref a0), .val (.int p1), .val (.int p2), .val (.int p3), .val (.int p4)] [(.int p1), (.int (0 : Int32)), (.ref la)])) rfl rfl (hb hby d7_43)
    have V8 : own_AI Z h8 la kl .int (4 : Int32) (wl.set 0 p1) := set8 _ _ rfl W8
    obtain ⟨ws8, hws8⟩ : ∃ z, z = (wl.set 0 p1) := ⟨_, rfl⟩
    rw [← hws8] at V8
    have N8 := Fr.snoc X8 N0 g_la
    have kp9 : Keep h0 h8 [a0, la, ea, ca] := (Keep.refl h0 [a0, la, ea, ca]).wr W8 (Or.inl (own_w 1 rfl))
    have f10 := (F_a0_ends.other W8 (Or.inl ne_a0_la))
    obtain ⟨T11, X11, e11, st11⟩ := getF X8 hx hZ hown (host := "") (Or.inl (hw _ (own_w 19 rfl))) Via.refl e8 f10 (g := (mkF m 45 #[.val (.ref a0), .val (.int p1), .val (.int p2), .val (.int p3), .val (.int p4)] [(.ref a0)])) rfl rfl (hb hby d7_45)
    have f12 := (F_a0_end.other W8 (Or.inl ne_a0_la))
    obtain ⟨T13, X13, e13, st13⟩ := getF X11 hx hZ hown (host := "") (Or.inl (hw _ (own_w 34 rfl))) Via.refl e11 f12 (g := (mkF m 49 #[.val (.ref a0), .val (.int p1), .val (.int p2), .val (.int p3), .val (.int p4)] [(.ref a0), (.ref ea)])) rfl rfl (hb hby d7_49)
    have f14 := (F_a0_recordedChange.other W8 (Or.inl ne_a0_la))
    obtain ⟨T15, X15, e15, st15⟩ := getF X13 hx hZ hown (host := "") (Or.inl (hw _ (own_w 47 rfl))) Via.refl e13 f14 (g := (mkF m 54 #[.val (.ref a0), .val (.int p1), .val (.int p2), .val (.int p3), .val (.int p4)] [(.ref a0), (.int p2), (.int (0 : Int32)), (.ref ea)])) rfl rfl (hb hby d7_54)
    have f16 := (V_ea.other W8 (Ne.symm ne_la_ea))
    obtain ⟨cl17, Ar17, hin17, set17⟩ := own_AI.arr f16 (j := (0 : Int32)) ⟨by decide, by decide⟩
    obtain ⟨T17, h17, X17, e17, W17, st17⟩ := stI X15 hx hZ e15 Ar17 (j := (0 : Int32)) hin17 (g := (mkF m 61 #[.val (.ref a0), .val (.int p1), .val (.int p2), .val (.int p3), .val (.int p4)] [(.int ((p2 + rc) + p4)), (.int (0 : Int32)), (.ref ea)])) rfl rfl (hb hby d7_61)
    have V17 : own_AI Z h17 ea ke .int (4 : Int32) (we.set 0 ((p2 + rc) + p4)) := set17 _ _ rfl W17
    obtain ⟨ws17, hws17⟩ : ∃ z, z = (we.set 0 ((p2 + rc) + p4)) := ⟨_, rfl⟩
    rw [← hws17] at V17
    have N17 := Fr.snoc X17 N8 g_ea
    have kp18 : Keep h0 h17 [a0, la, ea, ca] := kp9.wr W17 (Or.inl (own_w 2 rfl))
    have f19 := ((F_a0_changes.other W8 (Or.inl ne_a0_la)).other W17 (Or.inl ne_a0_ea))
    obtain ⟨T20, X20, e20, st20⟩ := getF X17 hx hZ hown (host := "") (Or.inl (hw _ (own_w 21 rfl))) Via.refl e17 f19 (g := (mkF m 63 #[.val (.ref a0), .val (.int p1), .val (.int p2), .val (.int p3), .val (.int p4)] [(.ref a0)])) rfl rfl (hb hby d7_63)
    have f21 := (f12.other W17 (Or.inl ne_a0_ea))
    obtain ⟨T22, X22, e22, st22⟩ := getF X20 hx hZ hown (host := "") (Or.inl (hw _ (own_w 34 rfl))) Via.refl e20 f21 (g := (mkF m 67 #[.val (.ref a0), .val (.int p1), .val (.int p2), .val (.int p3), .val (.int p4)] [(.ref a0), (.ref ca)])) rfl rfl (hb hby d7_67)
    have f23 := ((V_ca.other W8 (Ne.symm ne_la_ca)).other W17 (Ne.symm ne_ea_ca))
    obtain ⟨cl24, Ar24, hin24, set24⟩ := own_AI.arr f23 (j := (0 : Int32)) ⟨by decide, by decide⟩
    obtain ⟨T24, h24, X24, e24, W24, st24⟩ := stI X22 hx hZ e22 Ar24 (j := (0 : Int32)) hin24 (g := (mkF m 74 #[.val (.ref a0), .val (.int p1), .val (.int p2), .val (.int p3), .val (.int p4)] [(.int (p4 - p3)), (.int (0 : Int32)), (.ref ca)])) rfl rfl (hb hby d7_74)
    have V24 : own_AI Z h24 ca kc .int (4 : Int32) (wc.set 0 (p4 - p3)) := set24 _ _ rfl W24
    obtain ⟨ws24, hws24⟩ : ∃ z, z = (wc.set 0 (p4 - p3)) := ⟨_, rfl⟩
    rw [← hws24] at V24
    have N24 := Fr.snoc X24 N17 g_ca
    have kp25 : Keep h0 h24 [a0, la, ea, ca] := kp18.wr W24 (Or.inl (own_w 3 rfl))
    have f26 := (f21.other W24 (Or.inl ne_a0_ca))
    obtain ⟨T27, X27, e27, st27⟩ := getF X24 hx hZ hown (host := "") (Or.inl (hw _ (own_w 34 rfl))) Via.refl e24 f26 (g := (mkF m 77 #[.val (.ref a0), .val (.int p1), .val (.int p2), .val (.int p3), .val (.int p4)] [(.ref a0), (.ref a0)])) rfl rfl (hb hby d7_77)
    have f28 := (((E_a0.wr W8).wr W17).wr W24)
    obtain ⟨T29, h29, X29, e29, W29, st29⟩ := putF X27 hx hZ hown (host := "") (Or.inl (hw _ (own_w 34 rfl))) Via.refl e27 f26 f28 (Or.inl (hw _ (own_w 35 rfl))) (hw _ (own_w 8 rfl)) (ty := .int) (by decide) rfl rfl (g := (mkF m 82 #[.val (.ref a0), .val (.int p1), .val (.int p2), .val (.int p3), .val (.int p4)] [(.int (1 : Int32)), (.ref a0)])) rfl rfl (hb hby d7_82)
    have Fw29 := f26.same W29
    have N29 := Fr.snoc X29 N24 g_a0
    have kp30 : Keep h0 h29 [a0, la, ea, ca] := kp25.wr W29 (Or.inl (own_w 0 rfl))
    have f31 := (((f14.other W17 (Or.inl ne_a0_ea)).other W24 (Or.inl ne_a0_ca)).other W29 (Or.inr (slot_ne (Or.inl (hw _ (own_w 48 rfl))) (Or.inl (hw _ (own_w 35 rfl))) (by decide) (t := .int) (t' := .int) (by decide) (by decide))))
    obtain ⟨T32, X32, e32, st32⟩ := getF X29 hx hZ hown (host := "") (Or.inl (hw _ (own_w 47 rfl))) Via.refl e29 f31 (g := (mkF m 87 #[.val (.ref a0), .val (.int p1), .val (.int p2), .val (.int p3), .val (.int p4)] [(.ref a0), (.ref a0)])) rfl rfl (hb hby d7_87)
    have f33 := (f28.wr W29)
    obtain ⟨T34, h34, X34, e34, W34, st34⟩ := putF X32 hx hZ hown (host := "") (Or.inl (hw _ (own_w 47 rfl))) Via.refl e32 f31 f33 (Or.inl (hw _ (own_w 48 rfl))) (hw _ (own_w 8 rfl)) (ty := .int) (by decide) rfl rfl (g := (mkF m 95 #[.val (.ref a0), .val (.int p1), .val (.int p2), .val (.int p3), .val (.int p4)] [(.int (rc + (p4 - p3))), (.ref a0)])) rfl rfl (hb hby d7_95)
    have Fw34 := f31.same W34
    have N34 := Fr.snoc X34 N29 g_a0
    have kp35 : Keep h0 h34 [a0, la, ea, ca] := kp30.wr W34 (Or.inl (own_w 0 rfl))
    obtain ⟨fs, hr, hrun, hended, hW, hsame⟩ := X34.leave (v := none) (fun _ => rfl)
    refine ⟨_, _, pre2 _ ?_, hrun, hended, _, _, rfl, ?_, ⟨_, rfl⟩, hW, hsame.mono (by decide) (by decide)⟩
    · show Steps p.tables e below (T1.setTop (mkF m 5 #[.val (.ref a0), .val (.int p1), .val (.int p2), .val (.int p3), .val (.int p4)] [(.int rl), (.int p1)])) _
      refine XS.icmpYes X1.here hx rfl (pc0 := 5) (pc' := 18) rfl (hb hby d7_5) rfl (teq hc5).1 (by decide) (by decide) ?_
      refine XS.aloadN X1.here hx rfl (hb hby d7_18) rfl rfl ?_
      refine st3 _ ?_
      refine XS.aloadN X3.here hx rfl (hb hby d7_22) rfl rfl ?_
      refine st4 _ ?_
      show Steps p.tables e below (T4.setTop (mkF m 26 #[.val (.ref a0), .val (.int p1), .val (.int p2), .val (.int p3), .val (.int p4)] [(.ref la), (.int (0 : Int32))])) _
      refine X4.arraylength hx (by rw [e4]; exact Ar5.1) (State.isArrayOf_alike hZ.alike Ar5.2.1) (g := (mkF m 26 #[.val (.ref a0), .val (.int p1), .val (.int p2), .val (.int p3), .val (.int p4)] [(.ref la), (.int (0 : Int32))])) rfl rfl (hb hby d7_26) _ ?_
      rw [len_of S5 M5]
      refine XS.icmpYes X4.here hx rfl (pc0 := 27) (pc' := 34) rfl (hb hby d7_27) rfl (feq (by decide : ¬ ((0 : Int32) = (4 : Int32)))).2 (by decide) (by decide) ?_
      refine XS.aloadN X4.here hx rfl (hb hby d7_34) rfl rfl ?_
      refine st6 _ ?_
      refine XS.aloadN X6.here hx rfl (hb hby d7_38) rfl rfl ?_
      show Steps p.tables e below (T6.setTop (mkF m 39 #[.val (.ref a0), .val (.int p1), .val (.int p2), .val (.int p3), .val (.int p4)] [(.ref a0), (.ref la)])) _
      refine st7 _ ?_
      refine XS.iloadN X7.here hx rfl (hb hby d7_42) rfl ?_
      refine st8 _ ?_
      refine XS.aloadN X8.here hx rfl (hb hby d7_44) rfl rfl ?_
      refine st11 _ ?_
      show Steps p.tables e below (T11.setTop (mkF m 48 #[.val (.ref a0), .val (.int p1), .val (.int p2), .val (.int p3), .val (.int p4)] [(.ref ea)])) _
      refine XS.aloadN X11.here hx rfl (hb hby d7_48) rfl rfl ?_
      refine st13 _ ?_
      refine XS.iloadN X13.here hx rfl (hb hby d7_52) rfl ?_
      refine XS.aloadN X13.here hx rfl (hb hby d7_53) rfl rfl ?_
      refine st15 _ ?_
      show Steps p.tables e below (T15.setTop (mkF m 57 #[.val (.ref a0), .val (.int p1), .val (.int p2), .val (.int p3), .val (.int p4)] [(.int rc), (.int p2), (.int (0 : Int32)), (.ref ea)])) _
      refine XS.iadd X15.here hx rfl (hb hby d7_57) rfl ?_
      refine XS.iload X15.here hx rfl (hb hby d7_58) rfl ?_
      refine XS.iadd X15.here hx rfl (hb hby d7_60) rfl ?_
      refine st17 _ ?_
      refine XS.aloadN X17.here hx rfl (hb hby d7_62) rfl rfl ?_
      show Steps p.tables e below (T17.setTop (mkF m 63 #[.val (.ref a0), .val (.int p1), .val (.int p2), .val (.int p3), .val (.int p4)] [(.ref a0)])) _
      refine st20 _ ?_
      refine XS.aloadN X20.here hx rfl (hb hby d7_66) rfl rfl ?_
      refine st22 _ ?_
      refine XS.iload X22.here hx rfl (hb hby d7_70) rfl ?_
      refine XS.iloadN X22.here hx rfl (hb hby d7_72) rfl ?_
      show Steps p.tables e below (T22.setTop (mkF m 73 #[.val (.ref a0), .val (.int p1), .val (.int p2), .val (.int p3), .val (.int p4)] [(.int p3), (.int p4), (.int (0 : Int32)), (.ref ca)])) _
      refine XS.isub X22.here hx rfl (hb hby d7_73) rfl ?_
      refine st24 _ ?_
      refine XS.aloadN X24.here hx rfl (hb hby d7_75) rfl rfl ?_
      refine XS.dup X24.here hx rfl (hb hby d7_76) rfl rfl ?_
      refine st27 _ ?_
      show Steps p.tables e below (T27.setTop (mkF m 80 #[.val (.ref a0), .val (.int p1), .val (.int p2), .val (.int p3), .val (.int p4)] [(.int (0 : Int32)), (.ref a0)])) _
      refine XS.iconst X27.here hx rfl (hb hby d7_80) ?_
      refine XS.iadd X27.here hx rfl (hb hby d7_81) rfl ?_
      refine st29 _ ?_
      refine XS.aloadN X29.here hx rfl (hb hby d7_85) rfl rfl ?_
      refine XS.dup X29.here hx rfl (hb hby d7_86) rfl rfl ?_
      show Steps p.tables e below (T29.setTop (mkF m 87 #[.val (.ref a0), .val (.int p1), .val (.int p2), .val (.int p3), .val (.int p4)] [(.ref a0), (.ref a0)])) _
      refine st32 _ ?_
      refine XS.iload X32.here hx rfl (hb hby d7_90) rfl ?_
      refine XS.iloadN X32.here hx rfl (hb hby d7_92) rfl ?_
      refine XS.isub X32.here hx rfl (hb hby d7_93) rfl ?_
      refine XS.iadd X32.here hx rfl (hb hby d7_94) rfl ?_
      show Steps p.tables e below (T32.setTop (mkF m 95 #[.val (.ref a0), .val (.int p1), .val (.int p2), .val (.int p3), .val (.int p4)] [(.int (rc + (p4 - p3))), (.ref a0)])) _
      refine st34 _ ?_
      show Steps p.tables e below (T34.setTop (mkF m 98 #[.val (.ref a0), .val (.int p1), .val (.int p2), .val (.int p3), .val (.int p4)] [])) _
      exact X34.returnOut hx Bd.returns (hb hby d7_98) hr
    · show Q7_0 Z a0 p1 p2 p3 p4 la ea ca kl ke kc wl we wc rl rc h0 n0 _ T34.heap _
      rw [e34]
      unfold Q7_0
      have f36 := (f33.wr W34)
      have f37 := (((((F_a0_lines.other W8 (Or.inl ne_a0_la)).other W17 (Or.inl ne_a0_ea)).other W24 (Or.inl ne_a0_ca)).other W29 (Or.inr (slot_ne (Or.inl (hw _ (own_w 18 rfl))) (Or.inl (hw _ (own_w 35 rfl))) (by decide) (t := (.array .int)) (t' := .int) (by decide) (by decide)))).other W34 (Or.inr (slot_ne (Or.inl (hw _ (own_w 18 rfl))) (Or.inl (hw _ (own_w 48 rfl))) (by decide) (t := (.array .int)) (t' := .int) (by decide) (by decide))))
      have f38 := ((((f10.other W17 (Or.inl ne_a0_ea)).other W24 (Or.inl ne_a0_ca)).other W29 (Or.inr (slot_ne (Or.inl (hw _ (own_w 20 rfl))) (Or.inl (hw _ (own_w 35 rfl))) (by decide) (t := (.array .int)) (t' := .int) (by decide) (by decide)))).other W34 (Or.inr (slot_ne (Or.inl (hw _ (own_w 20 rfl))) (Or.inl (hw _ (own_w 48 rfl))) (by decide) (t := (.array .int)) (t' := .int) (by decide) (by decide))))
      have f39 := (((f19.other W24 (Or.inl ne_a0_ca)).other W29 (Or.inr (slot_ne (Or.inl (hw _ (own_w 22 rfl))) (Or.inl (hw _ (own_w 35 rfl))) (by decide) (t := (.array .int)) (t' := .int) (by decide) (by decide)))).other W34 (Or.inr (slot_ne (Or.inl (hw _ (own_w 22 rfl))) (Or.inl (hw _ (own_w 48 rfl))) (by decide) (t := (.array .int)) (t' := .int) (by decide) (by decide))))
      have f40 := ((((V8.other W17 ne_la_ea).other W24 ne_la_ca).other W29 (Ne.symm ne_a0_la)).other W34 (Ne.symm ne_a0_la))
      have f41 := (((V17.other W24 ne_ea_ca).other W29 (Ne.symm ne_a0_ea)).other W34 (Ne.symm ne_a0_ea))
      have f42 := ((V24.other W29 (Ne.symm ne_a0_ca)).other W34 (Ne.symm ne_a0_ca))
      have f43 := (((((F_a0_first.other W8 (Or.inl ne_a0_la)).other W17 (Or.inl ne_a0_ea)).other W24 (Or.inl ne_a0_ca)).other W29 (Or.inr (slot_ne (Or.inl (hw _ (own_w 33 rfl))) (Or.inl (hw _ (own_w 35 rfl))) (by decide) (t := .int) (t' := .int) (by decide) (by decide)))).other W34 (Or.inr (slot_ne (Or.inl (hw _ (own_w 33 rfl))) (Or.inl (hw _ (own_w 48 rfl))) (by decide) (t := .int) (t' := .int) (by decide) (by decide))))
      have f44 := (Fw29.other W34 (Or.inr (slot_ne (Or.inl (hw _ (own_w 35 rfl))) (Or.inl (hw _ (own_w 48 rfl))) (by decide) (t := .int) (t' := .int) (by decide) (by decide))))
      have f45 := (((((F_a0_recordedLine.other W8 (Or.inl ne_a0_la)).other W17 (Or.inl ne_a0_ea)).other W24 (Or.inl ne_a0_ca)).other W29 (Or.inr (slot_ne (Or.inl (hw _ (own_w 46 rfl))) (Or.inl (hw _ (own_w 35 rfl))) (by decide) (t := .int) (t' := .int) (by decide) (by decide)))).other W34 (Or.inr (slot_ne (Or.inl (hw _ (own_w 46 rfl))) (Or.inl (hw _ (own_w 48 rfl))) (by decide) (t := .int) (t' := .int) (by decide) (by decide))))
      have f46 := (((((F_a0_askedLine.other W8 (Or.inl ne_a0_la)).other W17 (Or.inl ne_a0_ea)).other W24 (Or.inl ne_a0_ca)).other W29 (Or.inr (slot_ne (Or.inl (hw _ (own_w 29 rfl))) (Or.inl (hw _ (own_w 35 rfl))) (by decide) (t := .int) (t' := .int) (by decide) (by decide)))).other W34 (Or.inr (slot_ne (Or.inl (hw _ (own_w 29 rfl))) (Or.inl (hw _ (own_w 48 rfl))) (by decide) (t := .int) (t' := .int) (by decide) (by decide))))
      have f47 := (((((F_a0_passedChange.other W8 (Or.inl ne_a0_la)).other W17 (Or.inl ne_a0_ea)).other W24 (Or.inl ne_a0_ca)).other W29 (Or.inr (slot_ne (Or.inl (hw _ (own_w 31 rfl))) (Or.inl (hw _ (own_w 35 rfl))) (by decide) (t := .int) (t' := .int) (by decide) (by decide)))).other W34 (Or.inr (slot_ne (Or.inl (hw _ (own_w 31 rfl))) (Or.inl (hw _ (own_w 48 rfl))) (by decide) (t := .int) (t' := .int) (by decide) (by decide))))
      refine ⟨rfl, N34, kp35, f36, ?_, ?_, ?_, ?_, ?_, ?_, ?_, ?_, ?_, ?_, ?_, ?_⟩
      · exact f37
      · exact f38
      · exact f39
      · rw [show (own_p7_0_la p1 wl) = ws8 from (by subst hws24 hws17 hws8; simp only [own_p7_0_la, if_pos hc5])]; exact f40
      · rw [show (own_p7_0_ea p1 p2 p4 we rl rc) = ws17 from (by subst hws24 hws17 hws8; simp only [own_p7_0_ea, if_pos hc5])]; exact f41
      · rw [show (own_p7_0_ca p3 p4 wc) = ws24 from (by subst hws24 hws17 hws8; simp only [own_p7_0_ca, if_pos hc5])]; exact f42
      · exact f43
      · exact f44
      · rw [hc5]; exact f45
      · rw [show (own_p7_0_recordedChange p1 p3 p4 rl rc) = (rc + (p4 - p3)) from (by subst hws24 hws17 hws8; simp only [own_p7_0_recordedChange, if_pos hc5])]; exact Fw34
      · exact f46
      · exact f47
  · obtain ⟨T48, h48, X48, e48, W48, st48⟩ := putF X1 hx hZ hown (host := "") (Or.inl (hw _ (own_w 45 rfl))) Via.refl e1 F_a0_recordedLine E_a0 (Or.inl (hw _ (own_w 46 rfl))) (hw _ (own_w 8 rfl)) (ty := .int) (by decide) rfl rfl (g := (mkF m 10 #[.val (.ref a0), .val (.int p1), .val (.int p2), .val (.int p3), .val (.int p4)] [(.int p1), (.ref a0)])) rfl rfl (hb hby d7_10)
    have Fw48 := F_a0_recordedLine.same W48
    have N48 := Fr.snoc X48 N0 g_a0
    have kp49 : Keep h0 h48 [a0, la, ea, ca] := (Keep.refl h0 [a0, la, ea, ca]).wr W48 (Or.inl (own_w 0 rfl))
    have f50 := (E_a0.wr W48)
    have f51 := (F_a0_recordedChange.other W48 (Or.inr (slot_ne (Or.inl (hw _ (own_w 48 rfl))) (Or.inl (hw _ (own_w 46 rfl))) (by decide) (t := .int) (t' := .int) (by decide) (by decide))))
    obtain ⟨T52, h52, X52, e52, W52, st52⟩ := putF X48 hx hZ hown (host := "") (Or.inl (hw _ (own_w 47 rfl))) Via.refl e48 f51 f50 (Or.inl (hw _ (own_w 48 rfl))) (hw _ (own_w 8 rfl)) (ty := .int) (by decide) rfl rfl (g := (mkF m 15 #[.val (.ref a0), .val (.int p1), .val (.int p2), .val (.int p3), .val (.int p4)] [(.int (0 : Int32)), (.ref a0)])) rfl rfl (hb hby d7_15)
    have Fw52 := f51.same W52
    have N52 := Fr.snoc X52 N48 g_a0
    have kp53 : Keep h0 h52 [a0, la, ea, ca] := kp49.wr W52 (Or.inl (own_w 0 rfl))
    have f54 := ((F_a0_end.other W48 (Or.inr (slot_ne (Or.inl (hw _ (own_w 35 rfl))) (Or.inl (hw _ (own_w 46 rfl))) (by decide) (t := .int) (t' := .int) (by decide) (by decide)))).other W52 (Or.inr (slot_ne (Or.inl (hw _ (own_w 35 rfl))) (Or.inl (hw _ (own_w 48 rfl))) (by decide) (t := .int) (t' := .int) (by decide) (by decide))))
    obtain ⟨T55, X55, e55, st55⟩ := getF X52 hx hZ hown (host := "") (Or.inl (hw _ (own_w 34 rfl))) Via.refl e52 f54 (g := (mkF m 19 #[.val (.ref a0), .val (.int p1), .val (.int p2), .val (.int p3), .val (.int p4)] [(.ref a0)])) rfl rfl (hb hby d7_19)
    have f56 := ((F_a0_lines.other W48 (Or.inr (slot_ne (Or.inl (hw _ (own_w 18 rfl))) (Or.inl (hw _ (own_w 46 rfl))) (by decide) (t := (.array .int)) (t' := .int) (by decide) (by decide)))).other W52 (Or.inr (slot_ne (Or.inl (hw _ (own_w 18 rfl))) (Or.inl (hw _ (own_w 48 rfl))) (by decide) (t := (.array .int)) (t' := .int) (by decide) (by decide))))
    obtain ⟨T57, X57, e57, st57⟩ := getF X55 hx hZ hown (host := "") (Or.inl (hw _ (own_w 17 rfl))) Via.refl e55 f56 (g := (mkF m 23 #[.val (.ref a0), .val (.int p1), .val (.int p2), .val (.int p3), .val (.int p4)] [(.ref a0), (.int (0 : Int32))])) rfl rfl (hb hby d7_23)
    have f58 := ((V_la.other W48 (Ne.symm ne_a0_la)).other W52 (Ne.symm ne_a0_la))
    obtain ⟨cl59, Ar59, S59, M59⟩ := f58.len
    obtain ⟨T60, X60, e60, st60⟩ := getF X57 hx hZ hown (host := "") (Or.inl (hw _ (own_w 17 rfl))) Via.refl e57 f56 (g := (mkF m 35 #[.val (.ref a0), .val (.int p1), .val (.int p2), .val (.int p3), .val (.int p4)] [(.ref a0)])) rfl rfl (hb hby d7_35)
    obtain ⟨T61, X61, e61, st61⟩ := getF X60 hx hZ hown (host := "") (Or.inl (hw _ (own_w 34 rfl))) Via.refl e60 f54 (g := (mkF m 39 #[.val (.ref a0), .val (.int p1), .val (.int p2), .val (.int p3), .val (.int p4)] [(.ref a0), (.ref la)])) rfl rfl (hb hby d7_39)
    obtain ⟨cl62, Ar62, hin62, set62⟩ := own_AI.arr f58 (j := (0 : Int32)) ⟨by decide, by decide⟩
    obtain ⟨T62, h62, X62, e62, W62, st62⟩ := stI X61 hx hZ e61 Ar62 (j := (0 : Int32)) hin62 (g := (mkF m 43 #[.val (.ref a0), .val (.int p1), .val (.int p2), .val (.int p3), .val (.int p4)] [(.int p1), (.int (0 : Int32)), (.ref la)])) rfl rfl (hb hby d7_43)
    have V62 : own_AI Z h62 la kl .int (4 : Int32) (wl.set 0 p1) := set62 _ _ rfl W62
    obtain ⟨ws62, hws62⟩ : ∃ z, z = (wl.set 0 p1) := ⟨_, rfl⟩
    rw [← hws62] at V62
    have N62 := Fr.snoc X62 N52 g_la
    have kp63 : Keep h0 h62 [a0, la, ea, ca] := kp53.wr W62 (Or.inl (own_w 1 rfl))
    have f64 := (((F_a0_ends.other W48 (Or.inr (slot_ne (Or.inl (hw _ (own_w 20 rfl))) (Or.inl (hw _ (own_w 46 rfl))) (by decide) (t := (.array .int)) (t' := .int) (by decide) (by decide)))).other W52 (Or.inr (slot_ne (Or.inl (hw _ (own_w 20 rfl))) (Or.inl (hw _ (own_w 48 rfl))) (by decide) (t := (.array .int)) (t' := .int) (by decide) (by decide)))).other W62 (Or.inl ne_a0_la))
    obtain ⟨T65, X65, e65, st65⟩ := getF X62 hx hZ hown (host := "") (Or.inl (hw _ (own_w 19 rfl))) Via.refl e62 f64 (g := (mkF m 45 #[.val (.ref a0), .val (.int p1), .val (.int p2), .val (.int p3), .val (.int p4)] [(.ref a0)])) rfl rfl (hb hby d7_45)
    have f66 := (f54.other W62 (Or.inl ne_a0_la))
    obtain ⟨T67, X67, e67, st67⟩ := getF X65 hx hZ hown (host := "") (Or.inl (hw _ (own_w 34 rfl))) Via.refl e65 f66 (g := (mkF m 49 #[.val (.ref a0), .val (.int p1), .val (.int p2), .val (.int p3), .val (.int p4)] [(.ref a0), (.ref ea)])) rfl rfl (hb hby d7_49)
    have f68 := (Fw52.other W62 (Or.inl ne_a0_la))
    obtain ⟨T69, X69, e69, st69⟩ := getF X67 hx hZ hown (host := "") (Or.inl (hw _ (own_w 47 rfl))) Via.refl e67 f68 (g := (mkF m 54 #[.val (.ref a0), .val (.int p1), .val (.int p2), .val (.int p3), .val (.int p4)] [(.ref a0), (.int p2), (.int (0 : Int32)), (.ref ea)])) rfl rfl (hb hby d7_54)
    have f70 := (((V_ea.other W48 (Ne.symm ne_a0_ea)).other W52 (Ne.symm ne_a0_ea)).other W62 (Ne.symm ne_la_ea))
    obtain ⟨cl71, Ar71, hin71, set71⟩ := own_AI.arr f70 (j := (0 : Int32)) ⟨by decide, by decide⟩
    obtain ⟨T71, h71, X71, e71, W71, st71⟩ := stI X69 hx hZ e69 Ar71 (j := (0 : Int32)) hin71 (g := (mkF m 61 #[.val (.ref a0), .val (.int p1), .val (.int p2), .val (.int p3), .val (.int p4)] [(.int ((p2 + (0 : Int32)) + p4)), (.int (0 : Int32)), (.ref ea)])) rfl rfl (hb hby d7_61)
    have V71 : own_AI Z h71 ea ke .int (4 : Int32) (we.set 0 ((p2 + (0 : Int32)) + p4)) := set71 _ _ rfl W71
    obtain ⟨ws71, hws71⟩ : ∃ z, z = (we.set 0 ((p2 + (0 : Int32)) + p4)) := ⟨_, rfl⟩
    rw [← hws71] at V71
    have N71 := Fr.snoc X71 N62 g_ea
    have kp72 : Keep h0 h71 [a0, la, ea, ca] := kp63.wr W71 (Or.inl (own_w 2 rfl))
    have f73 := ((((F_a0_changes.other W48 (Or.inr (slot_ne (Or.inl (hw _ (own_w 22 rfl))) (Or.inl (hw _ (own_w 46 rfl))) (by decide) (t := (.array .int)) (t' := .int) (by decide) (by decide)))).other W52 (Or.inr (slot_ne (Or.inl (hw _ (own_w 22 rfl))) (Or.inl (hw _ (own_w 48 rfl))) (by decide) (t := (.array .int)) (t' := .int) (by decide) (by decide)))).other W62 (Or.inl ne_a0_la)).other W71 (Or.inl ne_a0_ea))
    obtain ⟨T74, X74, e74, st74⟩ := getF X71 hx hZ hown (host := "") (Or.inl (hw _ (own_w 21 rfl))) Via.refl e71 f73 (g := (mkF m 63 #[.val (.ref a0), .val (.int p1), .val (.int p2), .val (.int p3), .val (.int p4)] [(.ref a0)])) rfl rfl (hb hby d7_63)
    have f75 := (f66.other W71 (Or.inl ne_a0_ea))
    obtain ⟨T76, X76, e76, st76⟩ := getF X74 hx hZ hown (host := "") (Or.inl (hw _ (own_w 34 rfl))) Via.refl e74 f75 (g := (mkF m 67 #[.val (.ref a0), .val (.int p1), .val (.int p2), .val (.int p3), .val (.int p4)] [(.ref a0), (.ref ca)])) rfl rfl (hb hby d7_67)
    have f77 := ((((V_ca.other W48 (Ne.symm ne_a0_ca)).other W52 (Ne.symm ne_a0_ca)).other W62 (Ne.symm ne_la_ca)).other W71 (Ne.symm ne_ea_ca))
    obtain ⟨cl78, Ar78, hin78, set78⟩ := own_AI.arr f77 (j := (0 : Int32)) ⟨by decide, by decide⟩
    obtain ⟨T78, h78, X78, e78, W78, st78⟩ := stI X76 hx hZ e76 Ar78 (j := (0 : Int32)) hin78 (g := (mkF m 74 #[.val (.ref a0), .val (.int p1), .val (.int p2), .val (.int p3), .val (.int p4)] [(.int (p4 - p3)), (.int (0 : Int32)), (.ref ca)])) rfl rfl (hb hby d7_74)
    have V78 : own_AI Z h78 ca kc .int (4 : Int32) (wc.set 0 (p4 - p3)) := set78 _ _ rfl W78
    obtain ⟨ws78, hws78⟩ : ∃ z, z = (wc.set 0 (p4 - p3)) := ⟨_, rfl⟩
    rw [← hws78] at V78
    have N78 := Fr.snoc X78 N71 g_ca
    have kp79 : Keep h0 h78 [a0, la, ea, ca] := kp72.wr W78 (Or.inl (own_w 3 rfl))
    have f80 := (f75.other W78 (Or.inl ne_a0_ca))
    obtain ⟨T81, X81, e81, st81⟩ := getF X78 hx hZ hown (host := "") (Or.inl (hw _ (own_w 34 rfl))) Via.refl e78 f80 (g := (mkF m 77 #[.val (.ref a0), .val (.int p1), .val (.int p2), .val (.int p3), .val (.int p4)] [(.ref a0), (.ref a0)])) rfl rfl (hb hby d7_77)
    have f82 := ((((f50.wr W52).wr W62).wr W71).wr W78)
    obtain ⟨T83, h83, X83, e83, W83, st83⟩ := putF X81 hx hZ hown (host := "") (Or.inl (hw _ (own_w 34 rfl))) Via.refl e81 f80 f82 (Or.inl (hw _ (own_w 35 rfl))) (hw _ (own_w 8 rfl)) (ty := .int) (by decide) rfl rfl (g := (mkF m 82 #[.val (.ref a0), .val (.int p1), .val (.int p2), .val (.int p3), .val (.int p4)] [(.int (1 : Int32)), (.ref a0)])) rfl rfl (hb hby d7_82)
    have Fw83 := f80.same W83
    have N83 := Fr.snoc X83 N78 g_a0
    have kp84 : Keep h0 h83 [a0, la, ea, ca] := kp79.wr W83 (Or.inl (own_w 0 rfl))
    have f85 := (((f68.other W71 (Or.inl ne_a0_ea)).other W78 (Or.inl ne_a0_ca)).other W83 (Or.inr (slot_ne (Or.inl (hw _ (own_w 48 rfl))) (Or.inl (hw _ (own_w 35 rfl))) (by decide) (t := .int) (t' := .int) (by decide) (by decide))))
    obtain ⟨T86, X86, e86, st86⟩ := getF X83 hx hZ hown (host := "") (Or.inl (hw _ (own_w 47 rfl))) Via.refl e83 f85 (g := (mkF m 87 #[.val (.ref a0), .val (.int p1), .val (.int p2), .val (.int p3), .val (.int p4)] [(.ref a0), (.ref a0)])) rfl rfl (hb hby d7_87)
    have f87 := (f82.wr W83)
    obtain ⟨T88, h88, X88, e88, W88, st88⟩ := putF X86 hx hZ hown (host := "") (Or.inl (hw _ (own_w 47 rfl))) Via.refl e86 f85 f87 (Or.inl (hw _ (own_w 48 rfl))) (hw _ (own_w 8 rfl)) (ty := .int) (by decide) rfl rfl (g := (mkF m 95 #[.val (.ref a0), .val (.int p1), .val (.int p2), .val (.int p3), .val (.int p4)] [(.int ((0 : Int32) + (p4 - p3))), (.ref a0)])) rfl rfl (hb hby d7_95)
    have Fw88 := f85.same W88
    have N88 := Fr.snoc X88 N83 g_a0
    have kp89 : Keep h0 h88 [a0, la, ea, ca] := kp84.wr W88 (Or.inl (own_w 0 rfl))
    obtain ⟨fs, hr, hrun, hended, hW, hsame⟩ := X88.leave (v := none) (fun _ => rfl)
    refine ⟨_, _, pre2 _ ?_, hrun, hended, _, _, rfl, ?_, ⟨_, rfl⟩, hW, hsame.mono (by decide) (by decide)⟩
    · show Steps p.tables e below (T1.setTop (mkF m 5 #[.val (.ref a0), .val (.int p1), .val (.int p2), .val (.int p3), .val (.int p4)] [(.int rl), (.int p1)])) _
      refine XS.icmpNo X1.here hx rfl (hb hby d7_5) rfl (feq hc5).1 ?_
      refine XS.aloadN X1.here hx rfl (hb hby d7_8) rfl rfl ?_
      refine XS.iloadN X1.here hx rfl (hb hby d7_9) rfl ?_
      refine st48 _ ?_
      refine XS.aloadN X48.here hx rfl (hb hby d7_13) rfl rfl ?_
      show Steps p.tables e below (T48.setTop (mkF m 14 #[.val (.ref a0), .val (.int p1), .val (.int p2), .val (.int p3), .val (.int p4)] [(.ref a0)])) _
      refine XS.iconst X48.here hx rfl (hb hby d7_14) ?_
      refine st52 _ ?_
      refine XS.aloadN X52.here hx rfl (hb hby d7_18) rfl rfl ?_
      refine st55 _ ?_
      refine XS.aloadN X55.here hx rfl (hb hby d7_22) rfl rfl ?_
      show Steps p.tables e below (T55.setTop (mkF m 23 #[.val (.ref a0), .val (.int p1), .val (.int p2), .val (.int p3), .val (.int p4)] [(.ref a0), (.int (0 : Int32))])) _
      refine st57 _ ?_
      refine X57.arraylength hx (by rw [e57]; exact Ar59.1) (State.isArrayOf_alike hZ.alike Ar59.2.1) (g := (mkF m 26 #[.val (.ref a0), .val (.int p1), .val (.int p2), .val (.int p3), .val (.int p4)] [(.ref la), (.int (0 : Int32))])) rfl rfl (hb hby d7_26) _ ?_
      rw [len_of S59 M59]
      refine XS.icmpYes X57.here hx rfl (pc0 := 27) (pc' := 34) rfl (hb hby d7_27) rfl (feq (by decide : ¬ ((0 : Int32) = (4 : Int32)))).2 (by decide) (by decide) ?_
      refine XS.aloadN X57.here hx rfl (hb hby d7_34) rfl rfl ?_
      refine st60 _ ?_
      show Steps p.tables e below (T60.setTop (mkF m 38 #[.val (.ref a0), .val (.int p1), .val (.int p2), .val (.int p3), .val (.int p4)] [(.ref la)])) _
      refine XS.aloadN X60.here hx rfl (hb hby d7_38) rfl rfl ?_
      refine st61 _ ?_
      refine XS.iloadN X61.here hx rfl (hb hby d7_42) rfl ?_
      refine st62 _ ?_
      refine XS.aloadN X62.here hx rfl (hb hby d7_44) rfl rfl ?_
      show Steps p.tables e below (T62.setTop (mkF m 45 #[.val (.ref a0), .val (.int p1), .val (.int p2), .val (.int p3), .val (.int p4)] [(.ref a0)])) _
      refine st65 _ ?_
      refine XS.aloadN X65.here hx rfl (hb hby d7_48) rfl rfl ?_
      refine st67 _ ?_
      refine XS.iloadN X67.here hx rfl (hb hby d7_52) rfl ?_
      refine XS.aloadN X67.here hx rfl (hb hby d7_53) rfl rfl ?_
      show Steps p.tables e below (T67.setTop (mkF m 54 #[.val (.ref a0), .val (.int p1), .val (.int p2), .val (.int p3), .val (.int p4)] [(.ref a0), (.int p2), (.int (0 : Int32)), (.ref ea)])) _
      refine st69 _ ?_
      refine XS.iadd X69.here hx rfl (hb hby d7_57) rfl ?_
      refine XS.iload X69.here hx rfl (hb hby d7_58) rfl ?_
      refine XS.iadd X69.here hx rfl (hb hby d7_60) rfl ?_
      refine st71 _ ?_
      show Steps p.tables e below (T71.setTop (mkF m 62 #[.val (.ref a0), .val (.int p1), .val (.int p2), .val (.int p3), .val (.int p4)] [])) _
      refine XS.aloadN X71.here hx rfl (hb hby d7_62) rfl rfl ?_
      refine st74 _ ?_
      refine XS.aloadN X74.here hx rfl (hb hby d7_66) rfl rfl ?_
      refine st76 _ ?_
      refine XS.iload X76.here hx rfl (hb hby d7_70) rfl ?_
      show Steps p.tables e below (T76.setTop (mkF m 72 #[.val (.ref a0), .val (.int p1), .val (.int p2), .val (.int p3), .val (.int p4)] [(.int p4), (.int (0 : Int32)), (.ref ca)])) _
      refine XS.iloadN X76.here hx rfl (hb hby d7_72) rfl ?_
      refine XS.isub X76.here hx rfl (hb hby d7_73) rfl ?_
      refine st78 _ ?_
      refine XS.aloadN X78.here hx rfl (hb hby d7_75) rfl rfl ?_
      refine XS.dup X78.here hx rfl (hb hby d7_76) rfl rfl ?_
      show Steps p.tables e below (T78.setTop (mkF m 77 #[.val (.ref a0), .val (.int p1), .val (.int p2), .val (.int p3), .val (.int p4)] [(.ref a0), (.ref a0)])) _
      refine st81 _ ?_
      refine XS.iconst X81.here hx rfl (hb hby d7_80) ?_
      refine XS.iadd X81.here hx rfl (hb hby d7_81) rfl ?_
      refine st83 _ ?_
      refine XS.aloadN X83.here hx rfl (hb hby d7_85) rfl rfl ?_
      show Steps p.tables e below (T83.setTop (mkF m 86 #[.val (.ref a0), .val (.int p1), .val (.int p2), .val (.int p3), .val (.int p4)] [(.ref a0)])) _
      refine XS.dup X83.here hx rfl (hb hby d7_86) rfl rfl ?_
      refine st86 _ ?_
      refine XS.iload X86.here hx rfl (hb hby d7_90) rfl ?_
      refine XS.iloadN X86.here hx rfl (hb hby d7_92) rfl ?_
      refine XS.isub X86.here hx rfl (hb hby d7_93) rfl ?_
      show Steps p.tables e below (T86.setTop (mkF m 94 #[.val (.ref a0), .val (.int p1), .val (.int p2), .val (.int p3), .val (.int p4)] [(.int (p4 - p3)), (.int (0 : Int32)), (.ref a0)])) _
      refine XS.iadd X86.here hx rfl (hb hby d7_94) rfl ?_
      refine st88 _ ?_
      show Steps p.tables e below (T88.setTop (mkF m 98 #[.val (.ref a0), .val (.int p1), .val (.int p2), .val (.int p3), .val (.int p4)] [])) _
      exact X88.returnOut hx Bd.returns (hb hby d7_98) hr
    · show Q7_0 Z a0 p1 p2 p3 p4 la ea ca kl ke kc wl we wc rl rc h0 n0 _ T88.heap _
      rw [e88]
      unfold Q7_0
      have f90 := (f87.wr W88)
      have f91 := (((((f56.other W62 (Or.inl ne_a0_la)).other W71 (Or.inl ne_a0_ea)).other W78 (Or.inl ne_a0_ca)).other W83 (Or.inr (slot_ne (Or.inl (hw _ (own_w 18 rfl))) (Or.inl (hw _ (own_w 35 rfl))) (by decide) (t := (.array .int)) (t' := .int) (by decide) (by decide)))).other W88 (Or.inr (slot_ne (Or.inl (hw _ (own_w 18 rfl))) (Or.inl (hw _ (own_w 48 rfl))) (by decide) (t := (.array .int)) (t' := .int) (by decide) (by decide))))
      have f92 := ((((f64.other W71 (Or.inl ne_a0_ea)).other W78 (Or.inl ne_a0_ca)).other W83 (Or.inr (slot_ne (Or.inl (hw _ (own_w 20 rfl))) (Or.inl (hw _ (own_w 35 rfl))) (by decide) (t := (.array .int)) (t' := .int) (by decide) (by decide)))).other W88 (Or.inr (slot_ne (Or.inl (hw _ (own_w 20 rfl))) (Or.inl (hw _ (own_w 48 rfl))) (by decide) (t := (.array .int)) (t' := .int) (by decide) (by decide))))
      have f93 := (((f73.other W78 (Or.inl ne_a0_ca)).other W83 (Or.inr (slot_ne (Or.inl (hw _ (own_w 22 rfl))) (Or.inl (hw _ (own_w 35 rfl))) (by decide) (t := (.array .int)) (t' := .int) (by decide) (by decide)))).other W88 (Or.inr (slot_ne (Or.inl (hw _ (own_w 22 rfl))) (Or.inl (hw _ (own_w 48 rfl))) (by decide) (t := (.array .int)) (t' := .int) (by decide) (by decide))))
      have f94 := ((((V62.other W71 ne_la_ea).other W78 ne_la_ca).other W83 (Ne.symm ne_a0_la)).other W88 (Ne.symm ne_a0_la))
      have f95 := (((V71.other W78 ne_ea_ca).other W83 (Ne.symm ne_a0_ea)).other W88 (Ne.symm ne_a0_ea))
      have f96 := ((V78.other W83 (Ne.symm ne_a0_ca)).other W88 (Ne.symm ne_a0_ca))
      have f97 := (((((((F_a0_first.other W48 (Or.inr (slot_ne (Or.inl (hw _ (own_w 33 rfl))) (Or.inl (hw _ (own_w 46 rfl))) (by decide) (t := .int) (t' := .int) (by decide) (by decide)))).other W52 (Or.inr (slot_ne (Or.inl (hw _ (own_w 33 rfl))) (Or.inl (hw _ (own_w 48 rfl))) (by decide) (t := .int) (t' := .int) (by decide) (by decide)))).other W62 (Or.inl ne_a0_la)).other W71 (Or.inl ne_a0_ea)).other W78 (Or.inl ne_a0_ca)).other W83 (Or.inr (slot_ne (Or.inl (hw _ (own_w 33 rfl))) (Or.inl (hw _ (own_w 35 rfl))) (by decide) (t := .int) (t' := .int) (by decide) (by decide)))).other W88 (Or.inr (slot_ne (Or.inl (hw _ (own_w 33 rfl))) (Or.inl (hw _ (own_w 48 rfl))) (by decide) (t := .int) (t' := .int) (by decide) (by decide))))
      have f98 := (Fw83.other W88 (Or.inr (slot_ne (Or.inl (hw _ (own_w 35 rfl))) (Or.inl (hw _ (own_w 48 rfl))) (by decide) (t := .int) (t' := .int) (by decide) (by decide))))
      have f99 := ((((((Fw48.other W52 (Or.inr (slot_ne (Or.inl (hw _ (own_w 46 rfl))) (Or.inl (hw _ (own_w 48 rfl))) (by decide) (t := .int) (t' := .int) (by decide) (by decide)))).other W62 (Or.inl ne_a0_la)).other W71 (Or.inl ne_a0_ea)).other W78 (Or.inl ne_a0_ca)).other W83 (Or.inr (slot_ne (Or.inl (hw _ (own_w 46 rfl))) (Or.inl (hw _ (own_w 35 rfl))) (by decide) (t := .int) (t' := .int) (by decide) (by decide)))).other W88 (Or.inr (slot_ne (Or.inl (hw _ (own_w 46 rfl))) (Or.inl (hw _ (own_w 48 rfl))) (by decide) (t := .int) (t' := .int) (by decide) (by decide))))
      have f100 := (((((((F_a0_askedLine.other W48 (Or.inr (slot_ne (Or.inl (hw _ (own_w 29 rfl))) (Or.inl (hw _ (own_w 46 rfl))) (by decide) (t := .int) (t' := .int) (by decide) (by decide)))).other W52 (Or.inr (slot_ne (Or.inl (hw _ (own_w 29 rfl))) (Or.inl (hw _ (own_w 48 rfl))) (by decide) (t := .int) (t' := .int) (by decide) (by decide)))).other W62 (Or.inl ne_a0_la)).other W71 (Or.inl ne_a0_ea)).other W78 (Or.inl ne_a0_ca)).other W83 (Or.inr (slot_ne (Or.inl (hw _ (own_w 29 rfl))) (Or.inl (hw _ (own_w 35 rfl))) (by decide) (t := .int) (t' := .int) (by decide) (by decide)))).other W88 (Or.inr (slot_ne (Or.inl (hw _ (own_w 29 rfl))) (Or.inl (hw _ (own_w 48 rfl))) (by decide) (t := .int) (t' := .int) (by decide) (by decide))))
      have f101 := (((((((F_a0_passedChange.other W48 (Or.inr (slot_ne (Or.inl (hw _ (own_w 31 rfl))) (Or.inl (hw _ (own_w 46 rfl))) (by decide) (t := .int) (t' := .int) (by decide) (by decide)))).other W52 (Or.inr (slot_ne (Or.inl (hw _ (own_w 31 rfl))) (Or.inl (hw _ (own_w 48 rfl))) (by decide) (t := .int) (t' := .int) (by decide) (by decide)))).other W62 (Or.inl ne_a0_la)).other W71 (Or.inl ne_a0_ea)).other W78 (Or.inl ne_a0_ca)).other W83 (Or.inr (slot_ne (Or.inl (hw _ (own_w 31 rfl))) (Or.inl (hw _ (own_w 35 rfl))) (by decide) (t := .int) (t' := .int) (by decide) (by decide)))).other W88 (Or.inr (slot_ne (Or.inl (hw _ (own_w 31 rfl))) (Or.inl (hw _ (own_w 48 rfl))) (by decide) (t := .int) (t' := .int) (by decide) (by decide))))
      refine ⟨rfl, N88, kp89, f90, ?_, ?_, ?_, ?_, ?_, ?_, ?_, ?_, ?_, ?_, ?_, ?_⟩
      · exact f91
      · exact f92
      · exact f93
      · rw [show (own_p7_0_la p1 wl) = ws62 from (by subst hws78 hws71 hws62; simp only [own_p7_0_la, if_neg hc5])]; exact f94
      · rw [show (own_p7_0_ea p1 p2 p4 we rl rc) = ws71 from (by subst hws78 hws71 hws62; simp only [own_p7_0_ea, if_neg hc5])]; exact f95
      · rw [show (own_p7_0_ca p3 p4 wc) = ws78 from (by subst hws78 hws71 hws62; simp only [own_p7_0_ca, if_neg hc5])]; exact f96
      · exact f97
      · exact f98
      · exact f99
      · rw [show (own_p7_0_recordedChange p1 p3 p4 rl rc) = ((0 : Int32) + (p4 - p3)) from (by subst hws78 hws71 hws62; simp only [own_p7_0_recordedChange, if_neg hc5])]; exact Fw88
      · exact f100
      · exact f101
theorem ef_7_1 (m : MethodId) (a0 : Addr) (p1 : Int32) (p2 : Int32) (p3 : Int32) (p4 : Int32) : entryFrame m #[(.ref a0), (.int p1), (.int p2), (.int p3), (.int p4)] 5 = mkF m 0 #[.val (.ref a0), .val (.int p1), .val (.int p2), .val (.int p3), .val (.int p4)] [] := by first | (simp [entryFrame, mkF, argsToLocals, Value.category]; done) | rfl
def own_p7_1_la (p1 : Int32) (wl : List Int32) : List Int32 := ((wl.set 1 p1))
def own_p7_1_ea (p1 : Int32) (p2 : Int32) (p4 : Int32) (we : List Int32) (rl : Int32) (rc : Int32) : List Int32 := (if p1 = rl then ((we.set 1 ((p2 + rc) + p4))) else ((we.set 1 ((p2 + (0 : Int32)) + p4))))
def own_p7_1_ca (p3 : Int32) (p4 : Int32) (wc : List Int32) : List Int32 := ((wc.set 1 (p4 - p3)))
def own_p7_1_recordedChange (p1 : Int32) (p3 : Int32) (p4 : Int32) (rl : Int32) (rc : Int32) : Int32 := (if p1 = rl then (rc + (p4 - p3)) else ((0 : Int32) + (p4 - p3)))
def Q7_1 (Z : State) (a0 : Addr) (p1 : Int32) (p2 : Int32) (p3 : Int32) (p4 : Int32) (la : Addr) (ea : Addr) (ca : Addr) (kl : ClassId) (ke : ClassId) (kc : ClassId) (wl : List Int32) (we : List Int32) (wc : List Int32) (rl : Int32) (rc : Int32) (h0 : Heap) (n0 : Nat) (v : Option Value) (h : Heap) (L : List Loc) : Prop := v = none ∧ Fr n0 L ∧ Keep h0 h [a0, la, ea, ca] ∧ Exa Z h a0 "com/example/trawl/trawl/load/ColumnShifts" ∧ Fld Z h a0 "com/example/trawl/trawl/load/ColumnShifts" "lines" "[I" (.ref la) ∧ Fld Z h a0 "com/example/trawl/trawl/load/ColumnShifts" "ends" "[I" (.ref ea) ∧ Fld Z h a0 "com/example/trawl/trawl/load/ColumnShifts" "changes" "[I" (.ref ca) ∧ own_AI Z h la kl .int (4 : Int32) (own_p7_1_la p1 wl) ∧ own_AI Z h ea ke .int (4 : Int32) (own_p7_1_ea p1 p2 p4 we rl rc) ∧ own_AI Z h ca kc .int (4 : Int32) (own_p7_1_ca p3 p4 wc) ∧ Fld Z h a0 "com/example/trawl/trawl/load/ColumnShifts" "first" "I" (.int (0 : Int32)) ∧ Fld Z h a0 "com/example/trawl/trawl/load/ColumnShifts" "end" "I" (.int (2 : Int32)) ∧ Fld Z h a0 "com/example/trawl/trawl/load/ColumnShifts" "recordedLine" "I" (.int p1) ∧ Fld Z h a0 "com/example/trawl/trawl/load/ColumnShifts" "recordedChange" "I" (.int (own_p7_1_recordedChange p1 p3 p4 rl rc)) ∧ Fld Z h a0 "com/example/trawl/trawl/load/ColumnShifts" "askedLine" "I" (.int (0 : Int32)) ∧ Fld Z h a0 "com/example/trawl/trawl/load/ColumnShifts" "passedChange" "I" (.int (0 : Int32))
set_option maxRecDepth 65536 in
set_option maxHeartbeats 40000000 in
theorem rm7_1 (l : Launch) (Z : State) (aw : Array Value) (hw : ∀ d ∈ tables_1, d.before aw Z = true) (wq : List Jvm.Cond) (a0 : Addr) (p1 : Int32) (p2 : Int32) (p3 : Int32) (p4 : Int32) (la : Addr) (ea : Addr) (ca : Addr) (kl : ClassId) (ke : ClassId) (kc : ClassId) (wl : List Int32) (we : List Int32) (wc : List Int32) (rl : Int32) (rc : Int32) (h0 : Heap) (n0 : Nat) (Z0 : n0 ≤ h0.size) (E_a0 : Exa Z h0 a0 "com/example/trawl/trawl/load/ColumnShifts") (F_a0_lines : Fld Z h0 a0 "com/example/trawl/trawl/load/ColumnShifts" "lines" "[I" (.ref la)) (F_a0_ends : Fld Z h0 a0 "com/example/trawl/trawl/load/ColumnShifts" "ends" "[I" (.ref ea)) (F_a0_changes : Fld Z h0 a0 "com/example/trawl/trawl/load/ColumnShifts" "changes" "[I" (.ref ca)) (V_la : own_AI Z h0 la kl .int (4 : Int32) wl) (V_ea : own_AI Z h0 ea ke .int (4 : Int32) we) (V_ca : own_AI Z h0 ca kc .int (4 : Int32) wc) (ne_la_ea : la ≠ ea) (ne_la_ca : la ≠ ca) (ne_ea_ca : ea ≠ ca) (ne_a0_la : a0 ≠ la) (ne_a0_ea : a0 ≠ ea) (ne_a0_ca : a0 ≠ ca) (g_a0 : n0 ≤ a0) (g_la : n0 ≤ la) (g_ea : n0 ≤ ea) (g_ca : n0 ≤ ca) (F_a0_first : Fld Z h0 a0 "com/example/trawl/trawl/load/ColumnShifts" "first" "I" (.int (0 : Int32))) (F_a0_end : Fld Z h0 a0 "com/example/trawl/trawl/load/ColumnShifts" "end" "I" (.int (1 : Int32))) (F_a0_recordedLine : Fld Z h0 a0 "com/example/trawl/trawl/load/ColumnShifts" "recordedLine" "I" (.int rl)) (F_a0_recordedChange : Fld Z h0 a0 "com/example/trawl/trawl/load/ColumnShifts" "recordedChange" "I" (.int rc)) (F_a0_askedLine : Fld Z h0 a0 "com/example/trawl/trawl/load/ColumnShifts" "askedLine" "I" (.int (0 : Int32))) (F_a0_passedChange : Fld Z h0 a0 "com/example/trawl/trawl/load/ColumnShifts" "passedChange" "I" (.int (0 : Int32))) :
    MetFree l (⟨"com/example/trawl/trawl/load/ColumnShifts", "add", "(IIII)V"⟩ : MethodName) (head1 (Jvm.Cond.code (⟨"com/example/trawl/trawl/load/ColumnShifts", "add", "(IIII)V"⟩ : MethodName) prog_28_method_2_code 5 none :: wq) ({ frames := 0, cells := 0, slots := 0, locals := 0 } : Room)) (fun a U => a = #[(.ref a0), (.int p1), (.int p2), (.int p3), (.int p4)] ∧ Z.Warmed39 U.vm ∧ U.heap = h0) (fun _ _ _ _ _ => True) (fun _ U o U' => ∃ v L, o = .returned v ∧ Q7_1 Z a0 p1 p2 p3 p4 la ea ca kl ke kc wl we wc rl rc h0 n0 v U'.heap L ∧ FrameEnd U o U' L ({ frames := 0, cells := 0, slots := 0, locals := 0 } : Room).cells ({ frames := 0, cells := 0, slots := 0, locals := 0 } : Room).slots) := by
  refine MetFree.of_bodySF (plainFor_of_name pn_0) hisR ?_
  intro p e s m args below meth c s₁ Bd hml0 hP hK
  obtain ⟨rfl, hZ, hh⟩ := hP
  have hx := Bd.exec
  have hby := Bd.bytes
  have hml : c.maxLocals = 5 := hml0
  have hown : s.vm.findClass "com/example/trawl/trawl/load/ColumnShifts" = some m.cls := findClass_of_methodNamed Bd.named
  have hnm := (name_of_methodNamed Bd.named Bd.method).1
  have X0 : Stand p l e ({ frames := 0, cells := 0, slots := 0, locals := 0 } : Room) s m #[(.ref a0), (.int p1), (.int p2), (.int p3), (.int p4)] below meth c s₁ [] 0 0 := Stand.of_body Bd
  have e0 : s₁.heap = h0 := by rw [← hh, Bd.state]; rfl
  have N0 := Fr.nil n0
  have pre0 : own_Pre p e below (s₁.setTop (entryFrame m #[(.ref a0), (.int p1), (.int p2), (.int p3), (.int p4)] 5)) (s₁.setTop (mkF m 0 #[.val (.ref a0), .val (.int p1), .val (.int p2), .val (.int p3), .val (.int p4)] [])) := fun t k => castTop (ef_7_1 m a0 p1 p2 p3 p4) k
  obtain ⟨T1, X1, e1, st1⟩ := getF X0 hx hZ hown (host := "") (Or.inl (hw _ (own_w 45 rfl))) Via.refl e0 F_a0_recordedLine (g := (mkF m 2 #[.val (.ref a0), .val (.int p1), .val (.int p2), .val (.int p3), .val (.int p4)] [(.ref a0), (.int p1)])) rfl rfl (hb hby d7_2)
  have pre2 : own_Pre p e below (s₁.setTop (entryFrame m #[(.ref a0), (.int p1), (.int p2), (.int p3), (.int p4)] 5)) (T1.setTop (mkF m 5 #[.val (.ref a0), .val (.int p1), .val (.int p2), .val (.int p3), .val (.int p4)] [(.int rl), (.int p1)])) := fun t k => pre0 t (by
      show Steps p.tables e below (s₁.setTop (mkF m 0 #[.val (.ref a0), .val (.int p1), .val (.int p2), .val (.int p3), .val (.int p4)] [])) _
      refine XS.iloadN X0.here hx rfl (hb hby d7_0) rfl ?_
      refine XS.aloadN X0.here hx rfl (hb hby d7_1) rfl rfl ?_
      refine st1 _ ?_
      exact k)
  by_cases hc5 : p1 = rl
  · obtain ⟨T3, X3, e3, st3⟩ := getF X1 hx hZ hown (host := "") (Or.inl (hw _ (own_w 34 rfl))) Via.refl e1 F_a0_end (g := (mkF m 19 #[.val (.ref a0), .val (.int p1), .val (.int p2), .val (.int p3), .val (.int p4)] [(.ref a0)])) rfl rfl (hb hby d7_19)
    obtain ⟨T4, X4, e4, st4⟩ := getF X3 hx hZ hown (host := "") (Or.inl (hw _ (own_w 17 rfl))) Via.refl e3 F_a0_lines (g := (mkF m 23 #[.val (.ref a0), .val (.int p1), .val (.int p2), .val (.int p3), .val (.int p4)] [(.ref a0), (.int (1 : Int32))])) rfl rfl (hb hby d7_23)
    obtain ⟨cl5, Ar5, S5, M5⟩ := V_la.len
    obtain ⟨T6, X6, e6, st6⟩ := getF X4 hx hZ hown (host := "") (Or.inl (hw _ (own_w 17 rfl))) Via.refl e4 F_a0_lines (g := (mkF m 35 #[.val (.ref a0), .val (.int p1), .val (.int p2), .val (.int p3), .val (.int p4)] [(.ref a0)])) rfl rfl (hb hby d7_35)
    obtain ⟨T7, X7, e7, st7⟩ := getF X6 hx hZ hown (host := "") (Or.inl (hw _ (own_w 34 rfl))) Via.refl e6 F_a0_end (g := (mkF m 39 #[.val (.ref a0), .val (.int p1), .val (.int p2), .val (.int p3), .val (.int p4)] [(.ref a0), (.ref la)])) rfl rfl (hb hby d7_39)
    obtain ⟨cl8, Ar8, hin8, set8⟩ := own_AI.arr V_la (j := (1 : Int32)) ⟨by decide, by decide⟩
    obtain ⟨T8, h8, X8, e8, W8, st8⟩ := stI X7 hx hZ e7 Ar8 (j := (1 : Int32)) hin8 (g := (mkF m 43 #[.val (.ref a0), .val (.int p1), .val (.int p2), .val (.int p3), .val (.int p4)] [(.int p1), (.int (1 : Int32)), (.ref la)])) rfl rfl (hb hby d7_43)
    have V8 : own_AI Z h8 la kl .int (4 : Int32) (wl.set 1 p1) := set8 _ _ rfl W8
    obtain ⟨ws8, hws8⟩ : ∃ z, z = (wl.set 1 p1) := ⟨_, rfl⟩
    rw [← hws8] at V8
    have N8 := Fr.snoc X8 N0 g_la
    have kp9 : Keep h0 h8 [a0, la, ea, ca] := (Keep.refl h0 [a0, la, ea, ca]).wr W8 (Or.inl (own_w 1 rfl))
    have f10 := (F_a0_ends.other W8 (Or.inl ne_a0_la))
    obtain ⟨T11, X11, e11, st11⟩ := getF X8 hx hZ hown (host := "") (Or.inl (hw _ (own_w 19 rfl))) Via.refl e8 f10 (g := (mkF m 45 #[.val (.ref a0), .val (.int p1), .val (.int p2), .val (.int p3), .val (.int p4)] [(.ref a0)])) rfl rfl (hb hby d7_45)
    have f12 := (F_a0_end.other W8 (Or.inl ne_a0_la))
    obtain ⟨T13, X13, e13, st13⟩ := getF X11 hx hZ hown (host := "") (Or.inl (hw _ (own_w 34 rfl))) Via.refl e11 f12 (g := (mkF m 49 #[.val (.ref a0), .val (.int p1), .val (.int p2), .val (.int p3), .val (.int p4)] [(.ref a0), (.ref ea)])) rfl rfl (hb hby d7_49)
    have f14 := (F_a0_recordedChange.other W8 (Or.inl ne_a0_la))
    obtain ⟨T15, X15, e15, st15⟩ := getF X13 hx hZ hown (host := "") (Or.inl (hw _ (own_w 47 rfl))) Via.refl e13 f14 (g := (mkF m 54 #[.val (.ref a0), .val (.int p1), .val (.int p2), .val (.int p3), .val (.int p4)] [(.ref a0), (.int p2), (.int (1 : Int32)), (.ref ea)])) rfl rfl (hb hby d7_54)
    have f16 := (V_ea.other W8 (Ne.symm ne_la_ea))
    obtain ⟨cl17, Ar17, hin17, set17⟩ := own_AI.arr f16 (j := (1 : Int32)) ⟨by decide, by decide⟩
    obtain ⟨T17, h17, X17, e17, W17, st17⟩ := stI X15 hx hZ e15 Ar17 (j := (1 : Int32)) hin17 (g := (mkF m 61 #[.val (.ref a0), .val (.int p1), .val (.int p2), .val (.int p3), .val (.int p4)] [(.int ((p2 + rc) + p4)), (.int (1 : Int32)), (.ref ea)])) rfl rfl (hb hby d7_61)
    have V17 : own_AI Z h17 ea ke .int (4 : Int32) (we.set 1 ((p2 + rc) + p4)) := set17 _ _ rfl W17
    obtain ⟨ws17, hws17⟩ : ∃ z, z = (we.set 1 ((p2 + rc) + p4)) := ⟨_, rfl⟩
    rw [← hws17] at V17
    have N17 := Fr.snoc X17 N8 g_ea
    have kp18 : Keep h0 h17 [a0, la, ea, ca] := kp9.wr W17 (Or.inl (own_w 2 rfl))
    have f19 := ((F_a0_changes.other W8 (Or.inl ne_a0_la)).other W17 (Or.inl ne_a0_ea))
    obtain ⟨T20, X20, e20, st20⟩ := getF X17 hx hZ hown (host := "") (Or.inl (hw _ (own_w 21 rfl))) Via.refl e17 f19 (g := (mkF m 63 #[.val (.ref a0), .val (.int p1), .val (.int p2), .val (.int p3), .val (.int p4)] [(.ref a0)])) rfl rfl (hb hby d7_63)
    have f21 := (f12.other W17 (Or.inl ne_a0_ea))
    obtain ⟨T22, X22, e22, st22⟩ := getF X20 hx hZ hown (host := "") (Or.inl (hw _ (own_w 34 rfl))) Via.refl e20 f21 (g := (mkF m 67 #[.val (.ref a0), .val (.int p1), .val (.int p2), .val (.int p3), .val (.int p4)] [(.ref a0), (.ref ca)])) rfl rfl (hb hby d7_67)
    have f23 := ((V_ca.other W8 (Ne.symm ne_la_ca)).other W17 (Ne.symm ne_ea_ca))
    obtain ⟨cl24, Ar24, hin24, set24⟩ := own_AI.arr f23 (j := (1 : Int32)) ⟨by decide, by decide⟩
    obtain ⟨T24, h24, X24, e24, W24, st24⟩ := stI X22 hx hZ e22 Ar24 (j := (1 : Int32)) hin24 (g := (mkF m 74 #[.val (.ref a0), .val (.int p1), .val (.int p2), .val (.int p3), .val (.int p4)] [(.int (p4 - p3)), (.int (1 : Int32)), (.ref ca)])) rfl rfl (hb hby d7_74)
    have V24 : own_AI Z h24 ca kc .int (4 : Int32) (wc.set 1 (p4 - p3)) := set24 _ _ rfl W24
    obtain ⟨ws24, hws24⟩ : ∃ z, z = (wc.set 1 (p4 - p3)) := ⟨_, rfl⟩
    rw [← hws24] at V24
    have N24 := Fr.snoc X24 N17 g_ca
    have kp25 : Keep h0 h24 [a0, la, ea, ca] := kp18.wr W24 (Or.inl (own_w 3 rfl))
    have f26 := (f21.other W24 (Or.inl ne_a0_ca))
    obtain ⟨T27, X27, e27, st27⟩ := getF X24 hx hZ hown (host := "") (Or.inl (hw _ (own_w 34 rfl))) Via.refl e24 f26 (g := (mkF m 77 #[.val (.ref a0), .val (.int p1), .val (.int p2), .val (.int p3), .val (.int p4)] [(.ref a0), (.ref a0)])) rfl rfl (hb hby d7_77)
    have f28 := (((E_a0.wr W8).wr W17).wr W24)
    obtain ⟨T29, h29, X29, e29, W29, st29⟩ := putF X27 hx hZ hown (host := "") (Or.inl (hw _ (own_w 34 rfl))) Via.refl e27 f26 f28 (Or.inl (hw _ (own_w 35 rfl))) (hw _ (own_w 8 rfl)) (ty := .int) (by decide) rfl rfl (g := (mkF m 82 #[.val (.ref a0), .val (.int p1), .val (.int p2), .val (.int p3), .val (.int p4)] [(.int (2 : Int32)), (.ref a0)])) rfl rfl (hb hby d7_82)
    have Fw29 := f26.same W29
    have N29 := Fr.snoc X29 N24 g_a0
    have kp30 : Keep h0 h29 [a0, la, ea, ca] := kp25.wr W29 (Or.inl (own_w 0 rfl))
    have f31 := (((f14.other W17 (Or.inl ne_a0_ea)).other W24 (Or.inl ne_a0_ca)).other W29 (Or.inr (slot_ne (Or.inl (hw _ (own_w 48 rfl))) (Or.inl (hw _ (own_w 35 rfl))) (by decide) (t := .int) (t' := .int) (by decide) (by decide))))
    obtain ⟨T32, X32, e32, st32⟩ := getF X29 hx hZ hown (host := "") (Or.inl (hw _ (own_w 47 rfl))) Via.refl e29 f31 (g := (mkF m 87 #[.val (.ref a0), .val (.int p1), .val (.int p2), .val (.int p3), .val (.int p4)] [(.ref a0), (.ref a0)])) rfl rfl (hb hby d7_87)
    have f33 := (f28.wr W29)
    obtain ⟨T34, h34, X34, e34, W34, st34⟩ := putF X32 hx hZ hown (host := "") (Or.inl (hw _ (own_w 47 rfl))) Via.refl e32 f31 f33 (Or.inl (hw _ (own_w 48 rfl))) (hw _ (own_w 8 rfl)) (ty := .int) (by decide) rfl rfl (g := (mkF m 95 #[.val (.ref a0), .val (.int p1), .val (.int p2), .val (.int p3), .val (.int p4)] [(.int (rc + (p4 - p3))), (.ref a0)])) rfl rfl (hb hby d7_95)
    have Fw34 := f31.same W34
    have N34 := Fr.snoc X34 N29 g_a0
    have kp35 : Keep h0 h34 [a0, la, ea, ca] := kp30.wr W34 (Or.inl (own_w 0 rfl))
    obtain ⟨fs, hr, hrun, hended, hW, hsame⟩ := X34.leave (v := none) (fun _ => rfl)
    refine ⟨_, _, pre2 _ ?_, hrun, hended, _, _, rfl, ?_, ⟨_, rfl⟩, hW, hsame.mono (by decide) (by decide)⟩
    · show Steps p.tables e below (T1.setTop (mkF m 5 #[.val (.ref a0), .val (.int p1), .val (.int p2), .val (.int p3), .val (.int p4)] [(.int rl), (.int p1)])) _
      refine XS.icmpYes X1.here hx rfl (pc0 := 5) (pc' := 18) rfl (hb hby d7_5) rfl (teq hc5).1 (by decide) (by decide) ?_
      refine XS.aloadN X1.here hx rfl (hb hby d7_18) rfl rfl ?_
      refine st3 _ ?_
      refine XS.aloadN X3.here hx rfl (hb hby d7_22) rfl rfl ?_
      refine st4 _ ?_
      show Steps p.tables e below (T4.setTop (mkF m 26 #[.val (.ref a0), .val (.int p1), .val (.int p2), .val (.int p3), .val (.int p4)] [(.ref la), (.int (1 : Int32))])) _
      refine X4.arraylength hx (by rw [e4]; exact Ar5.1) (State.isArrayOf_alike hZ.alike Ar5.2.1) (g := (mkF m 26 #[.val (.ref a0), .val (.int p1), .val (.int p2), .val (.int p3), .val (.int p4)] [(.ref la), (.int (1 : Int32))])) rfl rfl (hb hby d7_26) _ ?_
      rw [len_of S5 M5]
      refine XS.icmpYes X4.here hx rfl (pc0 := 27) (pc' := 34) rfl (hb hby d7_27) rfl (feq (by decide : ¬ ((1 : Int32) = (4 : Int32)))).2 (by decide) (by decide) ?_
      refine XS.aloadN X4.here hx rfl (hb hby d7_34) rfl rfl ?_
      refine st6 _ ?_
      refine XS.aloadN X6.here hx rfl (hb hby d7_38) rfl rfl ?_
      show Steps p.tables e below (T6.setTop (mkF m 39 #[.val (.ref a0), .val (.int p1), .val (.int p2), .val (.int p3), .val (.int p4)] [(.ref a0), (.ref la)])) _
      refine st7 _ ?_
      refine XS.iloadN X7.here hx rfl (hb hby d7_42) rfl ?_
      refine st8 _ ?_
      refine XS.aloadN X8.here hx rfl (hb hby d7_44) rfl rfl ?_
      refine st11 _ ?_
      show Steps p.tables e below (T11.setTop (mkF m 48 #[.val (.ref a0), .val (.int p1), .val (.int p2), .val (.int p3), .val (.int p4)] [(.ref ea)])) _
      refine XS.aloadN X11.here hx rfl (hb hby d7_48) rfl rfl ?_
      refine st13 _ ?_
      refine XS.iloadN X13.here hx rfl (hb hby d7_52) rfl ?_
      refine XS.aloadN X13.here hx rfl (hb hby d7_53) rfl rfl ?_
      refine st15 _ ?_
      show Steps p.tables e below (T15.setTop (mkF m 57 #[.val (.ref a0), .val (.int p1), .val (.int p2), .val (.int p3), .val (.int p4)] [(.int rc), (.int p2), (.int (1 : Int32)), (.ref ea)])) _
      refine XS.iadd X15.here hx rfl (hb hby d7_57) rfl ?_
      refine XS.iload X15.here hx rfl (hb hby d7_58) rfl ?_
      refine XS.iadd X15.here hx rfl (hb hby d7_60) rfl ?_
      refine st17 _ ?_
      refine XS.aloadN X17.here hx rfl (hb hby d7_62) rfl rfl ?_
      show Steps p.tables e below (T17.setTop (mkF m 63 #[.val (.ref a0), .val (.int p1), .val (.int p2), .val (.int p3), .val (.int p4)] [(.ref a0)])) _
      refine st20 _ ?_
      refine XS.aloadN X20.here hx rfl (hb hby d7_66) rfl rfl ?_
      refine st22 _ ?_
      refine XS.iload X22.here hx rfl (hb hby d7_70) rfl ?_
      refine XS.iloadN X22.here hx rfl (hb hby d7_72) rfl ?_
      show Steps p.tables e below (T22.setTop (mkF m 73 #[.val (.ref a0), .val (.int p1), .val (.int p2), .val (.int p3), .val (.int p4)] [(.int p3), (.int p4), (.int (1 : Int32)), (.ref ca)])) _
      refine XS.isub X22.here hx rfl (hb hby d7_73) rfl ?_
      refine st24 _ ?_
      refine XS.aloadN X24.here hx rfl (hb hby d7_75) rfl rfl ?_
      refine XS.dup X24.here hx rfl (hb hby d7_76) rfl rfl ?_
      refine st27 _ ?_
      show Steps p.tables e below (T27.setTop (mkF m 80 #[.val (.ref a0), .val (.int p1), .val (.int p2), .val (.int p3), .val (.int p4)] [(.int (1 : Int32)), (.ref a0)])) _
      refine XS.iconst X27.here hx rfl (hb hby d7_80) ?_
      refine XS.iadd X27.here hx rfl (hb hby d7_81) rfl ?_
      refine st29 _ ?_
      refine XS.aloadN X29.here hx rfl (hb hby d7_85) rfl rfl ?_
      refine XS.dup X29.here hx rfl (hb hby d7_86) rfl rfl ?_
      show Steps p.tables e below (T29.setTop (mkF m 87 #[.val (.ref a0), .val (.int p1), .val (.int p2), .val (.int p3), .val (.int p4)] [(.ref a0), (.ref a0)])) _
      refine st32 _ ?_
      refine XS.iload X32.here hx rfl (hb hby d7_90) rfl ?_
      refine XS.iloadN X32.here hx rfl (hb hby d7_92) rfl ?_
      refine XS.isub X32.here hx rfl (hb hby d7_93) rfl ?_
      refine XS.iadd X32.here hx rfl (hb hby d7_94) rfl ?_
      show Steps p.tables e below (T32.setTop (mkF m 95 #[.val (.ref a0), .val (.int p1), .val (.int p2), .val (.int p3), .val (.int p4)] [(.int (rc + (p4 - p3))), (.ref a0)])) _
      refine st34 _ ?_
      show Steps p.tables e below (T34.setTop (mkF m 98 #[.val (.ref a0), .val (.int p1), .val (.int p2), .val (.int p3), .val (.int p4)] [])) _
      exact X34.returnOut hx Bd.returns (hb hby d7_98) hr
    · show Q7_1 Z a0 p1 p2 p3 p4 la ea ca kl ke kc wl we wc rl rc h0 n0 _ T34.heap _
      rw [e34]
      unfold Q7_1
      have f36 := (f33.wr W34)
      have f37 := (((((F_a0_lines.other W8 (Or.inl ne_a0_la)).other W17 (Or.inl ne_a0_ea)).other W24 (Or.inl ne_a0_ca)).other W29 (Or.inr (slot_ne (Or.inl (hw _ (own_w 18 rfl))) (Or.inl (hw _ (own_w 35 rfl))) (by decide) (t := (.array .int)) (t' := .int) (by decide) (by decide)))).other W34 (Or.inr (slot_ne (Or.inl (hw _ (own_w 18 rfl))) (Or.inl (hw _ (own_w 48 rfl))) (by decide) (t := (.array .int)) (t' := .int) (by decide) (by decide))))
      have f38 := ((((f10.other W17 (Or.inl ne_a0_ea)).other W24 (Or.inl ne_a0_ca)).other W29 (Or.inr (slot_ne (Or.inl (hw _ (own_w 20 rfl))) (Or.inl (hw _ (own_w 35 rfl))) (by decide) (t := (.array .int)) (t' := .int) (by decide) (by decide)))).other W34 (Or.inr (slot_ne (Or.inl (hw _ (own_w 20 rfl))) (Or.inl (hw _ (own_w 48 rfl))) (by decide) (t := (.array .int)) (t' := .int) (by decide) (by decide))))
      have f39 := (((f19.other W24 (Or.inl ne_a0_ca)).other W29 (Or.inr (slot_ne (Or.inl (hw _ (own_w 22 rfl))) (Or.inl (hw _ (own_w 35 rfl))) (by decide) (t := (.array .int)) (t' := .int) (by decide) (by decide)))).other W34 (Or.inr (slot_ne (Or.inl (hw _ (own_w 22 rfl))) (Or.inl (hw _ (own_w 48 rfl))) (by decide) (t := (.array .int)) (t' := .int) (by decide) (by decide))))
      have f40 := ((((V8.other W17 ne_la_ea).other W24 ne_la_ca).other W29 (Ne.symm ne_a0_la)).other W34 (Ne.symm ne_a0_la))
      have f41 := (((V17.other W24 ne_ea_ca).other W29 (Ne.symm ne_a0_ea)).other W34 (Ne.symm ne_a0_ea))
      have f42 := ((V24.other W29 (Ne.symm ne_a0_ca)).other W34 (Ne.symm ne_a0_ca))
      have f43 := (((((F_a0_first.other W8 (Or.inl ne_a0_la)).other W17 (Or.inl ne_a0_ea)).other W24 (Or.inl ne_a0_ca)).other W29 (Or.inr (slot_ne (Or.inl (hw _ (own_w 33 rfl))) (Or.inl (hw _ (own_w 35 rfl))) (by decide) (t := .int) (t' := .int) (by decide) (by decide)))).other W34 (Or.inr (slot_ne (Or.inl (hw _ (own_w 33 rfl))) (Or.inl (hw _ (own_w 48 rfl))) (by decide) (t := .int) (t' := .int) (by decide) (by decide))))
      have f44 := (Fw29.other W34 (Or.inr (slot_ne (Or.inl (hw _ (own_w 35 rfl))) (Or.inl (hw _ (own_w 48 rfl))) (by decide) (t := .int) (t' := .int) (by decide) (by decide))))
      have f45 := (((((F_a0_recordedLine.other W8 (Or.inl ne_a0_la)).other W17 (Or.inl ne_a0_ea)).other W24 (Or.inl ne_a0_ca)).other W29 (Or.inr (slot_ne (Or.inl (hw _ (own_w 46 rfl))) (Or.inl (hw _ (own_w 35 rfl))) (by decide) (t := .int) (t' := .int) (by decide) (by decide)))).other W34 (Or.inr (slot_ne (Or.inl (hw _ (own_w 46 rfl))) (Or.inl (hw _ (own_w 48 rfl))) (by decide) (t := .int) (t' := .int) (by decide) (by decide))))
      have f46 := (((((F_a0_askedLine.other W8 (Or.inl ne_a0_la)).other W17 (Or.inl ne_a0_ea)).other W24 (Or.inl ne_a0_ca)).other W29 (Or.inr (slot_ne (Or.inl (hw _ (own_w 29 rfl))) (Or.inl (hw _ (own_w 35 rfl))) (by decide) (t := .int) (t' := .int) (by decide) (by decide)))).other W34 (Or.inr (slot_ne (Or.inl (hw _ (own_w 29 rfl))) (Or.inl (hw _ (own_w 48 rfl))) (by decide) (t := .int) (t' := .int) (by decide) (by decide))))
      have f47 := (((((F_a0_passedChange.other W8 (Or.inl ne_a0_la)).other W17 (Or.inl ne_a0_ea)).other W24 (Or.inl ne_a0_ca)).other W29 (Or.inr (slot_ne (Or.inl (hw _ (own_w 31 rfl))) (Or.inl (hw _ (own_w 35 rfl))) (by decide) (t := .int) (t' := .int) (by decide) (by decide)))).other W34 (Or.inr (slot_ne (Or.inl (hw _ (own_w 31 rfl))) (Or.inl (hw _ (own_w 48 rfl))) (by decide) (t := .int) (t' := .int) (by decide) (by decide))))
      refine ⟨rfl, N34, kp35, f36, ?_, ?_, ?_, ?_, ?_, ?_, ?_, ?_, ?_, ?_, ?_, ?_⟩
      · exact f37
      · exact f38
      · exact f39
      · rw [show (own_p7_1_la p1 wl) = ws8 from (by subst hws24 hws17 hws8; simp only [own_p7_1_la, if_pos hc5])]; exact f40
      · rw [show (own_p7_1_ea p1 p2 p4 we rl rc) = ws17 from (by subst hws24 hws17 hws8; simp only [own_p7_1_ea, if_pos hc5])]; exact f41
      · rw [show (own_p7_1_ca p3 p4 wc) = ws24 from (by subst hws24 hws17 hws8; simp only [own_p7_1_ca, if_pos hc5])]; exact f42
      · exact f43
      · exact f44
      · rw [hc5]; exact f45
      · rw [show (own_p7_1_recordedChange p1 p3 p4 rl rc) = (rc + (p4 - p3)) from (by subst hws24 hws17 hws8; simp only [own_p7_1_recordedChange, if_pos hc5])]; exact Fw34
      · exact f46
      · exact f47
  · obtain ⟨T48, h48, X48, e48, W48, st48⟩ := putF X1 hx hZ hown (host := "") (Or.inl (hw _ (own_w 45 rfl))) Via.refl e1 F_a0_recordedLine E_a0 (Or.inl (hw _ (own_w 46 rfl))) (hw _ (own_w 8 rfl)) (ty := .int) (by decide) rfl rfl (g := (mkF m 10 #[.val (.ref a0), .val (.int p1), .val (.int p2), .val (.int p3), .val (.int p4)] [(.int p1), (.ref a0)])) rfl rfl (hb hby d7_10)
    have Fw48 := F_a0_recordedLine.same W48
    have N48 := Fr.snoc X48 N0 g_a0
    have kp49 : Keep h0 h48 [a0, la, ea, ca] := (Keep.refl h0 [a0, la, ea, ca]).wr W48 (Or.inl (own_w 0 rfl))
    have f50 := (E_a0.wr W48)
    have f51 := (F_a0_recordedChange.other W48 (Or.inr (slot_ne (Or.inl (hw _ (own_w 48 rfl))) (Or.inl (hw _ (own_w 46 rfl))) (by decide) (t := .int) (t' := .int) (by decide) (by decide))))
    obtain ⟨T52, h52, X52, e52, W52, st52⟩ := putF X48 hx hZ hown (host := "") (Or.inl (hw _ (own_w 47 rfl))) Via.refl e48 f51 f50 (Or.inl (hw _ (own_w 48 rfl))) (hw _ (own_w 8 rfl)) (ty := .int) (by decide) rfl rfl (g := (mkF m 15 #[.val (.ref a0), .val (.int p1), .val (.int p2), .val (.int p3), .val (.int p4)] [(.int (0 : Int32)), (.ref a0)])) rfl rfl (hb hby d7_15)
    have Fw52 := f51.same W52
    have N52 := Fr.snoc X52 N48 g_a0
    have kp53 : Keep h0 h52 [a0, la, ea, ca] := kp49.wr W52 (Or.inl (own_w 0 rfl))
    have f54 := ((F_a0_end.other W48 (Or.inr (slot_ne (Or.inl (hw _ (own_w 35 rfl))) (Or.inl (hw _ (own_w 46 rfl))) (by decide) (t := .int) (t' := .int) (by decide) (by decide)))).other W52 (Or.inr (slot_ne (Or.inl (hw _ (own_w 35 rfl))) (Or.inl (hw _ (own_w 48 rfl))) (by decide) (t := .int) (t' := .int) (by decide) (by decide))))
    obtain ⟨T55, X55, e55, st55⟩ := getF X52 hx hZ hown (host := "") (Or.inl (hw _ (own_w 34 rfl))) Via.refl e52 f54 (g := (mkF m 19 #[.val (.ref a0), .val (.int p1), .val (.int p2), .val (.int p3), .val (.int p4)] [(.ref a0)])) rfl rfl (hb hby d7_19)
    have f56 := ((F_a0_lines.other W48 (Or.inr (slot_ne (Or.inl (hw _ (own_w 18 rfl))) (Or.inl (hw _ (own_w 46 rfl))) (by decide) (t := (.array .int)) (t' := .int) (by decide) (by decide)))).other W52 (Or.inr (slot_ne (Or.inl (hw _ (own_w 18 rfl))) (Or.inl (hw _ (own_w 48 rfl))) (by decide) (t := (.array .int)) (t' := .int) (by decide) (by decide))))
    obtain ⟨T57, X57, e57, st57⟩ := getF X55 hx hZ hown (host := "") (Or.inl (hw _ (own_w 17 rfl))) Via.refl e55 f56 (g := (mkF m 23 #[.val (.ref a0), .val (.int p1), .val (.int p2), .val (.int p3), .val (.int p4)] [(.ref a0), (.int (1 : Int32))])) rfl rfl (hb hby d7_23)
    have f58 := ((V_la.other W48 (Ne.symm ne_a0_la)).other W52 (Ne.symm ne_a0_la))
    obtain ⟨cl59, Ar59, S59, M59⟩ := f58.len
    obtain ⟨T60, X60, e60, st60⟩ := getF X57 hx hZ hown (host := "") (Or.inl (hw _ (own_w 17 rfl))) Via.refl e57 f56 (g := (mkF m 35 #[.val (.ref a0), .val (.int p1), .val (.int p2), .val (.int p3), .val (.int p4)] [(.ref a0)])) rfl rfl (hb hby d7_35)
    obtain ⟨T61, X61, e61, st61⟩ := getF X60 hx hZ hown (host := "") (Or.inl (hw _ (own_w 34 rfl))) Via.refl e60 f54 (g := (mkF m 39 #[.val (.ref a0), .val (.int p1), .val (.int p2), .val (.int p3), .val (.int p4)] [(.ref a0), (.ref la)])) rfl rfl (hb hby d7_39)
    obtain ⟨cl62, Ar62, hin62, set62⟩ := own_AI.arr f58 (j := (1 : Int32)) ⟨by decide, by decide⟩
    obtain ⟨T62, h62, X62, e62, W62, st62⟩ := stI X61 hx hZ e61 Ar62 (j := (1 : Int32)) hin62 (g := (mkF m 43 #[.val (.ref a0), .val (.int p1), .val (.int p2), .val (.int p3), .val (.int p4)] [(.int p1), (.int (1 : Int32)), (.ref la)])) rfl rfl (hb hby d7_43)
    have V62 : own_AI Z h62 la kl .int (4 : Int32) (wl.set 1 p1) := set62 _ _ rfl W62
    obtain ⟨ws62, hws62⟩ : ∃ z, z = (wl.set 1 p1) := ⟨_, rfl⟩
    rw [← hws62] at V62
    have N62 := Fr.snoc X62 N52 g_la
    have kp63 : Keep h0 h62 [a0, la, ea, ca] := kp53.wr W62 (Or.inl (own_w 1 rfl))
    have f64 := (((F_a0_ends.other W48 (Or.inr (slot_ne (Or.inl (hw _ (own_w 20 rfl))) (Or.inl (hw _ (own_w 46 rfl))) (by decide) (t := (.array .int)) (t' := .int) (by decide) (by decide)))).other W52 (Or.inr (slot_ne (Or.inl (hw _ (own_w 20 rfl))) (Or.inl (hw _ (own_w 48 rfl))) (by decide) (t := (.array .int)) (t' := .int) (by decide) (by decide)))).other W62 (Or.inl ne_a0_la))
    obtain ⟨T65, X65, e65, st65⟩ := getF X62 hx hZ hown (host := "") (Or.inl (hw _ (own_w 19 rfl))) Via.refl e62 f64 (g := (mkF m 45 #[.val (.ref a0), .val (.int p1), .val (.int p2), .val (.int p3), .val (.int p4)] [(.ref a0)])) rfl rfl (hb hby d7_45)
    have f66 := (f54.other W62 (Or.inl ne_a0_la))
    obtain ⟨T67, X67, e67, st67⟩ := getF X65 hx hZ hown (host := "") (Or.inl (hw _ (own_w 34 rfl))) Via.refl e65 f66 (g := (mkF m 49 #[.val (.ref a0), .val (.int p1), .val (.int p2), .val (.int p3), .val (.int p4)] [(.ref a0), (.ref ea)])) rfl rfl (hb hby d7_49)
    have f68 := (Fw52.other W62 (Or.inl ne_a0_la))
    obtain ⟨T69, X69, e69, st69⟩ := getF X67 hx hZ hown (host := "") (Or.inl (hw _ (own_w 47 rfl))) Via.refl e67 f68 (g := (mkF m 54 #[.val (.ref a0), .val (.int p1), .val (.int p2), .val (.int p3), .val (.int p4)] [(.ref a0), (.int p2), (.int (1 : Int32)), (.ref ea)])) rfl rfl (hb hby d7_54)
    have f70 := (((V_ea.other W48 (Ne.symm ne_a0_ea)).other W52 (Ne.symm ne_a0_ea)).other W62 (Ne.symm ne_la_ea))
    obtain ⟨cl71, Ar71, hin71, set71⟩ := own_AI.arr f70 (j := (1 : Int32)) ⟨by decide, by decide⟩
    obtain ⟨T71, h71, X71, e71, W71, st71⟩ := stI X69 hx hZ e69 Ar71 (j := (1 : Int32)) hin71 (g := (mkF m 61 #[.val (.ref a0), .val (.int p1), .val (.int p2), .val (.int p3), .val (.int p4)] [(.int ((p2 + (0 : Int32)) + p4)), (.int (1 : Int32)), (.ref ea)])) rfl rfl (hb hby d7_61)
    have V71 : own_AI Z h71 ea ke .int (4 : Int32) (we.set 1 ((p2 + (0 : Int32)) + p4)) := set71 _ _ rfl W71
    obtain ⟨ws71, hws71⟩ : ∃ z, z = (we.set 1 ((p2 + (0 : Int32)) + p4)) := ⟨_, rfl⟩
    rw [← hws71] at V71
    have N71 := Fr.snoc X71 N62 g_ea
    have kp72 : Keep h0 h71 [a0, la, ea, ca] := kp63.wr W71 (Or.inl (own_w 2 rfl))
    have f73 := ((((F_a0_changes.other W48 (Or.inr (slot_ne (Or.inl (hw _ (own_w 22 rfl))) (Or.inl (hw _ (own_w 46 rfl))) (by decide) (t := (.array .int)) (t' := .int) (by decide) (by decide)))).other W52 (Or.inr (slot_ne (Or.inl (hw _ (own_w 22 rfl))) (Or.inl (hw _ (own_w 48 rfl))) (by decide) (t := (.array .int)) (t' := .int) (by decide) (by decide)))).other W62 (Or.inl ne_a0_la)).other W71 (Or.inl ne_a0_ea))
    obtain ⟨T74, X74, e74, st74⟩ := getF X71 hx hZ hown (host := "") (Or.inl (hw _ (own_w 21 rfl))) Via.refl e71 f73 (g := (mkF m 63 #[.val (.ref a0), .val (.int p1), .val (.int p2), .val (.int p3), .val (.int p4)] [(.ref a0)])) rfl rfl (hb hby d7_63)
    have f75 := (f66.other W71 (Or.inl ne_a0_ea))
    obtain ⟨T76, X76, e76, st76⟩ := getF X74 hx hZ hown (host := "") (Or.inl (hw _ (own_w 34 rfl))) Via.refl e74 f75 (g := (mkF m 67 #[.val (.ref a0), .val (.int p1), .val (.int p2), .val (.int p3), .val (.int p4)] [(.ref a0), (.ref ca)])) rfl rfl (hb hby d7_67)
    have f77 := ((((V_ca.other W48 (Ne.symm ne_a0_ca)).other W52 (Ne.symm ne_a0_ca)).other W62 (Ne.symm ne_la_ca)).other W71 (Ne.symm ne_ea_ca))
    obtain ⟨cl78, Ar78, hin78, set78⟩ := own_AI.arr f77 (j := (1 : Int32)) ⟨by decide, by decide⟩
    obtain ⟨T78, h78, X78, e78, W78, st78⟩ := stI X76 hx hZ e76 Ar78 (j := (1 : Int32)) hin78 (g := (mkF m 74 #[.val (.ref a0), .val (.int p1), .val (.int p2), .val (.int p3), .val (.int p4)] [(.int (p4 - p3)), (.int (1 : Int32)), (.ref ca)])) rfl rfl (hb hby d7_74)
    have V78 : own_AI Z h78 ca kc .int (4 : Int32) (wc.set 1 (p4 - p3)) := set78 _ _ rfl W78
    obtain ⟨ws78, hws78⟩ : ∃ z, z = (wc.set 1 (p4 - p3)) := ⟨_, rfl⟩
    rw [← hws78] at V78
    have N78 := Fr.snoc X78 N71 g_ca
    have kp79 : Keep h0 h78 [a0, la, ea, ca] := kp72.wr W78 (Or.inl (own_w 3 rfl))
    have f80 := (f75.other W78 (Or.inl ne_a0_ca))
    obtain ⟨T81, X81, e81, st81⟩ := getF X78 hx hZ hown (host := "") (Or.inl (hw _ (own_w 34 rfl))) Via.refl e78 f80 (g := (mkF m 77 #[.val (.ref a0), .val (.int p1), .val (.int p2), .val (.int p3), .val (.int p4)] [(.ref a0), (.ref a0)])) rfl rfl (hb hby d7_77)
    have f82 := ((((f50.wr W52).wr W62).wr W71).wr W78)
    obtain ⟨T83, h83, X83, e83, W83, st83⟩ := putF X81 hx hZ hown (host := "") (Or.inl (hw _ (own_w 34 rfl))) Via.refl e81 f80 f82 (Or.inl (hw _ (own_w 35 rfl))) (hw _ (own_w 8 rfl)) (ty := .int) (by decide) rfl rfl (g := (mkF m 82 #[.val (.ref a0), .val (.int p1), .val (.int p2), .val (.int p3), .val (.int p4)] [(.int (2 : Int32)), (.ref a0)])) rfl rfl (hb hby d7_82)
    have Fw83 := f80.same W83
    have N83 := Fr.snoc X83 N78 g_a0
    have kp84 : Keep h0 h83 [a0, la, ea, ca] := kp79.wr W83 (Or.inl (own_w 0 rfl))
    have f85 := (((f68.other W71 (Or.inl ne_a0_ea)).other W78 (Or.inl ne_a0_ca)).other W83 (Or.inr (slot_ne (Or.inl (hw _ (own_w 48 rfl))) (Or.inl (hw _ (own_w 35 rfl))) (by decide) (t := .int) (t' := .int) (by decide) (by decide))))
    obtain ⟨T86, X86, e86, st86⟩ := getF X83 hx hZ hown (host := "") (Or.inl (hw _ (own_w 47 rfl))) Via.refl e83 f85 (g := (mkF m 87 #[.val (.ref a0), .val (.int p1), .val (.int p2), .val (.int p3), .val (.int p4)] [(.ref a0), (.ref a0)])) rfl rfl (hb hby d7_87)
    have f87 := (f82.wr W83)
    obtain ⟨T88, h88, X88, e88, W88, st88⟩ := putF X86 hx hZ hown (host := "") (Or.inl (hw _ (own_w 47 rfl))) Via.refl e86 f85 f87 (Or.inl (hw _ (own_w 48 rfl))) (hw _ (own_w 8 rfl)) (ty := .int) (by decide) rfl rfl (g := (mkF m 95 #[.val (.ref a0), .val (.int p1), .val (.int p2), .val (.int p3), .val (.int p4)] [(.int ((0 : Int32) + (p4 - p3))), (.ref a0)])) rfl rfl (hb hby d7_95)
    have Fw88 := f85.same W88
    have N88 := Fr.snoc X88 N83 g_a0
    have kp89 : Keep h0 h88 [a0, la, ea, ca] := kp84.wr W88 (Or.inl (own_w 0 rfl))
    obtain ⟨fs, hr, hrun, hended, hW, hsame⟩ := X88.leave (v := none) (fun _ => rfl)
    refine ⟨_, _, pre2 _ ?_, hrun, hended, _, _, rfl, ?_, ⟨_, rfl⟩, hW, hsame.mono (by decide) (by decide)⟩
    · show Steps p.tables e below (T1.setTop (mkF m 5 #[.val (.ref a0), .val (.int p1), .val (.int p2), .val (.int p3), .val (.int p4)] [(.int rl), (.int p1)])) _
      refine XS.icmpNo X1.here hx rfl (hb hby d7_5) rfl (feq hc5).1 ?_
      refine XS.aloadN X1.here hx rfl (hb hby d7_8) rfl rfl ?_
      refine XS.iloadN X1.here hx rfl (hb hby d7_9) rfl ?_
      refine st48 _ ?_
      refine XS.aloadN X48.here hx rfl (hb hby d7_13) rfl rfl ?_
      show Steps p.tables e below (T48.setTop (mkF m 14 #[.val (.ref a0), .val (.int p1), .val (.int p2), .val (.int p3), .val (.int p4)] [(.ref a0)])) _
      refine XS.iconst X48.here hx rfl (hb hby d7_14) ?_
      refine st52 _ ?_
      refine XS.aloadN X52.here hx rfl (hb hby d7_18) rfl rfl ?_
      refine st55 _ ?_
      refine XS.aloadN X55.here hx rfl (hb hby d7_22) rfl rfl ?_
      show Steps p.tables e below (T55.setTop (mkF m 23 #[.val (.ref a0), .val (.int p1), .val (.int p2), .val (.int p3), .val (.int p4)] [(.ref a0), (.int (1 : Int32))])) _
      refine st57 _ ?_
      refine X57.arraylength hx (by rw [e57]; exact Ar59.1) (State.isArrayOf_alike hZ.alike Ar59.2.1) (g := (mkF m 26 #[.val (.ref a0), .val (.int p1), .val (.int p2), .val (.int p3), .val (.int p4)] [(.ref la), (.int (1 : Int32))])) rfl rfl (hb hby d7_26) _ ?_
      rw [len_of S59 M59]
      refine XS.icmpYes X57.here hx rfl (pc0 := 27) (pc' := 34) rfl (hb hby d7_27) rfl (feq (by decide : ¬ ((1 : Int32) = (4 : Int32)))).2 (by decide) (by decide) ?_
      refine XS.aloadN X57.here hx rfl (hb hby d7_34) rfl rfl ?_
      refine st60 _ ?_
      show Steps p.tables e below (T60.setTop (mkF m 38 #[.val (.ref a0), .val (.int p1), .val (.int p2), .val (.int p3), .val (.int p4)] [(.ref la)])) _
      refine XS.aloadN X60.here hx rfl (hb hby d7_38) rfl rfl ?_
      refine st61 _ ?_
      refine XS.iloadN X61.here hx rfl (hb hby d7_42) rfl ?_
      refine st62 _ ?_
      refine XS.aloadN X62.here hx rfl (hb hby d7_44) rfl rfl ?_
      show Steps p.tables e below (T62.setTop (mkF m 45 #[.val (.ref a0), .val (.int p1), .val (.int p2), .val (.int p3), .val (.int p4)] [(.ref a0)])) _
      refine st65 _ ?_
      refine XS.aloadN X65.here hx rfl (hb hby d7_48) rfl rfl ?_
      refine st67 _ ?_
      refine XS.iloadN X67.here hx rfl (hb hby d7_52) rfl ?_
      refine XS.aloadN X67.here hx rfl (hb hby d7_53) rfl rfl ?_
      show Steps p.tables e below (T67.setTop (mkF m 54 #[.val (.ref a0), .val (.int p1), .val (.int p2), .val (.int p3), .val (.int p4)] [(.ref a0), (.int p2), (.int (1 : Int32)), (.ref ea)])) _
      refine st69 _ ?_
      refine XS.iadd X69.here hx rfl (hb hby d7_57) rfl ?_
      refine XS.iload X69.here hx rfl (hb hby d7_58) rfl ?_
      refine XS.iadd X69.here hx rfl (hb hby d7_60) rfl ?_
      refine st71 _ ?_
      show Steps p.tables e below (T71.setTop (mkF m 62 #[.val (.ref a0), .val (.int p1), .val (.int p2), .val (.int p3), .val (.int p4)] [])) _
      refine XS.aloadN X71.here hx rfl (hb hby d7_62) rfl rfl ?_
      refine st74 _ ?_
      refine XS.aloadN X74.here hx rfl (hb hby d7_66) rfl rfl ?_
      refine st76 _ ?_
      refine XS.iload X76.here hx rfl (hb hby d7_70) rfl ?_
      show Steps p.tables e below (T76.setTop (mkF m 72 #[.val (.ref a0), .val (.int p1), .val (.int p2), .val (.int p3), .val (.int p4)] [(.int p4), (.int (1 : Int32)), (.ref ca)])) _
      refine XS.iloadN X76.here hx rfl (hb hby d7_72) rfl ?_
      refine XS.isub X76.here hx rfl (hb hby d7_73) rfl ?_
      refine st78 _ ?_
      refine XS.aloadN X78.here hx rfl (hb hby d7_75) rfl rfl ?_
      refine XS.dup X78.here hx rfl (hb hby d7_76) rfl rfl ?_
      show Steps p.tables e below (T78.setTop (mkF m 77 #[.val (.ref a0), .val (.int p1), .val (.int p2), .val (.int p3), .val (.int p4)] [(.ref a0), (.ref a0)])) _
      refine st81 _ ?_
      refine XS.iconst X81.here hx rfl (hb hby d7_80) ?_
      refine XS.iadd X81.here hx rfl (hb hby d7_81) rfl ?_
      refine st83 _ ?_
      refine XS.aloadN X83.here hx rfl (hb hby d7_85) rfl rfl ?_
      show Steps p.tables e below (T83.setTop (mkF m 86 #[.val (.ref a0), .val (.int p1), .val (.int p2), .val (.int p3), .val (.int p4)] [(.ref a0)])) _
      refine XS.dup X83.here hx rfl (hb hby d7_86) rfl rfl ?_
      refine st86 _ ?_
      refine XS.iload X86.here hx rfl (hb hby d7_90) rfl ?_
      refine XS.iloadN X86.here hx rfl (hb hby d7_92) rfl ?_
      refine XS.isub X86.here hx rfl (hb hby d7_93) rfl ?_
      show Steps p.tables e below (T86.setTop (mkF m 94 #[.val (.ref a0), .val (.int p1), .val (.int p2), .val (.int p3), .val (.int p4)] [(.int (p4 - p3)), (.int (0 : Int32)), (.ref a0)])) _
      refine XS.iadd X86.here hx rfl (hb hby d7_94) rfl ?_
      refine st88 _ ?_
      show Steps p.tables e below (T88.setTop (mkF m 98 #[.val (.ref a0), .val (.int p1), .val (.int p2), .val (.int p3), .val (.int p4)] [])) _
      exact X88.returnOut hx Bd.returns (hb hby d7_98) hr
    · show Q7_1 Z a0 p1 p2 p3 p4 la ea ca kl ke kc wl we wc rl rc h0 n0 _ T88.heap _
      rw [e88]
      unfold Q7_1
      have f90 := (f87.wr W88)
      have f91 := (((((f56.other W62 (Or.inl ne_a0_la)).other W71 (Or.inl ne_a0_ea)).other W78 (Or.inl ne_a0_ca)).other W83 (Or.inr (slot_ne (Or.inl (hw _ (own_w 18 rfl))) (Or.inl (hw _ (own_w 35 rfl))) (by decide) (t := (.array .int)) (t' := .int) (by decide) (by decide)))).other W88 (Or.inr (slot_ne (Or.inl (hw _ (own_w 18 rfl))) (Or.inl (hw _ (own_w 48 rfl))) (by decide) (t := (.array .int)) (t' := .int) (by decide) (by decide))))
      have f92 := ((((f64.other W71 (Or.inl ne_a0_ea)).other W78 (Or.inl ne_a0_ca)).other W83 (Or.inr (slot_ne (Or.inl (hw _ (own_w 20 rfl))) (Or.inl (hw _ (own_w 35 rfl))) (by decide) (t := (.array .int)) (t' := .int) (by decide) (by decide)))).other W88 (Or.inr (slot_ne (Or.inl (hw _ (own_w 20 rfl))) (Or.inl (hw _ (own_w 48 rfl))) (by decide) (t := (.array .int)) (t' := .int) (by decide) (by decide))))
      have f93 := (((f73.other W78 (Or.inl ne_a0_ca)).other W83 (Or.inr (slot_ne (Or.inl (hw _ (own_w 22 rfl))) (Or.inl (hw _ (own_w 35 rfl))) (by decide) (t := (.array .int)) (t' := .int) (by decide) (by decide)))).other W88 (Or.inr (slot_ne (Or.inl (hw _ (own_w 22 rfl))) (Or.inl (hw _ (own_w 48 rfl))) (by decide) (t := (.array .int)) (t' := .int) (by decide) (by decide))))
      have f94 := ((((V62.other W71 ne_la_ea).other W78 ne_la_ca).other W83 (Ne.symm ne_a0_la)).other W88 (Ne.symm ne_a0_la))
      have f95 := (((V71.other W78 ne_ea_ca).other W83 (Ne.symm ne_a0_ea)).other W88 (Ne.symm ne_a0_ea))
      have f96 := ((V78.other W83 (Ne.symm ne_a0_ca)).other W88 (Ne.symm ne_a0_ca))
      have f97 := (((((((F_a0_first.other W48 (Or.inr (slot_ne (Or.inl (hw _ (own_w 33 rfl))) (Or.inl (hw _ (own_w 46 rfl))) (by decide) (t := .int) (t' := .int) (by decide) (by decide)))).other W52 (Or.inr (slot_ne (Or.inl (hw _ (own_w 33 rfl))) (Or.inl (hw _ (own_w 48 rfl))) (by decide) (t := .int) (t' := .int) (by decide) (by decide)))).other W62 (Or.inl ne_a0_la)).other W71 (Or.inl ne_a0_ea)).other W78 (Or.inl ne_a0_ca)).other W83 (Or.inr (slot_ne (Or.inl (hw _ (own_w 33 rfl))) (Or.inl (hw _ (own_w 35 rfl))) (by decide) (t := .int) (t' := .int) (by decide) (by decide)))).other W88 (Or.inr (slot_ne (Or.inl (hw _ (own_w 33 rfl))) (Or.inl (hw _ (own_w 48 rfl))) (by decide) (t := .int) (t' := .int) (by decide) (by decide))))
      have f98 := (Fw83.other W88 (Or.inr (slot_ne (Or.inl (hw _ (own_w 35 rfl))) (Or.inl (hw _ (own_w 48 rfl))) (by decide) (t := .int) (t' := .int) (by decide) (by decide))))
      have f99 := ((((((Fw48.other W52 (Or.inr (slot_ne (Or.inl (hw _ (own_w 46 rfl))) (Or.inl (hw _ (own_w 48 rfl))) (by decide) (t := .int) (t' := .int) (by decide) (by decide)))).other W62 (Or.inl ne_a0_la)).other W71 (Or.inl ne_a0_ea)).other W78 (Or.inl ne_a0_ca)).other W83 (Or.inr (slot_ne (Or.inl (hw _ (own_w 46 rfl))) (Or.inl (hw _ (own_w 35 rfl))) (by decide) (t := .int) (t' := .int) (by decide) (by decide)))).other W88 (Or.inr (slot_ne (Or.inl (hw _ (own_w 46 rfl))) (Or.inl (hw _ (own_w 48 rfl))) (by decide) (t := .int) (t' := .int) (by decide) (by decide))))
      have f100 := (((((((F_a0_askedLine.other W48 (Or.inr (slot_ne (Or.inl (hw _ (own_w 29 rfl))) (Or.inl (hw _ (own_w 46 rfl))) (by decide) (t := .int) (t' := .int) (by decide) (by decide)))).other W52 (Or.inr (slot_ne (Or.inl (hw _ (own_w 29 rfl))) (Or.inl (hw _ (own_w 48 rfl))) (by decide) (t := .int) (t' := .int) (by decide) (by decide)))).other W62 (Or.inl ne_a0_la)).other W71 (Or.inl ne_a0_ea)).other W78 (Or.inl ne_a0_ca)).other W83 (Or.inr (slot_ne (Or.inl (hw _ (own_w 29 rfl))) (Or.inl (hw _ (own_w 35 rfl))) (by decide) (t := .int) (t' := .int) (by decide) (by decide)))).other W88 (Or.inr (slot_ne (Or.inl (hw _ (own_w 29 rfl))) (Or.inl (hw _ (own_w 48 rfl))) (by decide) (t := .int) (t' := .int) (by decide) (by decide))))
      have f101 := (((((((F_a0_passedChange.other W48 (Or.inr (slot_ne (Or.inl (hw _ (own_w 31 rfl))) (Or.inl (hw _ (own_w 46 rfl))) (by decide) (t := .int) (t' := .int) (by decide) (by decide)))).other W52 (Or.inr (slot_ne (Or.inl (hw _ (own_w 31 rfl))) (Or.inl (hw _ (own_w 48 rfl))) (by decide) (t := .int) (t' := .int) (by decide) (by decide)))).other W62 (Or.inl ne_a0_la)).other W71 (Or.inl ne_a0_ea)).other W78 (Or.inl ne_a0_ca)).other W83 (Or.inr (slot_ne (Or.inl (hw _ (own_w 31 rfl))) (Or.inl (hw _ (own_w 35 rfl))) (by decide) (t := .int) (t' := .int) (by decide) (by decide)))).other W88 (Or.inr (slot_ne (Or.inl (hw _ (own_w 31 rfl))) (Or.inl (hw _ (own_w 48 rfl))) (by decide) (t := .int) (t' := .int) (by decide) (by decide))))
      refine ⟨rfl, N88, kp89, f90, ?_, ?_, ?_, ?_, ?_, ?_, ?_, ?_, ?_, ?_, ?_, ?_⟩
      · exact f91
      · exact f92
      · exact f93
      · rw [show (own_p7_1_la p1 wl) = ws62 from (by subst hws78 hws71 hws62; simp only [own_p7_1_la, if_neg hc5])]; exact f94
      · rw [show (own_p7_1_ea p1 p2 p4 we rl rc) = ws71 from (by subst hws78 hws71 hws62; simp only [own_p7_1_ea, if_neg hc5])]; exact f95
      · rw [show (own_p7_1_ca p3 p4 wc) = ws78 from (by subst hws78 hws71 hws62; simp only [own_p7_1_ca, if_neg hc5])]; exact f96
      · exact f97
      · exact f98
      · exact f99
      · rw [show (own_p7_1_recordedChange p1 p3 p4 rl rc) = ((0 : Int32) + (p4 - p3)) from (by subst hws78 hws71 hws62; simp only [own_p7_1_recordedChange, if_neg hc5])]; exact Fw88
      · exact f100
      · exact f101
theorem own_nlt {x y : Int32} (h : x < y) : ¬ (x = y) := fun e => by subst e; rw [Int32.lt_iff_toInt_lt] at h; omega
theorem d5_0 : decode prog_28_method_3_code 0 = .ok (.iload_n 1, 1) := by decide +kernel
theorem d5_1 : decode prog_28_method_3_code 1 = .ok (.iconst 1, 1) := by decide +kernel
theorem d5_2 : decode prog_28_method_3_code 2 = .ok (.if_icmp .lt 8, 3) := by decide +kernel
theorem d5_5 : decode prog_28_method_3_code 5 = .ok (.iload_n 2, 1) := by decide +kernel
theorem d5_6 : decode prog_28_method_3_code 6 = .ok (.iconst 1, 1) := by decide +kernel
theorem d5_7 : decode prog_28_method_3_code 7 = .ok (.if_icmp .ge 5, 3) := by decide +kernel
theorem d5_10 : decode prog_28_method_3_code 10 = .ok (.iload_n 2, 1) := by decide +kernel
theorem d5_11 : decode prog_28_method_3_code 11 = .ok (.ireturn, 1) := by decide +kernel
theorem d5_12 : decode prog_28_method_3_code 12 = .ok (.iload_n 1, 1) := by decide +kernel
theorem d5_13 : decode prog_28_method_3_code 13 = .ok (.aload_n 0, 1) := by decide +kernel
theorem d5_14 : decode prog_28_method_3_code 14 = .ok (.getfield 32, 3) := by decide +kernel
theorem d5_17 : decode prog_28_method_3_code 17 = .ok (.if_icmp .eq 13, 3) := by decide +kernel
theorem d5_20 : decode prog_28_method_3_code 20 = .ok (.aload_n 0, 1) := by decide +kernel
theorem d5_21 : decode prog_28_method_3_code 21 = .ok (.iload_n 1, 1) := by decide +kernel
theorem d5_22 : decode prog_28_method_3_code 22 = .ok (.putfield 32, 3) := by decide +kernel
theorem d5_25 : decode prog_28_method_3_code 25 = .ok (.aload_n 0, 1) := by decide +kernel
theorem d5_26 : decode prog_28_method_3_code 26 = .ok (.iconst 0, 1) := by decide +kernel
theorem d5_27 : decode prog_28_method_3_code 27 = .ok (.putfield 35, 3) := by decide +kernel
theorem d5_30 : decode prog_28_method_3_code 30 = .ok (.aload_n 0, 1) := by decide +kernel
theorem d5_31 : decode prog_28_method_3_code 31 = .ok (.getfield 38, 3) := by decide +kernel
theorem d5_34 : decode prog_28_method_3_code 34 = .ok (.aload_n 0, 1) := by decide +kernel
theorem d5_35 : decode prog_28_method_3_code 35 = .ok (.getfield 26, 3) := by decide +kernel
theorem d5_38 : decode prog_28_method_3_code 38 = .ok (.if_icmp .ge 86, 3) := by decide +kernel
theorem d5_124 : decode prog_28_method_3_code 124 = .ok (.iload_n 2, 1) := by decide +kernel
theorem d5_125 : decode prog_28_method_3_code 125 = .ok (.aload_n 0, 1) := by decide +kernel
theorem d5_126 : decode prog_28_method_3_code 126 = .ok (.getfield 35, 3) := by decide +kernel
theorem d5_129 : decode prog_28_method_3_code 129 = .ok (.isub, 1) := by decide +kernel
theorem d5_130 : decode prog_28_method_3_code 130 = .ok (.ireturn, 1) := by decide +kernel
theorem ef_5_0_0 (m : MethodId) (a0 : Addr) (p1 : Int32) (p2 : Int32) : entryFrame m #[(.ref a0), (.int p1), (.int p2)] 3 = mkF m 0 #[.val (.ref a0), .val (.int p1), .val (.int p2)] [] := by first | (simp [entryFrame, mkF, argsToLocals, Value.category]; done) | rfl
def own_f5_0_0 (p1 : Int32) (p2 : Int32) (al : Int32) (pc : Int32) : Int32 := (if p1 < (1 : Int32) then p2 else (if p2 < (1 : Int32) then p2 else (if p1 = al then (p2 - pc) else (p2 - (0 : Int32)))))
def own_p5_0_0_askedLine (p1 : Int32) (p2 : Int32) (al : Int32) : Int32 := (if p1 < (1 : Int32) then al else (if p2 < (1 : Int32) then al else (if p1 = al then al else p1)))
def own_p5_0_0_passedChange (p1 : Int32) (p2 : Int32) (al : Int32) (pc : Int32) : Int32 := (if p1 < (1 : Int32) then pc else (if p2 < (1 : Int32) then pc else (if p1 = al then pc else (0 : Int32))))
def Q5_0_0 (Z : State) (a0 : Addr) (p1 : Int32) (p2 : Int32) (la : Addr) (ea : Addr) (ca : Addr) (kl : ClassId) (ke : ClassId) (kc : ClassId) (wl : List Int32) (we : List Int32) (wc : List Int32) (al : Int32) (pc : Int32) (h0 : Heap) (n0 : Nat) (v : Option Value) (h : Heap) (L : List Loc) : Prop := v = some (.int (own_f5_0_0 p1 p2 al pc)) ∧ Fr n0 L ∧ Keep h0 h [a0] ∧ Exa Z h a0 "com/example/trawl/trawl/load/ColumnShifts" ∧ Fld Z h a0 "com/example/trawl/trawl/load/ColumnShifts" "lines" "[I" (.ref la) ∧ Fld Z h a0 "com/example/trawl/trawl/load/ColumnShifts" "ends" "[I" (.ref ea) ∧ Fld Z h a0 "com/example/trawl/trawl/load/ColumnShifts" "changes" "[I" (.ref ca) ∧ Fld Z h a0 "com/example/trawl/trawl/load/ColumnShifts" "first" "I" (.int (0 : Int32)) ∧ Fld Z h a0 "com/example/trawl/trawl/load/ColumnShifts" "end" "I" (.int (0 : Int32)) ∧ Fld Z h a0 "com/example/trawl/trawl/load/ColumnShifts" "askedLine" "I" (.int (own_p5_0_0_askedLine p1 p2 al)) ∧ Fld Z h a0 "com/example/trawl/trawl/load/ColumnShifts" "passedChange" "I" (.int (own_p5_0_0_passedChange p1 p2 al pc))
set_option maxRecDepth 65536 in
set_option maxHeartbeats 40000000 in
theorem rm5_0_0 (l : Launch) (Z : State) (aw : Array Value) (hw : ∀ d ∈ tables_1, d.before aw Z = true) (wq : List Jvm.Cond) (a0 : Addr) (p1 : Int32) (p2 : Int32) (la : Addr) (ea : Addr) (ca : Addr) (kl : ClassId) (ke : ClassId) (kc : ClassId) (wl : List Int32) (we : List Int32) (wc : List Int32) (al : Int32) (pc : Int32) (h0 : Heap) (n0 : Nat) (Z0 : n0 ≤ h0.size) (E_a0 : Exa Z h0 a0 "com/example/trawl/trawl/load/ColumnShifts") (F_a0_lines : Fld Z h0 a0 "com/example/trawl/trawl/load/ColumnShifts" "lines" "[I" (.ref la)) (F_a0_ends : Fld Z h0 a0 "com/example/trawl/trawl/load/ColumnShifts" "ends" "[I" (.ref ea)) (F_a0_changes : Fld Z h0 a0 "com/example/trawl/trawl/load/ColumnShifts" "changes" "[I" (.ref ca)) (V_la : own_AI Z h0 la kl .int (4 : Int32) wl) (V_ea : own_AI Z h0 ea ke .int (4 : Int32) we) (V_ca : own_AI Z h0 ca kc .int (4 : Int32) wc) (ne_la_ea : la ≠ ea) (ne_la_ca : la ≠ ca) (ne_ea_ca : ea ≠ ca) (ne_a0_la : a0 ≠ la) (ne_a0_ea : a0 ≠ ea) (ne_a0_ca : a0 ≠ ca) (g_a0 : n0 ≤ a0) (F_a0_first : Fld Z h0 a0 "com/example/trawl/trawl/load/ColumnShifts" "first" "I" (.int (0 : Int32))) (F_a0_end : Fld Z h0 a0 "com/example/trawl/trawl/load/ColumnShifts" "end" "I" (.int (0 : Int32))) (F_a0_askedLine : Fld Z h0 a0 "com/example/trawl/trawl/load/ColumnShifts" "askedLine" "I" (.int al)) (F_a0_passedChange : Fld Z h0 a0 "com/example/trawl/trawl/load/ColumnShifts" "passedChange" "I" (.int pc)) :
    MetFree l (⟨"com/example/trawl/trawl/load/ColumnShifts", "columnInText", "(II)I"⟩ : MethodName) (head1 (Jvm.Cond.code (⟨"com/example/trawl/trawl/load/ColumnShifts", "columnInText", "(II)I"⟩ : MethodName) prog_28_method_3_code 3 (some .int) :: wq) ({ frames := 0, cells := 0, slots := 0, locals := 0 } : Room)) (fun a U => a = #[(.ref a0), (.int p1), (.int p2)] ∧ Z.Warmed39 U.vm ∧ U.heap = h0) (fun _ _ _ _ _ => True) (fun _ U o U' => ∃ v L, o = .returned v ∧ Q5_0_0 Z a0 p1 p2 la ea ca kl ke kc wl we wc al pc h0 n0 v U'.heap L ∧ FrameEnd U o U' L ({ frames := 0, cells := 0, slots := 0, locals := 0 } : Room).cells ({ frames := 0, cells := 0, slots := 0, locals := 0 } : Room).slots) := by
  refine MetFree.of_bodySF (plainFor_of_name pn_0) hisR ?_
  intro p e s m args below meth c s₁ Bd hml0 hP hK
  obtain ⟨rfl, hZ, hh⟩ := hP
  have hx := Bd.exec
  have hby := Bd.bytes
  have hml : c.maxLocals = 3 := hml0
  have hown : s.vm.findClass "com/example/trawl/trawl/load/ColumnShifts" = some m.cls := findClass_of_methodNamed Bd.named
  have hnm := (name_of_methodNamed Bd.named Bd.method).1
  have X0 : Stand p l e ({ frames := 0, cells := 0, slots := 0, locals := 0 } : Room) s m #[(.ref a0), (.int p1), (.int p2)] below meth c s₁ [] 0 0 := Stand.of_body Bd
  have e0 : s₁.heap = h0 := by rw [← hh, Bd.state]; rfl
  have N0 := Fr.nil n0
  have pre0 : own_Pre p e below (s₁.setTop (entryFrame m #[(.ref a0), (.int p1), (.int p2)] 3)) (s₁.setTop (mkF m 0 #[.val (.ref a0), .val (.int p1), .val (.int p2)] [])) := fun t k => castTop (ef_5_0_0 m a0 p1 p2) k
  have pre1 : own_Pre p e below (s₁.setTop (entryFrame m #[(.ref a0), (.int p1), (.int p2)] 3)) (s₁.setTop (mkF m 2 #[.val (.ref a0), .val (.int p1), .val (.int p2)] [(.int (1 : Int32)), (.int p1)])) := fun t k => pre0 t (by
      show Steps p.tables e below (s₁.setTop (mkF m 0 #[.val (.ref a0), .val (.int p1), .val (.int p2)] [])) _
      refine XS.iloadN X0.here hx rfl (hb hby d5_0) rfl ?_
      refine XS.iconst X0.here hx rfl (hb hby d5_1) ?_
      exact k)
  by_cases hc2 : p1 < (1 : Int32)
  · obtain ⟨fs, hr, hrun, hended, hW, hsame⟩ := X0.leave (v := some (.int p2)) (fun h => by rw [Bd.returns] at h; cases h)
    refine ⟨_, _, pre1 _ ?_, hrun, hended, _, _, rfl, ?_, ⟨_, rfl⟩, hW, hsame.mono (by decide) (by decide)⟩
    · show Steps p.tables e below (s₁.setTop (mkF m 2 #[.val (.ref a0), .val (.int p1), .val (.int p2)] [(.int (1 : Int32)), (.int p1)])) _
      refine XS.icmpYes X0.here hx rfl (pc0 := 2) (pc' := 10) rfl (hb hby d5_2) rfl (tlt hc2).1 (by decide) (by decide) ?_
      refine XS.iloadN X0.here hx rfl (hb hby d5_10) rfl ?_
      show Steps p.tables e below (s₁.setTop (mkF m 11 #[.val (.ref a0), .val (.int p1), .val (.int p2)] [(.int p2)])) _
      exact retI X0 hx Bd.returns (hb hby d5_11) hr
    · show Q5_0_0 Z a0 p1 p2 la ea ca kl ke kc wl we wc al pc h0 n0 _ s₁.heap _
      rw [e0]
      unfold Q5_0_0
      refine ⟨?_, N0, (Keep.refl h0 [a0]), E_a0, ?_, ?_, ?_, ?_, ?_, ?_, ?_⟩
      · simp only [own_f5_0_0, if_pos hc2]
      · exact F_a0_lines
      · exact F_a0_ends
      · exact F_a0_changes
      · exact F_a0_first
      · exact F_a0_end
      · rw [show (own_p5_0_0_askedLine p1 p2 al) = al from (by simp only [own_p5_0_0_askedLine, if_pos hc2])]; exact F_a0_askedLine
      · rw [show (own_p5_0_0_passedChange p1 p2 al pc) = pc from (by simp only [own_p5_0_0_passedChange, if_pos hc2])]; exact F_a0_passedChange
  · have pre2 : own_Pre p e below (s₁.setTop (entryFrame m #[(.ref a0), (.int p1), (.int p2)] 3)) (s₁.setTop (mkF m 7 #[.val (.ref a0), .val (.int p1), .val (.int p2)] [(.int (1 : Int32)), (.int p2)])) := fun t k => pre1 t (by
        show Steps p.tables e below (s₁.setTop (mkF m 2 #[.val (.ref a0), .val (.int p1), .val (.int p2)] [(.int (1 : Int32)), (.int p1)])) _
        refine XS.icmpNo X0.here hx rfl (hb hby d5_2) rfl (flt hc2).1 ?_
        refine XS.iloadN X0.here hx rfl (hb hby d5_5) rfl ?_
        refine XS.iconst X0.here hx rfl (hb hby d5_6) ?_
        exact k)
    by_cases hc7 : p2 < (1 : Int32)
    · obtain ⟨fs, hr, hrun, hended, hW, hsame⟩ := X0.leave (v := some (.int p2)) (fun h => by rw [Bd.returns] at h; cases h)
      refine ⟨_, _, pre2 _ ?_, hrun, hended, _, _, rfl, ?_, ⟨_, rfl⟩, hW, hsame.mono (by decide) (by decide)⟩
      · show Steps p.tables e below (s₁.setTop (mkF m 7 #[.val (.ref a0), .val (.int p1), .val (.int p2)] [(.int (1 : Int32)), (.int p2)])) _
        refine XS.icmpNo X0.here hx rfl (hb hby d5_7) rfl (tlt hc7).2.1 ?_
        refine XS.iloadN X0.here hx rfl (hb hby d5_10) rfl ?_
        show Steps p.tables e below (s₁.setTop (mkF m 11 #[.val (.ref a0), .val (.int p1), .val (.int p2)] [(.int p2)])) _
        exact retI X0 hx Bd.returns (hb hby d5_11) hr
      · show Q5_0_0 Z a0 p1 p2 la ea ca kl ke kc wl we wc al pc h0 n0 _ s₁.heap _
        rw [e0]
        unfold Q5_0_0
        refine ⟨?_, N0, (Keep.refl h0 [a0]), E_a0, ?_, ?_, ?_, ?_, ?_, ?_, ?_⟩
        · simp only [own_f5_0_0, if_neg hc2, if_pos hc7]
        · exact F_a0_lines
        · exact F_a0_ends
        · exact F_a0_changes
        · exact F_a0_first
        · exact F_a0_end
        · rw [show (own_p5_0_0_askedLine p1 p2 al) = al from (by simp only [own_p5_0_0_askedLine, if_neg hc2, if_pos hc7])]; exact F_a0_askedLine
        · rw [show (own_p5_0_0_passedChange p1 p2 al pc) = pc from (by simp only [own_p5_0_0_passedChange, if_neg hc2, if_pos hc7])]; exact F_a0_passedChange
    · obtain ⟨T3, X3, e3, st3⟩ := getF X0 hx hZ hown (host := "") (Or.inl (hw _ (own_w 28 rfl))) Via.refl e0 F_a0_askedLine (g := (mkF m 14 #[.val (.ref a0), .val (.int p1), .val (.int p2)] [(.ref a0), (.int p1)])) rfl rfl (hb hby d5_14)
      have pre4 : own_Pre p e below (s₁.setTop (entryFrame m #[(.ref a0), (.int p1), (.int p2)] 3)) (T3.setTop (mkF m 17 #[.val (.ref a0), .val (.int p1), .val (.int p2)] [(.int al), (.int p1)])) := fun t k => pre2 t (by
          show Steps p.tables e below (s₁.setTop (mkF m 7 #[.val (.ref a0), .val (.int p1), .val (.int p2)] [(.int (1 : Int32)), (.int p2)])) _
          refine XS.icmpYes X0.here hx rfl (pc0 := 7) (pc' := 12) rfl (hb hby d5_7) rfl (flt hc7).2.1 (by decide) (by decide) ?_
          refine XS.iloadN X0.here hx rfl (hb hby d5_12) rfl ?_
          refine XS.aloadN X0.here hx rfl (hb hby d5_13) rfl rfl ?_
          refine st3 _ ?_
          exact k)
      by_cases hc17 : p1 = al
      · obtain ⟨T5, X5, e5, st5⟩ := getF X3 hx hZ hown (host := "") (Or.inl (hw _ (own_w 32 rfl))) Via.refl e3 F_a0_first (g := (mkF m 31 #[.val (.ref a0), .val (.int p1), .val (.int p2)] [(.ref a0)])) rfl rfl (hb hby d5_31)
        obtain ⟨T6, X6, e6, st6⟩ := getF X5 hx hZ hown (host := "") (Or.inl (hw _ (own_w 34 rfl))) Via.refl e5 F_a0_end (g := (mkF m 35 #[.val (.ref a0), .val (.int p1), .val (.int p2)] [(.ref a0), (.int (0 : Int32))])) rfl rfl (hb hby d5_35)
        obtain ⟨T7, X7, e7, st7⟩ := getF X6 hx hZ hown (host := "") (Or.inl (hw _ (own_w 30 rfl))) Via.refl e6 F_a0_passedChange (g := (mkF m 126 #[.val (.ref a0), .val (.int p1), .val (.int p2)] [(.ref a0), (.int p2)])) rfl rfl (hb hby d5_126)
        obtain ⟨fs, hr, hrun, hended, hW, hsame⟩ := X7.leave (v := some (.int (p2 - pc))) (fun h => by rw [Bd.returns] at h; cases h)
        refine ⟨_, _, pre4 _ ?_, hrun, hended, _, _, rfl, ?_, ⟨_, rfl⟩, hW, hsame.mono (by decide) (by decide)⟩
        · show Steps p.tables e below (T3.setTop (mkF m 17 #[.val (.ref a0), .val (.int p1), .val (.int p2)] [(.int al), (.int p1)])) _
          refine XS.icmpYes X3.here hx rfl (pc0 := 17) (pc' := 30) rfl (hb hby d5_17) rfl (teq hc17).1 (by decide) (by decide) ?_
          refine XS.aloadN X3.here hx rfl (hb hby d5_30) rfl rfl ?_
          refine st5 _ ?_
          refine XS.aloadN X5.here hx rfl (hb hby d5_34) rfl rfl ?_
          refine st6 _ ?_
          show Steps p.tables e below (T6.setTop (mkF m 38 #[.val (.ref a0), .val (.int p1), .val (.int p2)] [(.int (0 : Int32)), (.int (0 : Int32))])) _
          refine XS.icmpYes X6.here hx rfl (pc0 := 38) (pc' := 124) rfl (hb hby d5_38) rfl (flt (by decide : ¬ ((0 : Int32) < (0 : Int32)))).2.1 (by decide) (by decide) ?_
          refine XS.iloadN X6.here hx rfl (hb hby d5_124) rfl ?_
          refine XS.aloadN X6.here hx rfl (hb hby d5_125) rfl rfl ?_
          refine st7 _ ?_
          refine XS.isub X7.here hx rfl (hb hby d5_129) rfl ?_
          show Steps p.tables e below (T7.setTop (mkF m 130 #[.val (.ref a0), .val (.int p1), .val (.int p2)] [(.int (p2 - pc))])) _
          exact retI X7 hx Bd.returns (hb hby d5_130) hr
        · show Q5_0_0 Z a0 p1 p2 la ea ca kl ke kc wl we wc al pc h0 n0 _ T7.heap _
          rw [e7]
          unfold Q5_0_0
          refine ⟨?_, N0, (Keep.refl h0 [a0]), E_a0, ?_, ?_, ?_, ?_, ?_, ?_, ?_⟩
          · simp only [own_f5_0_0, if_neg hc2, if_neg hc7, if_pos hc17]
          · exact F_a0_lines
          · exact F_a0_ends
          · exact F_a0_changes
          · exact F_a0_first
          · exact F_a0_end
          · rw [show (own_p5_0_0_askedLine p1 p2 al) = al from (by simp only [own_p5_0_0_askedLine, if_neg hc2, if_neg hc7, if_pos hc17])]; exact F_a0_askedLine
          · rw [show (own_p5_0_0_passedChange p1 p2 al pc) = pc from (by simp only [own_p5_0_0_passedChange, if_neg hc2, if_neg hc7, if_pos hc17])]; exact F_a0_passedChange
      · obtain ⟨T8, h8, X8, e8, W8, st8⟩ := putF X3 hx hZ hown (host := "") (Or.inl (hw _ (own_w 28 rfl))) Via.refl e3 F_a0_askedLine E_a0 (Or.inl (hw _ (own_w 29 rfl))) (hw _ (own_w 8 rfl)) (ty := .int) (by decide) rfl rfl (g := (mkF m 22 #[.val (.ref a0), .val (.int p1), .val (.int p2)] [(.int p1), (.ref a0)])) rfl rfl (hb hby d5_22)
        have Fw8 := F_a0_askedLine.same W8
        have N8 := Fr.snoc X8 N0 g_a0
        have kp9 : Keep h0 h8 [a0] := (Keep.refl h0 [a0]).wr W8 (Or.inl (own_w 0 rfl))
        have f10 := (E_a0.wr W8)
        have f11 := (F_a0_passedChange.other W8 (Or.inr (slot_ne (Or.inl (hw _ (own_w 31 rfl))) (Or.inl (hw _ (own_w 29 rfl))) (by decide) (t := .int) (t' := .int) (by decide) (by decide))))
        obtain ⟨T12, h12, X12, e12, W12, st12⟩ := putF X8 hx hZ hown (host := "") (Or.inl (hw _ (own_w 30 rfl))) Via.refl e8 f11 f10 (Or.inl (hw _ (own_w 31 rfl))) (hw _ (own_w 8 rfl)) (ty := .int) (by decide) rfl rfl (g := (mkF m 27 #[.val (.ref a0), .val (.int p1), .val (.int p2)] [(.int (0 : Int32)), (.ref a0)])) rfl rfl (hb hby d5_27)
        have Fw12 := f11.same W12
        have N12 := Fr.snoc X12 N8 g_a0
        have kp13 : Keep h0 h12 [a0] := kp9.wr W12 (Or.inl (own_w 0 rfl))
        have f14 := ((F_a0_first.other W8 (Or.inr (slot_ne (Or.inl (hw _ (own_w 33 rfl))) (Or.inl (hw _ (own_w 29 rfl))) (by decide) (t := .int) (t' := .int) (by decide) (by decide)))).other W12 (Or.inr (slot_ne (Or.inl (hw _ (own_w 33 rfl))) (Or.inl (hw _ (own_w 31 rfl))) (by decide) (t := .int) (t' := .int) (by decide) (by decide))))
        obtain ⟨T15, X15, e15, st15⟩ := getF X12 hx hZ hown (host := "") (Or.inl (hw _ (own_w 32 rfl))) Via.refl e12 f14 (g := (mkF m 31 #[.val (.ref a0), .val (.int p1), .val (.int p2)] [(.ref a0)])) rfl rfl (hb hby d5_31)
        have f16 := ((F_a0_end.other W8 (Or.inr (slot_ne (Or.inl (hw _ (own_w 35 rfl))) (Or.inl (hw _ (own_w 29 rfl))) (by decide) (t := .int) (t' := .int) (by decide) (by decide)))).other W12 (Or.inr (slot_ne (Or.inl (hw _ (own_w 35 rfl))) (Or.inl (hw _ (own_w 31 rfl))) (by decide) (t := .int) (t' := .int) (by decide) (by decide))))
        obtain ⟨T17, X17, e17, st17⟩ := getF X15 hx hZ hown (host := "") (Or.inl (hw _ (own_w 34 rfl))) Via.refl e15 f16 (g := (mkF m 35 #[.val (.ref a0), .val (.int p1), .val (.int p2)] [(.ref a0), (.int (0 : Int32))])) rfl rfl (hb hby d5_35)
        obtain ⟨T18, X18, e18, st18⟩ := getF X17 hx hZ hown (host := "") (Or.inl (hw _ (own_w 30 rfl))) Via.refl e17 Fw12 (g := (mkF m 126 #[.val (.ref a0), .val (.int p1), .val (.int p2)] [(.ref a0), (.int p2)])) rfl rfl (hb hby d5_126)
        obtain ⟨fs, hr, hrun, hended, hW, hsame⟩ := X18.leave (v := some (.int (p2 - (0 : Int32)))) (fun h => by rw [Bd.returns] at h; cases h)
        refine ⟨_, _, pre4 _ ?_, hrun, hended, _, _, rfl, ?_, ⟨_, rfl⟩, hW, hsame.mono (by decide) (by decide)⟩
        · show Steps p.tables e below (T3.setTop (mkF m 17 #[.val (.ref a0), .val (.int p1), .val (.int p2)] [(.int al), (.int p1)])) _
          refine XS.icmpNo X3.here hx rfl (hb hby d5_17) rfl (feq hc17).1 ?_
          refine XS.aloadN X3.here hx rfl (hb hby d5_20) rfl rfl ?_
          refine XS.iloadN X3.here hx rfl (hb hby d5_21) rfl ?_
          refine st8 _ ?_
          refine XS.aloadN X8.here hx rfl (hb hby d5_25) rfl rfl ?_
          show Steps p.tables e below (T8.setTop (mkF m 26 #[.val (.ref a0), .val (.int p1), .val (.int p2)] [(.ref a0)])) _
          refine XS.iconst X8.here hx rfl (hb hby d5_26) ?_
          refine st12 _ ?_
          refine XS.aloadN X12.here hx rfl (hb hby d5_30) rfl rfl ?_
          refine st15 _ ?_
          refine XS.aloadN X15.here hx rfl (hb hby d5_34) rfl rfl ?_
          show Steps p.tables e below (T15.setTop (mkF m 35 #[.val (.ref a0), .val (.int p1), .val (.int p2)] [(.ref a0), (.int (0 : Int32))])) _
          refine st17 _ ?_
          refine XS.icmpYes X17.here hx rfl (pc0 := 38) (pc' := 124) rfl (hb hby d5_38) rfl (flt (by decide : ¬ ((0 : Int32) < (0 : Int32)))).2.1 (by decide) (by decide) ?_
          refine XS.iloadN X17.here hx rfl (hb hby d5_124) rfl ?_
          refine XS.aloadN X17.here hx rfl (hb hby d5_125) rfl rfl ?_
          refine st18 _ ?_
          show Steps p.tables e below (T18.setTop (mkF m 129 #[.val (.ref a0), .val (.int p1), .val (.int p2)] [(.int (0 : Int32)), (.int p2)])) _
          refine XS.isub X18.here hx rfl (hb hby d5_129) rfl ?_
          show Steps p.tables e below (T18.setTop (mkF m 130 #[.val (.ref a0), .val (.int p1), .val (.int p2)] [(.int (p2 - (0 : Int32)))])) _
          exact retI X18 hx Bd.returns (hb hby d5_130) hr
        · show Q5_0_0 Z a0 p1 p2 la ea ca kl ke kc wl we wc al pc h0 n0 _ T18.heap _
          rw [e18]
          unfold Q5_0_0
          have f19 := (f10.wr W12)
          have f20 := ((F_a0_lines.other W8 (Or.inr (slot_ne (Or.inl (hw _ (own_w 18 rfl))) (Or.inl (hw _ (own_w 29 rfl))) (by decide) (t := (.array .int)) (t' := .int) (by decide) (by decide)))).other W12 (Or.inr (slot_ne (Or.inl (hw _ (own_w 18 rfl))) (Or.inl (hw _ (own_w 31 rfl))) (by decide) (t := (.array .int)) (t' := .int) (by decide) (by decide))))
          have f21 := ((F_a0_ends.other W8 (Or.inr (slot_ne (Or.inl (hw _ (own_w 20 rfl))) (Or.inl (hw _ (own_w 29 rfl))) (by decide) (t := (.array .int)) (t' := .int) (by decide) (by decide)))).other W12 (Or.inr (slot_ne (Or.inl (hw _ (own_w 20 rfl))) (Or.inl (hw _ (own_w 31 rfl))) (by decide) (t := (.array .int)) (t' := .int) (by decide) (by decide))))
          have f22 := ((F_a0_changes.other W8 (Or.inr (slot_ne (Or.inl (hw _ (own_w 22 rfl))) (Or.inl (hw _ (own_w 29 rfl))) (by decide) (t := (.array .int)) (t' := .int) (by decide) (by decide)))).other W12 (Or.inr (slot_ne (Or.inl (hw _ (own_w 22 rfl))) (Or.inl (hw _ (own_w 31 rfl))) (by decide) (t := (.array .int)) (t' := .int) (by decide) (by decide))))
          have f23 := (Fw8.other W12 (Or.inr (slot_ne (Or.inl (hw _ (own_w 29 rfl))) (Or.inl (hw _ (own_w 31 rfl))) (by decide) (t := .int) (t' := .int) (by decide) (by decide))))
          refine ⟨?_, N12, kp13, f19, ?_, ?_, ?_, ?_, ?_, ?_, ?_⟩
          · simp only [own_f5_0_0, if_neg hc2, if_neg hc7, if_neg hc17]
          · exact f20
          · exact f21
          · exact f22
          · exact f14
          · exact f16
          · rw [show (own_p5_0_0_askedLine p1 p2 al) = p1 from (by simp only [own_p5_0_0_askedLine, if_neg hc2, if_neg hc7, if_neg hc17])]; exact f23
          · rw [show (own_p5_0_0_passedChange p1 p2 al pc) = (0 : Int32) from (by simp only [own_p5_0_0_passedChange, if_neg hc2, if_neg hc7, if_neg hc17])]; exact Fw12
theorem d5_41 : decode prog_28_method_3_code 41 = .ok (.aload_n 0, 1) := by decide +kernel
theorem d5_42 : decode prog_28_method_3_code 42 = .ok (.getfield 7, 3) := by decide +kernel
theorem d5_45 : decode prog_28_method_3_code 45 = .ok (.aload_n 0, 1) := by decide +kernel
theorem d5_46 : decode prog_28_method_3_code 46 = .ok (.getfield 38, 3) := by decide +kernel
theorem d5_49 : decode prog_28_method_3_code 49 = .ok (.iaload, 1) := by decide +kernel
theorem d5_50 : decode prog_28_method_3_code 50 = .ok (.iload_n 1, 1) := by decide +kernel
theorem d5_51 : decode prog_28_method_3_code 51 = .ok (.if_icmp .lt 29, 3) := by decide +kernel
theorem d5_54 : decode prog_28_method_3_code 54 = .ok (.aload_n 0, 1) := by decide +kernel
theorem d5_55 : decode prog_28_method_3_code 55 = .ok (.getfield 7, 3) := by decide +kernel
theorem d5_58 : decode prog_28_method_3_code 58 = .ok (.aload_n 0, 1) := by decide +kernel
theorem d5_59 : decode prog_28_method_3_code 59 = .ok (.getfield 38, 3) := by decide +kernel
theorem d5_62 : decode prog_28_method_3_code 62 = .ok (.iaload, 1) := by decide +kernel
theorem d5_63 : decode prog_28_method_3_code 63 = .ok (.iload_n 1, 1) := by decide +kernel
theorem d5_64 : decode prog_28_method_3_code 64 = .ok (.if_icmp .ne 60, 3) := by decide +kernel
theorem d5_67 : decode prog_28_method_3_code 67 = .ok (.aload_n 0, 1) := by decide +kernel
theorem d5_68 : decode prog_28_method_3_code 68 = .ok (.getfield 13, 3) := by decide +kernel
theorem d5_71 : decode prog_28_method_3_code 71 = .ok (.aload_n 0, 1) := by decide +kernel
theorem d5_72 : decode prog_28_method_3_code 72 = .ok (.getfield 38, 3) := by decide +kernel
theorem d5_75 : decode prog_28_method_3_code 75 = .ok (.iaload, 1) := by decide +kernel
theorem d5_76 : decode prog_28_method_3_code 76 = .ok (.iload_n 2, 1) := by decide +kernel
theorem d5_77 : decode prog_28_method_3_code 77 = .ok (.if_icmp .gt 47, 3) := by decide +kernel
theorem d5_80 : decode prog_28_method_3_code 80 = .ok (.aload_n 0, 1) := by decide +kernel
theorem d5_81 : decode prog_28_method_3_code 81 = .ok (.getfield 7, 3) := by decide +kernel
theorem d5_84 : decode prog_28_method_3_code 84 = .ok (.aload_n 0, 1) := by decide +kernel
theorem d5_85 : decode prog_28_method_3_code 85 = .ok (.getfield 38, 3) := by decide +kernel
theorem d5_88 : decode prog_28_method_3_code 88 = .ok (.iaload, 1) := by decide +kernel
theorem d5_89 : decode prog_28_method_3_code 89 = .ok (.iload_n 1, 1) := by decide +kernel
theorem d5_90 : decode prog_28_method_3_code 90 = .ok (.if_icmp .ne 21, 3) := by decide +kernel
theorem d5_93 : decode prog_28_method_3_code 93 = .ok (.aload_n 0, 1) := by decide +kernel
theorem d5_94 : decode prog_28_method_3_code 94 = .ok (.dup, 1) := by decide +kernel
theorem d5_95 : decode prog_28_method_3_code 95 = .ok (.getfield 35, 3) := by decide +kernel
theorem d5_98 : decode prog_28_method_3_code 98 = .ok (.aload_n 0, 1) := by decide +kernel
theorem d5_99 : decode prog_28_method_3_code 99 = .ok (.getfield 16, 3) := by decide +kernel
theorem d5_102 : decode prog_28_method_3_code 102 = .ok (.aload_n 0, 1) := by decide +kernel
theorem d5_103 : decode prog_28_method_3_code 103 = .ok (.getfield 38, 3) := by decide +kernel
theorem d5_106 : decode prog_28_method_3_code 106 = .ok (.iaload, 1) := by decide +kernel
theorem d5_107 : decode prog_28_method_3_code 107 = .ok (.iadd, 1) := by decide +kernel
theorem d5_108 : decode prog_28_method_3_code 108 = .ok (.putfield 35, 3) := by decide +kernel
theorem d5_111 : decode prog_28_method_3_code 111 = .ok (.aload_n 0, 1) := by decide +kernel
theorem d5_112 : decode prog_28_method_3_code 112 = .ok (.dup, 1) := by decide +kernel
theorem d5_113 : decode prog_28_method_3_code 113 = .ok (.getfield 38, 3) := by decide +kernel
theorem d5_116 : decode prog_28_method_3_code 116 = .ok (.iconst 1, 1) := by decide +kernel
theorem d5_117 : decode prog_28_method_3_code 117 = .ok (.iadd, 1) := by decide +kernel
theorem d5_118 : decode prog_28_method_3_code 118 = .ok (.putfield 38, 3) := by decide +kernel
theorem d5_121 : decode prog_28_method_3_code 121 = .ok (.goto (-91), 3) := by decide +kernel
theorem ef_5_0_1 (m : MethodId) (a0 : Addr) (p1 : Int32) (p2 : Int32) : entryFrame m #[(.ref a0), (.int p1), (.int p2)] 3 = mkF m 0 #[.val (.ref a0), .val (.int p1), .val (.int p2)] [] := by first | (simp [entryFrame, mkF, argsToLocals, Value.category]; done) | rfl
def own_f5_0_1 (p1 : Int32) (p2 : Int32) (wl : List Int32) (we : List Int32) (wc : List Int32) (al : Int32) (pc : Int32) : Int32 := (if p1 < (1 : Int32) then p2 else (if p2 < (1 : Int32) then p2 else (if p1 = al then (if (wl.getD 0 (0 : Int32)) < p1 then (p2 - pc) else (if (wl.getD 0 (0 : Int32)) = p1 then (if p2 < (we.getD 0 (0 : Int32)) then (p2 - pc) else (p2 - (pc + (wc.getD 0 (0 : Int32))))) else (p2 - pc))) else (if (wl.getD 0 (0 : Int32)) < p1 then (p2 - (0 : Int32)) else (if (wl.getD 0 (0 : Int32)) = p1 then (if p2 < (we.getD 0 (0 : Int32)) then (p2 - (0 : Int32)) else (p2 - ((0 : Int32) + (wc.getD 0 (0 : Int32))))) else (p2 - (0 : Int32)))))))
def own_p5_0_1_first (p1 : Int32) (p2 : Int32) (wl : List Int32) (we : List Int32) : Int32 := (if p1 < (1 : Int32) then (0 : Int32) else (if p2 < (1 : Int32) then (0 : Int32) else (if (wl.getD 0 (0 : Int32)) < p1 then (1 : Int32) else (if (wl.getD 0 (0 : Int32)) = p1 then (if p2 < (we.getD 0 (0 : Int32)) then (0 : Int32) else (1 : Int32)) else (0 : Int32)))))
def own_p5_0_1_askedLine (p1 : Int32) (p2 : Int32) (al : Int32) : Int32 := (if p1 < (1 : Int32) then al else (if p2 < (1 : Int32) then al else (if p1 = al then al else p1)))
def own_p5_0_1_passedChange (p1 : Int32) (p2 : Int32) (wl : List Int32) (we : List Int32) (wc : List Int32) (al : Int32) (pc : Int32) : Int32 := (if p1 < (1 : Int32) then pc else (if p2 < (1 : Int32) then pc else (if p1 = al then (if (wl.getD 0 (0 : Int32)) < p1 then pc else (if (wl.getD 0 (0 : Int32)) = p1 then (if p2 < (we.getD 0 (0 : Int32)) then pc else (pc + (wc.getD 0 (0 : Int32)))) else pc)) else (if (wl.getD 0 (0 : Int32)) < p1 then (0 : Int32) else (if (wl.getD 0 (0 : Int32)) = p1 then (if p2 < (we.getD 0 (0 : Int32)) then (0 : Int32) else ((0 : Int32) + (wc.getD 0 (0 : Int32)))) else (0 : Int32))))))
def Q5_0_1 (Z : State) (a0 : Addr) (p1 : Int32) (p2 : Int32) (la : Addr) (ea : Addr) (ca : Addr) (kl : ClassId) (ke : ClassId) (kc : ClassId) (wl : List Int32) (we : List Int32) (wc : List Int32) (al : Int32) (pc : Int32) (h0 : Heap) (n0 : Nat) (v : Option Value) (h : Heap) (L : List Loc) : Prop := v = some (.int (own_f5_0_1 p1 p2 wl we wc al pc)) ∧ Fr n0 L ∧ Keep h0 h [a0] ∧ Exa Z h a0 "com/example/trawl/trawl/load/ColumnShifts" ∧ Fld Z h a0 "com/example/trawl/trawl/load/ColumnShifts" "lines" "[I" (.ref la) ∧ Fld Z h a0 "com/example/trawl/trawl/load/ColumnShifts" "ends" "[I" (.ref ea) ∧ Fld Z h a0 "com/example/trawl/trawl/load/ColumnShifts" "changes" "[I" (.ref ca) ∧ Fld Z h a0 "com/example/trawl/trawl/load/ColumnShifts" "first" "I" (.int (own_p5_0_1_first p1 p2 wl we)) ∧ Fld Z h a0 "com/example/trawl/trawl/load/ColumnShifts" "end" "I" (.int (1 : Int32)) ∧ Fld Z h a0 "com/example/trawl/trawl/load/ColumnShifts" "askedLine" "I" (.int (own_p5_0_1_askedLine p1 p2 al)) ∧ Fld Z h a0 "com/example/trawl/trawl/load/ColumnShifts" "passedChange" "I" (.int (own_p5_0_1_passedChange p1 p2 wl we wc al pc))
set_option maxRecDepth 65536 in
set_option maxHeartbeats 40000000 in
theorem rm5_0_1 (l : Launch) (Z : State) (aw : Array Value) (hw : ∀ d ∈ tables_1, d.before aw Z = true) (wq : List Jvm.Cond) (a0 : Addr) (p1 : Int32) (p2 : Int32) (la : Addr) (ea : Addr) (ca : Addr) (kl : ClassId) (ke : ClassId) (kc : ClassId) (wl : List Int32) (we : List Int32) (wc : List Int32) (al : Int32) (pc : Int32) (h0 : Heap) (n0 : Nat) (Z0 : n0 ≤ h0.size) (E_a0 : Exa Z h0 a0 "com/example/trawl/trawl/load/ColumnShifts") (F_a0_lines : Fld Z h0 a0 "com/example/trawl/trawl/load/ColumnShifts" "lines" "[I" (.ref la)) (F_a0_ends : Fld Z h0 a0 "com/example/trawl/trawl/load/ColumnShifts" "ends" "[I" (.ref ea)) (F_a0_changes : Fld Z h0 a0 "com/example/trawl/trawl/load/ColumnShifts" "changes" "[I" (.ref ca)) (V_la : own_AI Z h0 la kl .int (4 : Int32) wl) (V_ea : own_AI Z h0 ea ke .int (4 : Int32) we) (V_ca : own_AI Z h0 ca kc .int (4 : Int32) wc) (ne_la_ea : la ≠ ea) (ne_la_ca : la ≠ ca) (ne_ea_ca : ea ≠ ca) (ne_a0_la : a0 ≠ la) (ne_a0_ea : a0 ≠ ea) (ne_a0_ca : a0 ≠ ca) (g_a0 : n0 ≤ a0) (F_a0_first : Fld Z h0 a0 "com/example/trawl/trawl/load/ColumnShifts" "first" "I" (.int (0 : Int32))) (F_a0_end : Fld Z h0 a0 "com/example/trawl/trawl/load/ColumnShifts" "end" "I" (.int (1 : Int32))) (F_a0_askedLine : Fld Z h0 a0 "com/example/trawl/trawl/load/ColumnShifts" "askedLine" "I" (.int al)) (F_a0_passedChange : Fld Z h0 a0 "com/example/trawl/trawl/load/ColumnShifts" "passedChange" "I" (.int pc)) :
    MetFree l (⟨"com/example/trawl/trawl/load/ColumnShifts", "columnInText", "(II)I"⟩ : MethodName) (head1 (Jvm.Cond.code (⟨"com/example/trawl/trawl/load/ColumnShifts", "columnInText", "(II)I"⟩ : MethodName) prog_28_method_3_code 3 (some .int) :: wq) ({ frames := 0, cells := 0, slots := 0, locals := 0 } : Room)) (fun a U => a = #[(.ref a0), (.int p1), (.int p2)] ∧ Z.Warmed39 U.vm ∧ U.heap = h0) (fun _ _ _ _ _ => True) (fun _ U o U' => ∃ v L, o = .returned v ∧ Q5_0_1 Z a0 p1 p2 la ea ca kl ke kc wl we wc al pc h0 n0 v U'.heap L ∧ FrameEnd U o U' L ({ frames := 0, cells := 0, slots := 0, locals := 0 } : Room).cells ({ frames := 0, cells := 0, slots := 0, locals := 0 } : Room).slots) := by
  refine MetFree.of_bodySF (plainFor_of_name pn_0) hisR ?_
  intro p e s m args below meth c s₁ Bd hml0 hP hK
  obtain ⟨rfl, hZ, hh⟩ := hP
  have hx := Bd.exec
  have hby := Bd.bytes
  have hml : c.maxLocals = 3 := hml0
  have hown : s.vm.findClass "com/example/trawl/trawl/load/ColumnShifts" = some m.cls := findClass_of_methodNamed Bd.named
  have hnm := (name_of_methodNamed Bd.named Bd.method).1
  have X0 : Stand p l e ({ frames := 0, cells := 0, slots := 0, locals := 0 } : Room) s m #[(.ref a0), (.int p1), (.int p2)] below meth c s₁ [] 0 0 := Stand.of_body Bd
  have e0 : s₁.heap = h0 := by rw [← hh, Bd.state]; rfl
  have N0 := Fr.nil n0
  have pre0 : own_Pre p e below (s₁.setTop (entryFrame m #[(.ref a0), (.int p1), (.int p2)] 3)) (s₁.setTop (mkF m 0 #[.val (.ref a0), .val (.int p1), .val (.int p2)] [])) := fun t k => castTop (ef_5_0_1 m a0 p1 p2) k
  have pre1 : own_Pre p e below (s₁.setTop (entryFrame m #[(.ref a0), (.int p1), (.int p2)] 3)) (s₁.setTop (mkF m 2 #[.val (.ref a0), .val (.int p1), .val (.int p2)] [(.int (1 : Int32)), (.int p1)])) := fun t k => pre0 t (by
      show Steps p.tables e below (s₁.setTop (mkF m 0 #[.val (.ref a0), .val (.int p1), .val (.int p2)] [])) _
      refine XS.iloadN X0.here hx rfl (hb hby d5_0) rfl ?_
      refine XS.iconst X0.here hx rfl (hb hby d5_1) ?_
      exact k)
  by_cases hc2 : p1 < (1 : Int32)
  · obtain ⟨fs, hr, hrun, hended, hW, hsame⟩ := X0.leave (v := some (.int p2)) (fun h => by rw [Bd.returns] at h; cases h)
    refine ⟨_, _, pre1 _ ?_, hrun, hended, _, _, rfl, ?_, ⟨_, rfl⟩, hW, hsame.mono (by decide) (by decide)⟩
    · show Steps p.tables e below (s₁.setTop (mkF m 2 #[.val (.ref a0), .val (.int p1), .val (.int p2)] [(.int (1 : Int32)), (.int p1)])) _
      refine XS.icmpYes X0.here hx rfl (pc0 := 2) (pc' := 10) rfl (hb hby d5_2) rfl (tlt hc2).1 (by decide) (by decide) ?_
      refine XS.iloadN X0.here hx rfl (hb hby d5_10) rfl ?_
      show Steps p.tables e below (s₁.setTop (mkF m 11 #[.val (.ref a0), .val (.int p1), .val (.int p2)] [(.int p2)])) _
      exact retI X0 hx Bd.returns (hb hby d5_11) hr
    · show Q5_0_1 Z a0 p1 p2 la ea ca kl ke kc wl we wc al pc h0 n0 _ s₁.heap _
      rw [e0]
      unfold Q5_0_1
      refine ⟨?_, N0, (Keep.refl h0 [a0]), E_a0, ?_, ?_, ?_, ?_, ?_, ?_, ?_⟩
      · simp only [own_f5_0_1, if_pos hc2]
      · exact F_a0_lines
      · exact F_a0_ends
      · exact F_a0_changes
      · rw [show (own_p5_0_1_first p1 p2 wl we) = (0 : Int32) from (by simp only [own_p5_0_1_first, if_pos hc2])]; exact F_a0_first
      · exact F_a0_end
      · rw [show (own_p5_0_1_askedLine p1 p2 al) = al from (by simp only [own_p5_0_1_askedLine, if_pos hc2])]; exact F_a0_askedLine
      · rw [show (own_p5_0_1_passedChange p1 p2 wl we wc al pc) = pc from (by simp only [own_p5_0_1_passedChange, if_pos hc2])]; exact F_a0_passedChange
  · have pre2 : own_Pre p e below (s₁.setTop (entryFrame m #[(.ref a0), (.int p1), (.int p2)] 3)) (s₁.setTop (mkF m 7 #[.val (.ref a0), .val (.int p1), .val (.int p2)] [(.int (1 : Int32)), (.int p2)])) := fun t k => pre1 t (by
        show Steps p.tables e below (s₁.setTop (mkF m 2 #[.val (.ref a0), .val (.int p1), .val (.int p2)] [(.int (1 : Int32)), (.int p1)])) _
        refine XS.icmpNo X0.here hx rfl (hb hby d5_2) rfl (flt hc2).1 ?_
        refine XS.iloadN X0.here hx rfl (hb hby d5_5) rfl ?_
        refine XS.iconst X0.here hx rfl (hb hby d5_6) ?_
        exact k)
    by_cases hc7 : p2 < (1 : Int32)
    · obtain ⟨fs, hr, hrun, hended, hW, hsame⟩ := X0.leave (v := some (.int p2)) (fun h => by rw [Bd.returns] at h; cases h)
      refine ⟨_, _, pre2 _ ?_, hrun, hended, _, _, rfl, ?_, ⟨_, rfl⟩, hW, hsame.mono (by decide) (by decide)⟩
      · show Steps p.tables e below (s₁.setTop (mkF m 7 #[.val (.ref a0), .val (.int p1), .val (.int p2)] [(.int (1 : Int32)), (.int p2)])) _
        refine XS.icmpNo X0.here hx rfl (hb hby d5_7) rfl (tlt hc7).2.1 ?_
        refine XS.iloadN X0.here hx rfl (hb hby d5_10) rfl ?_
        show Steps p.tables e below (s₁.setTop (mkF m 11 #[.val (.ref a0), .val (.int p1), .val (.int p2)] [(.int p2)])) _
        exact retI X0 hx Bd.returns (hb hby d5_11) hr
      · show Q5_0_1 Z a0 p1 p2 la ea ca kl ke kc wl we wc al pc h0 n0 _ s₁.heap _
        rw [e0]
        unfold Q5_0_1
        refine ⟨?_, N0, (Keep.refl h0 [a0]), E_a0, ?_, ?_, ?_, ?_, ?_, ?_, ?_⟩
        · simp only [own_f5_0_1, if_neg hc2, if_pos hc7]
        · exact F_a0_lines
        · exact F_a0_ends
        · exact F_a0_changes
        · rw [show (own_p5_0_1_first p1 p2 wl we) = (0 : Int32) from (by simp only [own_p5_0_1_first, if_neg hc2, if_pos hc7])]; exact F_a0_first
        · exact F_a0_end
        · rw [show (own_p5_0_1_askedLine p1 p2 al) = al from (by simp only [own_p5_0_1_askedLine, if_neg hc2, if_pos hc7])]; exact F_a0_askedLine
        · rw [show (own_p5_0_1_passedChange p1 p2 wl we wc al pc) = pc from (by simp only [own_p5_0_1_passedChange, if_neg hc2, if_pos hc7])]; exact F_a0_passedChange
    · obtain ⟨T3, X3, e3, st3⟩ := getF X0 hx hZ hown (host := "") (Or.inl (hw _ (own_w 28 rfl))) Via.refl e0 F_a0_askedLine (g := (mkF m 14 #[.val (.ref a0), .val (.int p1), .val (.int p2)] [(.ref a0), (.int p1)])) rfl rfl (hb hby d5_14)
      have pre4 : own_Pre p e below (s₁.setTop (entryFrame m #[(.ref a0), (.int p1), (.int p2)] 3)) (T3.setTop (mkF m 17 #[.val (.ref a0), .val (.int p1), .val (.int p2)] [(.int al), (.int p1)])) := fun t k => pre2 t (by
          show Steps p.tables e below (s₁.setTop (mkF m 7 #[.val (.ref a0), .val (.int p1), .val (.int p2)] [(.int (1 : Int32)), (.int p2)])) _
          refine XS.icmpYes X0.here hx rfl (pc0 := 7) (pc' := 12) rfl (hb hby d5_7) rfl (flt hc7).2.1 (by decide) (by decide) ?_
          refine XS.iloadN X0.here hx rfl (hb hby d5_12) rfl ?_
          refine XS.aloadN X0.here hx rfl (hb hby d5_13) rfl rfl ?_
          refine st3 _ ?_
          exact k)
      by_cases hc17 : p1 = al
      · obtain ⟨T5, X5, e5, st5⟩ := getF X3 hx hZ hown (host := "") (Or.inl (hw _ (own_w 32 rfl))) Via.refl e3 F_a0_first (g := (mkF m 31 #[.val (.ref a0), .val (.int p1), .val (.int p2)] [(.ref a0)])) rfl rfl (hb hby d5_31)
        obtain ⟨T6, X6, e6, st6⟩ := getF X5 hx hZ hown (host := "") (Or.inl (hw _ (own_w 34 rfl))) Via.refl e5 F_a0_end (g := (mkF m 35 #[.val (.ref a0), .val (.int p1), .val (.int p2)] [(.ref a0), (.int (0 : Int32))])) rfl rfl (hb hby d5_35)
        obtain ⟨T7, X7, e7, st7⟩ := getF X6 hx hZ hown (host := "") (Or.inl (hw _ (own_w 17 rfl))) Via.refl e6 F_a0_lines (g := (mkF m 42 #[.val (.ref a0), .val (.int p1), .val (.int p2)] [(.ref a0)])) rfl rfl (hb hby d5_42)
        obtain ⟨T8, X8, e8, st8⟩ := getF X7 hx hZ hown (host := "") (Or.inl (hw _ (own_w 32 rfl))) Via.refl e7 F_a0_first (g := (mkF m 46 #[.val (.ref a0), .val (.int p1), .val (.int p2)] [(.ref a0), (.ref la)])) rfl rfl (hb hby d5_46)
        obtain ⟨cl9, Ar9, hin9, hat9⟩ := own_AI.at V_la (j := (0 : Int32)) ⟨by decide, by decide⟩
        have pre10 : own_Pre p e below (s₁.setTop (entryFrame m #[(.ref a0), (.int p1), (.int p2)] 3)) (T8.setTop (mkF m 51 #[.val (.ref a0), .val (.int p1), .val (.int p2)] [(.int p1), (.int (wl.getD 0 (0 : Int32)))])) := fun t k => pre4 t (by
            show Steps p.tables e below (T3.setTop (mkF m 17 #[.val (.ref a0), .val (.int p1), .val (.int p2)] [(.int al), (.int p1)])) _
            refine XS.icmpYes X3.here hx rfl (pc0 := 17) (pc' := 30) rfl (hb hby d5_17) rfl (teq hc17).1 (by decide) (by decide) ?_
            refine XS.aloadN X3.here hx rfl (hb hby d5_30) rfl rfl ?_
            refine st5 _ ?_
            refine XS.aloadN X5.here hx rfl (hb hby d5_34) rfl rfl ?_
            refine st6 _ ?_
            show Steps p.tables e below (T6.setTop (mkF m 38 #[.val (.ref a0), .val (.int p1), .val (.int p2)] [(.int (1 : Int32)), (.int (0 : Int32))])) _
            refine XS.icmpNo X6.here hx rfl (hb hby d5_38) rfl (tlt (by decide : ((0 : Int32) < (1 : Int32)))).2.1 ?_
            refine XS.aloadN X6.here hx rfl (hb hby d5_41) rfl rfl ?_
            refine st7 _ ?_
            refine XS.aloadN X7.here hx rfl (hb hby d5_45) rfl rfl ?_
            refine st8 _ ?_
            show Steps p.tables e below (T8.setTop (mkF m 49 #[.val (.ref a0), .val (.int p1), .val (.int p2)] [(.int (0 : Int32)), (.ref la)])) _
            refine X8.iaload hx (j := (0 : Int32)) (v := (.int (wl.getD 0 (0 : Int32)))) (by rw [e8]; exact Ar9.1) (State.isArrayOf_alike hZ.alike Ar9.2.1) Ar9.2.2 hin9 hat9 (g := (mkF m 49 #[.val (.ref a0), .val (.int p1), .val (.int p2)] [(.int (0 : Int32)), (.ref la)])) rfl rfl (hb hby d5_49) _ ?_
            refine XS.iloadN X8.here hx rfl (hb hby d5_50) rfl ?_
            exact k)
        by_cases hc51 : (wl.getD 0 (0 : Int32)) < p1
        · obtain ⟨T11, X11, e11, st11⟩ := getF X8 hx hZ hown (host := "") (Or.inl (hw _ (own_w 17 rfl))) Via.refl e8 F_a0_lines (g := (mkF m 81 #[.val (.ref a0), .val (.int p1), .val (.int p2)] [(.ref a0)])) rfl rfl (hb hby d5_81)
          obtain ⟨T12, X12, e12, st12⟩ := getF X11 hx hZ hown (host := "") (Or.inl (hw _ (own_w 32 rfl))) Via.refl e11 F_a0_first (g := (mkF m 85 #[.val (.ref a0), .val (.int p1), .val (.int p2)] [(.ref a0), (.ref la)])) rfl rfl (hb hby d5_85)
          obtain ⟨cl13, Ar13, hin13, hat13⟩ := own_AI.at V_la (j := (0 : Int32)) ⟨by decide, by decide⟩
          have hc90 : ¬ ((wl.getD 0 (0 : Int32)) = p1) := own_nlt hc51
          obtain ⟨T14, X14, e14, st14⟩ := getF X12 hx hZ hown (host := "") (Or.inl (hw _ (own_w 32 rfl))) Via.refl e12 F_a0_first (g := (mkF m 113 #[.val (.ref a0), .val (.int p1), .val (.int p2)] [(.ref a0), (.ref a0)])) rfl rfl (hb hby d5_113)
          obtain ⟨T15, h15, X15, e15, W15, st15⟩ := putF X14 hx hZ hown (host := "") (Or.inl (hw _ (own_w 32 rfl))) Via.refl e14 F_a0_first E_a0 (Or.inl (hw _ (own_w 33 rfl))) (hw _ (own_w 8 rfl)) (ty := .int) (by decide) rfl rfl (g := (mkF m 118 #[.val (.ref a0), .val (.int p1), .val (.int p2)] [(.int (1 : Int32)), (.ref a0)])) rfl rfl (hb hby d5_118)
          have Fw15 := F_a0_first.same W15
          have N15 := Fr.snoc X15 N0 g_a0
          have kp16 : Keep h0 h15 [a0] := (Keep.refl h0 [a0]).wr W15 (Or.inl (own_w 0 rfl))
          obtain ⟨T17, X17, e17, st17⟩ := getF X15 hx hZ hown (host := "") (Or.inl (hw _ (own_w 32 rfl))) Via.refl e15 Fw15 (g := (mkF m 31 #[.val (.ref a0), .val (.int p1), .val (.int p2)] [(.ref a0)])) rfl rfl (hb hby d5_31)
          have f18 := (F_a0_end.other W15 (Or.inr (slot_ne (Or.inl (hw _ (own_w 35 rfl))) (Or.inl (hw _ (own_w 33 rfl))) (by decide) (t := .int) (t' := .int) (by decide) (by decide))))
          obtain ⟨T19, X19, e19, st19⟩ := getF X17 hx hZ hown (host := "") (Or.inl (hw _ (own_w 34 rfl))) Via.refl e17 f18 (g := (mkF m 35 #[.val (.ref a0), .val (.int p1), .val (.int p2)] [(.ref a0), (.int (1 : Int32))])) rfl rfl (hb hby d5_35)
          have f20 := (F_a0_passedChange.other W15 (Or.inr (slot_ne (Or.inl (hw _ (own_w 31 rfl))) (Or.inl (hw _ (own_w 33 rfl))) (by decide) (t := .int) (t' := .int) (by decide) (by decide))))
          obtain ⟨T21, X21, e21, st21⟩ := getF X19 hx hZ hown (host := "") (Or.inl (hw _ (own_w 30 rfl))) Via.refl e19 f20 (g := (mkF m 126 #[.val (.ref a0), .val (.int p1), .val (.int p2)] [(.ref a0), (.int p2)])) rfl rfl (hb hby d5_126)
          obtain ⟨fs, hr, hrun, hended, hW, hsame⟩ := X21.leave (v := some (.int (p2 - pc))) (fun h => by rw [Bd.returns] at h; cases h)
          refine ⟨_, _, pre10 _ ?_, hrun, hended, _, _, rfl, ?_, ⟨_, rfl⟩, hW, hsame.mono (by decide) (by decide)⟩
          · show Steps p.tables e below (T8.setTop (mkF m 51 #[.val (.ref a0), .val (.int p1), .val (.int p2)] [(.int p1), (.int (wl.getD 0 (0 : Int32)))])) _
            refine XS.icmpYes X8.here hx rfl (pc0 := 51) (pc' := 80) rfl (hb hby d5_51) rfl (tlt hc51).1 (by decide) (by decide) ?_
            refine XS.aloadN X8.here hx rfl (hb hby d5_80) rfl rfl ?_
            refine st11 _ ?_
            refine XS.aloadN X11.here hx rfl (hb hby d5_84) rfl rfl ?_
            refine st12 _ ?_
            show Steps p.tables e below (T12.setTop (mkF m 88 #[.val (.ref a0), .val (.int p1), .val (.int p2)] [(.int (0 : Int32)), (.ref la)])) _
            refine X12.iaload hx (j := (0 : Int32)) (v := (.int (wl.getD 0 (0 : Int32)))) (by rw [e12]; exact Ar13.1) (State.isArrayOf_alike hZ.alike Ar13.2.1) Ar13.2.2 hin13 hat13 (g := (mkF m 88 #[.val (.ref a0), .val (.int p1), .val (.int p2)] [(.int (0 : Int32)), (.ref la)])) rfl rfl (hb hby d5_88) _ ?_
            refine XS.iloadN X12.here hx rfl (hb hby d5_89) rfl ?_
            refine XS.icmpYes X12.here hx rfl (pc0 := 90) (pc' := 111) rfl (hb hby d5_90) rfl (feq hc90).2 (by decide) (by decide) ?_
            refine XS.aloadN X12.here hx rfl (hb hby d5_111) rfl rfl ?_
            refine XS.dup X12.here hx rfl (hb hby d5_112) rfl rfl ?_
            show Steps p.tables e below (T12.setTop (mkF m 113 #[.val (.ref a0), .val (.int p1), .val (.int p2)] [(.ref a0), (.ref a0)])) _
            refine st14 _ ?_
            refine XS.iconst X14.here hx rfl (hb hby d5_116) ?_
            refine XS.iadd X14.here hx rfl (hb hby d5_117) rfl ?_
            refine st15 _ ?_
            refine XS.goto X15.here hx rfl (pc0 := 121) (pc' := 30) rfl (hb hby d5_121) (by decide) (by decide) ?_
            show Steps p.tables e below (T15.setTop (mkF m 30 #[.val (.ref a0), .val (.int p1), .val (.int p2)] [])) _
            refine XS.aloadN X15.here hx rfl (hb hby d5_30) rfl rfl ?_
            refine st17 _ ?_
            refine XS.aloadN X17.here hx rfl (hb hby d5_34) rfl rfl ?_
            refine st19 _ ?_
            refine XS.icmpYes X19.here hx rfl (pc0 := 38) (pc' := 124) rfl (hb hby d5_38) rfl (flt (by decide : ¬ ((1 : Int32) < (1 : Int32)))).2.1 (by decide) (by decide) ?_
            show Steps p.tables e below (T19.setTop (mkF m 124 #[.val (.ref a0), .val (.int p1), .val (.int p2)] [])) _
            refine XS.iloadN X19.here hx rfl (hb hby d5_124) rfl ?_
            refine XS.aloadN X19.here hx rfl (hb hby d5_125) rfl rfl ?_
            refine st21 _ ?_
            refine XS.isub X21.here hx rfl (hb hby d5_129) rfl ?_
            show Steps p.tables e below (T21.setTop (mkF m 130 #[.val (.ref a0), .val (.int p1), .val (.int p2)] [(.int (p2 - pc))])) _
            exact retI X21 hx Bd.returns (hb hby d5_130) hr
          · show Q5_0_1 Z a0 p1 p2 la ea ca kl ke kc wl we wc al pc h0 n0 _ T21.heap _
            rw [e21]
            unfold Q5_0_1
            have f22 := (E_a0.wr W15)
            have f23 := (F_a0_lines.other W15 (Or.inr (slot_ne (Or.inl (hw _ (own_w 18 rfl))) (Or.inl (hw _ (own_w 33 rfl))) (by decide) (t := (.array .int)) (t' := .int) (by decide) (by decide))))
            have f24 := (F_a0_ends.other W15 (Or.inr (slot_ne (Or.inl (hw _ (own_w 20 rfl))) (Or.inl (hw _ (own_w 33 rfl))) (by decide) (t := (.array .int)) (t' := .int) (by decide) (by decide))))
            have f25 := (F_a0_changes.other W15 (Or.inr (slot_ne (Or.inl (hw _ (own_w 22 rfl))) (Or.inl (hw _ (own_w 33 rfl))) (by decide) (t := (.array .int)) (t' := .int) (by decide) (by decide))))
            have f26 := (F_a0_askedLine.other W15 (Or.inr (slot_ne (Or.inl (hw _ (own_w 29 rfl))) (Or.inl (hw _ (own_w 33 rfl))) (by decide) (t := .int) (t' := .int) (by decide) (by decide))))
            refine ⟨?_, N15, kp16, f22, ?_, ?_, ?_, ?_, ?_, ?_, ?_⟩
            · simp only [own_f5_0_1, if_neg hc2, if_neg hc7, if_pos hc17, if_pos hc51]
            · exact f23
            · exact f24
            · exact f25
            · rw [show (own_p5_0_1_first p1 p2 wl we) = (1 : Int32) from (by simp only [own_p5_0_1_first, if_neg hc2, if_neg hc7, if_pos hc17, if_pos hc51])]; exact Fw15
            · exact f18
            · rw [show (own_p5_0_1_askedLine p1 p2 al) = al from (by simp only [own_p5_0_1_askedLine, if_neg hc2, if_neg hc7, if_pos hc17, if_pos hc51])]; exact f26
            · rw [show (own_p5_0_1_passedChange p1 p2 wl we wc al pc) = pc from (by simp only [own_p5_0_1_passedChange, if_neg hc2, if_neg hc7, if_pos hc17, if_pos hc51])]; exact f20
        · obtain ⟨T27, X27, e27, st27⟩ := getF X8 hx hZ hown (host := "") (Or.inl (hw _ (own_w 17 rfl))) Via.refl e8 F_a0_lines (g := (mkF m 55 #[.val (.ref a0), .val (.int p1), .val (.int p2)] [(.ref a0)])) rfl rfl (hb hby d5_55)
          obtain ⟨T28, X28, e28, st28⟩ := getF X27 hx hZ hown (host := "") (Or.inl (hw _ (own_w 32 rfl))) Via.refl e27 F_a0_first (g := (mkF m 59 #[.val (.ref a0), .val (.int p1), .val (.int p2)] [(.ref a0), (.ref la)])) rfl rfl (hb hby d5_59)
          obtain ⟨cl29, Ar29, hin29, hat29⟩ := own_AI.at V_la (j := (0 : Int32)) ⟨by decide, by decide⟩
          have pre30 : own_Pre p e below (s₁.setTop (entryFrame m #[(.ref a0), (.int p1), (.int p2)] 3)) (T28.setTop (mkF m 64 #[.val (.ref a0), .val (.int p1), .val (.int p2)] [(.int p1), (.int (wl.getD 0 (0 : Int32)))])) := fun t k => pre10 t (by
              show Steps p.tables e below (T8.setTop (mkF m 51 #[.val (.ref a0), .val (.int p1), .val (.int p2)] [(.int p1), (.int (wl.getD 0 (0 : Int32)))])) _
              refine XS.icmpNo X8.here hx rfl (hb hby d5_51) rfl (flt hc51).1 ?_
              refine XS.aloadN X8.here hx rfl (hb hby d5_54) rfl rfl ?_
              refine st27 _ ?_
              refine XS.aloadN X27.here hx rfl (hb hby d5_58) rfl rfl ?_
              refine st28 _ ?_
              show Steps p.tables e below (T28.setTop (mkF m 62 #[.val (.ref a0), .val (.int p1), .val (.int p2)] [(.int (0 : Int32)), (.ref la)])) _
              refine X28.iaload hx (j := (0 : Int32)) (v := (.int (wl.getD 0 (0 : Int32)))) (by rw [e28]; exact Ar29.1) (State.isArrayOf_alike hZ.alike Ar29.2.1) Ar29.2.2 hin29 hat29 (g := (mkF m 62 #[.val (.ref a0), .val (.int p1), .val (.int p2)] [(.int (0 : Int32)), (.ref la)])) rfl rfl (hb hby d5_62) _ ?_
              refine XS.iloadN X28.here hx rfl (hb hby d5_63) rfl ?_
              exact k)
          by_cases hc64 : (wl.getD 0 (0 : Int32)) = p1
          · obtain ⟨T31, X31, e31, st31⟩ := getF X28 hx hZ hown (host := "") (Or.inl (hw _ (own_w 19 rfl))) Via.refl e28 F_a0_ends (g := (mkF m 68 #[.val (.ref a0), .val (.int p1), .val (.int p2)] [(.ref a0)])) rfl rfl (hb hby d5_68)
            obtain ⟨T32, X32, e32, st32⟩ := getF X31 hx hZ hown (host := "") (Or.inl (hw _ (own_w 32 rfl))) Via.refl e31 F_a0_first (g := (mkF m 72 #[.val (.ref a0), .val (.int p1), .val (.int p2)] [(.ref a0), (.ref ea)])) rfl rfl (hb hby d5_72)
            obtain ⟨cl33, Ar33, hin33, hat33⟩ := own_AI.at V_ea (j := (0 : Int32)) ⟨by decide, by decide⟩
            have pre34 : own_Pre p e below (s₁.setTop (entryFrame m #[(.ref a0), (.int p1), (.int p2)] 3)) (T32.setTop (mkF m 77 #[.val (.ref a0), .val (.int p1), .val (.int p2)] [(.int p2), (.int (we.getD 0 (0 : Int32)))])) := fun t k => pre30 t (by
                show Steps p.tables e below (T28.setTop (mkF m 64 #[.val (.ref a0), .val (.int p1), .val (.int p2)] [(.int p1), (.int (wl.getD 0 (0 : Int32)))])) _
                refine XS.icmpNo X28.here hx rfl (hb hby d5_64) rfl (teq hc64).2 ?_
                refine XS.aloadN X28.here hx rfl (hb hby d5_67) rfl rfl ?_
                refine st31 _ ?_
                refine XS.aloadN X31.here hx rfl (hb hby d5_71) rfl rfl ?_
                refine st32 _ ?_
                show Steps p.tables e below (T32.setTop (mkF m 75 #[.val (.ref a0), .val (.int p1), .val (.int p2)] [(.int (0 : Int32)), (.ref ea)])) _
                refine X32.iaload hx (j := (0 : Int32)) (v := (.int (we.getD 0 (0 : Int32)))) (by rw [e32]; exact Ar33.1) (State.isArrayOf_alike hZ.alike Ar33.2.1) Ar33.2.2 hin33 hat33 (g := (mkF m 75 #[.val (.ref a0), .val (.int p1), .val (.int p2)] [(.int (0 : Int32)), (.ref ea)])) rfl rfl (hb hby d5_75) _ ?_
                refine XS.iloadN X32.here hx rfl (hb hby d5_76) rfl ?_
                exact k)
            by_cases hc77 : p2 < (we.getD 0 (0 : Int32))
            · obtain ⟨T35, X35, e35, st35⟩ := getF X32 hx hZ hown (host := "") (Or.inl (hw _ (own_w 30 rfl))) Via.refl e32 F_a0_passedChange (g := (mkF m 126 #[.val (.ref a0), .val (.int p1), .val (.int p2)] [(.ref a0), (.int p2)])) rfl rfl (hb hby d5_126)
              obtain ⟨fs, hr, hrun, hended, hW, hsame⟩ := X35.leave (v := some (.int (p2 - pc))) (fun h => by rw [Bd.returns] at h; cases h)
              refine ⟨_, _, pre34 _ ?_, hrun, hended, _, _, rfl, ?_, ⟨_, rfl⟩, hW, hsame.mono (by decide) (by decide)⟩
              · show Steps p.tables e below (T32.setTop (mkF m 77 #[.val (.ref a0), .val (.int p1), .val (.int p2)] [(.int p2), (.int (we.getD 0 (0 : Int32)))])) _
                refine XS.icmpYes X32.here hx rfl (pc0 := 77) (pc' := 124) rfl (hb hby d5_77) rfl (tlt hc77).2.2.1 (by decide) (by decide) ?_
                refine XS.iloadN X32.here hx rfl (hb hby d5_124) rfl ?_
                refine XS.aloadN X32.here hx rfl (hb hby d5_125) rfl rfl ?_
                refine st35 _ ?_
                refine XS.isub X35.here hx rfl (hb hby d5_129) rfl ?_
                show Steps p.tables e below (T35.setTop (mkF m 130 #[.val (.ref a0), .val (.int p1), .val (.int p2)] [(.int (p2 - pc))])) _
                exact retI X35 hx Bd.returns (hb hby d5_130) hr
              · show Q5_0_1 Z a0 p1 p2 la ea ca kl ke kc wl we wc al pc h0 n0 _ T35.heap _
                rw [e35]
                unfold Q5_0_1
                refine ⟨?_, N0, (Keep.refl h0 [a0]), E_a0, ?_, ?_, ?_, ?_, ?_, ?_, ?_⟩
                · simp only [own_f5_0_1, if_neg hc2, if_neg hc7, if_pos hc17, if_neg hc51, if_pos hc64, if_pos hc77]
                · exact F_a0_lines
                · exact F_a0_ends
                · exact F_a0_changes
                · rw [show (own_p5_0_1_first p1 p2 wl we) = (0 : Int32) from (by simp only [own_p5_0_1_first, if_neg hc2, if_neg hc7, if_pos hc17, if_neg hc51, if_pos hc64, if_pos hc77])]; exact F_a0_first
                · exact F_a0_end
                · rw [show (own_p5_0_1_askedLine p1 p2 al) = al from (by simp only [own_p5_0_1_askedLine, if_neg hc2, if_neg hc7, if_pos hc17, if_neg hc51, if_pos hc64, if_pos hc77])]; exact F_a0_askedLine
                · rw [show (own_p5_0_1_passedChange p1 p2 wl we wc al pc) = pc from (by simp only [own_p5_0_1_passedChange, if_neg hc2, if_neg hc7, if_pos hc17, if_neg hc51, if_pos hc64, if_pos hc77])]; exact F_a0_passedChange
            · obtain ⟨T36, X36, e36, st36⟩ := getF X32 hx hZ hown (host := "") (Or.inl (hw _ (own_w 17 rfl))) Via.refl e32 F_a0_lines (g := (mkF m 81 #[.val (.ref a0), .val (.int p1), .val (.int p2)] [(.ref a0)])) rfl rfl (hb hby d5_81)
              obtain ⟨T37, X37, e37, st37⟩ := getF X36 hx hZ hown (host := "") (Or.inl (hw _ (own_w 32 rfl))) Via.refl e36 F_a0_first (g := (mkF m 85 #[.val (.ref a0), .val (.int p1), .val (.int p2)] [(.ref a0), (.ref la)])) rfl rfl (hb hby d5_85)
              obtain ⟨cl38, Ar38, hin38, hat38⟩ := own_AI.at V_la (j := (0 : Int32)) ⟨by decide, by decide⟩
              have hc90 : ((wl.getD 0 (0 : Int32)) = p1) := hc64
              obtain ⟨T39, X39, e39, st39⟩ := getF X37 hx hZ hown (host := "") (Or.inl (hw _ (own_w 30 rfl))) Via.refl e37 F_a0_passedChange (g := (mkF m 95 #[.val (.ref a0), .val (.int p1), .val (.int p2)] [(.ref a0), (.ref a0)])) rfl rfl (hb hby d5_95)
              obtain ⟨T40, X40, e40, st40⟩ := getF X39 hx hZ hown (host := "") (Or.inl (hw _ (own_w 21 rfl))) Via.refl e39 F_a0_changes (g := (mkF m 99 #[.val (.ref a0), .val (.int p1), .val (.int p2)] [(.ref a0), (.int pc), (.ref a0)])) rfl rfl (hb hby d5_99)
              obtain ⟨T41, X41, e41, st41⟩ := getF X40 hx hZ hown (host := "") (Or.inl (hw _ (own_w 32 rfl))) Via.refl e40 F_a0_first (g := (mkF m 103 #[.val (.ref a0), .val (.int p1), .val (.int p2)] [(.ref a0), (.ref ca), (.int pc), (.ref a0)])) rfl rfl (hb hby d5_103)
              obtain ⟨cl42, Ar42, hin42, hat42⟩ := own_AI.at V_ca (j := (0 : Int32)) ⟨by decide, by decide⟩
              obtain ⟨T43, h43, X43, e43, W43, st43⟩ := putF X41 hx hZ hown (host := "") (Or.inl (hw _ (own_w 30 rfl))) Via.refl e41 F_a0_passedChange E_a0 (Or.inl (hw _ (own_w 31 rfl))) (hw _ (own_w 8 rfl)) (ty := .int) (by decide) rfl rfl (g := (mkF m 108 #[.val (.ref a0), .val (.int p1), .val (.int p2)] [(.int (pc + (wc.getD 0 (0 : Int32)))), (.ref a0)])) rfl rfl (hb hby d5_108)
              have Fw43 := F_a0_passedChange.same W43
              have N43 := Fr.snoc X43 N0 g_a0
              have kp44 : Keep h0 h43 [a0] := (Keep.refl h0 [a0]).wr W43 (Or.inl (own_w 0 rfl))
              have f45 := (F_a0_first.other W43 (Or.inr (slot_ne (Or.inl (hw _ (own_w 33 rfl))) (Or.inl (hw _ (own_w 31 rfl))) (by decide) (t := .int) (t' := .int) (by decide) (by decide))))
              obtain ⟨T46, X46, e46, st46⟩ := getF X43 hx hZ hown (host := "") (Or.inl (hw _ (own_w 32 rfl))) Via.refl e43 f45 (g := (mkF m 113 #[.val (.ref a0), .val (.int p1), .val (.int p2)] [(.ref a0), (.ref a0)])) rfl rfl (hb hby d5_113)
              have f47 := (E_a0.wr W43)
              obtain ⟨T48, h48, X48, e48, W48, st48⟩ := putF X46 hx hZ hown (host := "") (Or.inl (hw _ (own_w 32 rfl))) Via.refl e46 f45 f47 (Or.inl (hw _ (own_w 33 rfl))) (hw _ (own_w 8 rfl)) (ty := .int) (by decide) rfl rfl (g := (mkF m 118 #[.val (.ref a0), .val (.int p1), .val (.int p2)] [(.int (1 : Int32)), (.ref a0)])) rfl rfl (hb hby d5_118)
              have Fw48 := f45.same W48
              have N48 := Fr.snoc X48 N43 g_a0
              have kp49 : Keep h0 h48 [a0] := kp44.wr W48 (Or.inl (own_w 0 rfl))
              obtain ⟨T50, X50, e50, st50⟩ := getF X48 hx hZ hown (host := "") (Or.inl (hw _ (own_w 32 rfl))) Via.refl e48 Fw48 (g := (mkF m 31 #[.val (.ref a0), .val (.int p1), .val (.int p2)] [(.ref a0)])) rfl rfl (hb hby d5_31)
              have f51 := ((F_a0_end.other W43 (Or.inr (slot_ne (Or.inl (hw _ (own_w 35 rfl))) (Or.inl (hw _ (own_w 31 rfl))) (by decide) (t := .int) (t' := .int) (by decide) (by decide)))).other W48 (Or.inr (slot_ne (Or.inl (hw _ (own_w 35 rfl))) (Or.inl (hw _ (own_w 33 rfl))) (by decide) (t := .int) (t' := .int) (by decide) (by decide))))
              obtain ⟨T52, X52, e52, st52⟩ := getF X50 hx hZ hown (host := "") (Or.inl (hw _ (own_w 34 rfl))) Via.refl e50 f51 (g := (mkF m 35 #[.val (.ref a0), .val (.int p1), .val (.int p2)] [(.ref a0), (.int (1 : Int32))])) rfl rfl (hb hby d5_35)
              have f53 := (Fw43.other W48 (Or.inr (slot_ne (Or.inl (hw _ (own_w 31 rfl))) (Or.inl (hw _ (own_w 33 rfl))) (by decide) (t := .int) (t' := .int) (by decide) (by decide))))
              obtain ⟨T54, X54, e54, st54⟩ := getF X52 hx hZ hown (host := "") (Or.inl (hw _ (own_w 30 rfl))) Via.refl e52 f53 (g := (mkF m 126 #[.val (.ref a0), .val (.int p1), .val (.int p2)] [(.ref a0), (.int p2)])) rfl rfl (hb hby d5_126)
              obtain ⟨fs, hr, hrun, hended, hW, hsame⟩ := X54.leave (v := some (.int (p2 - (pc + (wc.getD 0 (0 : Int32)))))) (fun h => by rw [Bd.returns] at h; cases h)
              refine ⟨_, _, pre34 _ ?_, hrun, hended, _, _, rfl, ?_, ⟨_, rfl⟩, hW, hsame.mono (by decide) (by decide)⟩
              · show Steps p.tables e below (T32.setTop (mkF m 77 #[.val (.ref a0), .val (.int p1), .val (.int p2)] [(.int p2), (.int (we.getD 0 (0 : Int32)))])) _
                refine XS.icmpNo X32.here hx rfl (hb hby d5_77) rfl (flt hc77).2.2.1 ?_
                refine XS.aloadN X32.here hx rfl (hb hby d5_80) rfl rfl ?_
                refine st36 _ ?_
                refine XS.aloadN X36.here hx rfl (hb hby d5_84) rfl rfl ?_
                refine st37 _ ?_
                show Steps p.tables e below (T37.setTop (mkF m 88 #[.val (.ref a0), .val (.int p1), .val (.int p2)] [(.int (0 : Int32)), (.ref la)])) _
                refine X37.iaload hx (j := (0 : Int32)) (v := (.int (wl.getD 0 (0 : Int32)))) (by rw [e37]; exact Ar38.1) (State.isArrayOf_alike hZ.alike Ar38.2.1) Ar38.2.2 hin38 hat38 (g := (mkF m 88 #[.val (.ref a0), .val (.int p1), .val (.int p2)] [(.int (0 : Int32)), (.ref la)])) rfl rfl (hb hby d5_88) _ ?_
                refine XS.iloadN X37.here hx rfl (hb hby d5_89) rfl ?_
                refine XS.icmpNo X37.here hx rfl (hb hby d5_90) rfl (teq hc90).2 ?_
                refine XS.aloadN X37.here hx rfl (hb hby d5_93) rfl rfl ?_
                refine XS.dup X37.here hx rfl (hb hby d5_94) rfl rfl ?_
                show Steps p.tables e below (T37.setTop (mkF m 95 #[.val (.ref a0), .val (.int p1), .val (.int p2)] [(.ref a0), (.ref a0)])) _
                refine st39 _ ?_
                refine XS.aloadN X39.here hx rfl (hb hby d5_98) rfl rfl ?_
                refine st40 _ ?_
                refine XS.aloadN X40.here hx rfl (hb hby d5_102) rfl rfl ?_
                refine st41 _ ?_
                show Steps p.tables e below (T41.setTop (mkF m 106 #[.val (.ref a0), .val (.int p1), .val (.int p2)] [(.int (0 : Int32)), (.ref ca), (.int pc), (.ref a0)])) _
                refine X41.iaload hx (j := (0 : Int32)) (v := (.int (wc.getD 0 (0 : Int32)))) (by rw [e41]; exact Ar42.1) (State.isArrayOf_alike hZ.alike Ar42.2.1) Ar42.2.2 hin42 hat42 (g := (mkF m 106 #[.val (.ref a0), .val (.int p1), .val (.int p2)] [(.int (0 : Int32)), (.ref ca), (.int pc), (.ref a0)])) rfl rfl (hb hby d5_106) _ ?_
                refine XS.iadd X41.here hx rfl (hb hby d5_107) rfl ?_
                refine st43 _ ?_
                refine XS.aloadN X43.here hx rfl (hb hby d5_111) rfl rfl ?_
                refine XS.dup X43.here hx rfl (hb hby d5_112) rfl rfl ?_
                show Steps p.tables e below (T43.setTop (mkF m 113 #[.val (.ref a0), .val (.int p1), .val (.int p2)] [(.ref a0), (.ref a0)])) _
                refine st46 _ ?_
                refine XS.iconst X46.here hx rfl (hb hby d5_116) ?_
                refine XS.iadd X46.here hx rfl (hb hby d5_117) rfl ?_
                refine st48 _ ?_
                refine XS.goto X48.here hx rfl (pc0 := 121) (pc' := 30) rfl (hb hby d5_121) (by decide) (by decide) ?_
                show Steps p.tables e below (T48.setTop (mkF m 30 #[.val (.ref a0), .val (.int p1), .val (.int p2)] [])) _
                refine XS.aloadN X48.here hx rfl (hb hby d5_30) rfl rfl ?_
                refine st50 _ ?_
                refine XS.aloadN X50.here hx rfl (hb hby d5_34) rfl rfl ?_
                refine st52 _ ?_
                refine XS.icmpYes X52.here hx rfl (pc0 := 38) (pc' := 124) rfl (hb hby d5_38) rfl (flt (by decide : ¬ ((1 : Int32) < (1 : Int32)))).2.1 (by decide) (by decide) ?_
                show Steps p.tables e below (T52.setTop (mkF m 124 #[.val (.ref a0), .val (.int p1), .val (.int p2)] [])) _
                refine XS.iloadN X52.here hx rfl (hb hby d5_124) rfl ?_
                refine XS.aloadN X52.here hx rfl (hb hby d5_125) rfl rfl ?_
                refine st54 _ ?_
                refine XS.isub X54.here hx rfl (hb hby d5_129) rfl ?_
                show Steps p.tables e below (T54.setTop (mkF m 130 #[.val (.ref a0), .val (.int p1), .val (.int p2)] [(.int (p2 - (pc + (wc.getD 0 (0 : Int32)))))])) _
                exact retI X54 hx Bd.returns (hb hby d5_130) hr
              · show Q5_0_1 Z a0 p1 p2 la ea ca kl ke kc wl we wc al pc h0 n0 _ T54.heap _
                rw [e54]
                unfold Q5_0_1
                have f55 := (f47.wr W48)
                have f56 := ((F_a0_lines.other W43 (Or.inr (slot_ne (Or.inl (hw _ (own_w 18 rfl))) (Or.inl (hw _ (own_w 31 rfl))) (by decide) (t := (.array .int)) (t' := .int) (by decide) (by decide)))).other W48 (Or.inr (slot_ne (Or.inl (hw _ (own_w 18 rfl))) (Or.inl (hw _ (own_w 33 rfl))) (by decide) (t := (.array .int)) (t' := .int) (by decide) (by decide))))
                have f57 := ((F_a0_ends.other W43 (Or.inr (slot_ne (Or.inl (hw _ (own_w 20 rfl))) (Or.inl (hw _ (own_w 31 rfl))) (by decide) (t := (.array .int)) (t' := .int) (by decide) (by decide)))).other W48 (Or.inr (slot_ne (Or.inl (hw _ (own_w 20 rfl))) (Or.inl (hw _ (own_w 33 rfl))) (by decide) (t := (.array .int)) (t' := .int) (by decide) (by decide))))
                have f58 := ((F_a0_changes.other W43 (Or.inr (slot_ne (Or.inl (hw _ (own_w 22 rfl))) (Or.inl (hw _ (own_w 31 rfl))) (by decide) (t := (.array .int)) (t' := .int) (by decide) (by decide)))).other W48 (Or.inr (slot_ne (Or.inl (hw _ (own_w 22 rfl))) (Or.inl (hw _ (own_w 33 rfl))) (by decide) (t := (.array .int)) (t' := .int) (by decide) (by decide))))
                have f59 := ((F_a0_askedLine.other W43 (Or.inr (slot_ne (Or.inl (hw _ (own_w 29 rfl))) (Or.inl (hw _ (own_w 31 rfl))) (by decide) (t := .int) (t' := .int) (by decide) (by decide)))).other W48 (Or.inr (slot_ne (Or.inl (hw _ (own_w 29 rfl))) (Or.inl (hw _ (own_w 33 rfl))) (by decide) (t := .int) (t' := .int) (by decide) (by decide))))
                refine ⟨?_, N48, kp49, f55, ?_, ?_, ?_, ?_, ?_, ?_, ?_⟩
                · simp only [own_f5_0_1, if_neg hc2, if_neg hc7, if_pos hc17, if_neg hc51, if_pos hc64, if_neg hc77]
                · exact f56
                · exact f57
                · exact f58
                · rw [show (own_p5_0_1_first p1 p2 wl we) = (1 : Int32) from (by simp only [own_p5_0_1_first, if_neg hc2, if_neg hc7, if_pos hc17, if_neg hc51, if_pos hc64, if_neg hc77])]; exact Fw48
                · exact f51
                · rw [show (own_p5_0_1_askedLine p1 p2 al) = al from (by simp only [own_p5_0_1_askedLine, if_neg hc2, if_neg hc7, if_pos hc17, if_neg hc51, if_pos hc64, if_neg hc77])]; exact f59
                · rw [show (own_p5_0_1_passedChange p1 p2 wl we wc al pc) = (pc + (wc.getD 0 (0 : Int32))) from (by simp only [own_p5_0_1_passedChange, if_neg hc2, if_neg hc7, if_pos hc17, if_neg hc51, if_pos hc64, if_neg hc77])]; exact f53
          · obtain ⟨T60, X60, e60, st60⟩ := getF X28 hx hZ hown (host := "") (Or.inl (hw _ (own_w 30 rfl))) Via.refl e28 F_a0_passedChange (g := (mkF m 126 #[.val (.ref a0), .val (.int p1), .val (.int p2)] [(.ref a0), (.int p2)])) rfl rfl (hb hby d5_126)
            obtain ⟨fs, hr, hrun, hended, hW, hsame⟩ := X60.leave (v := some (.int (p2 - pc))) (fun h => by rw [Bd.returns] at h; cases h)
            refine ⟨_, _, pre30 _ ?_, hrun, hended, _, _, rfl, ?_, ⟨_, rfl⟩, hW, hsame.mono (by decide) (by decide)⟩
            · show Steps p.tables e below (T28.setTop (mkF m 64 #[.val (.ref a0), .val (.int p1), .val (.int p2)] [(.int p1), (.int (wl.getD 0 (0 : Int32)))])) _
              refine XS.icmpYes X28.here hx rfl (pc0 := 64) (pc' := 124) rfl (hb hby d5_64) rfl (feq hc64).2 (by decide) (by decide) ?_
              refine XS.iloadN X28.here hx rfl (hb hby d5_124) rfl ?_
              refine XS.aloadN X28.here hx rfl (hb hby d5_125) rfl rfl ?_
              refine st60 _ ?_
              refine XS.isub X60.here hx rfl (hb hby d5_129) rfl ?_
              show Steps p.tables e below (T60.setTop (mkF m 130 #[.val (.ref a0), .val (.int p1), .val (.int p2)] [(.int (p2 - pc))])) _
              exact retI X60 hx Bd.returns (hb hby d5_130) hr
            · show Q5_0_1 Z a0 p1 p2 la ea ca kl ke kc wl we wc al pc h0 n0 _ T60.heap _
              rw [e60]
              unfold Q5_0_1
              refine ⟨?_, N0, (Keep.refl h0 [a0]), E_a0, ?_, ?_, ?_, ?_, ?_, ?_, ?_⟩
              · simp only [own_f5_0_1, if_neg hc2, if_neg hc7, if_pos hc17, if_neg hc51, if_neg hc64]
              · exact F_a0_lines
              · exact F_a0_ends
              · exact F_a0_changes
              · rw [show (own_p5_0_1_first p1 p2 wl we) = (0 : Int32) from (by simp only [own_p5_0_1_first, if_neg hc2, if_neg hc7, if_pos hc17, if_neg hc51, if_neg hc64])]; exact F_a0_first
              · exact F_a0_end
              · rw [show (own_p5_0_1_askedLine p1 p2 al) = al from (by simp only [own_p5_0_1_askedLine, if_neg hc2, if_neg hc7, if_pos hc17, if_neg hc51, if_neg hc64])]; exact F_a0_askedLine
              · rw [show (own_p5_0_1_passedChange p1 p2 wl we wc al pc) = pc from (by simp only [own_p5_0_1_passedChange, if_neg hc2, if_neg hc7, if_pos hc17, if_neg hc51, if_neg hc64])]; exact F_a0_passedChange
      · obtain ⟨T61, h61, X61, e61, W61, st61⟩ := putF X3 hx hZ hown (host := "") (Or.inl (hw _ (own_w 28 rfl))) Via.refl e3 F_a0_askedLine E_a0 (Or.inl (hw _ (own_w 29 rfl))) (hw _ (own_w 8 rfl)) (ty := .int) (by decide) rfl rfl (g := (mkF m 22 #[.val (.ref a0), .val (.int p1), .val (.int p2)] [(.int p1), (.ref a0)])) rfl rfl (hb hby d5_22)
        have Fw61 := F_a0_askedLine.same W61
        have N61 := Fr.snoc X61 N0 g_a0
        have kp62 : Keep h0 h61 [a0] := (Keep.refl h0 [a0]).wr W61 (Or.inl (own_w 0 rfl))
        have f63 := (E_a0.wr W61)
        have f64 := (F_a0_passedChange.other W61 (Or.inr (slot_ne (Or.inl (hw _ (own_w 31 rfl))) (Or.inl (hw _ (own_w 29 rfl))) (by decide) (t := .int) (t' := .int) (by decide) (by decide))))
        obtain ⟨T65, h65, X65, e65, W65, st65⟩ := putF X61 hx hZ hown (host := "") (Or.inl (hw _ (own_w 30 rfl))) Via.refl e61 f64 f63 (Or.inl (hw _ (own_w 31 rfl))) (hw _ (own_w 8 rfl)) (ty := .int) (by decide) rfl rfl (g := (mkF m 27 #[.val (.ref a0), .val (.int p1), .val (.int p2)] [(.int (0 : Int32)), (.ref a0)])) rfl rfl (hb hby d5_27)
        have Fw65 := f64.same W65
        have N65 := Fr.snoc X65 N61 g_a0
        have kp66 : Keep h0 h65 [a0] := kp62.wr W65 (Or.inl (own_w 0 rfl))
        have f67 := ((F_a0_first.other W61 (Or.inr (slot_ne (Or.inl (hw _ (own_w 33 rfl))) (Or.inl (hw _ (own_w 29 rfl))) (by decide) (t := .int) (t' := .int) (by decide) (by decide)))).other W65 (Or.inr (slot_ne (Or.inl (hw _ (own_w 33 rfl))) (Or.inl (hw _ (own_w 31 rfl))) (by decide) (t := .int) (t' := .int) (by decide) (by decide))))
        obtain ⟨T68, X68, e68, st68⟩ := getF X65 hx hZ hown (host := "") (Or.inl (hw _ (own_w 32 rfl))) Via.refl e65 f67 (g := (mkF m 31 #[.val (.ref a0), .val (.int p1), .val (.int p2)] [(.ref a0)])) rfl rfl (hb hby d5_31)
        have f69 := ((F_a0_end.other W61 (Or.inr (slot_ne (Or.inl (hw _ (own_w 35 rfl))) (Or.inl (hw _ (own_w 29 rfl))) (by decide) (t := .int) (t' := .int) (by decide) (by decide)))).other W65 (Or.inr (slot_ne (Or.inl (hw _ (own_w 35 rfl))) (Or.inl (hw _ (own_w 31 rfl))) (by decide) (t := .int) (t' := .int) (by decide) (by decide))))
        obtain ⟨T70, X70, e70, st70⟩ := getF X68 hx hZ hown (host := "") (Or.inl (hw _ (own_w 34 rfl))) Via.refl e68 f69 (g := (mkF m 35 #[.val (.ref a0), .val (.int p1), .val (.int p2)] [(.ref a0), (.int (0 : Int32))])) rfl rfl (hb hby d5_35)
        have f71 := ((F_a0_lines.other W61 (Or.inr (slot_ne (Or.inl (hw _ (own_w 18 rfl))) (Or.inl (hw _ (own_w 29 rfl))) (by decide) (t := (.array .int)) (t' := .int) (by decide) (by decide)))).other W65 (Or.inr (slot_ne (Or.inl (hw _ (own_w 18 rfl))) (Or.inl (hw _ (own_w 31 rfl))) (by decide) (t := (.array .int)) (t' := .int) (by decide) (by decide))))
        obtain ⟨T72, X72, e72, st72⟩ := getF X70 hx hZ hown (host := "") (Or.inl (hw _ (own_w 17 rfl))) Via.refl e70 f71 (g := (mkF m 42 #[.val (.ref a0), .val (.int p1), .val (.int p2)] [(.ref a0)])) rfl rfl (hb hby d5_42)
        obtain ⟨T73, X73, e73, st73⟩ := getF X72 hx hZ hown (host := "") (Or.inl (hw _ (own_w 32 rfl))) Via.refl e72 f67 (g := (mkF m 46 #[.val (.ref a0), .val (.int p1), .val (.int p2)] [(.ref a0), (.ref la)])) rfl rfl (hb hby d5_46)
        have f74 := ((V_la.other W61 (Ne.symm ne_a0_la)).other W65 (Ne.symm ne_a0_la))
        obtain ⟨cl75, Ar75, hin75, hat75⟩ := own_AI.at f74 (j := (0 : Int32)) ⟨by decide, by decide⟩
        have pre76 : own_Pre p e below (s₁.setTop (entryFrame m #[(.ref a0), (.int p1), (.int p2)] 3)) (T73.setTop (mkF m 51 #[.val (.ref a0), .val (.int p1), .val (.int p2)] [(.int p1), (.int (wl.getD 0 (0 : Int32)))])) := fun t k => pre4 t (by
            show Steps p.tables e below (T3.setTop (mkF m 17 #[.val (.ref a0), .val (.int p1), .val (.int p2)] [(.int al), (.int p1)])) _
            refine XS.icmpNo X3.here hx rfl (hb hby d5_17) rfl (feq hc17).1 ?_
            refine XS.aloadN X3.here hx rfl (hb hby d5_20) rfl rfl ?_
            refine XS.iloadN X3.here hx rfl (hb hby d5_21) rfl ?_
            refine st61 _ ?_
            refine XS.aloadN X61.here hx rfl (hb hby d5_25) rfl rfl ?_
            show Steps p.tables e below (T61.setTop (mkF m 26 #[.val (.ref a0), .val (.int p1), .val (.int p2)] [(.ref a0)])) _
            refine XS.iconst X61.here hx rfl (hb hby d5_26) ?_
            refine st65 _ ?_
            refine XS.aloadN X65.here hx rfl (hb hby d5_30) rfl rfl ?_
            refine st68 _ ?_
            refine XS.aloadN X68.here hx rfl (hb hby d5_34) rfl rfl ?_
            show Steps p.tables e below (T68.setTop (mkF m 35 #[.val (.ref a0), .val (.int p1), .val (.int p2)] [(.ref a0), (.int (0 : Int32))])) _
            refine st70 _ ?_
            refine XS.icmpNo X70.here hx rfl (hb hby d5_38) rfl (tlt (by decide : ((0 : Int32) < (1 : Int32)))).2.1 ?_
            refine XS.aloadN X70.here hx rfl (hb hby d5_41) rfl rfl ?_
            refine st72 _ ?_
            refine XS.aloadN X72.here hx rfl (hb hby d5_45) rfl rfl ?_
            show Steps p.tables e below (T72.setTop (mkF m 46 #[.val (.ref a0), .val (.int p1), .val (.int p2)] [(.ref a0), (.ref la)])) _
            refine st73 _ ?_
            refine X73.iaload hx (j := (0 : Int32)) (v := (.int (wl.getD 0 (0 : Int32)))) (by rw [e73]; exact Ar75.1) (State.isArrayOf_alike hZ.alike Ar75.2.1) Ar75.2.2 hin75 hat75 (g := (mkF m 49 #[.val (.ref a0), .val (.int p1), .val (.int p2)] [(.int (0 : Int32)), (.ref la)])) rfl rfl (hb hby d5_49) _ ?_
            refine XS.iloadN X73.here hx rfl (hb hby d5_50) rfl ?_
            exact k)
        by_cases hc51 : (wl.getD 0 (0 : Int32)) < p1
        · obtain ⟨T77, X77, e77, st77⟩ := getF X73 hx hZ hown (host := "") (Or.inl (hw _ (own_w 17 rfl))) Via.refl e73 f71 (g := (mkF m 81 #[.val (.ref a0), .val (.int p1), .val (.int p2)] [(.ref a0)])) rfl rfl (hb hby d5_81)
          obtain ⟨T78, X78, e78, st78⟩ := getF X77 hx hZ hown (host := "") (Or.inl (hw _ (own_w 32 rfl))) Via.refl e77 f67 (g := (mkF m 85 #[.val (.ref a0), .val (.int p1), .val (.int p2)] [(.ref a0), (.ref la)])) rfl rfl (hb hby d5_85)
          obtain ⟨cl79, Ar79, hin79, hat79⟩ := own_AI.at f74 (j := (0 : Int32)) ⟨by decide, by decide⟩
          have hc90 : ¬ ((wl.getD 0 (0 : Int32)) = p1) := own_nlt hc51
          obtain ⟨T80, X80, e80, st80⟩ := getF X78 hx hZ hown (host := "") (Or.inl (hw _ (own_w 32 rfl))) Via.refl e78 f67 (g := (mkF m 113 #[.val (.ref a0), .val (.int p1), .val (.int p2)] [(.ref a0), (.ref a0)])) rfl rfl (hb hby d5_113)
          have f81 := (f63.wr W65)
          obtain ⟨T82, h82, X82, e82, W82, st82⟩ := putF X80 hx hZ hown (host := "") (Or.inl (hw _ (own_w 32 rfl))) Via.refl e80 f67 f81 (Or.inl (hw _ (own_w 33 rfl))) (hw _ (own_w 8 rfl)) (ty := .int) (by decide) rfl rfl (g := (mkF m 118 #[.val (.ref a0), .val (.int p1), .val (.int p2)] [(.int (1 : Int32)), (.ref a0)])) rfl rfl (hb hby d5_118)
          have Fw82 := f67.same W82
          have N82 := Fr.snoc X82 N65 g_a0
          have kp83 : Keep h0 h82 [a0] := kp66.wr W82 (Or.inl (own_w 0 rfl))
          obtain ⟨T84, X84, e84, st84⟩ := getF X82 hx hZ hown (host := "") (Or.inl (hw _ (own_w 32 rfl))) Via.refl e82 Fw82 (g := (mkF m 31 #[.val (.ref a0), .val (.int p1), .val (.int p2)] [(.ref a0)])) rfl rfl (hb hby d5_31)
          have f85 := (f69.other W82 (Or.inr (slot_ne (Or.inl (hw _ (own_w 35 rfl))) (Or.inl (hw _ (own_w 33 rfl))) (by decide) (t := .int) (t' := .int) (by decide) (by decide))))
          obtain ⟨T86, X86, e86, st86⟩ := getF X84 hx hZ hown (host := "") (Or.inl (hw _ (own_w 34 rfl))) Via.refl e84 f85 (g := (mkF m 35 #[.val (.ref a0), .val (.int p1), .val (.int p2)] [(.ref a0), (.int (1 : Int32))])) rfl rfl (hb hby d5_35)
          have f87 := (Fw65.other W82 (Or.inr (slot_ne (Or.inl (hw _ (own_w 31 rfl))) (Or.inl (hw _ (own_w 33 rfl))) (by decide) (t := .int) (t' := .int) (by decide) (by decide))))
          obtain ⟨T88, X88, e88, st88⟩ := getF X86 hx hZ hown (host := "") (Or.inl (hw _ (own_w 30 rfl))) Via.refl e86 f87 (g := (mkF m 126 #[.val (.ref a0), .val (.int p1), .val (.int p2)] [(.ref a0), (.int p2)])) rfl rfl (hb hby d5_126)
          obtain ⟨fs, hr, hrun, hended, hW, hsame⟩ := X88.leave (v := some (.int (p2 - (0 : Int32)))) (fun h => by rw [Bd.returns] at h; cases h)
          refine ⟨_, _, pre76 _ ?_, hrun, hended, _, _, rfl, ?_, ⟨_, rfl⟩, hW, hsame.mono (by decide) (by decide)⟩
          · show Steps p.tables e below (T73.setTop (mkF m 51 #[.val (.ref a0), .val (.int p1), .val (.int p2)] [(.int p1), (.int (wl.getD 0 (0 : Int32)))])) _
            refine XS.icmpYes X73.here hx rfl (pc0 := 51) (pc' := 80) rfl (hb hby d5_51) rfl (tlt hc51).1 (by decide) (by decide) ?_
            refine XS.aloadN X73.here hx rfl (hb hby d5_80) rfl rfl ?_
            refine st77 _ ?_
            refine XS.aloadN X77.here hx rfl (hb hby d5_84) rfl rfl ?_
            refine st78 _ ?_
            show Steps p.tables e below (T78.setTop (mkF m 88 #[.val (.ref a0), .val (.int p1), .val (.int p2)] [(.int (0 : Int32)), (.ref la)])) _
            refine X78.iaload hx (j := (0 : Int32)) (v := (.int (wl.getD 0 (0 : Int32)))) (by rw [e78]; exact Ar79.1) (State.isArrayOf_alike hZ.alike Ar79.2.1) Ar79.2.2 hin79 hat79 (g := (mkF m 88 #[.val (.ref a0), .val (.int p1), .val (.int p2)] [(.int (0 : Int32)), (.ref la)])) rfl rfl (hb hby d5_88) _ ?_
            refine XS.iloadN X78.here hx rfl (hb hby d5_89) rfl ?_
            refine XS.icmpYes X78.here hx rfl (pc0 := 90) (pc' := 111) rfl (hb hby d5_90) rfl (feq hc90).2 (by decide) (by decide) ?_
            refine XS.aloadN X78.here hx rfl (hb hby d5_111) rfl rfl ?_
            refine XS.dup X78.here hx rfl (hb hby d5_112) rfl rfl ?_
            show Steps p.tables e below (T78.setTop (mkF m 113 #[.val (.ref a0), .val (.int p1), .val (.int p2)] [(.ref a0), (.ref a0)])) _
            refine st80 _ ?_
            refine XS.iconst X80.here hx rfl (hb hby d5_116) ?_
            refine XS.iadd X80.here hx rfl (hb hby d5_117) rfl ?_
            refine st82 _ ?_
            refine XS.goto X82.here hx rfl (pc0 := 121) (pc' := 30) rfl (hb hby d5_121) (by decide) (by decide) ?_
            show Steps p.tables e below (T82.setTop (mkF m 30 #[.val (.ref a0), .val (.int p1), .val (.int p2)] [])) _
            refine XS.aloadN X82.here hx rfl (hb hby d5_30) rfl rfl ?_
            refine st84 _ ?_
            refine XS.aloadN X84.here hx rfl (hb hby d5_34) rfl rfl ?_
            refine st86 _ ?_
            refine XS.icmpYes X86.here hx rfl (pc0 := 38) (pc' := 124) rfl (hb hby d5_38) rfl (flt (by decide : ¬ ((1 : Int32) < (1 : Int32)))).2.1 (by decide) (by decide) ?_
            show Steps p.tables e below (T86.setTop (mkF m 124 #[.val (.ref a0), .val (.int p1), .val (.int p2)] [])) _
            refine XS.iloadN X86.here hx rfl (hb hby d5_124) rfl ?_
            refine XS.aloadN X86.here hx rfl (hb hby d5_125) rfl rfl ?_
            refine st88 _ ?_
            refine XS.isub X88.here hx rfl (hb hby d5_129) rfl ?_
            show Steps p.tables e below (T88.setTop (mkF m 130 #[.val (.ref a0), .val (.int p1), .val (.int p2)] [(.int (p2 - (0 : Int32)))])) _
            exact retI X88 hx Bd.returns (hb hby d5_130) hr
          · show Q5_0_1 Z a0 p1 p2 la ea ca kl ke kc wl we wc al pc h0 n0 _ T88.heap _
            rw [e88]
            unfold Q5_0_1
            have f89 := (f81.wr W82)
            have f90 := (f71.other W82 (Or.inr (slot_ne (Or.inl (hw _ (own_w 18 rfl))) (Or.inl (hw _ (own_w 33 rfl))) (by decide) (t := (.array .int)) (t' := .int) (by decide) (by decide))))
            have f91 := (((F_a0_ends.other W61 (Or.inr (slot_ne (Or.inl (hw _ (own_w 20 rfl))) (Or.inl (hw _ (own_w 29 rfl))) (by decide) (t := (.array .int)) (t' := .int) (by decide) (by decide)))).other W65 (Or.inr (slot_ne (Or.inl (hw _ (own_w 20 rfl))) (Or.inl (hw _ (own_w 31 rfl))) (by decide) (t := (.array .int)) (t' := .int) (by decide) (by decide)))).other W82 (Or.inr (slot_ne (Or.inl (hw _ (own_w 20 rfl))) (Or.inl (hw _ (own_w 33 rfl))) (by decide) (t := (.array .int)) (t' := .int) (by decide) (by decide))))
            have f92 := (((F_a0_changes.other W61 (Or.inr (slot_ne (Or.inl (hw _ (own_w 22 rfl))) (Or.inl (hw _ (own_w 29 rfl))) (by decide) (t := (.array .int)) (t' := .int) (by decide) (by decide)))).other W65 (Or.inr (slot_ne (Or.inl (hw _ (own_w 22 rfl))) (Or.inl (hw _ (own_w 31 rfl))) (by decide) (t := (.array .int)) (t' := .int) (by decide) (by decide)))).other W82 (Or.inr (slot_ne (Or.inl (hw _ (own_w 22 rfl))) (Or.inl (hw _ (own_w 33 rfl))) (by decide) (t := (.array .int)) (t' := .int) (by decide) (by decide))))
            have f93 := ((Fw61.other W65 (Or.inr (slot_ne (Or.inl (hw _ (own_w 29 rfl))) (Or.inl (hw _ (own_w 31 rfl))) (by decide) (t := .int) (t' := .int) (by decide) (by decide)))).other W82 (Or.inr (slot_ne (Or.inl (hw _ (own_w 29 rfl))) (Or.inl (hw _ (own_w 33 rfl))) (by decide) (t := .int) (t' := .int) (by decide) (by decide))))
            refine ⟨?_, N82, kp83, f89, ?_, ?_, ?_, ?_, ?_, ?_, ?_⟩
            · simp only [own_f5_0_1, if_neg hc2, if_neg hc7, if_neg hc17, if_pos hc51]
            · exact f90
            · exact f91
            · exact f92
            · rw [show (own_p5_0_1_first p1 p2 wl we) = (1 : Int32) from (by simp only [own_p5_0_1_first, if_neg hc2, if_neg hc7, if_neg hc17, if_pos hc51])]; exact Fw82
            · exact f85
            · rw [show (own_p5_0_1_askedLine p1 p2 al) = p1 from (by simp only [own_p5_0_1_askedLine, if_neg hc2, if_neg hc7, if_neg hc17, if_pos hc51])]; exact f93
            · rw [show (own_p5_0_1_passedChange p1 p2 wl we wc al pc) = (0 : Int32) from (by simp only [own_p5_0_1_passedChange, if_neg hc2, if_neg hc7, if_neg hc17, if_pos hc51])]; exact f87
        · obtain ⟨T94, X94, e94, st94⟩ := getF X73 hx hZ hown (host := "") (Or.inl (hw _ (own_w 17 rfl))) Via.refl e73 f71 (g := (mkF m 55 #[.val (.ref a0), .val (.int p1), .val (.int p2)] [(.ref a0)])) rfl rfl (hb hby d5_55)
          obtain ⟨T95, X95, e95, st95⟩ := getF X94 hx hZ hown (host := "") (Or.inl (hw _ (own_w 32 rfl))) Via.refl e94 f67 (g := (mkF m 59 #[.val (.ref a0), .val (.int p1), .val (.int p2)] [(.ref a0), (.ref la)])) rfl rfl (hb hby d5_59)
          obtain ⟨cl96, Ar96, hin96, hat96⟩ := own_AI.at f74 (j := (0 : Int32)) ⟨by decide, by decide⟩
          have pre97 : own_Pre p e below (s₁.setTop (entryFrame m #[(.ref a0), (.int p1), (.int p2)] 3)) (T95.setTop (mkF m 64 #[.val (.ref a0), .val (.int p1), .val (.int p2)] [(.int p1), (.int (wl.getD 0 (0 : Int32)))])) := fun t k => pre76 t (by
              show Steps p.tables e below (T73.setTop (mkF m 51 #[.val (.ref a0), .val (.int p1), .val (.int p2)] [(.int p1), (.int (wl.getD 0 (0 : Int32)))])) _
              refine XS.icmpNo X73.here hx rfl (hb hby d5_51) rfl (flt hc51).1 ?_
              refine XS.aloadN X73.here hx rfl (hb hby d5_54) rfl rfl ?_
              refine st94 _ ?_
              refine XS.aloadN X94.here hx rfl (hb hby d5_58) rfl rfl ?_
              refine st95 _ ?_
              show Steps p.tables e below (T95.setTop (mkF m 62 #[.val (.ref a0), .val (.int p1), .val (.int p2)] [(.int (0 : Int32)), (.ref la)])) _
              refine X95.iaload hx (j := (0 : Int32)) (v := (.int (wl.getD 0 (0 : Int32)))) (by rw [e95]; exact Ar96.1) (State.isArrayOf_alike hZ.alike Ar96.2.1) Ar96.2.2 hin96 hat96 (g := (mkF m 62 #[.val (.ref a0), .val (.int p1), .val (.int p2)] [(.int (0 : Int32)), (.ref la)])) rfl rfl (hb hby d5_62) _ ?_
              refine XS.iloadN X95.here hx rfl (hb hby d5_63) rfl ?_
              exact k)
          by_cases hc64 : (wl.getD 0 (0 : Int32)) = p1
          · have f98 := ((F_a0_ends.other W61 (Or.inr (slot_ne (Or.inl (hw _ (own_w 20 rfl))) (Or.inl (hw _ (own_w 29 rfl))) (by decide) (t := (.array .int)) (t' := .int) (by decide) (by decide)))).other W65 (Or.inr (slot_ne (Or.inl (hw _ (own_w 20 rfl))) (Or.inl (hw _ (own_w 31 rfl))) (by decide) (t := (.array .int)) (t' := .int) (by decide) (by decide))))
            obtain ⟨T99, X99, e99, st99⟩ := getF X95 hx hZ hown (host := "") (Or.inl (hw _ (own_w 19 rfl))) Via.refl e95 f98 (g := (mkF m 68 #[.val (.ref a0), .val (.int p1), .val (.int p2)] [(.ref a0)])) rfl rfl (hb hby d5_68)
            obtain ⟨T100, X100, e100, st100⟩ := getF X99 hx hZ hown (host := "") (Or.inl (hw _ (own_w 32 rfl))) Via.refl e99 f67 (g := (mkF m 72 #[.val (.ref a0), .val (.int p1), .val (.int p2)] [(.ref a0), (.ref ea)])) rfl rfl (hb hby d5_72)
            have f101 := ((V_ea.other W61 (Ne.symm ne_a0_ea)).other W65 (Ne.symm ne_a0_ea))
            obtain ⟨cl102, Ar102, hin102, hat102⟩ := own_AI.at f101 (j := (0 : Int32)) ⟨by decide, by decide⟩
            have pre103 : own_Pre p e below (s₁.setTop (entryFrame m #[(.ref a0), (.int p1), (.int p2)] 3)) (T100.setTop (mkF m 77 #[.val (.ref a0), .val (.int p1), .val (.int p2)] [(.int p2), (.int (we.getD 0 (0 : Int32)))])) := fun t k => pre97 t (by
                show Steps p.tables e below (T95.setTop (mkF m 64 #[.val (.ref a0), .val (.int p1), .val (.int p2)] [(.int p1), (.int (wl.getD 0 (0 : Int32)))])) _
                refine XS.icmpNo X95.here hx rfl (hb hby d5_64) rfl (teq hc64).2 ?_
                refine XS.aloadN X95.here hx rfl (hb hby d5_67) rfl rfl ?_
                refine st99 _ ?_
                refine XS.aloadN X99.here hx rfl (hb hby d5_71) rfl rfl ?_
                refine st100 _ ?_
                show Steps p.tables e below (T100.setTop (mkF m 75 #[.val (.ref a0), .val (.int p1), .val (.int p2)] [(.int (0 : Int32)), (.ref ea)])) _
                refine X100.iaload hx (j := (0 : Int32)) (v := (.int (we.getD 0 (0 : Int32)))) (by rw [e100]; exact Ar102.1) (State.isArrayOf_alike hZ.alike Ar102.2.1) Ar102.2.2 hin102 hat102 (g := (mkF m 75 #[.val (.ref a0), .val (.int p1), .val (.int p2)] [(.int (0 : Int32)), (.ref ea)])) rfl rfl (hb hby d5_75) _ ?_
                refine XS.iloadN X100.here hx rfl (hb hby d5_76) rfl ?_
                exact k)
            by_cases hc77 : p2 < (we.getD 0 (0 : Int32))
            · obtain ⟨T104, X104, e104, st104⟩ := getF X100 hx hZ hown (host := "") (Or.inl (hw _ (own_w 30 rfl))) Via.refl e100 Fw65 (g := (mkF m 126 #[.val (.ref a0), .val (.int p1), .val (.int p2)] [(.ref a0), (.int p2)])) rfl rfl (hb hby d5_126)
              obtain ⟨fs, hr, hrun, hended, hW, hsame⟩ := X104.leave (v := some (.int (p2 - (0 : Int32)))) (fun h => by rw [Bd.returns] at h; cases h)
              refine ⟨_, _, pre103 _ ?_, hrun, hended, _, _, rfl, ?_, ⟨_, rfl⟩, hW, hsame.mono (by decide) (by decide)⟩
              · show Steps p.tables e below (T100.setTop (mkF m 77 #[.val (.ref a0), .val (.int p1), .val (.int p2)] [(.int p2), (.int (we.getD 0 (0 : Int32)))])) _
                refine XS.icmpYes X100.here hx rfl (pc0 := 77) (pc' := 124) rfl (hb hby d5_77) rfl (tlt hc77).2.2.1 (by decide) (by decide) ?_
                refine XS.iloadN X100.here hx rfl (hb hby d5_124) rfl ?_
                refine XS.aloadN X100.here hx rfl (hb hby d5_125) rfl rfl ?_
                refine st104 _ ?_
                refine XS.isub X104.here hx rfl (hb hby d5_129) rfl ?_
                show Steps p.tables e below (T104.setTop (mkF m 130 #[.val (.ref a0), .val (.int p1), .val (.int p2)] [(.int (p2 - (0 : Int32)))])) _
                exact retI X104 hx Bd.returns (hb hby d5_130) hr
              · show Q5_0_1 Z a0 p1 p2 la ea ca kl ke kc wl we wc al pc h0 n0 _ T104.heap _
                rw [e104]
                unfold Q5_0_1
                have f105 := (f63.wr W65)
                have f106 := ((F_a0_changes.other W61 (Or.inr (slot_ne (Or.inl (hw _ (own_w 22 rfl))) (Or.inl (hw _ (own_w 29 rfl))) (by decide) (t := (.array .int)) (t' := .int) (by decide) (by decide)))).other W65 (Or.inr (slot_ne (Or.inl (hw _ (own_w 22 rfl))) (Or.inl (hw _ (own_w 31 rfl))) (by decide) (t := (.array .int)) (t' := .int) (by decide) (by decide))))
                have f107 := (Fw61.other W65 (Or.inr (slot_ne (Or.inl (hw _ (own_w 29 rfl))) (Or.inl (hw _ (own_w 31 rfl))) (by decide) (t := .int) (t' := .int) (by decide) (by decide))))
                refine ⟨?_, N65, kp66, f105, ?_, ?_, ?_, ?_, ?_, ?_, ?_⟩
                · simp only [own_f5_0_1, if_neg hc2, if_neg hc7, if_neg hc17, if_neg hc51, if_pos hc64, if_pos hc77]
                · exact f71
                · exact f98
                · exact f106
                · rw [show (own_p5_0_1_first p1 p2 wl we) = (0 : Int32) from (by simp only [own_p5_0_1_first, if_neg hc2, if_neg hc7, if_neg hc17, if_neg hc51, if_pos hc64, if_pos hc77])]; exact f67
                · exact f69
                · rw [show (own_p5_0_1_askedLine p1 p2 al) = p1 from (by simp only [own_p5_0_1_askedLine, if_neg hc2, if_neg hc7, if_neg hc17, if_neg hc51, if_pos hc64, if_pos hc77])]; exact f107
                · rw [show (own_p5_0_1_passedChange p1 p2 wl we wc al pc) = (0 : Int32) from (by simp only [own_p5_0_1_passedChange, if_neg hc2, if_neg hc7, if_neg hc17, if_neg hc51, if_pos hc64, if_pos hc77])]; exact Fw65
            · obtain ⟨T108, X108, e108, st108⟩ := getF X100 hx hZ hown (host := "") (Or.inl (hw _ (own_w 17 rfl))) Via.refl e100 f71 (g := (mkF m 81 #[.val (.ref a0), .val (.int p1), .val (.int p2)] [(.ref a0)])) rfl rfl (hb hby d5_81)
              obtain ⟨T109, X109, e109, st109⟩ := getF X108 hx hZ hown (host := "") (Or.inl (hw _ (own_w 32 rfl))) Via.refl e108 f67 (g := (mkF m 85 #[.val (.ref a0), .val (.int p1), .val (.int p2)] [(.ref a0), (.ref la)])) rfl rfl (hb hby d5_85)
              obtain ⟨cl110, Ar110, hin110, hat110⟩ := own_AI.at f74 (j := (0 : Int32)) ⟨by decide, by decide⟩
              have hc90 : ((wl.getD 0 (0 : Int32)) = p1) := hc64
              obtain ⟨T111, X111, e111, st111⟩ := getF X109 hx hZ hown (host := "") (Or.inl (hw _ (own_w 30 rfl))) Via.refl e109 Fw65 (g := (mkF m 95 #[.val (.ref a0), .val (.int p1), .val (.int p2)] [(.ref a0), (.ref a0)])) rfl rfl (hb hby d5_95)
              have f112 := ((F_a0_changes.other W61 (Or.inr (slot_ne (Or.inl (hw _ (own_w 22 rfl))) (Or.inl (hw _ (own_w 29 rfl))) (by decide) (t := (.array .int)) (t' := .int) (by decide) (by decide)))).other W65 (Or.inr (slot_ne (Or.inl (hw _ (own_w 22 rfl))) (Or.inl (hw _ (own_w 31 rfl))) (by decide) (t := (.array .int)) (t' := .int) (by decide) (by decide))))
              obtain ⟨T113, X113, e113, st113⟩ := getF X111 hx hZ hown (host := "") (Or.inl (hw _ (own_w 21 rfl))) Via.refl e111 f112 (g := (mkF m 99 #[.val (.ref a0), .val (.int p1), .val (.int p2)] [(.ref a0), (.int (0 : Int32)), (.ref a0)])) rfl rfl (hb hby d5_99)
              obtain ⟨T114, X114, e114, st114⟩ := getF X113 hx hZ hown (host := "") (Or.inl (hw _ (own_w 32 rfl))) Via.refl e113 f67 (g := (mkF m 103 #[.val (.ref a0), .val (.int p1), .val (.int p2)] [(.ref a0), (.ref ca), (.int (0 : Int32)), (.ref a0)])) rfl rfl (hb hby d5_103)
              have f115 := ((V_ca.other W61 (Ne.symm ne_a0_ca)).other W65 (Ne.symm ne_a0_ca))
              obtain ⟨cl116, Ar116, hin116, hat116⟩ := own_AI.at f115 (j := (0 : Int32)) ⟨by decide, by decide⟩
              have f117 := (f63.wr W65)
              obtain ⟨T118, h118, X118, e118, W118, st118⟩ := putF X114 hx hZ hown (host := "") (Or.inl (hw _ (own_w 30 rfl))) Via.refl e114 Fw65 f117 (Or.inl (hw _ (own_w 31 rfl))) (hw _ (own_w 8 rfl)) (ty := .int) (by decide) rfl rfl (g := (mkF m 108 #[.val (.ref a0), .val (.int p1), .val (.int p2)] [(.int ((0 : Int32) + (wc.getD 0 (0 : Int32)))), (.ref a0)])) rfl rfl (hb hby d5_108)
              have Fw118 := Fw65.same W118
              have N118 := Fr.snoc X118 N65 g_a0
              have kp119 : Keep h0 h118 [a0] := kp66.wr W118 (Or.inl (own_w 0 rfl))
              have f120 := (f67.other W118 (Or.inr (slot_ne (Or.inl (hw _ (own_w 33 rfl))) (Or.inl (hw _ (own_w 31 rfl))) (by decide) (t := .int) (t' := .int) (by decide) (by decide))))
              obtain ⟨T121, X121, e121, st121⟩ := getF X118 hx hZ hown (host := "") (Or.inl (hw _ (own_w 32 rfl))) Via.refl e118 f120 (g := (mkF m 113 #[.val (.ref a0), .val (.int p1), .val (.int p2)] [(.ref a0), (.ref a0)])) rfl rfl (hb hby d5_113)
              have f122 := (f117.wr W118)
              obtain ⟨T123, h123, X123, e123, W123, st123⟩ := putF X121 hx hZ hown (host := "") (Or.inl (hw _ (own_w 32 rfl))) Via.refl e121 f120 f122 (Or.inl (hw _ (own_w 33 rfl))) (hw _ (own_w 8 rfl)) (ty := .int) (by decide) rfl rfl (g := (mkF m 118 #[.val (.ref a0), .val (.int p1), .val (.int p2)] [(.int (1 : Int32)), (.ref a0)])) rfl rfl (hb hby d5_118)
              have Fw123 := f120.same W123
              have N123 := Fr.snoc X123 N118 g_a0
              have kp124 : Keep h0 h123 [a0] := kp119.wr W123 (Or.inl (own_w 0 rfl))
              obtain ⟨T125, X125, e125, st125⟩ := getF X123 hx hZ hown (host := "") (Or.inl (hw _ (own_w 32 rfl))) Via.refl e123 Fw123 (g := (mkF m 31 #[.val (.ref a0), .val (.int p1), .val (.int p2)] [(.ref a0)])) rfl rfl (hb hby d5_31)
              have f126 := ((f69.other W118 (Or.inr (slot_ne (Or.inl (hw _ (own_w 35 rfl))) (Or.inl (hw _ (own_w 31 rfl))) (by decide) (t := .int) (t' := .int) (by decide) (by decide)))).other W123 (Or.inr (slot_ne (Or.inl (hw _ (own_w 35 rfl))) (Or.inl (hw _ (own_w 33 rfl))) (by decide) (t := .int) (t' := .int) (by decide) (by decide))))
              obtain ⟨T127, X127, e127, st127⟩ := getF X125 hx hZ hown (host := "") (Or.inl (hw _ (own_w 34 rfl))) Via.refl e125 f126 (g := (mkF m 35 #[.val (.ref a0), .val (.int p1), .val (.int p2)] [(.ref a0), (.int (1 : Int32))])) rfl rfl (hb hby d5_35)
              have f128 := (Fw118.other W123 (Or.inr (slot_ne (Or.inl (hw _ (own_w 31 rfl))) (Or.inl (hw _ (own_w 33 rfl))) (by decide) (t := .int) (t' := .int) (by decide) (by decide))))
              obtain ⟨T129, X129, e129, st129⟩ := getF X127 hx hZ hown (host := "") (Or.inl (hw _ (own_w 30 rfl))) Via.refl e127 f128 (g := (mkF m 126 #[.val (.ref a0), .val (.int p1), .val (.int p2)] [(.ref a0), (.int p2)])) rfl rfl (hb hby d5_126)
              obtain ⟨fs, hr, hrun, hended, hW, hsame⟩ := X129.leave (v := some (.int (p2 - ((0 : Int32) + (wc.getD 0 (0 : Int32)))))) (fun h => by rw [Bd.returns] at h; cases h)
              refine ⟨_, _, pre103 _ ?_, hrun, hended, _, _, rfl, ?_, ⟨_, rfl⟩, hW, hsame.mono (by decide) (by decide)⟩
              · show Steps p.tables e below (T100.setTop (mkF m 77 #[.val (.ref a0), .val (.int p1), .val (.int p2)] [(.int p2), (.int (we.getD 0 (0 : Int32)))])) _
                refine XS.icmpNo X100.here hx rfl (hb hby d5_77) rfl (flt hc77).2.2.1 ?_
                refine XS.aloadN X100.here hx rfl (hb hby d5_80) rfl rfl ?_
                refine st108 _ ?_
                refine XS.aloadN X108.here hx rfl (hb hby d5_84) rfl rfl ?_
                refine st109 _ ?_
                show Steps p.tables e below (T109.setTop (mkF m 88 #[.val (.ref a0), .val (.int p1), .val (.int p2)] [(.int (0 : Int32)), (.ref la)])) _
                refine X109.iaload hx (j := (0 : Int32)) (v := (.int (wl.getD 0 (0 : Int32)))) (by rw [e109]; exact Ar110.1) (State.isArrayOf_alike hZ.alike Ar110.2.1) Ar110.2.2 hin110 hat110 (g := (mkF m 88 #[.val (.ref a0), .val (.int p1), .val (.int p2)] [(.int (0 : Int32)), (.ref la)])) rfl rfl (hb hby d5_88) _ ?_
                refine XS.iloadN X109.here hx rfl (hb hby d5_89) rfl ?_
                refine XS.icmpNo X109.here hx rfl (hb hby d5_90) rfl (teq hc90).2 ?_
                refine XS.aloadN X109.here hx rfl (hb hby d5_93) rfl rfl ?_
                refine XS.dup X109.here hx rfl (hb hby d5_94) rfl rfl ?_
                show Steps p.tables e below (T109.setTop (mkF m 95 #[.val (.ref a0), .val (.int p1), .val (.int p2)] [(.ref a0), (.ref a0)])) _
                refine st111 _ ?_
                refine XS.aloadN X111.here hx rfl (hb hby d5_98) rfl rfl ?_
                refine st113 _ ?_
                refine XS.aloadN X113.here hx rfl (hb hby d5_102) rfl rfl ?_
                refine st114 _ ?_
                show Steps p.tables e below (T114.setTop (mkF m 106 #[.val (.ref a0), .val (.int p1), .val (.int p2)] [(.int (0 : Int32)), (.ref ca), (.int (0 : Int32)), (.ref a0)])) _
                refine X114.iaload hx (j := (0 : Int32)) (v := (.int (wc.getD 0 (0 : Int32)))) (by rw [e114]; exact Ar116.1) (State.isArrayOf_alike hZ.alike Ar116.2.1) Ar116.2.2 hin116 hat116 (g := (mkF m 106 #[.val (.ref a0), .val (.int p1), .val (.int p2)] [(.int (0 : Int32)), (.ref ca), (.int (0 : Int32)), (.ref a0)])) rfl rfl (hb hby d5_106) _ ?_
                refine XS.iadd X114.here hx rfl (hb hby d5_107) rfl ?_
                refine st118 _ ?_
                refine XS.aloadN X118.here hx rfl (hb hby d5_111) rfl rfl ?_
                refine XS.dup X118.here hx rfl (hb hby d5_112) rfl rfl ?_
                show Steps p.tables e below (T118.setTop (mkF m 113 #[.val (.ref a0), .val (.int p1), .val (.int p2)] [(.ref a0), (.ref a0)])) _
                refine st121 _ ?_
                refine XS.iconst X121.here hx rfl (hb hby d5_116) ?_
                refine XS.iadd X121.here hx rfl (hb hby d5_117) rfl ?_
                refine st123 _ ?_
                refine XS.goto X123.here hx rfl (pc0 := 121) (pc' := 30) rfl (hb hby d5_121) (by decide) (by decide) ?_
                show Steps p.tables e below (T123.setTop (mkF m 30 #[.val (.ref a0), .val (.int p1), .val (.int p2)] [])) _
                refine XS.aloadN X123.here hx rfl (hb hby d5_30) rfl rfl ?_
                refine st125 _ ?_
                refine XS.aloadN X125.here hx rfl (hb hby d5_34) rfl rfl ?_
                refine st127 _ ?_
                refine XS.icmpYes X127.here hx rfl (pc0 := 38) (pc' := 124) rfl (hb hby d5_38) rfl (flt (by decide : ¬ ((1 : Int32) < (1 : Int32)))).2.1 (by decide) (by decide) ?_
                show Steps p.tables e below (T127.setTop (mkF m 124 #[.val (.ref a0), .val (.int p1), .val (.int p2)] [])) _
                refine XS.iloadN X127.here hx rfl (hb hby d5_124) rfl ?_
                refine XS.aloadN X127.here hx rfl (hb hby d5_125) rfl rfl ?_
                refine st129 _ ?_
                refine XS.isub X129.here hx rfl (hb hby d5_129) rfl ?_
                show Steps p.tables e below (T129.setTop (mkF m 130 #[.val (.ref a0), .val (.int p1), .val (.int p2)] [(.int (p2 - ((0 : Int32) + (wc.getD 0 (0 : Int32)))))])) _
                exact retI X129 hx Bd.returns (hb hby d5_130) hr
              · show Q5_0_1 Z a0 p1 p2 la ea ca kl ke kc wl we wc al pc h0 n0 _ T129.heap _
                rw [e129]
                unfold Q5_0_1
                have f130 := (f122.wr W123)
                have f131 := ((f71.other W118 (Or.inr (slot_ne (Or.inl (hw _ (own_w 18 rfl))) (Or.inl (hw _ (own_w 31 rfl))) (by decide) (t := (.array .int)) (t' := .int) (by decide) (by decide)))).other W123 (Or.inr (slot_ne (Or.inl (hw _ (own_w 18 rfl))) (Or.inl (hw _ (own_w 33 rfl))) (by decide) (t := (.array .int)) (t' := .int) (by decide) (by decide))))
                have f132 := ((f98.other W118 (Or.inr (slot_ne (Or.inl (hw _ (own_w 20 rfl))) (Or.inl (hw _ (own_w 31 rfl))) (by decide) (t := (.array .int)) (t' := .int) (by decide) (by decide)))).other W123 (Or.inr (slot_ne (Or.inl (hw _ (own_w 20 rfl))) (Or.inl (hw _ (own_w 33 rfl))) (by decide) (t := (.array .int)) (t' := .int) (by decide) (by decide))))
                have f133 := ((f112.other W118 (Or.inr (slot_ne (Or.inl (hw _ (own_w 22 rfl))) (Or.inl (hw _ (own_w 31 rfl))) (by decide) (t := (.array .int)) (t' := .int) (by decide) (by decide)))).other W123 (Or.inr (slot_ne (Or.inl (hw _ (own_w 22 rfl))) (Or.inl (hw _ (own_w 33 rfl))) (by decide) (t := (.array .int)) (t' := .int) (by decide) (by decide))))
                have f134 := (((Fw61.other W65 (Or.inr (slot_ne (Or.inl (hw _ (own_w 29 rfl))) (Or.inl (hw _ (own_w 31 rfl))) (by decide) (t := .int) (t' := .int) (by decide) (by decide)))).other W118 (Or.inr (slot_ne (Or.inl (hw _ (own_w 29 rfl))) (Or.inl (hw _ (own_w 31 rfl))) (by decide) (t := .int) (t' := .int) (by decide) (by decide)))).other W123 (Or.inr (slot_ne (Or.inl (hw _ (own_w 29 rfl))) (Or.inl (hw _ (own_w 33 rfl))) (by decide) (t := .int) (t' := .int) (by decide) (by decide))))
                refine ⟨?_, N123, kp124, f130, ?_, ?_, ?_, ?_, ?_, ?_, ?_⟩
                · simp only [own_f5_0_1, if_neg hc2, if_neg hc7, if_neg hc17, if_neg hc51, if_pos hc64, if_neg hc77]
                · exact f131
                · exact f132
                · exact f133
                · rw [show (own_p5_0_1_first p1 p2 wl we) = (1 : Int32) from (by simp only [own_p5_0_1_first, if_neg hc2, if_neg hc7, if_neg hc17, if_neg hc51, if_pos hc64, if_neg hc77])]; exact Fw123
                · exact f126
                · rw [show (own_p5_0_1_askedLine p1 p2 al) = p1 from (by simp only [own_p5_0_1_askedLine, if_neg hc2, if_neg hc7, if_neg hc17, if_neg hc51, if_pos hc64, if_neg hc77])]; exact f134
                · rw [show (own_p5_0_1_passedChange p1 p2 wl we wc al pc) = ((0 : Int32) + (wc.getD 0 (0 : Int32))) from (by simp only [own_p5_0_1_passedChange, if_neg hc2, if_neg hc7, if_neg hc17, if_neg hc51, if_pos hc64, if_neg hc77])]; exact f128
          · obtain ⟨T135, X135, e135, st135⟩ := getF X95 hx hZ hown (host := "") (Or.inl (hw _ (own_w 30 rfl))) Via.refl e95 Fw65 (g := (mkF m 126 #[.val (.ref a0), .val (.int p1), .val (.int p2)] [(.ref a0), (.int p2)])) rfl rfl (hb hby d5_126)
            obtain ⟨fs, hr, hrun, hended, hW, hsame⟩ := X135.leave (v := some (.int (p2 - (0 : Int32)))) (fun h => by rw [Bd.returns] at h; cases h)
            refine ⟨_, _, pre97 _ ?_, hrun, hended, _, _, rfl, ?_, ⟨_, rfl⟩, hW, hsame.mono (by decide) (by decide)⟩
            · show Steps p.tables e below (T95.setTop (mkF m 64 #[.val (.ref a0), .val (.int p1), .val (.int p2)] [(.int p1), (.int (wl.getD 0 (0 : Int32)))])) _
              refine XS.icmpYes X95.here hx rfl (pc0 := 64) (pc' := 124) rfl (hb hby d5_64) rfl (feq hc64).2 (by decide) (by decide) ?_
              refine XS.iloadN X95.here hx rfl (hb hby d5_124) rfl ?_
              refine XS.aloadN X95.here hx rfl (hb hby d5_125) rfl rfl ?_
              refine st135 _ ?_
              refine XS.isub X135.here hx rfl (hb hby d5_129) rfl ?_
              show Steps p.tables e below (T135.setTop (mkF m 130 #[.val (.ref a0), .val (.int p1), .val (.int p2)] [(.int (p2 - (0 : Int32)))])) _
              exact retI X135 hx Bd.returns (hb hby d5_130) hr
            · show Q5_0_1 Z a0 p1 p2 la ea ca kl ke kc wl we wc al pc h0 n0 _ T135.heap _
              rw [e135]
              unfold Q5_0_1
              have f136 := (f63.wr W65)
              have f137 := ((F_a0_ends.other W61 (Or.inr (slot_ne (Or.inl (hw _ (own_w 20 rfl))) (Or.inl (hw _ (own_w 29 rfl))) (by decide) (t := (.array .int)) (t' := .int) (by decide) (by decide)))).other W65 (Or.inr (slot_ne (Or.inl (hw _ (own_w 20 rfl))) (Or.inl (hw _ (own_w 31 rfl))) (by decide) (t := (.array .int)) (t' := .int) (by decide) (by decide))))
              have f138 := ((F_a0_changes.other W61 (Or.inr (slot_ne (Or.inl (hw _ (own_w 22 rfl))) (Or.inl (hw _ (own_w 29 rfl))) (by decide) (t := (.array .int)) (t' := .int) (by decide) (by decide)))).other W65 (Or.inr (slot_ne (Or.inl (hw _ (own_w 22 rfl))) (Or.inl (hw _ (own_w 31 rfl))) (by decide) (t := (.array .int)) (t' := .int) (by decide) (by decide))))
              have f139 := (Fw61.other W65 (Or.inr (slot_ne (Or.inl (hw _ (own_w 29 rfl))) (Or.inl (hw _ (own_w 31 rfl))) (by decide) (t := .int) (t' := .int) (by decide) (by decide))))
              refine ⟨?_, N65, kp66, f136, ?_, ?_, ?_, ?_, ?_, ?_, ?_⟩
              · simp only [own_f5_0_1, if_neg hc2, if_neg hc7, if_neg hc17, if_neg hc51, if_neg hc64]
              · exact f71
              · exact f137
              · exact f138
              · rw [show (own_p5_0_1_first p1 p2 wl we) = (0 : Int32) from (by simp only [own_p5_0_1_first, if_neg hc2, if_neg hc7, if_neg hc17, if_neg hc51, if_neg hc64])]; exact f67
              · exact f69
              · rw [show (own_p5_0_1_askedLine p1 p2 al) = p1 from (by simp only [own_p5_0_1_askedLine, if_neg hc2, if_neg hc7, if_neg hc17, if_neg hc51, if_neg hc64])]; exact f139
              · rw [show (own_p5_0_1_passedChange p1 p2 wl we wc al pc) = (0 : Int32) from (by simp only [own_p5_0_1_passedChange, if_neg hc2, if_neg hc7, if_neg hc17, if_neg hc51, if_neg hc64])]; exact Fw65
theorem ef_5_1_1 (m : MethodId) (a0 : Addr) (p1 : Int32) (p2 : Int32) : entryFrame m #[(.ref a0), (.int p1), (.int p2)] 3 = mkF m 0 #[.val (.ref a0), .val (.int p1), .val (.int p2)] [] := by first | (simp [entryFrame, mkF, argsToLocals, Value.category]; done) | rfl
def own_f5_1_1 (p1 : Int32) (p2 : Int32) (al : Int32) (pc : Int32) : Int32 := (if p1 < (1 : Int32) then p2 else (if p2 < (1 : Int32) then p2 else (if p1 = al then (p2 - pc) else (p2 - (0 : Int32)))))
def own_p5_1_1_askedLine (p1 : Int32) (p2 : Int32) (al : Int32) : Int32 := (if p1 < (1 : Int32) then al else (if p2 < (1 : Int32) then al else (if p1 = al then al else p1)))
def own_p5_1_1_passedChange (p1 : Int32) (p2 : Int32) (al : Int32) (pc : Int32) : Int32 := (if p1 < (1 : Int32) then pc else (if p2 < (1 : Int32) then pc else (if p1 = al then pc else (0 : Int32))))
def Q5_1_1 (Z : State) (a0 : Addr) (p1 : Int32) (p2 : Int32) (la : Addr) (ea : Addr) (ca : Addr) (kl : ClassId) (ke : ClassId) (kc : ClassId) (wl : List Int32) (we : List Int32) (wc : List Int32) (al : Int32) (pc : Int32) (h0 : Heap) (n0 : Nat) (v : Option Value) (h : Heap) (L : List Loc) : Prop := v = some (.int (own_f5_1_1 p1 p2 al pc)) ∧ Fr n0 L ∧ Keep h0 h [a0] ∧ Exa Z h a0 "com/example/trawl/trawl/load/ColumnShifts" ∧ Fld Z h a0 "com/example/trawl/trawl/load/ColumnShifts" "lines" "[I" (.ref la) ∧ Fld Z h a0 "com/example/trawl/trawl/load/ColumnShifts" "ends" "[I" (.ref ea) ∧ Fld Z h a0 "com/example/trawl/trawl/load/ColumnShifts" "changes" "[I" (.ref ca) ∧ Fld Z h a0 "com/example/trawl/trawl/load/ColumnShifts" "first" "I" (.int (1 : Int32)) ∧ Fld Z h a0 "com/example/trawl/trawl/load/ColumnShifts" "end" "I" (.int (1 : Int32)) ∧ Fld Z h a0 "com/example/trawl/trawl/load/ColumnShifts" "askedLine" "I" (.int (own_p5_1_1_askedLine p1 p2 al)) ∧ Fld Z h a0 "com/example/trawl/trawl/load/ColumnShifts" "passedChange" "I" (.int (own_p5_1_1_passedChange p1 p2 al pc))
set_option maxRecDepth 65536 in
set_option maxHeartbeats 40000000 in
theorem rm5_1_1 (l : Launch) (Z : State) (aw : Array Value) (hw : ∀ d ∈ tables_1, d.before aw Z = true) (wq : List Jvm.Cond) (a0 : Addr) (p1 : Int32) (p2 : Int32) (la : Addr) (ea : Addr) (ca : Addr) (kl : ClassId) (ke : ClassId) (kc : ClassId) (wl : List Int32) (we : List Int32) (wc : List Int32) (al : Int32) (pc : Int32) (h0 : Heap) (n0 : Nat) (Z0 : n0 ≤ h0.size) (E_a0 : Exa Z h0 a0 "com/example/trawl/trawl/load/ColumnShifts") (F_a0_lines : Fld Z h0 a0 "com/example/trawl/trawl/load/ColumnShifts" "lines" "[I" (.ref la)) (F_a0_ends : Fld Z h0 a0 "com/example/trawl/trawl/load/ColumnShifts" "ends" "[I" (.ref ea)) (F_a0_changes : Fld Z h0 a0 "com/example/trawl/trawl/load/ColumnShifts" "changes" "[I" (.ref ca)) (V_la : own_AI Z h0 la kl .int (4 : Int32) wl) (V_ea : own_AI Z h0 ea ke .int (4 : Int32) we) (V_ca : own_AI Z h0 ca kc .int (4 : Int32) wc) (ne_la_ea : la ≠ ea) (ne_la_ca : la ≠ ca) (ne_ea_ca : ea ≠ ca) (ne_a0_la : a0 ≠ la) (ne_a0_ea : a0 ≠ ea) (ne_a0_ca : a0 ≠ ca) (g_a0 : n0 ≤ a0) (F_a0_first : Fld Z h0 a0 "com/example/trawl/trawl/load/ColumnShifts" "first" "I" (.int (1 : Int32))) (F_a0_end : Fld Z h0 a0 "com/example/trawl/trawl/load/ColumnShifts" "end" "I" (.int (1 : Int32))) (F_a0_askedLine : Fld Z h0 a0 "com/example/trawl/trawl/load/ColumnShifts" "askedLine" "I" (.int al)) (F_a0_passedChange : Fld Z h0 a0 "com/example/trawl/trawl/load/ColumnShifts" "passedChange" "I" (.int pc)) :
    MetFree l (⟨"com/example/trawl/trawl/load/ColumnShifts", "columnInText", "(II)I"⟩ : MethodName) (head1 (Jvm.Cond.code (⟨"com/example/trawl/trawl/load/ColumnShifts", "columnInText", "(II)I"⟩ : MethodName) prog_28_method_3_code 3 (some .int) :: wq) ({ frames := 0, cells := 0, slots := 0, locals := 0 } : Room)) (fun a U => a = #[(.ref a0), (.int p1), (.int p2)] ∧ Z.Warmed39 U.vm ∧ U.heap = h0) (fun _ _ _ _ _ => True) (fun _ U o U' => ∃ v L, o = .returned v ∧ Q5_1_1 Z a0 p1 p2 la ea ca kl ke kc wl we wc al pc h0 n0 v U'.heap L ∧ FrameEnd U o U' L ({ frames := 0, cells := 0, slots := 0, locals := 0 } : Room).cells ({ frames := 0, cells := 0, slots := 0, locals := 0 } : Room).slots) := by
  refine MetFree.of_bodySF (plainFor_of_name pn_0) hisR ?_
  intro p e s m args below meth c s₁ Bd hml0 hP hK
  obtain ⟨rfl, hZ, hh⟩ := hP
  have hx := Bd.exec
  have hby := Bd.bytes
  have hml : c.maxLocals = 3 := hml0
  have hown : s.vm.findClass "com/example/trawl/trawl/load/ColumnShifts" = some m.cls := findClass_of_methodNamed Bd.named
  have hnm := (name_of_methodNamed Bd.named Bd.method).1
  have X0 : Stand p l e ({ frames := 0, cells := 0, slots := 0, locals := 0 } : Room) s m #[(.ref a0), (.int p1), (.int p2)] below meth c s₁ [] 0 0 := Stand.of_body Bd
  have e0 : s₁.heap = h0 := by rw [← hh, Bd.state]; rfl
  have N0 := Fr.nil n0
  have pre0 : own_Pre p e below (s₁.setTop (entryFrame m #[(.ref a0), (.int p1), (.int p2)] 3)) (s₁.setTop (mkF m 0 #[.val (.ref a0), .val (.int p1), .val (.int p2)] [])) := fun t k => castTop (ef_5_1_1 m a0 p1 p2) k
  have pre1 : own_Pre p e below (s₁.setTop (entryFrame m #[(.ref a0), (.int p1), (.int p2)] 3)) (s₁.setTop (mkF m 2 #[.val (.ref a0), .val (.int p1), .val (.int p2)] [(.int (1 : Int32)), (.int p1)])) := fun t k => pre0 t (by
      show Steps p.tables e below (s₁.setTop (mkF m 0 #[.val (.ref a0), .val (.int p1), .val (.int p2)] [])) _
      refine XS.iloadN X0.here hx rfl (hb hby d5_0) rfl ?_
      refine XS.iconst X0.here hx rfl (hb hby d5_1) ?_
      exact k)
  by_cases hc2 : p1 < (1 : Int32)
  · obtain ⟨fs, hr, hrun, hended, hW, hsame⟩ := X0.leave (v := some (.int p2)) (fun h => by rw [Bd.returns] at h; cases h)
    refine ⟨_, _, pre1 _ ?_, hrun, hended, _, _, rfl, ?_, ⟨_, rfl⟩, hW, hsame.mono (by decide) (by decide)⟩
    · show Steps p.tables e below (s₁.setTop (mkF m 2 #[.val (.ref a0), .val (.int p1), .val (.int p2)] [(.int (1 : Int32)), (.int p1)])) _
      refine XS.icmpYes X0.here hx rfl (pc0 := 2) (pc' := 10) rfl (hb hby d5_2) rfl (tlt hc2).1 (by decide) (by decide) ?_
      refine XS.iloadN X0.here hx rfl (hb hby d5_10) rfl ?_
      show Steps p.tables e below (s₁.setTop (mkF m 11 #[.val (.ref a0), .val (.int p1), .val (.int p2)] [(.int p2)])) _
      exact retI X0 hx Bd.returns (hb hby d5_11) hr
    · show Q5_1_1 Z a0 p1 p2 la ea ca kl ke kc wl we wc al pc h0 n0 _ s₁.heap _
      rw [e0]
      unfold Q5_1_1
      refine ⟨?_, N0, (Keep.refl h0 [a0]), E_a0, ?_, ?_, ?_, ?_, ?_, ?_, ?_⟩
      · simp only [own_f5_1_1, if_pos hc2]
      · exact F_a0_lines
      · exact F_a0_ends
      · exact F_a0_changes
      · exact F_a0_first
      · exact F_a0_end
      · rw [show (own_p5_1_1_askedLine p1 p2 al) = al from (by simp only [own_p5_1_1_askedLine, if_pos hc2])]; exact F_a0_askedLine
      · rw [show (own_p5_1_1_passedChange p1 p2 al pc) = pc from (by simp only [own_p5_1_1_passedChange, if_pos hc2])]; exact F_a0_passedChange
  · have pre2 : own_Pre p e below (s₁.setTop (entryFrame m #[(.ref a0), (.int p1), (.int p2)] 3)) (s₁.setTop (mkF m 7 #[.val (.ref a0), .val (.int p1), .val (.int p2)] [(.int (1 : Int32)), (.int p2)])) := fun t k => pre1 t (by
        show Steps p.tables e below (s₁.setTop (mkF m 2 #[.val (.ref a0), .val (.int p1), .val (.int p2)] [(.int (1 : Int32)), (.int p1)])) _
        refine XS.icmpNo X0.here hx rfl (hb hby d5_2) rfl (flt hc2).1 ?_
        refine XS.iloadN X0.here hx rfl (hb hby d5_5) rfl ?_
        refine XS.iconst X0.here hx rfl (hb hby d5_6) ?_
        exact k)
    by_cases hc7 : p2 < (1 : Int32)
    · obtain ⟨fs, hr, hrun, hended, hW, hsame⟩ := X0.leave (v := some (.int p2)) (fun h => by rw [Bd.returns] at h; cases h)
      refine ⟨_, _, pre2 _ ?_, hrun, hended, _, _, rfl, ?_, ⟨_, rfl⟩, hW, hsame.mono (by decide) (by decide)⟩
      · show Steps p.tables e below (s₁.setTop (mkF m 7 #[.val (.ref a0), .val (.int p1), .val (.int p2)] [(.int (1 : Int32)), (.int p2)])) _
        refine XS.icmpNo X0.here hx rfl (hb hby d5_7) rfl (tlt hc7).2.1 ?_
        refine XS.iloadN X0.here hx rfl (hb hby d5_10) rfl ?_
        show Steps p.tables e below (s₁.setTop (mkF m 11 #[.val (.ref a0), .val (.int p1), .val (.int p2)] [(.int p2)])) _
        exact retI X0 hx Bd.returns (hb hby d5_11) hr
      · show Q5_1_1 Z a0 p1 p2 la ea ca kl ke kc wl we wc al pc h0 n0 _ s₁.heap _
        rw [e0]
        unfold Q5_1_1
        refine ⟨?_, N0, (Keep.refl h0 [a0]), E_a0, ?_, ?_, ?_, ?_, ?_, ?_, ?_⟩
        · simp only [own_f5_1_1, if_neg hc2, if_pos hc7]
        · exact F_a0_lines
        · exact F_a0_ends
        · exact F_a0_changes
        · exact F_a0_first
        · exact F_a0_end
        · rw [show (own_p5_1_1_askedLine p1 p2 al) = al from (by simp only [own_p5_1_1_askedLine, if_neg hc2, if_pos hc7])]; exact F_a0_askedLine
        · rw [show (own_p5_1_1_passedChange p1 p2 al pc) = pc from (by simp only [own_p5_1_1_passedChange, if_neg hc2, if_pos hc7])]; exact F_a0_passedChange
    · obtain ⟨T3, X3, e3, st3⟩ := getF X0 hx hZ hown (host := "") (Or.inl (hw _ (own_w 28 rfl))) Via.refl e0 F_a0_askedLine (g := (mkF m 14 #[.val (.ref a0), .val (.int p1), .val (.int p2)] [(.ref a0), (.int p1)])) rfl rfl (hb hby d5_14)
      have pre4 : own_Pre p e below (s₁.setTop (entryFrame m #[(.ref a0), (.int p1), (.int p2)] 3)) (T3.setTop (mkF m 17 #[.val (.ref a0), .val (.int p1), .val (.int p2)] [(.int al), (.int p1)])) := fun t k => pre2 t (by
          show Steps p.tables e below (s₁.setTop (mkF m 7 #[.val (.ref a0), .val (.int p1), .val (.int p2)] [(.int (1 : Int32)), (.int p2)])) _
          refine XS.icmpYes X0.here hx rfl (pc0 := 7) (pc' := 12) rfl (hb hby d5_7) rfl (flt hc7).2.1 (by decide) (by decide) ?_
          refine XS.iloadN X0.here hx rfl (hb hby d5_12) rfl ?_
          refine XS.aloadN X0.here hx rfl (hb hby d5_13) rfl rfl ?_
          refine st3 _ ?_
          exact k)
      by_cases hc17 : p1 = al
      · obtain ⟨T5, X5, e5, st5⟩ := getF X3 hx hZ hown (host := "") (Or.inl (hw _ (own_w 32 rfl))) Via.refl e3 F_a0_first (g := (mkF m 31 #[.val (.ref a0), .val (.int p1), .val (.int p2)] [(.ref a0)])) rfl rfl (hb hby d5_31)
        obtain ⟨T6, X6, e6, st6⟩ := getF X5 hx hZ hown (host := "") (Or.inl (hw _ (own_w 34 rfl))) Via.refl e5 F_a0_end (g := (mkF m 35 #[.val (.ref a0), .val (.int p1), .val (.int p2)] [(.ref a0), (.int (1 : Int32))])) rfl rfl (hb hby d5_35)
        obtain ⟨T7, X7, e7, st7⟩ := getF X6 hx hZ hown (host := "") (Or.inl (hw _ (own_w 30 rfl))) Via.refl e6 F_a0_passedChange (g := (mkF m 126 #[.val (.ref a0), .val (.int p1), .val (.int p2)] [(.ref a0), (.int p2)])) rfl rfl (hb hby d5_126)
        obtain ⟨fs, hr, hrun, hended, hW, hsame⟩ := X7.leave (v := some (.int (p2 - pc))) (fun h => by rw [Bd.returns] at h; cases h)
        refine ⟨_, _, pre4 _ ?_, hrun, hended, _, _, rfl, ?_, ⟨_, rfl⟩, hW, hsame.mono (by decide) (by decide)⟩
        · show Steps p.tables e below (T3.setTop (mkF m 17 #[.val (.ref a0), .val (.int p1), .val (.int p2)] [(.int al), (.int p1)])) _
          refine XS.icmpYes X3.here hx rfl (pc0 := 17) (pc' := 30) rfl (hb hby d5_17) rfl (teq hc17).1 (by decide) (by decide) ?_
          refine XS.aloadN X3.here hx rfl (hb hby d5_30) rfl rfl ?_
          refine st5 _ ?_
          refine XS.aloadN X5.here hx rfl (hb hby d5_34) rfl rfl ?_
          refine st6 _ ?_
          show Steps p.tables e below (T6.setTop (mkF m 38 #[.val (.ref a0), .val (.int p1), .val (.int p2)] [(.int (1 : Int32)), (.int (1 : Int32))])) _
          refine XS.icmpYes X6.here hx rfl (pc0 := 38) (pc' := 124) rfl (hb hby d5_38) rfl (flt (by decide : ¬ ((1 : Int32) < (1 : Int32)))).2.1 (by decide) (by decide) ?_
          refine XS.iloadN X6.here hx rfl (hb hby d5_124) rfl ?_
          refine XS.aloadN X6.here hx rfl (hb hby d5_125) rfl rfl ?_
          refine st7 _ ?_
          refine XS.isub X7.here hx rfl (hb hby d5_129) rfl ?_
          show Steps p.tables e below (T7.setTop (mkF m 130 #[.val (.ref a0), .val (.int p1), .val (.int p2)] [(.int (p2 - pc))])) _
          exact retI X7 hx Bd.returns (hb hby d5_130) hr
        · show Q5_1_1 Z a0 p1 p2 la ea ca kl ke kc wl we wc al pc h0 n0 _ T7.heap _
          rw [e7]
          unfold Q5_1_1
          refine ⟨?_, N0, (Keep.refl h0 [a0]), E_a0, ?_, ?_, ?_, ?_, ?_, ?_, ?_⟩
          · simp only [own_f5_1_1, if_neg hc2, if_neg hc7, if_pos hc17]
          · exact F_a0_lines
          · exact F_a0_ends
          · exact F_a0_changes
          · exact F_a0_first
          · exact F_a0_end
          · rw [show (own_p5_1_1_askedLine p1 p2 al) = al from (by simp only [own_p5_1_1_askedLine, if_neg hc2, if_neg hc7, if_pos hc17])]; exact F_a0_askedLine
          · rw [show (own_p5_1_1_passedChange p1 p2 al pc) = pc from (by simp only [own_p5_1_1_passedChange, if_neg hc2, if_neg hc7, if_pos hc17])]; exact F_a0_passedChange
      · obtain ⟨T8, h8, X8, e8, W8, st8⟩ := putF X3 hx hZ hown (host := "") (Or.inl (hw _ (own_w 28 rfl))) Via.refl e3 F_a0_askedLine E_a0 (Or.inl (hw _ (own_w 29 rfl))) (hw _ (own_w 8 rfl)) (ty := .int) (by decide) rfl rfl (g := (mkF m 22 #[.val (.ref a0), .val (.int p1), .val (.int p2)] [(.int p1), (.ref a0)])) rfl rfl (hb hby d5_22)
        have Fw8 := F_a0_askedLine.same W8
        have N8 := Fr.snoc X8 N0 g_a0
        have kp9 : Keep h0 h8 [a0] := (Keep.refl h0 [a0]).wr W8 (Or.inl (own_w 0 rfl))
        have f10 := (E_a0.wr W8)
        have f11 := (F_a0_passedChange.other W8 (Or.inr (slot_ne (Or.inl (hw _ (own_w 31 rfl))) (Or.inl (hw _ (own_w 29 rfl))) (by decide) (t := .int) (t' := .int) (by decide) (by decide))))
        obtain ⟨T12, h12, X12, e12, W12, st12⟩ := putF X8 hx hZ hown (host := "") (Or.inl (hw _ (own_w 30 rfl))) Via.refl e8 f11 f10 (Or.inl (hw _ (own_w 31 rfl))) (hw _ (own_w 8 rfl)) (ty := .int) (by decide) rfl rfl (g := (mkF m 27 #[.val (.ref a0), .val (.int p1), .val (.int p2)] [(.int (0 : Int32)), (.ref a0)])) rfl rfl (hb hby d5_27)
        have Fw12 := f11.same W12
        have N12 := Fr.snoc X12 N8 g_a0
        have kp13 : Keep h0 h12 [a0] := kp9.wr W12 (Or.inl (own_w 0 rfl))
        have f14 := ((F_a0_first.other W8 (Or.inr (slot_ne (Or.inl (hw _ (own_w 33 rfl))) (Or.inl (hw _ (own_w 29 rfl))) (by decide) (t := .int) (t' := .int) (by decide) (by decide)))).other W12 (Or.inr (slot_ne (Or.inl (hw _ (own_w 33 rfl))) (Or.inl (hw _ (own_w 31 rfl))) (by decide) (t := .int) (t' := .int) (by decide) (by decide))))
        obtain ⟨T15, X15, e15, st15⟩ := getF X12 hx hZ hown (host := "") (Or.inl (hw _ (own_w 32 rfl))) Via.refl e12 f14 (g := (mkF m 31 #[.val (.ref a0), .val (.int p1), .val (.int p2)] [(.ref a0)])) rfl rfl (hb hby d5_31)
        have f16 := ((F_a0_end.other W8 (Or.inr (slot_ne (Or.inl (hw _ (own_w 35 rfl))) (Or.inl (hw _ (own_w 29 rfl))) (by decide) (t := .int) (t' := .int) (by decide) (by decide)))).other W12 (Or.inr (slot_ne (Or.inl (hw _ (own_w 35 rfl))) (Or.inl (hw _ (own_w 31 rfl))) (by decide) (t := .int) (t' := .int) (by decide) (by decide))))
        obtain ⟨T17, X17, e17, st17⟩ := getF X15 hx hZ hown (host := "") (Or.inl (hw _ (own_w 34 rfl))) Via.refl e15 f16 (g := (mkF m 35 #[.val (.ref a0), .val (.int p1), .val (.int p2)] [(.ref a0), (.int (1 : Int32))])) rfl rfl (hb hby d5_35)
        obtain ⟨T18, X18, e18, st18⟩ := getF X17 hx hZ hown (host := "") (Or.inl (hw _ (own_w 30 rfl))) Via.refl e17 Fw12 (g := (mkF m 126 #[.val (.ref a0), .val (.int p1), .val (.int p2)] [(.ref a0), (.int p2)])) rfl rfl (hb hby d5_126)
        obtain ⟨fs, hr, hrun, hended, hW, hsame⟩ := X18.leave (v := some (.int (p2 - (0 : Int32)))) (fun h => by rw [Bd.returns] at h; cases h)
        refine ⟨_, _, pre4 _ ?_, hrun, hended, _, _, rfl, ?_, ⟨_, rfl⟩, hW, hsame.mono (by decide) (by decide)⟩
        · show Steps p.tables e below (T3.setTop (mkF m 17 #[.val (.ref a0), .val (.int p1), .val (.int p2)] [(.int al), (.int p1)])) _
          refine XS.icmpNo X3.here hx rfl (hb hby d5_17) rfl (feq hc17).1 ?_
          refine XS.aloadN X3.here hx rfl (hb hby d5_20) rfl rfl ?_
          refine XS.iloadN X3.here hx rfl (hb hby d5_21) rfl ?_
          refine st8 _ ?_
          refine XS.aloadN X8.here hx rfl (hb hby d5_25) rfl rfl ?_
          show Steps p.tables e below (T8.setTop (mkF m 26 #[.val (.ref a0), .val (.int p1), .val (.int p2)] [(.ref a0)])) _
          refine XS.iconst X8.here hx rfl (hb hby d5_26) ?_
          refine st12 _ ?_
          refine XS.aloadN X12.here hx rfl (hb hby d5_30) rfl rfl ?_
          refine st15 _ ?_
          refine XS.aloadN X15.here hx rfl (hb hby d5_34) rfl rfl ?_
          show Steps p.tables e below (T15.setTop (mkF m 35 #[.val (.ref a0), .val (.int p1), .val (.int p2)] [(.ref a0), (.int (1 : Int32))])) _
          refine st17 _ ?_
          refine XS.icmpYes X17.here hx rfl (pc0 := 38) (pc' := 124) rfl (hb hby d5_38) rfl (flt (by decide : ¬ ((1 : Int32) < (1 : Int32)))).2.1 (by decide) (by decide) ?_
          refine XS.iloadN X17.here hx rfl (hb hby d5_124) rfl ?_
          refine XS.aloadN X17.here hx rfl (hb hby d5_125) rfl rfl ?_
          refine st18 _ ?_
          show Steps p.tables e below (T18.setTop (mkF m 129 #[.val (.ref a0), .val (.int p1), .val (.int p2)] [(.int (0 : Int32)), (.int p2)])) _
          refine XS.isub X18.here hx rfl (hb hby d5_129) rfl ?_
          show Steps p.tables e below (T18.setTop (mkF m 130 #[.val (.ref a0), .val (.int p1), .val (.int p2)] [(.int (p2 - (0 : Int32)))])) _
          exact retI X18 hx Bd.returns (hb hby d5_130) hr
        · show Q5_1_1 Z a0 p1 p2 la ea ca kl ke kc wl we wc al pc h0 n0 _ T18.heap _
          rw [e18]
          unfold Q5_1_1
          have f19 := (f10.wr W12)
          have f20 := ((F_a0_lines.other W8 (Or.inr (slot_ne (Or.inl (hw _ (own_w 18 rfl))) (Or.inl (hw _ (own_w 29 rfl))) (by decide) (t := (.array .int)) (t' := .int) (by decide) (by decide)))).other W12 (Or.inr (slot_ne (Or.inl (hw _ (own_w 18 rfl))) (Or.inl (hw _ (own_w 31 rfl))) (by decide) (t := (.array .int)) (t' := .int) (by decide) (by decide))))
          have f21 := ((F_a0_ends.other W8 (Or.inr (slot_ne (Or.inl (hw _ (own_w 20 rfl))) (Or.inl (hw _ (own_w 29 rfl))) (by decide) (t := (.array .int)) (t' := .int) (by decide) (by decide)))).other W12 (Or.inr (slot_ne (Or.inl (hw _ (own_w 20 rfl))) (Or.inl (hw _ (own_w 31 rfl))) (by decide) (t := (.array .int)) (t' := .int) (by decide) (by decide))))
          have f22 := ((F_a0_changes.other W8 (Or.inr (slot_ne (Or.inl (hw _ (own_w 22 rfl))) (Or.inl (hw _ (own_w 29 rfl))) (by decide) (t := (.array .int)) (t' := .int) (by decide) (by decide)))).other W12 (Or.inr (slot_ne (Or.inl (hw _ (own_w 22 rfl))) (Or.inl (hw _ (own_w 31 rfl))) (by decide) (t := (.array .int)) (t' := .int) (by decide) (by decide))))
          have f23 := (Fw8.other W12 (Or.inr (slot_ne (Or.inl (hw _ (own_w 29 rfl))) (Or.inl (hw _ (own_w 31 rfl))) (by decide) (t := .int) (t' := .int) (by decide) (by decide))))
          refine ⟨?_, N12, kp13, f19, ?_, ?_, ?_, ?_, ?_, ?_, ?_⟩
          · simp only [own_f5_1_1, if_neg hc2, if_neg hc7, if_neg hc17]
          · exact f20
          · exact f21
          · exact f22
          · exact f14
          · exact f16
          · rw [show (own_p5_1_1_askedLine p1 p2 al) = p1 from (by simp only [own_p5_1_1_askedLine, if_neg hc2, if_neg hc7, if_neg hc17])]; exact f23
          · rw [show (own_p5_1_1_passedChange p1 p2 al pc) = (0 : Int32) from (by simp only [own_p5_1_1_passedChange, if_neg hc2, if_neg hc7, if_neg hc17])]; exact Fw12
theorem ef_5_0_2 (m : MethodId) (a0 : Addr) (p1 : Int32) (p2 : Int32) : entryFrame m #[(.ref a0), (.int p1), (.int p2)] 3 = mkF m 0 #[.val (.ref a0), .val (.int p1), .val (.int p2)] [] := by first | (simp [entryFrame, mkF, argsToLocals, Value.category]; done) | rfl
def own_f5_0_2 (p1 : Int32) (p2 : Int32) (wl : List Int32) (we : List Int32) (wc : List Int32) (al : Int32) (pc : Int32) : Int32 := (if p1 < (1 : Int32) then p2 else (if p2 < (1 : Int32) then p2 else (if p1 = al then (if (wl.getD 0 (0 : Int32)) < p1 then (if (wl.getD 1 (0 : Int32)) < p1 then (p2 - pc) else (if (wl.getD 1 (0 : Int32)) = p1 then (if p2 < (we.getD 1 (0 : Int32)) then (p2 - pc) else (p2 - (pc + (wc.getD 1 (0 : Int32))))) else (p2 - pc))) else (if (wl.getD 0 (0 : Int32)) = p1 then (if p2 < (we.getD 0 (0 : Int32)) then (p2 - pc) else (if (wl.getD 1 (0 : Int32)) < p1 then (p2 - (pc + (wc.getD 0 (0 : Int32)))) else (if (wl.getD 1 (0 : Int32)) = p1 then (if p2 < (we.getD 1 (0 : Int32)) then (p2 - (pc + (wc.getD 0 (0 : Int32)))) else (p2 - ((pc + (wc.getD 0 (0 : Int32))) + (wc.getD 1 (0 : Int32))))) else (p2 - (pc + (wc.getD 0 (0 : Int32))))))) else (p2 - pc))) else (if (wl.getD 0 (0 : Int32)) < p1 then (if (wl.getD 1 (0 : Int32)) < p1 then (p2 - (0 : Int32)) else (if (wl.getD 1 (0 : Int32)) = p1 then (if p2 < (we.getD 1 (0 : Int32)) then (p2 - (0 : Int32)) else (p2 - ((0 : Int32) + (wc.getD 1 (0 : Int32))))) else (p2 - (0 : Int32)))) else (if (wl.getD 0 (0 : Int32)) = p1 then (if p2 < (we.getD 0 (0 : Int32)) then (p2 - (0 : Int32)) else (if (wl.getD 1 (0 : Int32)) < p1 then (p2 - ((0 : Int32) + (wc.getD 0 (0 : Int32)))) else (if (wl.getD 1 (0 : Int32)) = p1 then (if p2 < (we.getD 1 (0 : Int32)) then (p2 - ((0 : Int32) + (wc.getD 0 (0 : Int32)))) else (p2 - (((0 : Int32) + (wc.getD 0 (0 : Int32))) + (wc.getD 1 (0 : Int32))))) else (p2 - ((0 : Int32) + (wc.getD 0 (0 : Int32))))))) else (p2 - (0 : Int32)))))))
def own_p5_0_2_first (p1 : Int32) (p2 : Int32) (wl : List Int32) (we : List Int32) : Int32 := (if p1 < (1 : Int32) then (0 : Int32) else (if p2 < (1 : Int32) then (0 : Int32) else (if (wl.getD 0 (0 : Int32)) < p1 then (if (wl.getD 1 (0 : Int32)) < p1 then (2 : Int32) else (if (wl.getD 1 (0 : Int32)) = p1 then (if p2 < (we.getD 1 (0 : Int32)) then (1 : Int32) else (2 : Int32)) else (1 : Int32))) else (if (wl.getD 0 (0 : Int32)) = p1 then (if p2 < (we.getD 0 (0 : Int32)) then (0 : Int32) else (if (wl.getD 1 (0 : Int32)) < p1 then (2 : Int32) else (if (wl.getD 1 (0 : Int32)) = p1 then (if p2 < (we.getD 1 (0 : Int32)) then (1 : Int32) else (2 : Int32)) else (1 : Int32)))) else (0 : Int32)))))
def own_p5_0_2_askedLine (p1 : Int32) (p2 : Int32) (al : Int32) : Int32 := (if p1 < (1 : Int32) then al else (if p2 < (1 : Int32) then al else (if p1 = al then al else p1)))
def own_p5_0_2_passedChange (p1 : Int32) (p2 : Int32) (wl : List Int32) (we : List Int32) (wc : List Int32) (al : Int32) (pc : Int32) : Int32 := (if p1 < (1 : Int32) then pc else (if p2 < (1 : Int32) then pc else (if p1 = al then (if (wl.getD 0 (0 : Int32)) < p1 then (if (wl.getD 1 (0 : Int32)) < p1 then pc else (if (wl.getD 1 (0 : Int32)) = p1 then (if p2 < (we.getD 1 (0 : Int32)) then pc else (pc + (wc.getD 1 (0 : Int32)))) else pc)) else (if (wl.getD 0 (0 : Int32)) = p1 then (if p2 < (we.getD 0 (0 : Int32)) then pc else (if (wl.getD 1 (0 : Int32)) < p1 then (pc + (wc.getD 0 (0 : Int32))) else (if (wl.getD 1 (0 : Int32)) = p1 then (if p2 < (we.getD 1 (0 : Int32)) then (pc + (wc.getD 0 (0 : Int32))) else ((pc + (wc.getD 0 (0 : Int32))) + (wc.getD 1 (0 : Int32)))) else (pc + (wc.getD 0 (0 : Int32)))))) else pc)) else (if (wl.getD 0 (0 : Int32)) < p1 then (if (wl.getD 1 (0 : Int32)) < p1 then (0 : Int32) else (if (wl.getD 1 (0 : Int32)) = p1 then (if p2 < (we.getD 1 (0 : Int32)) then (0 : Int32) else ((0 : Int32) + (wc.getD 1 (0 : Int32)))) else (0 : Int32))) else (if (wl.getD 0 (0 : Int32)) = p1 then (if p2 < (we.getD 0 (0 : Int32)) then (0 : Int32) else (if (wl.getD 1 (0 : Int32)) < p1 then ((0 : Int32) + (wc.getD 0 (0 : Int32))) else (if (wl.getD 1 (0 : Int32)) = p1 then (if p2 < (we.getD 1 (0 : Int32)) then ((0 : Int32) + (wc.getD 0 (0 : Int32))) else (((0 : Int32) + (wc.getD 0 (0 : Int32))) + (wc.getD 1 (0 : Int32)))) else ((0 : Int32) + (wc.getD 0 (0 : Int32)))))) else (0 : Int32))))))
def Q5_0_2 (Z : State) (a0 : Addr) (p1 : Int32) (p2 : Int32) (la : Addr) (ea : Addr) (ca : Addr) (kl : ClassId) (ke : ClassId) (kc : ClassId) (wl : List Int32) (we : List Int32) (wc : List Int32) (al : Int32) (pc : Int32) (h0 : Heap) (n0 : Nat) (v : Option Value) (h : Heap) (L : List Loc) : Prop := v = some (.int (own_f5_0_2 p1 p2 wl we wc al pc)) ∧ Fr n0 L ∧ Keep h0 h [a0] ∧ Exa Z h a0 "com/example/trawl/trawl/load/ColumnShifts" ∧ Fld Z h a0 "com/example/trawl/trawl/load/ColumnShifts" "lines" "[I" (.ref la) ∧ Fld Z h a0 "com/example/trawl/trawl/load/ColumnShifts" "ends" "[I" (.ref ea) ∧ Fld Z h a0 "com/example/trawl/trawl/load/ColumnShifts" "changes" "[I" (.ref ca) ∧ Fld Z h a0 "com/example/trawl/trawl/load/ColumnShifts" "first" "I" (.int (own_p5_0_2_first p1 p2 wl we)) ∧ Fld Z h a0 "com/example/trawl/trawl/load/ColumnShifts" "end" "I" (.int (2 : Int32)) ∧ Fld Z h a0 "com/example/trawl/trawl/load/ColumnShifts" "askedLine" "I" (.int (own_p5_0_2_askedLine p1 p2 al)) ∧ Fld Z h a0 "com/example/trawl/trawl/load/ColumnShifts" "passedChange" "I" (.int (own_p5_0_2_passedChange p1 p2 wl we wc al pc))
set_option maxRecDepth 65536 in
set_option maxHeartbeats 40000000 in
theorem rm5_0_2 (l : Launch) (Z : State) (aw : Array Value) (hw : ∀ d ∈ tables_1, d.before aw Z = true) (wq : List Jvm.Cond) (a0 : Addr) (p1 : Int32) (p2 : Int32) (la : Addr) (ea : Addr) (ca : Addr) (kl : ClassId) (ke : ClassId) (kc : ClassId) (wl : List Int32) (we : List Int32) (wc : List Int32) (al : Int32) (pc : Int32) (h0 : Heap) (n0 : Nat) (Z0 : n0 ≤ h0.size) (E_a0 : Exa Z h0 a0 "com/example/trawl/trawl/load/ColumnShifts") (F_a0_lines : Fld Z h0 a0 "com/example/trawl/trawl/load/ColumnShifts" "lines" "[I" (.ref la)) (F_a0_ends : Fld Z h0 a0 "com/example/trawl/trawl/load/ColumnShifts" "ends" "[I" (.ref ea)) (F_a0_changes : Fld Z h0 a0 "com/example/trawl/trawl/load/ColumnShifts" "changes" "[I" (.ref ca)) (V_la : own_AI Z h0 la kl .int (4 : Int32) wl) (V_ea : own_AI Z h0 ea ke .int (4 : Int32) we) (V_ca : own_AI Z h0 ca kc .int (4 : Int32) wc) (ne_la_ea : la ≠ ea) (ne_la_ca : la ≠ ca) (ne_ea_ca : ea ≠ ca) (ne_a0_la : a0 ≠ la) (ne_a0_ea : a0 ≠ ea) (ne_a0_ca : a0 ≠ ca) (g_a0 : n0 ≤ a0) (F_a0_first : Fld Z h0 a0 "com/example/trawl/trawl/load/ColumnShifts" "first" "I" (.int (0 : Int32))) (F_a0_end : Fld Z h0 a0 "com/example/trawl/trawl/load/ColumnShifts" "end" "I" (.int (2 : Int32))) (F_a0_askedLine : Fld Z h0 a0 "com/example/trawl/trawl/load/ColumnShifts" "askedLine" "I" (.int al)) (F_a0_passedChange : Fld Z h0 a0 "com/example/trawl/trawl/load/ColumnShifts" "passedChange" "I" (.int pc)) :
    MetFree l (⟨"com/example/trawl/trawl/load/ColumnShifts", "columnInText", "(II)I"⟩ : MethodName) (head1 (Jvm.Cond.code (⟨"com/example/trawl/trawl/load/ColumnShifts", "columnInText", "(II)I"⟩ : MethodName) prog_28_method_3_code 3 (some .int) :: wq) ({ frames := 0, cells := 0, slots := 0, locals := 0 } : Room)) (fun a U => a = #[(.ref a0), (.int p1), (.int p2)] ∧ Z.Warmed39 U.vm ∧ U.heap = h0) (fun _ _ _ _ _ => True) (fun _ U o U' => ∃ v L, o = .returned v ∧ Q5_0_2 Z a0 p1 p2 la ea ca kl ke kc wl we wc al pc h0 n0 v U'.heap L ∧ FrameEnd U o U' L ({ frames := 0, cells := 0, slots := 0, locals := 0 } : Room).cells ({ frames := 0, cells := 0, slots := 0, locals := 0 } : Room).slots) := by
  refine MetFree.of_bodySF (plainFor_of_name pn_0) hisR ?_
  intro p e s m args below meth c s₁ Bd hml0 hP hK
  obtain ⟨rfl, hZ, hh⟩ := hP
  have hx := Bd.exec
  have hby := Bd.bytes
  have hml : c.maxLocals = 3 := hml0
  have hown : s.vm.findClass "com/example/trawl/trawl/load/ColumnShifts" = some m.cls := findClass_of_methodNamed Bd.named
  have hnm := (name_of_methodNamed Bd.named Bd.method).1
  have X0 : Stand p l e ({ frames := 0, cells := 0, slots := 0, locals := 0 } : Room) s m #[(.ref a0), (.int p1), (.int p2)] below meth c s₁ [] 0 0 := Stand.of_body Bd
  have e0 : s₁.heap = h0 := by rw [← hh, Bd.state]; rfl
  have N0 := Fr.nil n0
  have pre0 : own_Pre p e below (s₁.setTop (entryFrame m #[(.ref a0), (.int p1), (.int p2)] 3)) (s₁.setTop (mkF m 0 #[.val (.ref a0), .val (.int p1), .val (.int p2)] [])) := fun t k => castTop (ef_5_0_2 m a0 p1 p2) k
  have pre1 : own_Pre p e below (s₁.setTop (entryFrame m #[(.ref a0), (.int p1), (.int p2)] 3)) (s₁.setTop (mkF m 2 #[.val (.ref a0), .val (.int p1), .val (.int p2)] [(.int (1 : Int32)), (.int p1)])) := fun t k => pre0 t (by
      show Steps p.tables e below (s₁.setTop (mkF m 0 #[.val (.ref a0), .val (.int p1), .val (.int p2)] [])) _
      refine XS.iloadN X0.here hx rfl (hb hby d5_0) rfl ?_
      refine XS.iconst X0.here hx rfl (hb hby d5_1) ?_
      exact k)
  by_cases hc2 : p1 < (1 : Int32)
  · obtain ⟨fs, hr, hrun, hended, hW, hsame⟩ := X0.leave (v := some (.int p2)) (fun h => by rw [Bd.returns] at h; cases h)
    refine ⟨_, _, pre1 _ ?_, hrun, hended, _, _, rfl, ?_, ⟨_, rfl⟩, hW, hsame.mono (by decide) (by decide)⟩
    · show Steps p.tables e below (s₁.setTop (mkF m 2 #[.val (.ref a0), .val (.int p1), .val (.int p2)] [(.int (1 : Int32)), (.int p1)])) _
      refine XS.icmpYes X0.here hx rfl (pc0 := 2) (pc' := 10) rfl (hb hby d5_2) rfl (tlt hc2).1 (by decide) (by decide) ?_
      refine XS.iloadN X0.here hx rfl (hb hby d5_10) rfl ?_
      show Steps p.tables e below (s₁.setTop (mkF m 11 #[.val (.ref a0), .val (.int p1), .val (.int p2)] [(.int p2)])) _
      exact retI X0 hx Bd.returns (hb hby d5_11) hr
    · show Q5_0_2 Z a0 p1 p2 la ea ca kl ke kc wl we wc al pc h0 n0 _ s₁.heap _
      rw [e0]
      unfold Q5_0_2
      refine ⟨?_, N0, (Keep.refl h0 [a0]), E_a0, ?_, ?_, ?_, ?_, ?_, ?_, ?_⟩
      · simp only [own_f5_0_2, if_pos hc2]
      · exact F_a0_lines
      · exact F_a0_ends
      · exact F_a0_changes
      · rw [show (own_p5_0_2_first p1 p2 wl we) = (0 : Int32) from (by simp only [own_p5_0_2_first, if_pos hc2])]; exact F_a0_first
      · exact F_a0_end
      · rw [show (own_p5_0_2_askedLine p1 p2 al) = al from (by simp only [own_p5_0_2_askedLine, if_pos hc2])]; exact F_a0_askedLine
      · rw [show (own_p5_0_2_passedChange p1 p2 wl we wc al pc) = pc from (by simp only [own_p5_0_2_passedChange, if_pos hc2])]; exact F_a0_passedChange
  · have pre2 : own_Pre p e below (s₁.setTop (entryFrame m #[(.ref a0), (.int p1), (.int p2)] 3)) (s₁.setTop (mkF m 7 #[.val (.ref a0), .val (.int p1), .val (.int p2)] [(.int (1 : Int32)), (.int p2)])) := fun t k => pre1 t (by
        show Steps p.tables e below (s₁.setTop (mkF m 2 #[.val (.ref a0), .val (.int p1), .val (.int p2)] [(.int (1 : Int32)), (.int p1)])) _
        refine XS.icmpNo X0.here hx rfl (hb hby d5_2) rfl (flt hc2).1 ?_
        refine XS.iloadN X0.here hx rfl (hb hby d5_5) rfl ?_
        refine XS.iconst X0.here hx rfl (hb hby d5_6) ?_
        exact k)
    by_cases hc7 : p2 < (1 : Int32)
    · obtain ⟨fs, hr, hrun, hended, hW, hsame⟩ := X0.leave (v := some (.int p2)) (fun h => by rw [Bd.returns] at h; cases h)
      refine ⟨_, _, pre2 _ ?_, hrun, hended, _, _, rfl, ?_, ⟨_, rfl⟩, hW, hsame.mono (by decide) (by decide)⟩
      · show Steps p.tables e below (s₁.setTop (mkF m 7 #[.val (.ref a0), .val (.int p1), .val (.int p2)] [(.int (1 : Int32)), (.int p2)])) _
        refine XS.icmpNo X0.here hx rfl (hb hby d5_7) rfl (tlt hc7).2.1 ?_
        refine XS.iloadN X0.here hx rfl (hb hby d5_10) rfl ?_
        show Steps p.tables e below (s₁.setTop (mkF m 11 #[.val (.ref a0), .val (.int p1), .val (.int p2)] [(.int p2)])) _
        exact retI X0 hx Bd.returns (hb hby d5_11) hr
      · show Q5_0_2 Z a0 p1 p2 la ea ca kl ke kc wl we wc al pc h0 n0 _ s₁.heap _
        rw [e0]
        unfold Q5_0_2
        refine ⟨?_, N0, (Keep.refl h0 [a0]), E_a0, ?_, ?_, ?_, ?_, ?_, ?_, ?_⟩
        · simp only [own_f5_0_2, if_neg hc2, if_pos hc7]
        · exact F_a0_lines
        · exact F_a0_ends
        · exact F_a0_changes
        · rw [show (own_p5_0_2_first p1 p2 wl we) = (0 : Int32) from (by simp only [own_p5_0_2_first, if_neg hc2, if_pos hc7])]; exact F_a0_first
        · exact F_a0_end
        · rw [show (own_p5_0_2_askedLine p1 p2 al) = al from (by simp only [own_p5_0_2_askedLine, if_neg hc2, if_pos hc7])]; exact F_a0_askedLine
        · rw [show (own_p5_0_2_passedChange p1 p2 wl we wc al pc) = pc from (by simp only [own_p5_0_2_passedChange, if_neg hc2, if_pos hc7])]; exact F_a0_passedChange
    · obtain ⟨T3, X3, e3, st3⟩ := getF X0 hx hZ hown (host := "") (Or.inl (hw _ (own_w 28 rfl))) Via.refl e0 F_a0_askedLine (g := (mkF m 14 #[.val (.ref a0), .val (.int p1), .val (.int p2)] [(.ref a0), (.int p1)])) rfl rfl (hb hby d5_14)
      have pre4 : own_Pre p e below (s₁.setTop (entryFrame m #[(.ref a0), (.int p1), (.int p2)] 3)) (T3.setTop (mkF m 17 #[.val (.ref a0), .val (.int p1), .val (.int p2)] [(.int al), (.int p1)])) := fun t k => pre2 t (by
          show Steps p.tables e below (s₁.setTop (mkF m 7 #[.val (.ref a0), .val (.int p1), .val (.int p2)] [(.int (1 : Int32)), (.int p2)])) _
          refine XS.icmpYes X0.here hx rfl (pc0 := 7) (pc' := 12) rfl (hb hby d5_7) rfl (flt hc7).2.1 (by decide) (by decide) ?_
          refine XS.iloadN X0.here hx rfl (hb hby d5_12) rfl ?_
          refine XS.aloadN X0.here hx rfl (hb hby d5_13) rfl rfl ?_
          refine st3 _ ?_
          exact k)
      by_cases hc17 : p1 = al
      · obtain ⟨T5, X5, e5, st5⟩ := getF X3 hx hZ hown (host := "") (Or.inl (hw _ (own_w 32 rfl))) Via.refl e3 F_a0_first (g := (mkF m 31 #[.val (.ref a0), .val (.int p1), .val (.int p2)] [(.ref a0)])) rfl rfl (hb hby d5_31)
        obtain ⟨T6, X6, e6, st6⟩ := getF X5 hx hZ hown (host := "") (Or.inl (hw _ (own_w 34 rfl))) Via.refl e5 F_a0_end (g := (mkF m 35 #[.val (.ref a0), .val (.int p1), .val (.int p2)] [(.ref a0), (.int (0 : Int32))])) rfl rfl (hb hby d5_35)
        obtain ⟨T7, X7, e7, st7⟩ := getF X6 hx hZ hown (host := "") (Or.inl (hw _ (own_w 17 rfl))) Via.refl e6 F_a0_lines (g := (mkF m 42 #[.val (.ref a0), .val (.int p1), .val (.int p2)] [(.ref a0)])) rfl rfl (hb hby d5_42)
        obtain ⟨T8, X8, e8, st8⟩ := getF X7 hx hZ hown (host := "") (Or.inl (hw _ (own_w 32 rfl))) Via.refl e7 F_a0_first (g := (mkF m 46 #[.val (.ref a0), .val (.int p1), .val (.int p2)] [(.ref a0), (.ref la)])) rfl rfl (hb hby d5_46)
        obtain ⟨cl9, Ar9, hin9, hat9⟩ := own_AI.at V_la (j := (0 : Int32)) ⟨by decide, by decide⟩
        have pre10 : own_Pre p e below (s₁.setTop (entryFrame m #[(.ref a0), (.int p1), (.int p2)] 3)) (T8.setTop (mkF m 51 #[.val (.ref a0), .val (.int p1), .val (.int p2)] [(.int p1), (.int (wl.getD 0 (0 : Int32)))])) := fun t k => pre4 t (by
            show Steps p.tables e below (T3.setTop (mkF m 17 #[.val (.ref a0), .val (.int p1), .val (.int p2)] [(.int al), (.int p1)])) _
            refine XS.icmpYes X3.here hx rfl (pc0 := 17) (pc' := 30) rfl (hb hby d5_17) rfl (teq hc17).1 (by decide) (by decide) ?_
            refine XS.aloadN X3.here hx rfl (hb hby d5_30) rfl rfl ?_
            refine st5 _ ?_
            refine XS.aloadN X5.here hx rfl (hb hby d5_34) rfl rfl ?_
            refine st6 _ ?_
            show Steps p.tables e below (T6.setTop (mkF m 38 #[.val (.ref a0), .val (.int p1), .val (.int p2)] [(.int (2 : Int32)), (.int (0 : Int32))])) _
            refine XS.icmpNo X6.here hx rfl (hb hby d5_38) rfl (tlt (by decide : ((0 : Int32) < (2 : Int32)))).2.1 ?_
            refine XS.aloadN X6.here hx rfl (hb hby d5_41) rfl rfl ?_
            refine st7 _ ?_
            refine XS.aloadN X7.here hx rfl (hb hby d5_45) rfl rfl ?_
            refine st8 _ ?_
            show Steps p.tables e below (T8.setTop (mkF m 49 #[.val (.ref a0), .val (.int p1), .val (.int p2)] [(.int (0 : Int32)), (.ref la)])) _
            refine X8.iaload hx (j := (0 : Int32)) (v := (.int (wl.getD 0 (0 : Int32)))) (by rw [e8]; exact Ar9.1) (State.isArrayOf_alike hZ.alike Ar9.2.1) Ar9.2.2 hin9 hat9 (g := (mkF m 49 #[.val (.ref a0), .val (.int p1), .val (.int p2)] [(.int (0 : Int32)), (.ref la)])) rfl rfl (hb hby d5_49) _ ?_
            refine XS.iloadN X8.here hx rfl (hb hby d5_50) rfl ?_
            exact k)
        by_cases hc51 : (wl.getD 0 (0 : Int32)) < p1
        · obtain ⟨T11, X11, e11, st11⟩ := getF X8 hx hZ hown (host := "") (Or.inl (hw _ (own_w 17 rfl))) Via.refl e8 F_a0_lines (g := (mkF m 81 #[.val (.ref a0), .val (.int p1), .val (.int p2)] [(.ref a0)])) rfl rfl (hb hby d5_81)
          obtain ⟨T12, X12, e12, st12⟩ := getF X11 hx hZ hown (host := "") (Or.inl (hw _ (own_w 32 rfl))) Via.refl e11 F_a0_first (g := (mkF m 85 #[.val (.ref a0), .val (.int p1), .val (.int p2)] [(.ref a0), (.ref la)])) rfl rfl (hb hby d5_85)
          obtain ⟨cl13, Ar13, hin13, hat13⟩ := own_AI.at V_la (j := (0 : Int32)) ⟨by decide, by decide⟩
          have hc90 : ¬ ((wl.getD 0 (0 : Int32)) = p1) := own_nlt hc51
          obtain ⟨T14, X14, e14, st14⟩ := getF X12 hx hZ hown (host := "") (Or.inl (hw _ (own_w 32 rfl))) Via.refl e12 F_a0_first (g := (mkF m 113 #[.val (.ref a0), .val (.int p1), .val (.int p2)] [(.ref a0), (.ref a0)])) rfl rfl (hb hby d5_113)
          obtain ⟨T15, h15, X15, e15, W15, st15⟩ := putF X14 hx hZ hown (host := "") (Or.inl (hw _ (own_w 32 rfl))) Via.refl e14 F_a0_first E_a0 (Or.inl (hw _ (own_w 33 rfl))) (hw _ (own_w 8 rfl)) (ty := .int) (by decide) rfl rfl (g := (mkF m 118 #[.val (.ref a0), .val (.int p1), .val (.int p2)] [(.int (1 : Int32)), (.ref a0)])) rfl rfl (hb hby d5_118)
          have Fw15 := F_a0_first.same W15
          have N15 := Fr.snoc X15 N0 g_a0
          have kp16 : Keep h0 h15 [a0] := (Keep.refl h0 [a0]).wr W15 (Or.inl (own_w 0 rfl))
          obtain ⟨T17, X17, e17, st17⟩ := getF X15 hx hZ hown (host := "") (Or.inl (hw _ (own_w 32 rfl))) Via.refl e15 Fw15 (g := (mkF m 31 #[.val (.ref a0), .val (.int p1), .val (.int p2)] [(.ref a0)])) rfl rfl (hb hby d5_31)
          have f18 := (F_a0_end.other W15 (Or.inr (slot_ne (Or.inl (hw _ (own_w 35 rfl))) (Or.inl (hw _ (own_w 33 rfl))) (by decide) (t := .int) (t' := .int) (by decide) (by decide))))
          obtain ⟨T19, X19, e19, st19⟩ := getF X17 hx hZ hown (host := "") (Or.inl (hw _ (own_w 34 rfl))) Via.refl e17 f18 (g := (mkF m 35 #[.val (.ref a0), .val (.int p1), .val (.int p2)] [(.ref a0), (.int (1 : Int32))])) rfl rfl (hb hby d5_35)
          have f20 := (F_a0_lines.other W15 (Or.inr (slot_ne (Or.inl (hw _ (own_w 18 rfl))) (Or.inl (hw _ (own_w 33 rfl))) (by decide) (t := (.array .int)) (t' := .int) (by decide) (by decide))))
          obtain ⟨T21, X21, e21, st21⟩ := getF X19 hx hZ hown (host := "") (Or.inl (hw _ (own_w 17 rfl))) Via.refl e19 f20 (g := (mkF m 42 #[.val (.ref a0), .val (.int p1), .val (.int p2)] [(.ref a0)])) rfl rfl (hb hby d5_42)
          obtain ⟨T22, X22, e22, st22⟩ := getF X21 hx hZ hown (host := "") (Or.inl (hw _ (own_w 32 rfl))) Via.refl e21 Fw15 (g := (mkF m 46 #[.val (.ref a0), .val (.int p1), .val (.int p2)] [(.ref a0), (.ref la)])) rfl rfl (hb hby d5_46)
          have f23 := (V_la.other W15 (Ne.symm ne_a0_la))
          obtain ⟨cl24, Ar24, hin24, hat24⟩ := own_AI.at f23 (j := (1 : Int32)) ⟨by decide, by decide⟩
          have pre25 : own_Pre p e below (s₁.setTop (entryFrame m #[(.ref a0), (.int p1), (.int p2)] 3)) (T22.setTop (mkF m 51 #[.val (.ref a0), .val (.int p1), .val (.int p2)] [(.int p1), (.int (wl.getD 1 (0 : Int32)))])) := fun t k => pre10 t (by
              show Steps p.tables e below (T8.setTop (mkF m 51 #[.val (.ref a0), .val (.int p1), .val (.int p2)] [(.int p1), (.int (wl.getD 0 (0 : Int32)))])) _
              refine XS.icmpYes X8.here hx rfl (pc0 := 51) (pc' := 80) rfl (hb hby d5_51) rfl (tlt hc51).1 (by decide) (by decide) ?_
              refine XS.aloadN X8.here hx rfl (hb hby d5_80) rfl rfl ?_
              refine st11 _ ?_
              refine XS.aloadN X11.here hx rfl (hb hby d5_84) rfl rfl ?_
              refine st12 _ ?_
              show Steps p.tables e below (T12.setTop (mkF m 88 #[.val (.ref a0), .val (.int p1), .val (.int p2)] [(.int (0 : Int32)), (.ref la)])) _
              refine X12.iaload hx (j := (0 : Int32)) (v := (.int (wl.getD 0 (0 : Int32)))) (by rw [e12]; exact Ar13.1) (State.isArrayOf_alike hZ.alike Ar13.2.1) Ar13.2.2 hin13 hat13 (g := (mkF m 88 #[.val (.ref a0), .val (.int p1), .val (.int p2)] [(.int (0 : Int32)), (.ref la)])) rfl rfl (hb hby d5_88) _ ?_
              refine XS.iloadN X12.here hx rfl (hb hby d5_89) rfl ?_
              refine XS.icmpYes X12.here hx rfl (pc0 := 90) (pc' := 111) rfl (hb hby d5_90) rfl (feq hc90).2 (by decide) (by decide) ?_
              refine XS.aloadN X12.here hx rfl (hb hby d5_111) rfl rfl ?_
              refine XS.dup X12.here hx rfl (hb hby d5_112) rfl rfl ?_
              show Steps p.tables e below (T12.setTop (mkF m 113 #[.val (.ref a0), .val (.int p1), .val (.int p2)] [(.ref a0), (.ref a0)])) _
              refine st14 _ ?_
              refine XS.iconst X14.here hx rfl (hb hby d5_116) ?_
              refine XS.iadd X14.here hx rfl (hb hby d5_117) rfl ?_
              refine st15 _ ?_
              refine XS.goto X15.here hx rfl (pc0 := 121) (pc' := 30) rfl (hb hby d5_121) (by decide) (by decide) ?_
              show Steps p.tables e below (T15.setTop (mkF m 30 #[.val (.ref a0), .val (.int p1), .val (.int p2)] [])) _
              refine XS.aloadN X15.here hx rfl (hb hby d5_30) rfl rfl ?_
              refine st17 _ ?_
              refine XS.aloadN X17.here hx rfl (hb hby d5_34) rfl rfl ?_
              refine st19 _ ?_
              refine XS.icmpNo X19.here hx rfl (hb hby d5_38) rfl (tlt (by decide : ((1 : Int32) < (2 : Int32)))).2.1 ?_
              show Steps p.tables e below (T19.setTop (mkF m 41 #[.val (.ref a0), .val (.int p1), .val (.int p2)] [])) _
              refine XS.aloadN X19.here hx rfl (hb hby d5_41) rfl rfl ?_
              refine st21 _ ?_
              refine XS.aloadN X21.here hx rfl (hb hby d5_45) rfl rfl ?_
              refine st22 _ ?_
              refine X22.iaload hx (j := (1 : Int32)) (v := (.int (wl.getD 1 (0 : Int32)))) (by rw [e22]; exact Ar24.1) (State.isArrayOf_alike hZ.alike Ar24.2.1) Ar24.2.2 hin24 hat24 (g := (mkF m 49 #[.val (.ref a0), .val (.int p1), .val (.int p2)] [(.int (1 : Int32)), (.ref la)])) rfl rfl (hb hby d5_49) _ ?_
              show Steps p.tables e below (T22.setTop (mkF m 50 #[.val (.ref a0), .val (.int p1), .val (.int p2)] [(.int (wl.getD 1 (0 : Int32)))])) _
              refine XS.iloadN X22.here hx rfl (hb hby d5_50) rfl ?_
              exact k)
          by_cases hc51_2 : (wl.getD 1 (0 : Int32)) < p1
          · obtain ⟨T26, X26, e26, st26⟩ := getF X22 hx hZ hown (host := "") (Or.inl (hw _ (own_w 17 rfl))) Via.refl e22 f20 (g := (mkF m 81 #[.val (.ref a0), .val (.int p1), .val (.int p2)] [(.ref a0)])) rfl rfl (hb hby d5_81)
            obtain ⟨T27, X27, e27, st27⟩ := getF X26 hx hZ hown (host := "") (Or.inl (hw _ (own_w 32 rfl))) Via.refl e26 Fw15 (g := (mkF m 85 #[.val (.ref a0), .val (.int p1), .val (.int p2)] [(.ref a0), (.ref la)])) rfl rfl (hb hby d5_85)
            obtain ⟨cl28, Ar28, hin28, hat28⟩ := own_AI.at f23 (j := (1 : Int32)) ⟨by decide, by decide⟩
            have hc90_2 : ¬ ((wl.getD 1 (0 : Int32)) = p1) := own_nlt hc51_2
            obtain ⟨T29, X29, e29, st29⟩ := getF X27 hx hZ hown (host := "") (Or.inl (hw _ (own_w 32 rfl))) Via.refl e27 Fw15 (g := (mkF m 113 #[.val (.ref a0), .val (.int p1), .val (.int p2)] [(.ref a0), (.ref a0)])) rfl rfl (hb hby d5_113)
            have f30 := (E_a0.wr W15)
            obtain ⟨T31, h31, X31, e31, W31, st31⟩ := putF X29 hx hZ hown (host := "") (Or.inl (hw _ (own_w 32 rfl))) Via.refl e29 Fw15 f30 (Or.inl (hw _ (own_w 33 rfl))) (hw _ (own_w 8 rfl)) (ty := .int) (by decide) rfl rfl (g := (mkF m 118 #[.val (.ref a0), .val (.int p1), .val (.int p2)] [(.int (2 : Int32)), (.ref a0)])) rfl rfl (hb hby d5_118)
            have Fw31 := Fw15.same W31
            have N31 := Fr.snoc X31 N15 g_a0
            have kp32 : Keep h0 h31 [a0] := kp16.wr W31 (Or.inl (own_w 0 rfl))
            obtain ⟨T33, X33, e33, st33⟩ := getF X31 hx hZ hown (host := "") (Or.inl (hw _ (own_w 32 rfl))) Via.refl e31 Fw31 (g := (mkF m 31 #[.val (.ref a0), .val (.int p1), .val (.int p2)] [(.ref a0)])) rfl rfl (hb hby d5_31)
            have f34 := (f18.other W31 (Or.inr (slot_ne (Or.inl (hw _ (own_w 35 rfl))) (Or.inl (hw _ (own_w 33 rfl))) (by decide) (t := .int) (t' := .int) (by decide) (by decide))))
            obtain ⟨T35, X35, e35, st35⟩ := getF X33 hx hZ hown (host := "") (Or.inl (hw _ (own_w 34 rfl))) Via.refl e33 f34 (g := (mkF m 35 #[.val (.ref a0), .val (.int p1), .val (.int p2)] [(.ref a0), (.int (2 : Int32))])) rfl rfl (hb hby d5_35)
            have f36 := ((F_a0_passedChange.other W15 (Or.inr (slot_ne (Or.inl (hw _ (own_w 31 rfl))) (Or.inl (hw _ (own_w 33 rfl))) (by decide) (t := .int) (t' := .int) (by decide) (by decide)))).other W31 (Or.inr (slot_ne (Or.inl (hw _ (own_w 31 rfl))) (Or.inl (hw _ (own_w 33 rfl))) (by decide) (t := .int) (t' := .int) (by decide) (by decide))))
            obtain ⟨T37, X37, e37, st37⟩ := getF X35 hx hZ hown (host := "") (Or.inl (hw _ (own_w 30 rfl))) Via.refl e35 f36 (g := (mkF m 126 #[.val (.ref a0), .val (.int p1), .val (.int p2)] [(.ref a0), (.int p2)])) rfl rfl (hb hby d5_126)
            obtain ⟨fs, hr, hrun, hended, hW, hsame⟩ := X37.leave (v := some (.int (p2 - pc))) (fun h => by rw [Bd.returns] at h; cases h)
            refine ⟨_, _, pre25 _ ?_, hrun, hended, _, _, rfl, ?_, ⟨_, rfl⟩, hW, hsame.mono (by decide) (by decide)⟩
            · show Steps p.tables e below (T22.setTop (mkF m 51 #[.val (.ref a0), .val (.int p1), .val (.int p2)] [(.int p1), (.int (wl.getD 1 (0 : Int32)))])) _
              refine XS.icmpYes X22.here hx rfl (pc0 := 51) (pc' := 80) rfl (hb hby d5_51) rfl (tlt hc51_2).1 (by decide) (by decide) ?_
              refine XS.aloadN X22.here hx rfl (hb hby d5_80) rfl rfl ?_
              refine st26 _ ?_
              refine XS.aloadN X26.here hx rfl (hb hby d5_84) rfl rfl ?_
              refine st27 _ ?_
              show Steps p.tables e below (T27.setTop (mkF m 88 #[.val (.ref a0), .val (.int p1), .val (.int p2)] [(.int (1 : Int32)), (.ref la)])) _
              refine X27.iaload hx (j := (1 : Int32)) (v := (.int (wl.getD 1 (0 : Int32)))) (by rw [e27]; exact Ar28.1) (State.isArrayOf_alike hZ.alike Ar28.2.1) Ar28.2.2 hin28 hat28 (g := (mkF m 88 #[.val (.ref a0), .val (.int p1), .val (.int p2)] [(.int (1 : Int32)), (.ref la)])) rfl rfl (hb hby d5_88) _ ?_
              refine XS.iloadN X27.here hx rfl (hb hby d5_89) rfl ?_
              refine XS.icmpYes X27.here hx rfl (pc0 := 90) (pc' := 111) rfl (hb hby d5_90) rfl (feq hc90_2).2 (by decide) (by decide) ?_
              refine XS.aloadN X27.here hx rfl (hb hby d5_111) rfl rfl ?_
              refine XS.dup X27.here hx rfl (hb hby d5_112) rfl rfl ?_
              show Steps p.tables e below (T27.setTop (mkF m 113 #[.val (.ref a0), .val (.int p1), .val (.int p2)] [(.ref a0), (.ref a0)])) _
              refine st29 _ ?_
              refine XS.iconst X29.here hx rfl (hb hby d5_116) ?_
              refine XS.iadd X29.here hx rfl (hb hby d5_117) rfl ?_
              refine st31 _ ?_
              refine XS.goto X31.here hx rfl (pc0 := 121) (pc' := 30) rfl (hb hby d5_121) (by decide) (by decide) ?_
              show Steps p.tables e below (T31.setTop (mkF m 30 #[.val (.ref a0), .val (.int p1), .val (.int p2)] [])) _
              refine XS.aloadN X31.here hx rfl (hb hby d5_30) rfl rfl ?_
              refine st33 _ ?_
              refine XS.aloadN X33.here hx rfl (hb hby d5_34) rfl rfl ?_
              refine st35 _ ?_
              refine XS.icmpYes X35.here hx rfl (pc0 := 38) (pc' := 124) rfl (hb hby d5_38) rfl (flt (by decide : ¬ ((2 : Int32) < (2 : Int32)))).2.1 (by decide) (by decide) ?_
              show Steps p.tables e below (T35.setTop (mkF m 124 #[.val (.ref a0), .val (.int p1), .val (.int p2)] [])) _
              refine XS.iloadN X35.here hx rfl (hb hby d5_124) rfl ?_
              refine XS.aloadN X35.here hx rfl (hb hby d5_125) rfl rfl ?_
              refine st37 _ ?_
              refine XS.isub X37.here hx rfl (hb hby d5_129) rfl ?_
              show Steps p.tables e below (T37.setTop (mkF m 130 #[.val (.ref a0), .val (.int p1), .val (.int p2)] [(.int (p2 - pc))])) _
              exact retI X37 hx Bd.returns (hb hby d5_130) hr
            · show Q5_0_2 Z a0 p1 p2 la ea ca kl ke kc wl we wc al pc h0 n0 _ T37.heap _
              rw [e37]
              unfold Q5_0_2
              have f38 := (f30.wr W31)
              have f39 := (f20.other W31 (Or.inr (slot_ne (Or.inl (hw _ (own_w 18 rfl))) (Or.inl (hw _ (own_w 33 rfl))) (by decide) (t := (.array .int)) (t' := .int) (by decide) (by decide))))
              have f40 := ((F_a0_ends.other W15 (Or.inr (slot_ne (Or.inl (hw _ (own_w 20 rfl))) (Or.inl (hw _ (own_w 33 rfl))) (by decide) (t := (.array .int)) (t' := .int) (by decide) (by decide)))).other W31 (Or.inr (slot_ne (Or.inl (hw _ (own_w 20 rfl))) (Or.inl (hw _ (own_w 33 rfl))) (by decide) (t := (.array .int)) (t' := .int) (by decide) (by decide))))
              have f41 := ((F_a0_changes.other W15 (Or.inr (slot_ne (Or.inl (hw _ (own_w 22 rfl))) (Or.inl (hw _ (own_w 33 rfl))) (by decide) (t := (.array .int)) (t' := .int) (by decide) (by decide)))).other W31 (Or.inr (slot_ne (Or.inl (hw _ (own_w 22 rfl))) (Or.inl (hw _ (own_w 33 rfl))) (by decide) (t := (.array .int)) (t' := .int) (by decide) (by decide))))
              have f42 := ((F_a0_askedLine.other W15 (Or.inr (slot_ne (Or.inl (hw _ (own_w 29 rfl))) (Or.inl (hw _ (own_w 33 rfl))) (by decide) (t := .int) (t' := .int) (by decide) (by decide)))).other W31 (Or.inr (slot_ne (Or.inl (hw _ (own_w 29 rfl))) (Or.inl (hw _ (own_w 33 rfl))) (by decide) (t := .int) (t' := .int) (by decide) (by decide))))
              refine ⟨?_, N31, kp32, f38, ?_, ?_, ?_, ?_, ?_, ?_, ?_⟩
              · simp only [own_f5_0_2, if_neg hc2, if_neg hc7, if_pos hc17, if_pos hc51, if_pos hc51_2]
              · exact f39
              · exact f40
              · exact f41
              · rw [show (own_p5_0_2_first p1 p2 wl we) = (2 : Int32) from (by simp only [own_p5_0_2_first, if_neg hc2, if_neg hc7, if_pos hc17, if_pos hc51, if_pos hc51_2])]; exact Fw31
              · exact f34
              · rw [show (own_p5_0_2_askedLine p1 p2 al) = al from (by simp only [own_p5_0_2_askedLine, if_neg hc2, if_neg hc7, if_pos hc17, if_pos hc51, if_pos hc51_2])]; exact f42
              · rw [show (own_p5_0_2_passedChange p1 p2 wl we wc al pc) = pc from (by simp only [own_p5_0_2_passedChange, if_neg hc2, if_neg hc7, if_pos hc17, if_pos hc51, if_pos hc51_2])]; exact f36
          · obtain ⟨T43, X43, e43, st43⟩ := getF X22 hx hZ hown (host := "") (Or.inl (hw _ (own_w 17 rfl))) Via.refl e22 f20 (g := (mkF m 55 #[.val (.ref a0), .val (.int p1), .val (.int p2)] [(.ref a0)])) rfl rfl (hb hby d5_55)
            obtain ⟨T44, X44, e44, st44⟩ := getF X43 hx hZ hown (host := "") (Or.inl (hw _ (own_w 32 rfl))) Via.refl e43 Fw15 (g := (mkF m 59 #[.val (.ref a0), .val (.int p1), .val (.int p2)] [(.ref a0), (.ref la)])) rfl rfl (hb hby d5_59)
            obtain ⟨cl45, Ar45, hin45, hat45⟩ := own_AI.at f23 (j := (1 : Int32)) ⟨by decide, by decide⟩
            have pre46 : own_Pre p e below (s₁.setTop (entryFrame m #[(.ref a0), (.int p1), (.int p2)] 3)) (T44.setTop (mkF m 64 #[.val (.ref a0), .val (.int p1), .val (.int p2)] [(.int p1), (.int (wl.getD 1 (0 : Int32)))])) := fun t k => pre25 t (by
                show Steps p.tables e below (T22.setTop (mkF m 51 #[.val (.ref a0), .val (.int p1), .val (.int p2)] [(.int p1), (.int (wl.getD 1 (0 : Int32)))])) _
                refine XS.icmpNo X22.here hx rfl (hb hby d5_51) rfl (flt hc51_2).1 ?_
                refine XS.aloadN X22.here hx rfl (hb hby d5_54) rfl rfl ?_
                refine st43 _ ?_
                refine XS.aloadN X43.here hx rfl (hb hby d5_58) rfl rfl ?_
                refine st44 _ ?_
                show Steps p.tables e below (T44.setTop (mkF m 62 #[.val (.ref a0), .val (.int p1), .val (.int p2)] [(.int (1 : Int32)), (.ref la)])) _
                refine X44.iaload hx (j := (1 : Int32)) (v := (.int (wl.getD 1 (0 : Int32)))) (by rw [e44]; exact Ar45.1) (State.isArrayOf_alike hZ.alike Ar45.2.1) Ar45.2.2 hin45 hat45 (g := (mkF m 62 #[.val (.ref a0), .val (.int p1), .val (.int p2)] [(.int (1 : Int32)), (.ref la)])) rfl rfl (hb hby d5_62) _ ?_
                refine XS.iloadN X44.here hx rfl (hb hby d5_63) rfl ?_
                exact k)
            by_cases hc64 : (wl.getD 1 (0 : Int32)) = p1
            · have f47 := (F_a0_ends.other W15 (Or.inr (slot_ne (Or.inl (hw _ (own_w 20 rfl))) (Or.inl (hw _ (own_w 33 rfl))) (by decide) (t := (.array .int)) (t' := .int) (by decide) (by decide))))
              obtain ⟨T48, X48, e48, st48⟩ := getF X44 hx hZ hown (host := "") (Or.inl (hw _ (own_w 19 rfl))) Via.refl e44 f47 (g := (mkF m 68 #[.val (.ref a0), .val (.int p1), .val (.int p2)] [(.ref a0)])) rfl rfl (hb hby d5_68)
              obtain ⟨T49, X49, e49, st49⟩ := getF X48 hx hZ hown (host := "") (Or.inl (hw _ (own_w 32 rfl))) Via.refl e48 Fw15 (g := (mkF m 72 #[.val (.ref a0), .val (.int p1), .val (.int p2)] [(.ref a0), (.ref ea)])) rfl rfl (hb hby d5_72)
              have f50 := (V_ea.other W15 (Ne.symm ne_a0_ea))
              obtain ⟨cl51, Ar51, hin51, hat51⟩ := own_AI.at f50 (j := (1 : Int32)) ⟨by decide, by decide⟩
              have pre52 : own_Pre p e below (s₁.setTop (entryFrame m #[(.ref a0), (.int p1), (.int p2)] 3)) (T49.setTop (mkF m 77 #[.val (.ref a0), .val (.int p1), .val (.int p2)] [(.int p2), (.int (we.getD 1 (0 : Int32)))])) := fun t k => pre46 t (by
                  show Steps p.tables e below (T44.setTop (mkF m 64 #[.val (.ref a0), .val (.int p1), .val (.int p2)] [(.int p1), (.int (wl.getD 1 (0 : Int32)))])) _
                  refine XS.icmpNo X44.here hx rfl (hb hby d5_64) rfl (teq hc64).2 ?_
                  refine XS.aloadN X44.here hx rfl (hb hby d5_67) rfl rfl ?_
                  refine st48 _ ?_
                  refine XS.aloadN X48.here hx rfl (hb hby d5_71) rfl rfl ?_
                  refine st49 _ ?_
                  show Steps p.tables e below (T49.setTop (mkF m 75 #[.val (.ref a0), .val (.int p1), .val (.int p2)] [(.int (1 : Int32)), (.ref ea)])) _
                  refine X49.iaload hx (j := (1 : Int32)) (v := (.int (we.getD 1 (0 : Int32)))) (by rw [e49]; exact Ar51.1) (State.isArrayOf_alike hZ.alike Ar51.2.1) Ar51.2.2 hin51 hat51 (g := (mkF m 75 #[.val (.ref a0), .val (.int p1), .val (.int p2)] [(.int (1 : Int32)), (.ref ea)])) rfl rfl (hb hby d5_75) _ ?_
                  refine XS.iloadN X49.here hx rfl (hb hby d5_76) rfl ?_
                  exact k)
              by_cases hc77 : p2 < (we.getD 1 (0 : Int32))
              · have f53 := (F_a0_passedChange.other W15 (Or.inr (slot_ne (Or.inl (hw _ (own_w 31 rfl))) (Or.inl (hw _ (own_w 33 rfl))) (by decide) (t := .int) (t' := .int) (by decide) (by decide))))
                obtain ⟨T54, X54, e54, st54⟩ := getF X49 hx hZ hown (host := "") (Or.inl (hw _ (own_w 30 rfl))) Via.refl e49 f53 (g := (mkF m 126 #[.val (.ref a0), .val (.int p1), .val (.int p2)] [(.ref a0), (.int p2)])) rfl rfl (hb hby d5_126)
                obtain ⟨fs, hr, hrun, hended, hW, hsame⟩ := X54.leave (v := some (.int (p2 - pc))) (fun h => by rw [Bd.returns] at h; cases h)
                refine ⟨_, _, pre52 _ ?_, hrun, hended, _, _, rfl, ?_, ⟨_, rfl⟩, hW, hsame.mono (by decide) (by decide)⟩
                · show Steps p.tables e below (T49.setTop (mkF m 77 #[.val (.ref a0), .val (.int p1), .val (.int p2)] [(.int p2), (.int (we.getD 1 (0 : Int32)))])) _
                  refine XS.icmpYes X49.here hx rfl (pc0 := 77) (pc' := 124) rfl (hb hby d5_77) rfl (tlt hc77).2.2.1 (by decide) (by decide) ?_
                  refine XS.iloadN X49.here hx rfl (hb hby d5_124) rfl ?_
                  refine XS.aloadN X49.here hx rfl (hb hby d5_125) rfl rfl ?_
                  refine st54 _ ?_
                  refine XS.isub X54.here hx rfl (hb hby d5_129) rfl ?_
                  show Steps p.tables e below (T54.setTop (mkF m 130 #[.val (.ref a0), .val (.int p1), .val (.int p2)] [(.int (p2 - pc))])) _
                  exact retI X54 hx Bd.returns (hb hby d5_130) hr
                · show Q5_0_2 Z a0 p1 p2 la ea ca kl ke kc wl we wc al pc h0 n0 _ T54.heap _
                  rw [e54]
                  unfold Q5_0_2
                  have f55 := (E_a0.wr W15)
                  have f56 := (F_a0_changes.other W15 (Or.inr (slot_ne (Or.inl (hw _ (own_w 22 rfl))) (Or.inl (hw _ (own_w 33 rfl))) (by decide) (t := (.array .int)) (t' := .int) (by decide) (by decide))))
                  have f57 := (F_a0_askedLine.other W15 (Or.inr (slot_ne (Or.inl (hw _ (own_w 29 rfl))) (Or.inl (hw _ (own_w 33 rfl))) (by decide) (t := .int) (t' := .int) (by decide) (by decide))))
                  refine ⟨?_, N15, kp16, f55, ?_, ?_, ?_, ?_, ?_, ?_, ?_⟩
                  · simp only [own_f5_0_2, if_neg hc2, if_neg hc7, if_pos hc17, if_pos hc51, if_neg hc51_2, if_pos hc64, if_pos hc77]
                  · exact f20
                  · exact f47
                  · exact f56
                  · rw [show (own_p5_0_2_first p1 p2 wl we) = (1 : Int32) from (by simp only [own_p5_0_2_first, if_neg hc2, if_neg hc7, if_pos hc17, if_pos hc51, if_neg hc51_2, if_pos hc64, if_pos hc77])]; exact Fw15
                  · exact f18
                  · rw [show (own_p5_0_2_askedLine p1 p2 al) = al from (by simp only [own_p5_0_2_askedLine, if_neg hc2, if_neg hc7, if_pos hc17, if_pos hc51, if_neg hc51_2, if_pos hc64, if_pos hc77])]; exact f57
                  · rw [show (own_p5_0_2_passedChange p1 p2 wl we wc al pc) = pc from (by simp only [own_p5_0_2_passedChange, if_neg hc2, if_neg hc7, if_pos hc17, if_pos hc51, if_neg hc51_2, if_pos hc64, if_pos hc77])]; exact f53
              · obtain ⟨T58, X58, e58, st58⟩ := getF X49 hx hZ hown (host := "") (Or.inl (hw _ (own_w 17 rfl))) Via.refl e49 f20 (g := (mkF m 81 #[.val (.ref a0), .val (.int p1), .val (.int p2)] [(.ref a0)])) rfl rfl (hb hby d5_81)
                obtain ⟨T59, X59, e59, st59⟩ := getF X58 hx hZ hown (host := "") (Or.inl (hw _ (own_w 32 rfl))) Via.refl e58 Fw15 (g := (mkF m 85 #[.val (.ref a0), .val (.int p1), .val (.int p2)] [(.ref a0), (.ref la)])) rfl rfl (hb hby d5_85)
                obtain ⟨cl60, Ar60, hin60, hat60⟩ := own_AI.at f23 (j := (1 : Int32)) ⟨by decide, by decide⟩
                have hc90_2 : ((wl.getD 1 (0 : Int32)) = p1) := hc64
                have f61 := (F_a0_passedChange.other W15 (Or.inr (slot_ne (Or.inl (hw _ (own_w 31 rfl))) (Or.inl (hw _ (own_w 33 rfl))) (by decide) (t := .int) (t' := .int) (by decide) (by decide))))
                obtain ⟨T62, X62, e62, st62⟩ := getF X59 hx hZ hown (host := "") (Or.inl (hw _ (own_w 30 rfl))) Via.refl e59 f61 (g := (mkF m 95 #[.val (.ref a0), .val (.int p1), .val (.int p2)] [(.ref a0), (.ref a0)])) rfl rfl (hb hby d5_95)
                have f63 := (F_a0_changes.other W15 (Or.inr (slot_ne (Or.inl (hw _ (own_w 22 rfl))) (Or.inl (hw _ (own_w 33 rfl))) (by decide) (t := (.array .int)) (t' := .int) (by decide) (by decide))))
                obtain ⟨T64, X64, e64, st64⟩ := getF X62 hx hZ hown (host := "") (Or.inl (hw _ (own_w 21 rfl))) Via.refl e62 f63 (g := (mkF m 99 #[.val (.ref a0), .val (.int p1), .val (.int p2)] [(.ref a0), (.int pc), (.ref a0)])) rfl rfl (hb hby d5_99)
                obtain ⟨T65, X65, e65, st65⟩ := getF X64 hx hZ hown (host := "") (Or.inl (hw _ (own_w 32 rfl))) Via.refl e64 Fw15 (g := (mkF m 103 #[.val (.ref a0), .val (.int p1), .val (.int p2)] [(.ref a0), (.ref ca), (.int pc), (.ref a0)])) rfl rfl (hb hby d5_103)
                have f66 := (V_ca.other W15 (Ne.symm ne_a0_ca))
                obtain ⟨cl67, Ar67, hin67, hat67⟩ := own_AI.at f66 (j := (1 : Int32)) ⟨by decide, by decide⟩
                have f68 := (E_a0.wr W15)
                obtain ⟨T69, h69, X69, e69, W69, st69⟩ := putF X65 hx hZ hown (host := "") (Or.inl (hw _ (own_w 30 rfl))) Via.refl e65 f61 f68 (Or.inl (hw _ (own_w 31 rfl))) (hw _ (own_w 8 rfl)) (ty := .int) (by decide) rfl rfl (g := (mkF m 108 #[.val (.ref a0), .val (.int p1), .val (.int p2)] [(.int (pc + (wc.getD 1 (0 : Int32)))), (.ref a0)])) rfl rfl (hb hby d5_108)
                have Fw69 := f61.same W69
                have N69 := Fr.snoc X69 N15 g_a0
                have kp70 : Keep h0 h69 [a0] := kp16.wr W69 (Or.inl (own_w 0 rfl))
                have f71 := (Fw15.other W69 (Or.inr (slot_ne (Or.inl (hw _ (own_w 33 rfl))) (Or.inl (hw _ (own_w 31 rfl))) (by decide) (t := .int) (t' := .int) (by decide) (by decide))))
                obtain ⟨T72, X72, e72, st72⟩ := getF X69 hx hZ hown (host := "") (Or.inl (hw _ (own_w 32 rfl))) Via.refl e69 f71 (g := (mkF m 113 #[.val (.ref a0), .val (.int p1), .val (.int p2)] [(.ref a0), (.ref a0)])) rfl rfl (hb hby d5_113)
                have f73 := (f68.wr W69)
                obtain ⟨T74, h74, X74, e74, W74, st74⟩ := putF X72 hx hZ hown (host := "") (Or.inl (hw _ (own_w 32 rfl))) Via.refl e72 f71 f73 (Or.inl (hw _ (own_w 33 rfl))) (hw _ (own_w 8 rfl)) (ty := .int) (by decide) rfl rfl (g := (mkF m 118 #[.val (.ref a0), .val (.int p1), .val (.int p2)] [(.int (2 : Int32)), (.ref a0)])) rfl rfl (hb hby d5_118)
                have Fw74 := f71.same W74
                have N74 := Fr.snoc X74 N69 g_a0
                have kp75 : Keep h0 h74 [a0] := kp70.wr W74 (Or.inl (own_w 0 rfl))
                obtain ⟨T76, X76, e76, st76⟩ := getF X74 hx hZ hown (host := "") (Or.inl (hw _ (own_w 32 rfl))) Via.refl e74 Fw74 (g := (mkF m 31 #[.val (.ref a0), .val (.int p1), .val (.int p2)] [(.ref a0)])) rfl rfl (hb hby d5_31)
                have f77 := ((f18.other W69 (Or.inr (slot_ne (Or.inl (hw _ (own_w 35 rfl))) (Or.inl (hw _ (own_w 31 rfl))) (by decide) (t := .int) (t' := .int) (by decide) (by decide)))).other W74 (Or.inr (slot_ne (Or.inl (hw _ (own_w 35 rfl))) (Or.inl (hw _ (own_w 33 rfl))) (by decide) (t := .int) (t' := .int) (by decide) (by decide))))
                obtain ⟨T78, X78, e78, st78⟩ := getF X76 hx hZ hown (host := "") (Or.inl (hw _ (own_w 34 rfl))) Via.refl e76 f77 (g := (mkF m 35 #[.val (.ref a0), .val (.int p1), .val (.int p2)] [(.ref a0), (.int (2 : Int32))])) rfl rfl (hb hby d5_35)
                have f79 := (Fw69.other W74 (Or.inr (slot_ne (Or.inl (hw _ (own_w 31 rfl))) (Or.inl (hw _ (own_w 33 rfl))) (by decide) (t := .int) (t' := .int) (by decide) (by decide))))
                obtain ⟨T80, X80, e80, st80⟩ := getF X78 hx hZ hown (host := "") (Or.inl (hw _ (own_w 30 rfl))) Via.refl e78 f79 (g := (mkF m 126 #[.val (.ref a0), .val (.int p1), .val (.int p2)] [(.ref a0), (.int p2)])) rfl rfl (hb hby d5_126)
                obtain ⟨fs, hr, hrun, hended, hW, hsame⟩ := X80.leave (v := some (.int (p2 - (pc + (wc.getD 1 (0 : Int32)))))) (fun h => by rw [Bd.returns] at h; cases h)
                refine ⟨_, _, pre52 _ ?_, hrun, hended, _, _, rfl, ?_, ⟨_, rfl⟩, hW, hsame.mono (by decide) (by decide)⟩
                · show Steps p.tables e below (T49.setTop (mkF m 77 #[.val (.ref a0), .val (.int p1), .val (.int p2)] [(.int p2), (.int (we.getD 1 (0 : Int32)))])) _
                  refine XS.icmpNo X49.here hx rfl (hb hby d5_77) rfl (flt hc77).2.2.1 ?_
                  refine XS.aloadN X49.here hx rfl (hb hby d5_80) rfl rfl ?_
                  refine st58 _ ?_
                  refine XS.aloadN X58.here hx rfl (hb hby d5_84) rfl rfl ?_
                  refine st59 _ ?_
                  show Steps p.tables e below (T59.setTop (mkF m 88 #[.val (.ref a0), .val (.int p1), .val (.int p2)] [(.int (1 : Int32)), (.ref la)])) _
                  refine X59.iaload hx (j := (1 : Int32)) (v := (.int (wl.getD 1 (0 : Int32)))) (by rw [e59]; exact Ar60.1) (State.isArrayOf_alike hZ.alike Ar60.2.1) Ar60.2.2 hin60 hat60 (g := (mkF m 88 #[.val (.ref a0), .val (.int p1), .val (.int p2)] [(.int (1 : Int32)), (.ref la)])) rfl rfl (hb hby d5_88) _ ?_
                  refine XS.iloadN X59.here hx rfl (hb hby d5_89) rfl ?_
                  refine XS.icmpNo X59.here hx rfl (hb hby d5_90) rfl (teq hc90_2).2 ?_
                  refine XS.aloadN X59.here hx rfl (hb hby d5_93) rfl rfl ?_
                  refine XS.dup X59.here hx rfl (hb hby d5_94) rfl rfl ?_
                  show Steps p.tables e below (T59.setTop (mkF m 95 #[.val (.ref a0), .val (.int p1), .val (.int p2)] [(.ref a0), (.ref a0)])) _
                  refine st62 _ ?_
                  refine XS.aloadN X62.here hx rfl (hb hby d5_98) rfl rfl ?_
                  refine st64 _ ?_
                  refine XS.aloadN X64.here hx rfl (hb hby d5_102) rfl rfl ?_
                  refine st65 _ ?_
                  show Steps p.tables e below (T65.setTop (mkF m 106 #[.val (.ref a0), .val (.int p1), .val (.int p2)] [(.int (1 : Int32)), (.ref ca), (.int pc), (.ref a0)])) _
                  refine X65.iaload hx (j := (1 : Int32)) (v := (.int (wc.getD 1 (0 : Int32)))) (by rw [e65]; exact Ar67.1) (State.isArrayOf_alike hZ.alike Ar67.2.1) Ar67.2.2 hin67 hat67 (g := (mkF m 106 #[.val (.ref a0), .val (.int p1), .val (.int p2)] [(.int (1 : Int32)), (.ref ca), (.int pc), (.ref a0)])) rfl rfl (hb hby d5_106) _ ?_
                  refine XS.iadd X65.here hx rfl (hb hby d5_107) rfl ?_
                  refine st69 _ ?_
                  refine XS.aloadN X69.here hx rfl (hb hby d5_111) rfl rfl ?_
                  refine XS.dup X69.here hx rfl (hb hby d5_112) rfl rfl ?_
                  show Steps p.tables e below (T69.setTop (mkF m 113 #[.val (.ref a0), .val (.int p1), .val (.int p2)] [(.ref a0), (.ref a0)])) _
                  refine st72 _ ?_
                  refine XS.iconst X72.here hx rfl (hb hby d5_116) ?_
                  refine XS.iadd X72.here hx rfl (hb hby d5_117) rfl ?_
                  refine st74 _ ?_
                  refine XS.goto X74.here hx rfl (pc0 := 121) (pc' := 30) rfl (hb hby d5_121) (by decide) (by decide) ?_
                  show Steps p.tables e below (T74.setTop (mkF m 30 #[.val (.ref a0), .val (.int p1), .val (.int p2)] [])) _
                  refine XS.aloadN X74.here hx rfl (hb hby d5_30) rfl rfl ?_
                  refine st76 _ ?_
                  refine XS.aloadN X76.here hx rfl (hb hby d5_34) rfl rfl ?_
                  refine st78 _ ?_
                  refine XS.icmpYes X78.here hx rfl (pc0 := 38) (pc' := 124) rfl (hb hby d5_38) rfl (flt (by decide : ¬ ((2 : Int32) < (2 : Int32)))).2.1 (by decide) (by decide) ?_
                  show Steps p.tables e below (T78.setTop (mkF m 124 #[.val (.ref a0), .val (.int p1), .val (.int p2)] [])) _
                  refine XS.iloadN X78.here hx rfl (hb hby d5_124) rfl ?_
                  refine XS.aloadN X78.here hx rfl (hb hby d5_125) rfl rfl ?_
                  refine st80 _ ?_
                  refine XS.isub X80.here hx rfl (hb hby d5_129) rfl ?_
                  show Steps p.tables e below (T80.setTop (mkF m 130 #[.val (.ref a0), .val (.int p1), .val (.int p2)] [(.int (p2 - (pc + (wc.getD 1 (0 : Int32)))))])) _
                  exact retI X80 hx Bd.returns (hb hby d5_130) hr
                · show Q5_0_2 Z a0 p1 p2 la ea ca kl ke kc wl we wc al pc h0 n0 _ T80.heap _
                  rw [e80]
                  unfold Q5_0_2
                  have f81 := (f73.wr W74)
                  have f82 := ((f20.other W69 (Or.inr (slot_ne (Or.inl (hw _ (own_w 18 rfl))) (Or.inl (hw _ (own_w 31 rfl))) (by decide) (t := (.array .int)) (t' := .int) (by decide) (by decide)))).other W74 (Or.inr (slot_ne (Or.inl (hw _ (own_w 18 rfl))) (Or.inl (hw _ (own_w 33 rfl))) (by decide) (t := (.array .int)) (t' := .int) (by decide) (by decide))))
                  have f83 := ((f47.other W69 (Or.inr (slot_ne (Or.inl (hw _ (own_w 20 rfl))) (Or.inl (hw _ (own_w 31 rfl))) (by decide) (t := (.array .int)) (t' := .int) (by decide) (by decide)))).other W74 (Or.inr (slot_ne (Or.inl (hw _ (own_w 20 rfl))) (Or.inl (hw _ (own_w 33 rfl))) (by decide) (t := (.array .int)) (t' := .int) (by decide) (by decide))))
                  have f84 := ((f63.other W69 (Or.inr (slot_ne (Or.inl (hw _ (own_w 22 rfl))) (Or.inl (hw _ (own_w 31 rfl))) (by decide) (t := (.array .int)) (t' := .int) (by decide) (by decide)))).other W74 (Or.inr (slot_ne (Or.inl (hw _ (own_w 22 rfl))) (Or.inl (hw _ (own_w 33 rfl))) (by decide) (t := (.array .int)) (t' := .int) (by decide) (by decide))))
                  have f85 := (((F_a0_askedLine.other W15 (Or.inr (slot_ne (Or.inl (hw _ (own_w 29 rfl))) (Or.inl (hw _ (own_w 33 rfl))) (by decide) (t := .int) (t' := .int) (by decide) (by decide)))).other W69 (Or.inr (slot_ne (Or.inl (hw _ (own_w 29 rfl))) (Or.inl (hw _ (own_w 31 rfl))) (by decide) (t := .int) (t' := .int) (by decide) (by decide)))).other W74 (Or.inr (slot_ne (Or.inl (hw _ (own_w 29 rfl))) (Or.inl (hw _ (own_w 33 rfl))) (by decide) (t := .int) (t' := .int) (by decide) (by decide))))
                  refine ⟨?_, N74, kp75, f81, ?_, ?_, ?_, ?_, ?_, ?_, ?_⟩
                  · simp only [own_f5_0_2, if_neg hc2, if_neg hc7, if_pos hc17, if_pos hc51, if_neg hc51_2, if_pos hc64, if_neg hc77]
                  · exact f82
                  · exact f83
                  · exact f84
                  · rw [show (own_p5_0_2_first p1 p2 wl we) = (2 : Int32) from (by simp only [own_p5_0_2_first, if_neg hc2, if_neg hc7, if_pos hc17, if_pos hc51, if_neg hc51_2, if_pos hc64, if_neg hc77])]; exact Fw74
                  · exact f77
                  · rw [show (own_p5_0_2_askedLine p1 p2 al) = al from (by simp only [own_p5_0_2_askedLine, if_neg hc2, if_neg hc7, if_pos hc17, if_pos hc51, if_neg hc51_2, if_pos hc64, if_neg hc77])]; exact f85
                  · rw [show (own_p5_0_2_passedChange p1 p2 wl we wc al pc) = (pc + (wc.getD 1 (0 : Int32))) from (by simp only [own_p5_0_2_passedChange, if_neg hc2, if_neg hc7, if_pos hc17, if_pos hc51, if_neg hc51_2, if_pos hc64, if_neg hc77])]; exact f79
            · have f86 := (F_a0_passedChange.other W15 (Or.inr (slot_ne (Or.inl (hw _ (own_w 31 rfl))) (Or.inl (hw _ (own_w 33 rfl))) (by decide) (t := .int) (t' := .int) (by decide) (by decide))))
              obtain ⟨T87, X87, e87, st87⟩ := getF X44 hx hZ hown (host := "") (Or.inl (hw _ (own_w 30 rfl))) Via.refl e44 f86 (g := (mkF m 126 #[.val (.ref a0), .val (.int p1), .val (.int p2)] [(.ref a0), (.int p2)])) rfl rfl (hb hby d5_126)
              obtain ⟨fs, hr, hrun, hended, hW, hsame⟩ := X87.leave (v := some (.int (p2 - pc))) (fun h => by rw [Bd.returns] at h; cases h)
              refine ⟨_, _, pre46 _ ?_, hrun, hended, _, _, rfl, ?_, ⟨_, rfl⟩, hW, hsame.mono (by decide) (by decide)⟩
              · show Steps p.tables e below (T44.setTop (mkF m 64 #[.val (.ref a0), .val (.int p1), .val (.int p2)] [(.int p1), (.int (wl.getD 1 (0 : Int32)))])) _
                refine XS.icmpYes X44.here hx rfl (pc0 := 64) (pc' := 124) rfl (hb hby d5_64) rfl (feq hc64).2 (by decide) (by decide) ?_
                refine XS.iloadN X44.here hx rfl (hb hby d5_124) rfl ?_
                refine XS.aloadN X44.here hx rfl (hb hby d5_125) rfl rfl ?_
                refine st87 _ ?_
                refine XS.isub X87.here hx rfl (hb hby d5_129) rfl ?_
                show Steps p.tables e below (T87.setTop (mkF m 130 #[.val (.ref a0), .val (.int p1), .val (.int p2)] [(.int (p2 - pc))])) _
                exact retI X87 hx Bd.returns (hb hby d5_130) hr
              · show Q5_0_2 Z a0 p1 p2 la ea ca kl ke kc wl we wc al pc h0 n0 _ T87.heap _
                rw [e87]
                unfold Q5_0_2
                have f88 := (E_a0.wr W15)
                have f89 := (F_a0_ends.other W15 (Or.inr (slot_ne (Or.inl (hw _ (own_w 20 rfl))) (Or.inl (hw _ (own_w 33 rfl))) (by decide) (t := (.array .int)) (t' := .int) (by decide) (by decide))))
                have f90 := (F_a0_changes.other W15 (Or.inr (slot_ne (Or.inl (hw _ (own_w 22 rfl))) (Or.inl (hw _ (own_w 33 rfl))) (by decide) (t := (.array .int)) (t' := .int) (by decide) (by decide))))
                have f91 := (F_a0_askedLine.other W15 (Or.inr (slot_ne (Or.inl (hw _ (own_w 29 rfl))) (Or.inl (hw _ (own_w 33 rfl))) (by decide) (t := .int) (t' := .int) (by decide) (by decide))))
                refine ⟨?_, N15, kp16, f88, ?_, ?_, ?_, ?_, ?_, ?_, ?_⟩
                · simp only [own_f5_0_2, if_neg hc2, if_neg hc7, if_pos hc17, if_pos hc51, if_neg hc51_2, if_neg hc64]
                · exact f20
                · exact f89
                · exact f90
                · rw [show (own_p5_0_2_first p1 p2 wl we) = (1 : Int32) from (by simp only [own_p5_0_2_first, if_neg hc2, if_neg hc7, if_pos hc17, if_pos hc51, if_neg hc51_2, if_neg hc64])]; exact Fw15
                · exact f18
                · rw [show (own_p5_0_2_askedLine p1 p2 al) = al from (by simp only [own_p5_0_2_askedLine, if_neg hc2, if_neg hc7, if_pos hc17, if_pos hc51, if_neg hc51_2, if_neg hc64])]; exact f91
                · rw [show (own_p5_0_2_passedChange p1 p2 wl we wc al pc) = pc from (by simp only [own_p5_0_2_passedChange, if_neg hc2, if_neg hc7, if_pos hc17, if_pos hc51, if_neg hc51_2, if_neg hc64])]; exact f86
        · obtain ⟨T92, X92, e92, st92⟩ := getF X8 hx hZ hown (host := "") (Or.inl (hw _ (own_w 17 rfl))) Via.refl e8 F_a0_lines (g := (mkF m 55 #[.val (.ref a0), .val (.int p1), .val (.int p2)] [(.ref a0)])) rfl rfl (hb hby d5_55)
          obtain ⟨T93, X93, e93, st93⟩ := getF X92 hx hZ hown (host := "") (Or.inl (hw _ (own_w 32 rfl))) Via.refl e92 F_a0_first (g := (mkF m 59 #[.val (.ref a0), .val (.int p1), .val (.int p2)] [(.ref a0), (.ref la)])) rfl rfl (hb hby d5_59)
          obtain ⟨cl94, Ar94, hin94, hat94⟩ := own_AI.at V_la (j := (0 : Int32)) ⟨by decide, by decide⟩
          have pre95 : own_Pre p e below (s₁.setTop (entryFrame m #[(.ref a0), (.int p1), (.int p2)] 3)) (T93.setTop (mkF m 64 #[.val (.ref a0), .val (.int p1), .val (.int p2)] [(.int p1), (.int (wl.getD 0 (0 : Int32)))])) := fun t k => pre10 t (by
              show Steps p.tables e below (T8.setTop (mkF m 51 #[.val (.ref a0), .val (.int p1), .val (.int p2)] [(.int p1), (.int (wl.getD 0 (0 : Int32)))])) _
              refine XS.icmpNo X8.here hx rfl (hb hby d5_51) rfl (flt hc51).1 ?_
              refine XS.aloadN X8.here hx rfl (hb hby d5_54) rfl rfl ?_
              refine st92 _ ?_
              refine XS.aloadN X92.here hx rfl (hb hby d5_58) rfl rfl ?_
              refine st93 _ ?_
              show Steps p.tables e below (T93.setTop (mkF m 62 #[.val (.ref a0), .val (.int p1), .val (.int p2)] [(.int (0 : Int32)), (.ref la)])) _
              refine X93.iaload hx (j := (0 : Int32)) (v := (.int (wl.getD 0 (0 : Int32)))) (by rw [e93]; exact Ar94.1) (State.isArrayOf_alike hZ.alike Ar94.2.1) Ar94.2.2 hin94 hat94 (g := (mkF m 62 #[.val (.ref a0), .val (.int p1), .val (.int p2)] [(.int (0 : Int32)), (.ref la)])) rfl rfl (hb hby d5_62) _ ?_
              refine XS.iloadN X93.here hx rfl (hb hby d5_63) rfl ?_
              exact k)
          by_cases hc64 : (wl.getD 0 (0 : Int32)) = p1
          · obtain ⟨T96, X96, e96, st96⟩ := getF X93 hx hZ hown (host := "") (Or.inl (hw _ (own_w 19 rfl))) Via.refl e93 F_a0_ends (g := (mkF m 68 #[.val (.ref a0), .val (.int p1), .val (.int p2)] [(.ref a0)])) rfl rfl (hb hby d5_68)
            obtain ⟨T97, X97, e97, st97⟩ := getF X96 hx hZ hown (host := "") (Or.inl (hw _ (own_w 32 rfl))) Via.refl e96 F_a0_first (g := (mkF m 72 #[.val (.ref a0), .val (.int p1), .val (.int p2)] [(.ref a0), (.ref ea)])) rfl rfl (hb hby d5_72)
            obtain ⟨cl98, Ar98, hin98, hat98⟩ := own_AI.at V_ea (j := (0 : Int32)) ⟨by decide, by decide⟩
            have pre99 : own_Pre p e below (s₁.setTop (entryFrame m #[(.ref a0), (.int p1), (.int p2)] 3)) (T97.setTop (mkF m 77 #[.val (.ref a0), .val (.int p1), .val (.int p2)] [(.int p2), (.int (we.getD 0 (0 : Int32)))])) := fun t k => pre95 t (by
                show Steps p.tables e below (T93.setTop (mkF m 64 #[.val (.ref a0), .val (.int p1), .val (.int p2)] [(.int p1), (.int (wl.getD 0 (0 : Int32)))])) _
                refine XS.icmpNo X93.here hx rfl (hb hby d5_64) rfl (teq hc64).2 ?_
                refine XS.aloadN X93.here hx rfl (hb hby d5_67) rfl rfl ?_
                refine st96 _ ?_
                refine XS.aloadN X96.here hx rfl (hb hby d5_71) rfl rfl ?_
                refine st97 _ ?_
                show Steps p.tables e below (T97.setTop (mkF m 75 #[.val (.ref a0), .val (.int p1), .val (.int p2)] [(.int (0 : Int32)), (.ref ea)])) _
                refine X97.iaload hx (j := (0 : Int32)) (v := (.int (we.getD 0 (0 : Int32)))) (by rw [e97]; exact Ar98.1) (State.isArrayOf_alike hZ.alike Ar98.2.1) Ar98.2.2 hin98 hat98 (g := (mkF m 75 #[.val (.ref a0), .val (.int p1), .val (.int p2)] [(.int (0 : Int32)), (.ref ea)])) rfl rfl (hb hby d5_75) _ ?_
                refine XS.iloadN X97.here hx rfl (hb hby d5_76) rfl ?_
                exact k)
            by_cases hc77 : p2 < (we.getD 0 (0 : Int32))
            · obtain ⟨T100, X100, e100, st100⟩ := getF X97 hx hZ hown (host := "") (Or.inl (hw _ (own_w 30 rfl))) Via.refl e97 F_a0_passedChange (g := (mkF m 126 #[.val (.ref a0), .val (.int p1), .val (.int p2)] [(.ref a0), (.int p2)])) rfl rfl (hb hby d5_126)
              obtain ⟨fs, hr, hrun, hended, hW, hsame⟩ := X100.leave (v := some (.int (p2 - pc))) (fun h => by rw [Bd.returns] at h; cases h)
              refine ⟨_, _, pre99 _ ?_, hrun, hended, _, _, rfl, ?_, ⟨_, rfl⟩, hW, hsame.mono (by decide) (by decide)⟩
              · show Steps p.tables e below (T97.setTop (mkF m 77 #[.val (.ref a0), .val (.int p1), .val (.int p2)] [(.int p2), (.int (we.getD 0 (0 : Int32)))])) _
                refine XS.icmpYes X97.here hx rfl (pc0 := 77) (pc' := 124) rfl (hb hby d5_77) rfl (tlt hc77).2.2.1 (by decide) (by decide) ?_
                refine XS.iloadN X97.here hx rfl (hb hby d5_124) rfl ?_
                refine XS.aloadN X97.here hx rfl (hb hby d5_125) rfl rfl ?_
                refine st100 _ ?_
                refine XS.isub X100.here hx rfl (hb hby d5_129) rfl ?_
                show Steps p.tables e below (T100.setTop (mkF m 130 #[.val (.ref a0), .val (.int p1), .val (.int p2)] [(.int (p2 - pc))])) _
                exact retI X100 hx Bd.returns (hb hby d5_130) hr
              · show Q5_0_2 Z a0 p1 p2 la ea ca kl ke kc wl we wc al pc h0 n0 _ T100.heap _
                rw [e100]
                unfold Q5_0_2
                refine ⟨?_, N0, (Keep.refl h0 [a0]), E_a0, ?_, ?_, ?_, ?_, ?_, ?_, ?_⟩
                · simp only [own_f5_0_2, if_neg hc2, if_neg hc7, if_pos hc17, if_neg hc51, if_pos hc64, if_pos hc77]
                · exact F_a0_lines
                · exact F_a0_ends
                · exact F_a0_changes
                · rw [show (own_p5_0_2_first p1 p2 wl we) = (0 : Int32) from (by simp only [own_p5_0_2_first, if_neg hc2, if_neg hc7, if_pos hc17, if_neg hc51, if_pos hc64, if_pos hc77])]; exact F_a0_first
                · exact F_a0_end
                · rw [show (own_p5_0_2_askedLine p1 p2 al) = al from (by simp only [own_p5_0_2_askedLine, if_neg hc2, if_neg hc7, if_pos hc17, if_neg hc51, if_pos hc64, if_pos hc77])]; exact F_a0_askedLine
                · rw [show (own_p5_0_2_passedChange p1 p2 wl we wc al pc) = pc from (by simp only [own_p5_0_2_passedChange, if_neg hc2, if_neg hc7, if_pos hc17, if_neg hc51, if_pos hc64, if_pos hc77])]; exact F_a0_passedChange
            · obtain ⟨T101, X101, e101, st101⟩ := getF X97 hx hZ hown (host := "") (Or.inl (hw _ (own_w 17 rfl))) Via.refl e97 F_a0_lines (g := (mkF m 81 #[.val (.ref a0), .val (.int p1), .val (.int p2)] [(.ref a0)])) rfl rfl (hb hby d5_81)
              obtain ⟨T102, X102, e102, st102⟩ := getF X101 hx hZ hown (host := "") (Or.inl (hw _ (own_w 32 rfl))) Via.refl e101 F_a0_first (g := (mkF m 85 #[.val (.ref a0), .val (.int p1), .val (.int p2)] [(.ref a0), (.ref la)])) rfl rfl (hb hby d5_85)
              obtain ⟨cl103, Ar103, hin103, hat103⟩ := own_AI.at V_la (j := (0 : Int32)) ⟨by decide, by decide⟩
              have hc90 : ((wl.getD 0 (0 : Int32)) = p1) := hc64
              obtain ⟨T104, X104, e104, st104⟩ := getF X102 hx hZ hown (host := "") (Or.inl (hw _ (own_w 30 rfl))) Via.refl e102 F_a0_passedChange (g := (mkF m 95 #[.val (.ref a0), .val (.int p1), .val (.int p2)] [(.ref a0), (.ref a0)])) rfl rfl (hb hby d5_95)
              obtain ⟨T105, X105, e105, st105⟩ := getF X104 hx hZ hown (host := "") (Or.inl (hw _ (own_w 21 rfl))) Via.refl e104 F_a0_changes (g := (mkF m 99 #[.val (.ref a0), .val (.int p1), .val (.int p2)] [(.ref a0), (.int pc), (.ref a0)])) rfl rfl (hb hby d5_99)
              obtain ⟨T106, X106, e106, st106⟩ := getF X105 hx hZ hown (host := "") (Or.inl (hw _ (own_w 32 rfl))) Via.refl e105 F_a0_first (g := (mkF m 103 #[.val (.ref a0), .val (.int p1), .val (.int p2)] [(.ref a0), (.ref ca), (.int pc), (.ref a0)])) rfl rfl (hb hby d5_103)
              obtain ⟨cl107, Ar107, hin107, hat107⟩ := own_AI.at V_ca (j := (0 : Int32)) ⟨by decide, by decide⟩
              obtain ⟨T108, h108, X108, e108, W108, st108⟩ := putF X106 hx hZ hown (host := "") (Or.inl (hw _ (own_w 30 rfl))) Via.refl e106 F_a0_passedChange E_a0 (Or.inl (hw _ (own_w 31 rfl))) (hw _ (own_w 8 rfl)) (ty := .int) (by decide) rfl rfl (g := (mkF m 108 #[.val (.ref a0), .val (.int p1), .val (.int p2)] [(.int (pc + (wc.getD 0 (0 : Int32)))), (.ref a0)])) rfl rfl (hb hby d5_108)
              have Fw108 := F_a0_passedChange.same W108
              have N108 := Fr.snoc X108 N0 g_a0
              have kp109 : Keep h0 h108 [a0] := (Keep.refl h0 [a0]).wr W108 (Or.inl (own_w 0 rfl))
              have f110 := (F_a0_first.other W108 (Or.inr (slot_ne (Or.inl (hw _ (own_w 33 rfl))) (Or.inl (hw _ (own_w 31 rfl))) (by decide) (t := .int) (t' := .int) (by decide) (by decide))))
              obtain ⟨T111, X111, e111, st111⟩ := getF X108 hx hZ hown (host := "") (Or.inl (hw _ (own_w 32 rfl))) Via.refl e108 f110 (g := (mkF m 113 #[.val (.ref a0), .val (.int p1), .val (.int p2)] [(.ref a0), (.ref a0)])) rfl rfl (hb hby d5_113)
              have f112 := (E_a0.wr W108)
              obtain ⟨T113, h113, X113, e113, W113, st113⟩ := putF X111 hx hZ hown (host := "") (Or.inl (hw _ (own_w 32 rfl))) Via.refl e111 f110 f112 (Or.inl (hw _ (own_w 33 rfl))) (hw _ (own_w 8 rfl)) (ty := .int) (by decide) rfl rfl (g := (mkF m 118 #[.val (.ref a0), .val (.int p1), .val (.int p2)] [(.int (1 : Int32)), (.ref a0)])) rfl rfl (hb hby d5_118)
              have Fw113 := f110.same W113
              have N113 := Fr.snoc X113 N108 g_a0
              have kp114 : Keep h0 h113 [a0] := kp109.wr W113 (Or.inl (own_w 0 rfl))
              obtain ⟨T115, X115, e115, st115⟩ := getF X113 hx hZ hown (host := "") (Or.inl (hw _ (own_w 32 rfl))) Via.refl e113 Fw113 (g := (mkF m 31 #[.val (.ref a0), .val (.int p1), .val (.int p2)] [(.ref a0)])) rfl rfl (hb hby d5_31)
              have f116 := ((F_a0_end.other W108 (Or.inr (slot_ne (Or.inl (hw _ (own_w 35 rfl))) (Or.inl (hw _ (own_w 31 rfl))) (by decide) (t := .int) (t' := .int) (by decide) (by decide)))).other W113 (Or.inr (slot_ne (Or.inl (hw _ (own_w 35 rfl))) (Or.inl (hw _ (own_w 33 rfl))) (by decide) (t := .int) (t' := .int) (by decide) (by decide))))
              obtain ⟨T117, X117, e117, st117⟩ := getF X115 hx hZ hown (host := "") (Or.inl (hw _ (own_w 34 rfl))) Via.refl e115 f116 (g := (mkF m 35 #[.val (.ref a0), .val (.int p1), .val (.int p2)] [(.ref a0), (.int (1 : Int32))])) rfl rfl (hb hby d5_35)
              have f118 := ((F_a0_lines.other W108 (Or.inr (slot_ne (Or.inl (hw _ (own_w 18 rfl))) (Or.inl (hw _ (own_w 31 rfl))) (by decide) (t := (.array .int)) (t' := .int) (by decide) (by decide)))).other W113 (Or.inr (slot_ne (Or.inl (hw _ (own_w 18 rfl))) (Or.inl (hw _ (own_w 33 rfl))) (by decide) (t := (.array .int)) (t' := .int) (by decide) (by decide))))
              obtain ⟨T119, X119, e119, st119⟩ := getF X117 hx hZ hown (host := "") (Or.inl (hw _ (own_w 17 rfl))) Via.refl e117 f118 (g := (mkF m 42 #[.val (.ref a0), .val (.int p1), .val (.int p2)] [(.ref a0)])) rfl rfl (hb hby d5_42)
              obtain ⟨T120, X120, e120, st120⟩ := getF X119 hx hZ hown (host := "") (Or.inl (hw _ (own_w 32 rfl))) Via.refl e119 Fw113 (g := (mkF m 46 #[.val (.ref a0), .val (.int p1), .val (.int p2)] [(.ref a0), (.ref la)])) rfl rfl (hb hby d5_46)
              have f121 := ((V_la.other W108 (Ne.symm ne_a0_la)).other W113 (Ne.symm ne_a0_la))
              obtain ⟨cl122, Ar122, hin122, hat122⟩ := own_AI.at f121 (j := (1 : Int32)) ⟨by decide, by decide⟩
              have pre123 : own_Pre p e below (s₁.setTop (entryFrame m #[(.ref a0), (.int p1), (.int p2)] 3)) (T120.setTop (mkF m 51 #[.val (.ref a0), .val (.int p1), .val (.int p2)] [(.int p1), (.int (wl.getD 1 (0 : Int32)))])) := fun t k => pre99 t (by
                  show Steps p.tables e below (T97.setTop (mkF m 77 #[.val (.ref a0), .val (.int p1), .val (.int p2)] [(.int p2), (.int (we.getD 0 (0 : Int32)))])) _
                  refine XS.icmpNo X97.here hx rfl (hb hby d5_77) rfl (flt hc77).2.2.1 ?_
                  refine XS.aloadN X97.here hx rfl (hb hby d5_80) rfl rfl ?_
                  refine st101 _ ?_
                  refine XS.aloadN X101.here hx rfl (hb hby d5_84) rfl rfl ?_
                  refine st102 _ ?_
                  show Steps p.tables e below (T102.setTop (mkF m 88 #[.val (.ref a0), .val (.int p1), .val (.int p2)] [(.int (0 : Int32)), (.ref la)])) _
                  refine X102.iaload hx (j := (0 : Int32)) (v := (.int (wl.getD 0 (0 : Int32)))) (by rw [e102]; exact Ar103.1) (State.isArrayOf_alike hZ.alike Ar103.2.1) Ar103.2.2 hin103 hat103 (g := (mkF m 88 #[.val (.ref a0), .val (.int p1), .val (.int p2)] [(.int (0 : Int32)), (.ref la)])) rfl rfl (hb hby d5_88) _ ?_
                  refine XS.iloadN X102.here hx rfl (hb hby d5_89) rfl ?_
                  refine XS.icmpNo X102.here hx rfl (hb hby d5_90) rfl (teq hc90).2 ?_
                  refine XS.aloadN X102.here hx rfl (hb hby d5_93) rfl rfl ?_
                  refine XS.dup X102.here hx rfl (hb hby d5_94) rfl rfl ?_
                  show Steps p.tables e below (T102.setTop (mkF m 95 #[.val (.ref a0), .val (.int p1), .val (.int p2)] [(.ref a0), (.ref a0)])) _
                  refine st104 _ ?_
                  refine XS.aloadN X104.here hx rfl (hb hby d5_98) rfl rfl ?_
                  refine st105 _ ?_
                  refine XS.aloadN X105.here hx rfl (hb hby d5_102) rfl rfl ?_
                  refine st106 _ ?_
                  show Steps p.tables e below (T106.setTop (mkF m 106 #[.val (.ref a0), .val (.int p1), .val (.int p2)] [(.int (0 : Int32)), (.ref ca), (.int pc), (.ref a0)])) _
                  refine X106.iaload hx (j := (0 : Int32)) (v := (.int (wc.getD 0 (0 : Int32)))) (by rw [e106]; exact Ar107.1) (State.isArrayOf_alike hZ.alike Ar107.2.1) Ar107.2.2 hin107 hat107 (g := (mkF m 106 #[.val (.ref a0), .val (.int p1), .val (.int p2)] [(.int (0 : Int32)), (.ref ca), (.int pc), (.ref a0)])) rfl rfl (hb hby d5_106) _ ?_
                  refine XS.iadd X106.here hx rfl (hb hby d5_107) rfl ?_
                  refine st108 _ ?_
                  refine XS.aloadN X108.here hx rfl (hb hby d5_111) rfl rfl ?_
                  refine XS.dup X108.here hx rfl (hb hby d5_112) rfl rfl ?_
                  show Steps p.tables e below (T108.setTop (mkF m 113 #[.val (.ref a0), .val (.int p1), .val (.int p2)] [(.ref a0), (.ref a0)])) _
                  refine st111 _ ?_
                  refine XS.iconst X111.here hx rfl (hb hby d5_116) ?_
                  refine XS.iadd X111.here hx rfl (hb hby d5_117) rfl ?_
                  refine st113 _ ?_
                  refine XS.goto X113.here hx rfl (pc0 := 121) (pc' := 30) rfl (hb hby d5_121) (by decide) (by decide) ?_
                  show Steps p.tables e below (T113.setTop (mkF m 30 #[.val (.ref a0), .val (.int p1), .val (.int p2)] [])) _
                  refine XS.aloadN X113.here hx rfl (hb hby d5_30) rfl rfl ?_
                  refine st115 _ ?_
                  refine XS.aloadN X115.here hx rfl (hb hby d5_34) rfl rfl ?_
                  refine st117 _ ?_
                  refine XS.icmpNo X117.here hx rfl (hb hby d5_38) rfl (tlt (by decide : ((1 : Int32) < (2 : Int32)))).2.1 ?_
                  show Steps p.tables e below (T117.setTop (mkF m 41 #[.val (.ref a0), .val (.int p1), .val (.int p2)] [])) _
                  refine XS.aloadN X117.here hx rfl (hb hby d5_41) rfl rfl ?_
                  refine st119 _ ?_
                  refine XS.aloadN X119.here hx rfl (hb hby d5_45) rfl rfl ?_
                  refine st120 _ ?_
                  refine X120.iaload hx (j := (1 : Int32)) (v := (.int (wl.getD 1 (0 : Int32)))) (by rw [e120]; exact Ar122.1) (State.isArrayOf_alike hZ.alike Ar122.2.1) Ar122.2.2 hin122 hat122 (g := (mkF m 49 #[.val (.ref a0), .val (.int p1), .val (.int p2)] [(.int (1 : Int32)), (.ref la)])) rfl rfl (hb hby d5_49) _ ?_
                  show Steps p.tables e below (T120.setTop (mkF m 50 #[.val (.ref a0), .val (.int p1), .val (.int p2)] [(.int (wl.getD 1 (0 : Int32)))])) _
                  refine XS.iloadN X120.here hx rfl (hb hby d5_50) rfl ?_
                  exact k)
              by_cases hc51_2 : (wl.getD 1 (0 : Int32)) < p1
              · obtain ⟨T124, X124, e124, st124⟩ := getF X120 hx hZ hown (host := "") (Or.inl (hw _ (own_w 17 rfl))) Via.refl e120 f118 (g := (mkF m 81 #[.val (.ref a0), .val (.int p1), .val (.int p2)] [(.ref a0)])) rfl rfl (hb hby d5_81)
                obtain ⟨T125, X125, e125, st125⟩ := getF X124 hx hZ hown (host := "") (Or.inl (hw _ (own_w 32 rfl))) Via.refl e124 Fw113 (g := (mkF m 85 #[.val (.ref a0), .val (.int p1), .val (.int p2)] [(.ref a0), (.ref la)])) rfl rfl (hb hby d5_85)
                obtain ⟨cl126, Ar126, hin126, hat126⟩ := own_AI.at f121 (j := (1 : Int32)) ⟨by decide, by decide⟩
                have hc90_2 : ¬ ((wl.getD 1 (0 : Int32)) = p1) := own_nlt hc51_2
                obtain ⟨T127, X127, e127, st127⟩ := getF X125 hx hZ hown (host := "") (Or.inl (hw _ (own_w 32 rfl))) Via.refl e125 Fw113 (g := (mkF m 113 #[.val (.ref a0), .val (.int p1), .val (.int p2)] [(.ref a0), (.ref a0)])) rfl rfl (hb hby d5_113)
                have f128 := (f112.wr W113)
                obtain ⟨T129, h129, X129, e129, W129, st129⟩ := putF X127 hx hZ hown (host := "") (Or.inl (hw _ (own_w 32 rfl))) Via.refl e127 Fw113 f128 (Or.inl (hw _ (own_w 33 rfl))) (hw _ (own_w 8 rfl)) (ty := .int) (by decide) rfl rfl (g := (mkF m 118 #[.val (.ref a0), .val (.int p1), .val (.int p2)] [(.int (2 : Int32)), (.ref a0)])) rfl rfl (hb hby d5_118)
                have Fw129 := Fw113.same W129
                have N129 := Fr.snoc X129 N113 g_a0
                have kp130 : Keep h0 h129 [a0] := kp114.wr W129 (Or.inl (own_w 0 rfl))
                obtain ⟨T131, X131, e131, st131⟩ := getF X129 hx hZ hown (host := "") (Or.inl (hw _ (own_w 32 rfl))) Via.refl e129 Fw129 (g := (mkF m 31 #[.val (.ref a0), .val (.int p1), .val (.int p2)] [(.ref a0)])) rfl rfl (hb hby d5_31)
                have f132 := (f116.other W129 (Or.inr (slot_ne (Or.inl (hw _ (own_w 35 rfl))) (Or.inl (hw _ (own_w 33 rfl))) (by decide) (t := .int) (t' := .int) (by decide) (by decide))))
                obtain ⟨T133, X133, e133, st133⟩ := getF X131 hx hZ hown (host := "") (Or.inl (hw _ (own_w 34 rfl))) Via.refl e131 f132 (g := (mkF m 35 #[.val (.ref a0), .val (.int p1), .val (.int p2)] [(.ref a0), (.int (2 : Int32))])) rfl rfl (hb hby d5_35)
                have f134 := ((Fw108.other W113 (Or.inr (slot_ne (Or.inl (hw _ (own_w 31 rfl))) (Or.inl (hw _ (own_w 33 rfl))) (by decide) (t := .int) (t' := .int) (by decide) (by decide)))).other W129 (Or.inr (slot_ne (Or.inl (hw _ (own_w 31 rfl))) (Or.inl (hw _ (own_w 33 rfl))) (by decide) (t := .int) (t' := .int) (by decide) (by decide))))
                obtain ⟨T135, X135, e135, st135⟩ := getF X133 hx hZ hown (host := "") (Or.inl (hw _ (own_w 30 rfl))) Via.refl e133 f134 (g := (mkF m 126 #[.val (.ref a0), .val (.int p1), .val (.int p2)] [(.ref a0), (.int p2)])) rfl rfl (hb hby d5_126)
                obtain ⟨fs, hr, hrun, hended, hW, hsame⟩ := X135.leave (v := some (.int (p2 - (pc + (wc.getD 0 (0 : Int32)))))) (fun h => by rw [Bd.returns] at h; cases h)
                refine ⟨_, _, pre123 _ ?_, hrun, hended, _, _, rfl, ?_, ⟨_, rfl⟩, hW, hsame.mono (by decide) (by decide)⟩
                · show Steps p.tables e below (T120.setTop (mkF m 51 #[.val (.ref a0), .val (.int p1), .val (.int p2)] [(.int p1), (.int (wl.getD 1 (0 : Int32)))])) _
                  refine XS.icmpYes X120.here hx rfl (pc0 := 51) (pc' := 80) rfl (hb hby d5_51) rfl (tlt hc51_2).1 (by decide) (by decide) ?_
                  refine XS.aloadN X120.here hx rfl (hb hby d5_80) rfl rfl ?_
                  refine st124 _ ?_
                  refine XS.aloadN X124.here hx rfl (hb hby d5_84) rfl rfl ?_
                  refine st125 _ ?_
                  show Steps p.tables e below (T125.setTop (mkF m 88 #[.val (.ref a0), .val (.int p1), .val (.int p2)] [(.int (1 : Int32)), (.ref la)])) _
                  refine X125.iaload hx (j := (1 : Int32)) (v := (.int (wl.getD 1 (0 : Int32)))) (by rw [e125]; exact Ar126.1) (State.isArrayOf_alike hZ.alike Ar126.2.1) Ar126.2.2 hin126 hat126 (g := (mkF m 88 #[.val (.ref a0), .val (.int p1), .val (.int p2)] [(.int (1 : Int32)), (.ref la)])) rfl rfl (hb hby d5_88) _ ?_
                  refine XS.iloadN X125.here hx rfl (hb hby d5_89) rfl ?_
                  refine XS.icmpYes X125.here hx rfl (pc0 := 90) (pc' := 111) rfl (hb hby d5_90) rfl (feq hc90_2).2 (by decide) (by decide) ?_
                  refine XS.aloadN X125.here hx rfl (hb hby d5_111) rfl rfl ?_
                  refine XS.dup X125.here hx rfl (hb hby d5_112) rfl rfl ?_
                  show Steps p.tables e below (T125.setTop (mkF m 113 #[.val (.ref a0), .val (.int p1), .val (.int p2)] [(.ref a0), (.ref a0)])) _
                  refine st127 _ ?_
                  refine XS.iconst X127.here hx rfl (hb hby d5_116) ?_
                  refine XS.iadd X127.here hx rfl (hb hby d5_117) rfl ?_
                  refine st129 _ ?_
                  refine XS.goto X129.here hx rfl (pc0 := 121) (pc' := 30) rfl (hb hby d5_121) (by decide) (by decide) ?_
                  show Steps p.tables e below (T129.setTop (mkF m 30 #[.val (.ref a0), .val (.int p1), .val (.int p2)] [])) _
                  refine XS.aloadN X129.here hx rfl (hb hby d5_30) rfl rfl ?_
                  refine st131 _ ?_
                  refine XS.aloadN X131.here hx rfl (hb hby d5_34) rfl rfl ?_
                  refine st133 _ ?_
                  refine XS.icmpYes X133.here hx rfl (pc0 := 38) (pc' := 124) rfl (hb hby d5_38) rfl (flt (by decide : ¬ ((2 : Int32) < (2 : Int32)))).2.1 (by decide) (by decide) ?_
                  show Steps p.tables e below (T133.setTop (mkF m 124 #[.val (.ref a0), .val (.int p1), .val (.int p2)] [])) _
                  refine XS.iloadN X133.here hx rfl (hb hby d5_124) rfl ?_
                  refine XS.aloadN X133.here hx rfl (hb hby d5_125) rfl rfl ?_
                  refine st135 _ ?_
                  refine XS.isub X135.here hx rfl (hb hby d5_129) rfl ?_
                  show Steps p.tables e below (T135.setTop (mkF m 130 #[.val (.ref a0), .val (.int p1), .val (.int p2)] [(.int (p2 - (pc + (wc.getD 0 (0 : Int32)))))])) _
                  exact retI X135 hx Bd.returns (hb hby d5_130) hr
                · show Q5_0_2 Z a0 p1 p2 la ea ca kl ke kc wl we wc al pc h0 n0 _ T135.heap _
                  rw [e135]
                  unfold Q5_0_2
                  have f136 := (f128.wr W129)
                  have f137 := (f118.other W129 (Or.inr (slot_ne (Or.inl (hw _ (own_w 18 rfl))) (Or.inl (hw _ (own_w 33 rfl))) (by decide) (t := (.array .int)) (t' := .int) (by decide) (by decide))))
                  have f138 := (((F_a0_ends.other W108 (Or.inr (slot_ne (Or.inl (hw _ (own_w 20 rfl))) (Or.inl (hw _ (own_w 31 rfl))) (by decide) (t := (.array .int)) (t' := .int) (by decide) (by decide)))).other W113 (Or.inr (slot_ne (Or.inl (hw _ (own_w 20 rfl))) (Or.inl (hw _ (own_w 33 rfl))) (by decide) (t := (.array .int)) (t' := .int) (by decide) (by decide)))).other W129 (Or.inr (slot_ne (Or.inl (hw _ (own_w 20 rfl))) (Or.inl (hw _ (own_w 33 rfl))) (by decide) (t := (.array .int)) (t' := .int) (by decide) (by decide))))
                  have f139 := (((F_a0_changes.other W108 (Or.inr (slot_ne (Or.inl (hw _ (own_w 22 rfl))) (Or.inl (hw _ (own_w 31 rfl))) (by decide) (t := (.array .int)) (t' := .int) (by decide) (by decide)))).other W113 (Or.inr (slot_ne (Or.inl (hw _ (own_w 22 rfl))) (Or.inl (hw _ (own_w 33 rfl))) (by decide) (t := (.array .int)) (t' := .int) (by decide) (by decide)))).other W129 (Or.inr (slot_ne (Or.inl (hw _ (own_w 22 rfl))) (Or.inl (hw _ (own_w 33 rfl))) (by decide) (t := (.array .int)) (t' := .int) (by decide) (by decide))))
                  have f140 := (((F_a0_askedLine.other W108 (Or.inr (slot_ne (Or.inl (hw _ (own_w 29 rfl))) (Or.inl (hw _ (own_w 31 rfl))) (by decide) (t := .int) (t' := .int) (by decide) (by decide)))).other W113 (Or.inr (slot_ne (Or.inl (hw _ (own_w 29 rfl))) (Or.inl (hw _ (own_w 33 rfl))) (by decide) (t := .int) (t' := .int) (by decide) (by decide)))).other W129 (Or.inr (slot_ne (Or.inl (hw _ (own_w 29 rfl))) (Or.inl (hw _ (own_w 33 rfl))) (by decide) (t := .int) (t' := .int) (by decide) (by decide))))
                  refine ⟨?_, N129, kp130, f136, ?_, ?_, ?_, ?_, ?_, ?_, ?_⟩
                  · simp only [own_f5_0_2, if_neg hc2, if_neg hc7, if_pos hc17, if_neg hc51, if_pos hc64, if_neg hc77, if_pos hc51_2]
                  · exact f137
                  · exact f138
                  · exact f139
                  · rw [show (own_p5_0_2_first p1 p2 wl we) = (2 : Int32) from (by simp only [own_p5_0_2_first, if_neg hc2, if_neg hc7, if_pos hc17, if_neg hc51, if_pos hc64, if_neg hc77, if_pos hc51_2])]; exact Fw129
                  · exact f132
                  · rw [show (own_p5_0_2_askedLine p1 p2 al) = al from (by simp only [own_p5_0_2_askedLine, if_neg hc2, if_neg hc7, if_pos hc17, if_neg hc51, if_pos hc64, if_neg hc77, if_pos hc51_2])]; exact f140
                  · rw [show (own_p5_0_2_passedChange p1 p2 wl we wc al pc) = (pc + (wc.getD 0 (0 : Int32))) from (by simp only [own_p5_0_2_passedChange, if_neg hc2, if_neg hc7, if_pos hc17, if_neg hc51, if_pos hc64, if_neg hc77, if_pos hc51_2])]; exact f134
              · obtain ⟨T141, X141, e141, st141⟩ := getF X120 hx hZ hown (host := "") (Or.inl (hw _ (own_w 17 rfl))) Via.refl e120 f118 (g := (mkF m 55 #[.val (.ref a0), .val (.int p1), .val (.int p2)] [(.ref a0)])) rfl rfl (hb hby d5_55)
                obtain ⟨T142, X142, e142, st142⟩ := getF X141 hx hZ hown (host := "") (Or.inl (hw _ (own_w 32 rfl))) Via.refl e141 Fw113 (g := (mkF m 59 #[.val (.ref a0), .val (.int p1), .val (.int p2)] [(.ref a0), (.ref la)])) rfl rfl (hb hby d5_59)
                obtain ⟨cl143, Ar143, hin143, hat143⟩ := own_AI.at f121 (j := (1 : Int32)) ⟨by decide, by decide⟩
                have pre144 : own_Pre p e below (s₁.setTop (entryFrame m #[(.ref a0), (.int p1), (.int p2)] 3)) (T142.setTop (mkF m 64 #[.val (.ref a0), .val (.int p1), .val (.int p2)] [(.int p1), (.int (wl.getD 1 (0 : Int32)))])) := fun t k => pre123 t (by
                    show Steps p.tables e below (T120.setTop (mkF m 51 #[.val (.ref a0), .val (.int p1), .val (.int p2)] [(.int p1), (.int (wl.getD 1 (0 : Int32)))])) _
                    refine XS.icmpNo X120.here hx rfl (hb hby d5_51) rfl (flt hc51_2).1 ?_
                    refine XS.aloadN X120.here hx rfl (hb hby d5_54) rfl rfl ?_
                    refine st141 _ ?_
                    refine XS.aloadN X141.here hx rfl (hb hby d5_58) rfl rfl ?_
                    refine st142 _ ?_
                    show Steps p.tables e below (T142.setTop (mkF m 62 #[.val (.ref a0), .val (.int p1), .val (.int p2)] [(.int (1 : Int32)), (.ref la)])) _
                    refine X142.iaload hx (j := (1 : Int32)) (v := (.int (wl.getD 1 (0 : Int32)))) (by rw [e142]; exact Ar143.1) (State.isArrayOf_alike hZ.alike Ar143.2.1) Ar143.2.2 hin143 hat143 (g := (mkF m 62 #[.val (.ref a0), .val (.int p1), .val (.int p2)] [(.int (1 : Int32)), (.ref la)])) rfl rfl (hb hby d5_62) _ ?_
                    refine XS.iloadN X142.here hx rfl (hb hby d5_63) rfl ?_
                    exact k)
                by_cases hc64_2 : (wl.getD 1 (0 : Int32)) = p1
                · have f145 := ((F_a0_ends.other W108 (Or.inr (slot_ne (Or.inl (hw _ (own_w 20 rfl))) (Or.inl (hw _ (own_w 31 rfl))) (by decide) (t := (.array .int)) (t' := .int) (by decide) (by decide)))).other W113 (Or.inr (slot_ne (Or.inl (hw _ (own_w 20 rfl))) (Or.inl (hw _ (own_w 33 rfl))) (by decide) (t := (.array .int)) (t' := .int) (by decide) (by decide))))
                  obtain ⟨T146, X146, e146, st146⟩ := getF X142 hx hZ hown (host := "") (Or.inl (hw _ (own_w 19 rfl))) Via.refl e142 f145 (g := (mkF m 68 #[.val (.ref a0), .val (.int p1), .val (.int p2)] [(.ref a0)])) rfl rfl (hb hby d5_68)
                  obtain ⟨T147, X147, e147, st147⟩ := getF X146 hx hZ hown (host := "") (Or.inl (hw _ (own_w 32 rfl))) Via.refl e146 Fw113 (g := (mkF m 72 #[.val (.ref a0), .val (.int p1), .val (.int p2)] [(.ref a0), (.ref ea)])) rfl rfl (hb hby d5_72)
                  have f148 := ((V_ea.other W108 (Ne.symm ne_a0_ea)).other W113 (Ne.symm ne_a0_ea))
                  obtain ⟨cl149, Ar149, hin149, hat149⟩ := own_AI.at f148 (j := (1 : Int32)) ⟨by decide, by decide⟩
                  have pre150 : own_Pre p e below (s₁.setTop (entryFrame m #[(.ref a0), (.int p1), (.int p2)] 3)) (T147.setTop (mkF m 77 #[.val (.ref a0), .val (.int p1), .val (.int p2)] [(.int p2), (.int (we.getD 1 (0 : Int32)))])) := fun t k => pre144 t (by
                      show Steps p.tables e below (T142.setTop (mkF m 64 #[.val (.ref a0), .val (.int p1), .val (.int p2)] [(.int p1), (.int (wl.getD 1 (0 : Int32)))])) _
                      refine XS.icmpNo X142.here hx rfl (hb hby d5_64) rfl (teq hc64_2).2 ?_
                      refine XS.aloadN X142.here hx rfl (hb hby d5_67) rfl rfl ?_
                      refine st146 _ ?_
                      refine XS.aloadN X146.here hx rfl (hb hby d5_71) rfl rfl ?_
                      refine st147 _ ?_
                      show Steps p.tables e below (T147.setTop (mkF m 75 #[.val (.ref a0), .val (.int p1), .val (.int p2)] [(.int (1 : Int32)), (.ref ea)])) _
                      refine X147.iaload hx (j := (1 : Int32)) (v := (.int (we.getD 1 (0 : Int32)))) (by rw [e147]; exact Ar149.1) (State.isArrayOf_alike hZ.alike Ar149.2.1) Ar149.2.2 hin149 hat149 (g := (mkF m 75 #[.val (.ref a0), .val (.int p1), .val (.int p2)] [(.int (1 : Int32)), (.ref ea)])) rfl rfl (hb hby d5_75) _ ?_
                      refine XS.iloadN X147.here hx rfl (hb hby d5_76) rfl ?_
                      exact k)
                  by_cases hc77_2 : p2 < (we.getD 1 (0 : Int32))
                  · have f151 := (Fw108.other W113 (Or.inr (slot_ne (Or.inl (hw _ (own_w 31 rfl))) (Or.inl (hw _ (own_w 33 rfl))) (by decide) (t := .int) (t' := .int) (by decide) (by decide))))
                    obtain ⟨T152, X152, e152, st152⟩ := getF X147 hx hZ hown (host := "") (Or.inl (hw _ (own_w 30 rfl))) Via.refl e147 f151 (g := (mkF m 126 #[.val (.ref a0), .val (.int p1), .val (.int p2)] [(.ref a0), (.int p2)])) rfl rfl (hb hby d5_126)
                    obtain ⟨fs, hr, hrun, hended, hW, hsame⟩ := X152.leave (v := some (.int (p2 - (pc + (wc.getD 0 (0 : Int32)))))) (fun h => by rw [Bd.returns] at h; cases h)
                    refine ⟨_, _, pre150 _ ?_, hrun, hended, _, _, rfl, ?_, ⟨_, rfl⟩, hW, hsame.mono (by decide) (by decide)⟩
                    · show Steps p.tables e below (T147.setTop (mkF m 77 #[.val (.ref a0), .val (.int p1), .val (.int p2)] [(.int p2), (.int (we.getD 1 (0 : Int32)))])) _
                      refine XS.icmpYes X147.here hx rfl (pc0 := 77) (pc' := 124) rfl (hb hby d5_77) rfl (tlt hc77_2).2.2.1 (by decide) (by decide) ?_
                      refine XS.iloadN X147.here hx rfl (hb hby d5_124) rfl ?_
                      refine XS.aloadN X147.here hx rfl (hb hby d5_125) rfl rfl ?_
                      refine st152 _ ?_
                      refine XS.isub X152.here hx rfl (hb hby d5_129) rfl ?_
                      show Steps p.tables e below (T152.setTop (mkF m 130 #[.val (.ref a0), .val (.int p1), .val (.int p2)] [(.int (p2 - (pc + (wc.getD 0 (0 : Int32)))))])) _
                      exact retI X152 hx Bd.returns (hb hby d5_130) hr
                    · show Q5_0_2 Z a0 p1 p2 la ea ca kl ke kc wl we wc al pc h0 n0 _ T152.heap _
                      rw [e152]
                      unfold Q5_0_2
                      have f153 := (f112.wr W113)
                      have f154 := ((F_a0_changes.other W108 (Or.inr (slot_ne (Or.inl (hw _ (own_w 22 rfl))) (Or.inl (hw _ (own_w 31 rfl))) (by decide) (t := (.array .int)) (t' := .int) (by decide) (by decide)))).other W113 (Or.inr (slot_ne (Or.inl (hw _ (own_w 22 rfl))) (Or.inl (hw _ (own_w 33 rfl))) (by decide) (t := (.array .int)) (t' := .int) (by decide) (by decide))))
                      have f155 := ((F_a0_askedLine.other W108 (Or.inr (slot_ne (Or.inl (hw _ (own_w 29 rfl))) (Or.inl (hw _ (own_w 31 rfl))) (by decide) (t := .int) (t' := .int) (by decide) (by decide)))).other W113 (Or.inr (slot_ne (Or.inl (hw _ (own_w 29 rfl))) (Or.inl (hw _ (own_w 33 rfl))) (by decide) (t := .int) (t' := .int) (by decide) (by decide))))
                      refine ⟨?_, N113, kp114, f153, ?_, ?_, ?_, ?_, ?_, ?_, ?_⟩
                      · simp only [own_f5_0_2, if_neg hc2, if_neg hc7, if_pos hc17, if_neg hc51, if_pos hc64, if_neg hc77, if_neg hc51_2, if_pos hc64_2, if_pos hc77_2]
                      · exact f118
                      · exact f145
                      · exact f154
                      · rw [show (own_p5_0_2_first p1 p2 wl we) = (1 : Int32) from (by simp only [own_p5_0_2_first, if_neg hc2, if_neg hc7, if_pos hc17, if_neg hc51, if_pos hc64, if_neg hc77, if_neg hc51_2, if_pos hc64_2, if_pos hc77_2])]; exact Fw113
                      · exact f116
                      · rw [show (own_p5_0_2_askedLine p1 p2 al) = al from (by simp only [own_p5_0_2_askedLine, if_neg hc2, if_neg hc7, if_pos hc17, if_neg hc51, if_pos hc64, if_neg hc77, if_neg hc51_2, if_pos hc64_2, if_pos hc77_2])]; exact f155
                      · rw [show (own_p5_0_2_passedChange p1 p2 wl we wc al pc) = (pc + (wc.getD 0 (0 : Int32))) from (by simp only [own_p5_0_2_passedChange, if_neg hc2, if_neg hc7, if_pos hc17, if_neg hc51, if_pos hc64, if_neg hc77, if_neg hc51_2, if_pos hc64_2, if_pos hc77_2])]; exact f151
                  · obtain ⟨T156, X156, e156, st156⟩ := getF X147 hx hZ hown (host := "") (Or.inl (hw _ (own_w 17 rfl))) Via.refl e147 f118 (g := (mkF m 81 #[.val (.ref a0), .val (.int p1), .val (.int p2)] [(.ref a0)])) rfl rfl (hb hby d5_81)
                    obtain ⟨T157, X157, e157, st157⟩ := getF X156 hx hZ hown (host := "") (Or.inl (hw _ (own_w 32 rfl))) Via.refl e156 Fw113 (g := (mkF m 85 #[.val (.ref a0), .val (.int p1), .val (.int p2)] [(.ref a0), (.ref la)])) rfl rfl (hb hby d5_85)
                    obtain ⟨cl158, Ar158, hin158, hat158⟩ := own_AI.at f121 (j := (1 : Int32)) ⟨by decide, by decide⟩
                    have hc90_2 : ((wl.getD 1 (0 : Int32)) = p1) := hc64_2
                    have f159 := (Fw108.other W113 (Or.inr (slot_ne (Or.inl (hw _ (own_w 31 rfl))) (Or.inl (hw _ (own_w 33 rfl))) (by decide) (t := .int) (t' := .int) (by decide) (by decide))))
                    obtain ⟨T160, X160, e160, st160⟩ := getF X157 hx hZ hown (host := "") (Or.inl (hw _ (own_w 30 rfl))) Via.refl e157 f159 (g := (mkF m 95 #[.val (.ref a0), .val (.int p1), .val (.int p2)] [(.ref a0), (.ref a0)])) rfl rfl (hb hby d5_95)
                    have f161 := ((F_a0_changes.other W108 (Or.inr (slot_ne (Or.inl (hw _ (own_w 22 rfl))) (Or.inl (hw _ (own_w 31 rfl))) (by decide) (t := (.array .int)) (t' := .int) (by decide) (by decide)))).other W113 (Or.inr (slot_ne (Or.inl (hw _ (own_w 22 rfl))) (Or.inl (hw _ (own_w 33 rfl))) (by decide) (t := (.array .int)) (t' := .int) (by decide) (by decide))))
                    obtain ⟨T162, X162, e162, st162⟩ := getF X160 hx hZ hown (host := "") (Or.inl (hw _ (own_w 21 rfl))) Via.refl e160 f161 (g := (mkF m 99 #[.val (.ref a0), .val (.int p1), .val (.int p2)] [(.ref a0), (.int (pc + (wc.getD 0 (0 : Int32)))), (.ref a0)])) rfl rfl (hb hby d5_99)
                    obtain ⟨T163, X163, e163, st163⟩ := getF X162 hx hZ hown (host := "") (Or.inl (hw _ (own_w 32 rfl))) Via.refl e162 Fw113 (g := (mkF m 103 #[.val (.ref a0), .val (.int p1), .val (.int p2)] [(.ref a0), (.ref ca), (.int (pc + (wc.getD 0 (0 : Int32)))), (.ref a0)])) rfl rfl (hb hby d5_103)
                    have f164 := ((V_ca.other W108 (Ne.symm ne_a0_ca)).other W113 (Ne.symm ne_a0_ca))
                    obtain ⟨cl165, Ar165, hin165, hat165⟩ := own_AI.at f164 (j := (1 : Int32)) ⟨by decide, by decide⟩
                    have f166 := (f112.wr W113)
                    obtain ⟨T167, h167, X167, e167, W167, st167⟩ := putF X163 hx hZ hown (host := "") (Or.inl (hw _ (own_w 30 rfl))) Via.refl e163 f159 f166 (Or.inl (hw _ (own_w 31 rfl))) (hw _ (own_w 8 rfl)) (ty := .int) (by decide) rfl rfl (g := (mkF m 108 #[.val (.ref a0), .val (.int p1), .val (.int p2)] [(.int ((pc + (wc.getD 0 (0 : Int32))) + (wc.getD 1 (0 : Int32)))), (.ref a0)])) rfl rfl (hb hby d5_108)
                    have Fw167 := f159.same W167
                    have N167 := Fr.snoc X167 N113 g_a0
                    have kp168 : Keep h0 h167 [a0] := kp114.wr W167 (Or.inl (own_w 0 rfl))
                    have f169 := (Fw113.other W167 (Or.inr (slot_ne (Or.inl (hw _ (own_w 33 rfl))) (Or.inl (hw _ (own_w 31 rfl))) (by decide) (t := .int) (t' := .int) (by decide) (by decide))))
                    obtain ⟨T170, X170, e170, st170⟩ := getF X167 hx hZ hown (host := "") (Or.inl (hw _ (own_w 32 rfl))) Via.refl e167 f169 (g := (mkF m 113 #[.val (.ref a0), .val (.int p1), .val (.int p2)] [(.ref a0), (.ref a0)])) rfl rfl (hb hby d5_113)
                    have f171 := (f166.wr W167)
                    obtain ⟨T172, h172, X172, e172, W172, st172⟩ := putF X170 hx hZ hown (host := "") (Or.inl (hw _ (own_w 32 rfl))) Via.refl e170 f169 f171 (Or.inl (hw _ (own_w 33 rfl))) (hw _ (own_w 8 rfl)) (ty := .int) (by decide) rfl rfl (g := (mkF m 118 #[.val (.ref a0), .val (.int p1), .val (.int p2)] [(.int (2 : Int32)), (.ref a0)])) rfl rfl (hb hby d5_118)
                    have Fw172 := f169.same W172
                    have N172 := Fr.snoc X172 N167 g_a0
                    have kp173 : Keep h0 h172 [a0] := kp168.wr W172 (Or.inl (own_w 0 rfl))
                    obtain ⟨T174, X174, e174, st174⟩ := getF X172 hx hZ hown (host := "") (Or.inl (hw _ (own_w 32 rfl))) Via.refl e172 Fw172 (g := (mkF m 31 #[.val (.ref a0), .val (.int p1), .val (.int p2)] [(.ref a0)])) rfl rfl (hb hby d5_31)
                    have f175 := ((f116.other W167 (Or.inr (slot_ne (Or.inl (hw _ (own_w 35 rfl))) (Or.inl (hw _ (own_w 31 rfl))) (by decide) (t := .int) (t' := .int) (by decide) (by decide)))).other W172 (Or.inr (slot_ne (Or.inl (hw _ (own_w 35 rfl))) (Or.inl (hw _ (own_w 33 rfl))) (by decide) (t := .int) (t' := .int) (by decide) (by decide))))
                    obtain ⟨T176, X176, e176, st176⟩ := getF X174 hx hZ hown (host := "") (Or.inl (hw _ (own_w 34 rfl))) Via.refl e174 f175 (g := (mkF m 35 #[.val (.ref a0), .val (.int p1), .val (.int p2)] [(.ref a0), (.int (2 : Int32))])) rfl rfl (hb hby d5_35)
                    have f177 := (Fw167.other W172 (Or.inr (slot_ne (Or.inl (hw _ (own_w 31 rfl))) (Or.inl (hw _ (own_w 33 rfl))) (by decide) (t := .int) (t' := .int) (by decide) (by decide))))
                    obtain ⟨T178, X178, e178, st178⟩ := getF X176 hx hZ hown (host := "") (Or.inl (hw _ (own_w 30 rfl))) Via.refl e176 f177 (g := (mkF m 126 #[.val (.ref a0), .val (.int p1), .val (.int p2)] [(.ref a0), (.int p2)])) rfl rfl (hb hby d5_126)
                    obtain ⟨fs, hr, hrun, hended, hW, hsame⟩ := X178.leave (v := some (.int (p2 - ((pc + (wc.getD 0 (0 : Int32))) + (wc.getD 1 (0 : Int32)))))) (fun h => by rw [Bd.returns] at h; cases h)
                    refine ⟨_, _, pre150 _ ?_, hrun, hended, _, _, rfl, ?_, ⟨_, rfl⟩, hW, hsame.mono (by decide) (by decide)⟩
                    · show Steps p.tables e below (T147.setTop (mkF m 77 #[.val (.ref a0), .val (.int p1), .val (.int p2)] [(.int p2), (.int (we.getD 1 (0 : Int32)))])) _
                      refine XS.icmpNo X147.here hx rfl (hb hby d5_77) rfl (flt hc77_2).2.2.1 ?_
                      refine XS.aloadN X147.here hx rfl (hb hby d5_80) rfl rfl ?_
                      refine st156 _ ?_
                      refine XS.aloadN X156.here hx rfl (hb hby d5_84) rfl rfl ?_
                      refine st157 _ ?_
                      show Steps p.tables e below (T157.setTop (mkF m 88 #[.val (.ref a0), .val (.int p1), .val (.int p2)] [(.int (1 : Int32)), (.ref la)])) _
                      refine X157.iaload hx (j := (1 : Int32)) (v := (.int (wl.getD 1 (0 : Int32)))) (by rw [e157]; exact Ar158.1) (State.isArrayOf_alike hZ.alike Ar158.2.1) Ar158.2.2 hin158 hat158 (g := (mkF m 88 #[.val (.ref a0), .val (.int p1), .val (.int p2)] [(.int (1 : Int32)), (.ref la)])) rfl rfl (hb hby d5_88) _ ?_
                      refine XS.iloadN X157.here hx rfl (hb hby d5_89) rfl ?_
                      refine XS.icmpNo X157.here hx rfl (hb hby d5_90) rfl (teq hc90_2).2 ?_
                      refine XS.aloadN X157.here hx rfl (hb hby d5_93) rfl rfl ?_
                      refine XS.dup X157.here hx rfl (hb hby d5_94) rfl rfl ?_
                      show Steps p.tables e below (T157.setTop (mkF m 95 #[.val (.ref a0), .val (.int p1), .val (.int p2)] [(.ref a0), (.ref a0)])) _
                      refine st160 _ ?_
                      refine XS.aloadN X160.here hx rfl (hb hby d5_98) rfl rfl ?_
                      refine st162 _ ?_
                      refine XS.aloadN X162.here hx rfl (hb hby d5_102) rfl rfl ?_
                      refine st163 _ ?_
                      show Steps p.tables e below (T163.setTop (mkF m 106 #[.val (.ref a0), .val (.int p1), .val (.int p2)] [(.int (1 : Int32)), (.ref ca), (.int (pc + (wc.getD 0 (0 : Int32)))), (.ref a0)])) _
                      refine X163.iaload hx (j := (1 : Int32)) (v := (.int (wc.getD 1 (0 : Int32)))) (by rw [e163]; exact Ar165.1) (State.isArrayOf_alike hZ.alike Ar165.2.1) Ar165.2.2 hin165 hat165 (g := (mkF m 106 #[.val (.ref a0), .val (.int p1), .val (.int p2)] [(.int (1 : Int32)), (.ref ca), (.int (pc + (wc.getD 0 (0 : Int32)))), (.ref a0)])) rfl rfl (hb hby d5_106) _ ?_
                      refine XS.iadd X163.here hx rfl (hb hby d5_107) rfl ?_
                      refine st167 _ ?_
                      refine XS.aloadN X167.here hx rfl (hb hby d5_111) rfl rfl ?_
                      refine XS.dup X167.here hx rfl (hb hby d5_112) rfl rfl ?_
                      show Steps p.tables e below (T167.setTop (mkF m 113 #[.val (.ref a0), .val (.int p1), .val (.int p2)] [(.ref a0), (.ref a0)])) _
                      refine st170 _ ?_
                      refine XS.iconst X170.here hx rfl (hb hby d5_116) ?_
                      refine XS.iadd X170.here hx rfl (hb hby d5_117) rfl ?_
                      refine st172 _ ?_
                      refine XS.goto X172.here hx rfl (pc0 := 121) (pc' := 30) rfl (hb hby d5_121) (by decide) (by decide) ?_
                      show Steps p.tables e below (T172.setTop (mkF m 30 #[.val (.ref a0), .val (.int p1), .val (.int p2)] [])) _
                      refine XS.aloadN X172.here hx rfl (hb hby d5_30) rfl rfl ?_
                      refine st174 _ ?_
                      refine XS.aloadN X174.here hx rfl (hb hby d5_34) rfl rfl ?_
                      refine st176 _ ?_
                      refine XS.icmpYes X176.here hx rfl (pc0 := 38) (pc' := 124) rfl (hb hby d5_38) rfl (flt (by decide : ¬ ((2 : Int32) < (2 : Int32)))).2.1 (by decide) (by decide) ?_
                      show Steps p.tables e below (T176.setTop (mkF m 124 #[.val (.ref a0), .val (.int p1), .val (.int p2)] [])) _
                      refine XS.iloadN X176.here hx rfl (hb hby d5_124) rfl ?_
                      refine XS.aloadN X176.here hx rfl (hb hby d5_125) rfl rfl ?_
                      refine st178 _ ?_
                      refine XS.isub X178.here hx rfl (hb hby d5_129) rfl ?_
                      show Steps p.tables e below (T178.setTop (mkF m 130 #[.val (.ref a0), .val (.int p1), .val (.int p2)] [(.int (p2 - ((pc + (wc.getD 0 (0 : Int32))) + (wc.getD 1 (0 : Int32)))))])) _
                      exact retI X178 hx Bd.returns (hb hby d5_130) hr
                    · show Q5_0_2 Z a0 p1 p2 la ea ca kl ke kc wl we wc al pc h0 n0 _ T178.heap _
                      rw [e178]
                      unfold Q5_0_2
                      have f179 := (f171.wr W172)
                      have f180 := ((f118.other W167 (Or.inr (slot_ne (Or.inl (hw _ (own_w 18 rfl))) (Or.inl (hw _ (own_w 31 rfl))) (by decide) (t := (.array .int)) (t' := .int) (by decide) (by decide)))).other W172 (Or.inr (slot_ne (Or.inl (hw _ (own_w 18 rfl))) (Or.inl (hw _ (own_w 33 rfl))) (by decide) (t := (.array .int)) (t' := .int) (by decide) (by decide))))
                      have f181 := ((f145.other W167 (Or.inr (slot_ne (Or.inl (hw _ (own_w 20 rfl))) (Or.inl (hw _ (own_w 31 rfl))) (by decide) (t := (.array .int)) (t' := .int) (by decide) (by decide)))).other W172 (Or.inr (slot_ne (Or.inl (hw _ (own_w 20 rfl))) (Or.inl (hw _ (own_w 33 rfl))) (by decide) (t := (.array .int)) (t' := .int) (by decide) (by decide))))
                      have f182 := ((f161.other W167 (Or.inr (slot_ne (Or.inl (hw _ (own_w 22 rfl))) (Or.inl (hw _ (own_w 31 rfl))) (by decide) (t := (.array .int)) (t' := .int) (by decide) (by decide)))).other W172 (Or.inr (slot_ne (Or.inl (hw _ (own_w 22 rfl))) (Or.inl (hw _ (own_w 33 rfl))) (by decide) (t := (.array .int)) (t' := .int) (by decide) (by decide))))
                      have f183 := ((((F_a0_askedLine.other W108 (Or.inr (slot_ne (Or.inl (hw _ (own_w 29 rfl))) (Or.inl (hw _ (own_w 31 rfl))) (by decide) (t := .int) (t' := .int) (by decide) (by decide)))).other W113 (Or.inr (slot_ne (Or.inl (hw _ (own_w 29 rfl))) (Or.inl (hw _ (own_w 33 rfl))) (by decide) (t := .int) (t' := .int) (by decide) (by decide)))).other W167 (Or.inr (slot_ne (Or.inl (hw _ (own_w 29 rfl))) (Or.inl (hw _ (own_w 31 rfl))) (by decide) (t := .int) (t' := .int) (by decide) (by decide)))).other W172 (Or.inr (slot_ne (Or.inl (hw _ (own_w 29 rfl))) (Or.inl (hw _ (own_w 33 rfl))) (by decide) (t := .int) (t' := .int) (by decide) (by decide))))
                      refine ⟨?_, N172, kp173, f179, ?_, ?_, ?_, ?_, ?_, ?_, ?_⟩
                      · simp only [own_f5_0_2, if_neg hc2, if_neg hc7, if_pos hc17, if_neg hc51, if_pos hc64, if_neg hc77, if_neg hc51_2, if_pos hc64_2, if_neg hc77_2]
                      · exact f180
                      · exact f181
                      · exact f182
                      · rw [show (own_p5_0_2_first p1 p2 wl we) = (2 : Int32) from (by simp only [own_p5_0_2_first, if_neg hc2, if_neg hc7, if_pos hc17, if_neg hc51, if_pos hc64, if_neg hc77, if_neg hc51_2, if_pos hc64_2, if_neg hc77_2])]; exact Fw172
                      · exact f175
                      · rw [show (own_p5_0_2_askedLine p1 p2 al) = al from (by simp only [own_p5_0_2_askedLine, if_neg hc2, if_neg hc7, if_pos hc17, if_neg hc51, if_pos hc64, if_neg hc77, if_neg hc51_2, if_pos hc64_2, if_neg hc77_2])]; exact f183
                      · rw [show (own_p5_0_2_passedChange p1 p2 wl we wc al pc) = ((pc + (wc.getD 0 (0 : Int32))) + (wc.getD 1 (0 : Int32))) from (by simp only [own_p5_0_2_passedChange, if_neg hc2, if_neg hc7, if_pos hc17, if_neg hc51, if_pos hc64, if_neg hc77, if_neg hc51_2, if_pos hc64_2, if_neg hc77_2])]; exact f177
                · have f184 := (Fw108.other W113 (Or.inr (slot_ne (Or.inl (hw _ (own_w 31 rfl))) (Or.inl (hw _ (own_w 33 rfl))) (by decide) (t := .int) (t' := .int) (by decide) (by decide))))
                  obtain ⟨T185, X185, e185, st185⟩ := getF X142 hx hZ hown (host := "") (Or.inl (hw _ (own_w 30 rfl))) Via.refl e142 f184 (g := (mkF m 126 #[.val (.ref a0), .val (.int p1), .val (.int p2)] [(.ref a0), (.int p2)])) rfl rfl (hb hby d5_126)
                  obtain ⟨fs, hr, hrun, hended, hW, hsame⟩ := X185.leave (v := some (.int (p2 - (pc + (wc.getD 0 (0 : Int32)))))) (fun h => by rw [Bd.returns] at h; cases h)
                  refine ⟨_, _, pre144 _ ?_, hrun, hended, _, _, rfl, ?_, ⟨_, rfl⟩, hW, hsame.mono (by decide) (by decide)⟩
                  · show Steps p.tables e below (T142.setTop (mkF m 64 #[.val (.ref a0), .val (.int p1), .val (.int p2)] [(.int p1), (.int (wl.getD 1 (0 : Int32)))])) _
                    refine XS.icmpYes X142.here hx rfl (pc0 := 64) (pc' := 124) rfl (hb hby d5_64) rfl (feq hc64_2).2 (by decide) (by decide) ?_
                    refine XS.iloadN X142.here hx rfl (hb hby d5_124) rfl ?_
                    refine XS.aloadN X142.here hx rfl (hb hby d5_125) rfl rfl ?_
                    refine st185 _ ?_
                    refine XS.isub X185.here hx rfl (hb hby d5_129) rfl ?_
                    show Steps p.tables e below (T185.setTop (mkF m 130 #[.val (.ref a0), .val (.int p1), .val (.int p2)] [(.int (p2 - (pc + (wc.getD 0 (0 : Int32)))))])) _
                    exact retI X185 hx Bd.returns (hb hby d5_130) hr
                  · show Q5_0_2 Z a0 p1 p2 la ea ca kl ke kc wl we wc al pc h0 n0 _ T185.heap _
                    rw [e185]
                    unfold Q5_0_2
                    have f186 := (f112.wr W113)
                    have f187 := ((F_a0_ends.other W108 (Or.inr (slot_ne (Or.inl (hw _ (own_w 20 rfl))) (Or.inl (hw _ (own_w 31 rfl))) (by decide) (t := (.array .int)) (t' := .int) (by decide) (by decide)))).other W113 (Or.inr (slot_ne (Or.inl (hw _ (own_w 20 rfl))) (Or.inl (hw _ (own_w 33 rfl))) (by decide) (t := (.array .int)) (t' := .int) (by decide) (by decide))))
                    have f188 := ((F_a0_changes.other W108 (Or.inr (slot_ne (Or.inl (hw _ (own_w 22 rfl))) (Or.inl (hw _ (own_w 31 rfl))) (by decide) (t := (.array .int)) (t' := .int) (by decide) (by decide)))).other W113 (Or.inr (slot_ne (Or.inl (hw _ (own_w 22 rfl))) (Or.inl (hw _ (own_w 33 rfl))) (by decide) (t := (.array .int)) (t' := .int) (by decide) (by decide))))
                    have f189 := ((F_a0_askedLine.other W108 (Or.inr (slot_ne (Or.inl (hw _ (own_w 29 rfl))) (Or.inl (hw _ (own_w 31 rfl))) (by decide) (t := .int) (t' := .int) (by decide) (by decide)))).other W113 (Or.inr (slot_ne (Or.inl (hw _ (own_w 29 rfl))) (Or.inl (hw _ (own_w 33 rfl))) (by decide) (t := .int) (t' := .int) (by decide) (by decide))))
                    refine ⟨?_, N113, kp114, f186, ?_, ?_, ?_, ?_, ?_, ?_, ?_⟩
                    · simp only [own_f5_0_2, if_neg hc2, if_neg hc7, if_pos hc17, if_neg hc51, if_pos hc64, if_neg hc77, if_neg hc51_2, if_neg hc64_2]
                    · exact f118
                    · exact f187
                    · exact f188
                    · rw [show (own_p5_0_2_first p1 p2 wl we) = (1 : Int32) from (by simp only [own_p5_0_2_first, if_neg hc2, if_neg hc7, if_pos hc17, if_neg hc51, if_pos hc64, if_neg hc77, if_neg hc51_2, if_neg hc64_2])]; exact Fw113
                    · exact f116
                    · rw [show (own_p5_0_2_askedLine p1 p2 al) = al from (by simp only [own_p5_0_2_askedLine, if_neg hc2, if_neg hc7, if_pos hc17, if_neg hc51, if_pos hc64, if_neg hc77, if_neg hc51_2, if_neg hc64_2])]; exact f189
                    · rw [show (own_p5_0_2_passedChange p1 p2 wl we wc al pc) = (pc + (wc.getD 0 (0 : Int32))) from (by simp only [own_p5_0_2_passedChange, if_neg hc2, if_neg hc7, if_pos hc17, if_neg hc51, if_pos hc64, if_neg hc77, if_neg hc51_2, if_neg hc64_2])]; exact f184
          · obtain ⟨T190, X190, e190, st190⟩ := getF X93 hx hZ hown (host := "") (Or.inl (hw _ (own_w 30 rfl))) Via.refl e93 F_a0_passedChange (g := (mkF m 126 #[.val (.ref a0), .val (.int p1), .val (.int p2)] [(.ref a0), (.int p2)])) rfl rfl (hb hby d5_126)
            obtain ⟨fs, hr, hrun, hended, hW, hsame⟩ := X190.leave (v := some (.int (p2 - pc))) (fun h => by rw [Bd.returns] at h; cases h)
            refine ⟨_, _, pre95 _ ?_, hrun, hended, _, _, rfl, ?_, ⟨_, rfl⟩, hW, hsame.mono (by decide) (by decide)⟩
            · show Steps p.tables e below (T93.setTop (mkF m 64 #[.val (.ref a0), .val (.int p1), .val (.int p2)] [(.int p1), (.int (wl.getD 0 (0 : Int32)))])) _
              refine XS.icmpYes X93.here hx rfl (pc0 := 64) (pc' := 124) rfl (hb hby d5_64) rfl (feq hc64).2 (by decide) (by decide) ?_
              refine XS.iloadN X93.here hx rfl (hb hby d5_124) rfl ?_
              refine XS.aloadN X93.here hx rfl (hb hby d5_125) rfl rfl ?_
              refine st190 _ ?_
              refine XS.isub X190.here hx rfl (hb hby d5_129) rfl ?_
              show Steps p.tables e below (T190.setTop (mkF m 130 #[.val (.ref a0), .val (.int p1), .val (.int p2)] [(.int (p2 - pc))])) _
              exact retI X190 hx Bd.returns (hb hby d5_130) hr
            · show Q5_0_2 Z a0 p1 p2 la ea ca kl ke kc wl we wc al pc h0 n0 _ T190.heap _
              rw [e190]
              unfold Q5_0_2
              refine ⟨?_, N0, (Keep.refl h0 [a0]), E_a0, ?_, ?_, ?_, ?_, ?_, ?_, ?_⟩
              · simp only [own_f5_0_2, if_neg hc2, if_neg hc7, if_pos hc17, if_neg hc51, if_neg hc64]
              · exact F_a0_lines
              · exact F_a0_ends
              · exact F_a0_changes
              · rw [show (own_p5_0_2_first p1 p2 wl we) = (0 : Int32) from (by simp only [own_p5_0_2_first, if_neg hc2, if_neg hc7, if_pos hc17, if_neg hc51, if_neg hc64])]; exact F_a0_first
              · exact F_a0_end
              · rw [show (own_p5_0_2_askedLine p1 p2 al) = al from (by simp only [own_p5_0_2_askedLine, if_neg hc2, if_neg hc7, if_pos hc17, if_neg hc51, if_neg hc64])]; exact F_a0_askedLine
              · rw [show (own_p5_0_2_passedChange p1 p2 wl we wc al pc) = pc from (by simp only [own_p5_0_2_passedChange, if_neg hc2, if_neg hc7, if_pos hc17, if_neg hc51, if_neg hc64])]; exact F_a0_passedChange
      · obtain ⟨T191, h191, X191, e191, W191, st191⟩ := putF X3 hx hZ hown (host := "") (Or.inl (hw _ (own_w 28 rfl))) Via.refl e3 F_a0_askedLine E_a0 (Or.inl (hw _ (own_w 29 rfl))) (hw _ (own_w 8 rfl)) (ty := .int) (by decide) rfl rfl (g := (mkF m 22 #[.val (.ref a0), .val (.int p1), .val (.int p2)] [(.int p1), (.ref a0)])) rfl rfl (hb hby d5_22)
        have Fw191 := F_a0_askedLine.same W191
        have N191 := Fr.snoc X191 N0 g_a0
        have kp192 : Keep h0 h191 [a0] := (Keep.refl h0 [a0]).wr W191 (Or.inl (own_w 0 rfl))
        have f193 := (E_a0.wr W191)
        have f194 := (F_a0_passedChange.other W191 (Or.inr (slot_ne (Or.inl (hw _ (own_w 31 rfl))) (Or.inl (hw _ (own_w 29 rfl))) (by decide) (t := .int) (t' := .int) (by decide) (by decide))))
        obtain ⟨T195, h195, X195, e195, W195, st195⟩ := putF X191 hx hZ hown (host := "") (Or.inl (hw _ (own_w 30 rfl))) Via.refl e191 f194 f193 (Or.inl (hw _ (own_w 31 rfl))) (hw _ (own_w 8 rfl)) (ty := .int) (by decide) rfl rfl (g := (mkF m 27 #[.val (.ref a0), .val (.int p1), .val (.int p2)] [(.int (0 : Int32)), (.ref a0)])) rfl rfl (hb hby d5_27)
        have Fw195 := f194.same W195
        have N195 := Fr.snoc X195 N191 g_a0
        have kp196 : Keep h0 h195 [a0] := kp192.wr W195 (Or.inl (own_w 0 rfl))
        have f197 := ((F_a0_first.other W191 (Or.inr (slot_ne (Or.inl (hw _ (own_w 33 rfl))) (Or.inl (hw _ (own_w 29 rfl))) (by decide) (t := .int) (t' := .int) (by decide) (by decide)))).other W195 (Or.inr (slot_ne (Or.inl (hw _ (own_w 33 rfl))) (Or.inl (hw _ (own_w 31 rfl))) (by decide) (t := .int) (t' := .int) (by decide) (by decide))))
        obtain ⟨T198, X198, e198, st198⟩ := getF X195 hx hZ hown (host := "") (Or.inl (hw _ (own_w 32 rfl))) Via.refl e195 f197 (g := (mkF m 31 #[.val (.ref a0), .val (.int p1), .val (.int p2)] [(.ref a0)])) rfl rfl (hb hby d5_31)
        have f199 := ((F_a0_end.other W191 (Or.inr (slot_ne (Or.inl (hw _ (own_w 35 rfl))) (Or.inl (hw _ (own_w 29 rfl))) (by decide) (t := .int) (t' := .int) (by decide) (by decide)))).other W195 (Or.inr (slot_ne (Or.inl (hw _ (own_w 35 rfl))) (Or.inl (hw _ (own_w 31 rfl))) (by decide) (t := .int) (t' := .int) (by decide) (by decide))))
        obtain ⟨T200, X200, e200, st200⟩ := getF X198 hx hZ hown (host := "") (Or.inl (hw _ (own_w 34 rfl))) Via.refl e198 f199 (g := (mkF m 35 #[.val (.ref a0), .val (.int p1), .val (.int p2)] [(.ref a0), (.int (0 : Int32))])) rfl rfl (hb hby d5_35)
        have f201 := ((F_a0_lines.other W191 (Or.inr (slot_ne (Or.inl (hw _ (own_w 18 rfl))) (Or.inl (hw _ (own_w 29 rfl))) (by decide) (t := (.array .int)) (t' := .int) (by decide) (by decide)))).other W195 (Or.inr (slot_ne (Or.inl (hw _ (own_w 18 rfl))) (Or.inl (hw _ (own_w 31 rfl))) (by decide) (t := (.array .int)) (t' := .int) (by decide) (by decide))))
        obtain ⟨T202, X202, e202, st202⟩ := getF X200 hx hZ hown (host := "") (Or.inl (hw _ (own_w 17 rfl))) Via.refl e200 f201 (g := (mkF m 42 #[.val (.ref a0), .val (.int p1), .val (.int p2)] [(.ref a0)])) rfl rfl (hb hby d5_42)
        obtain ⟨T203, X203, e203, st203⟩ := getF X202 hx hZ hown (host := "") (Or.inl (hw _ (own_w 32 rfl))) Via.refl e202 f197 (g := (mkF m 46 #[.val (.ref a0), .val (.int p1), .val (.int p2)] [(.ref a0), (.ref la)])) rfl rfl (hb hby d5_46)
        have f204 := ((V_la.other W191 (Ne.symm ne_a0_la)).other W195 (Ne.symm ne_a0_la))
        obtain ⟨cl205, Ar205, hin205, hat205⟩ := own_AI.at f204 (j := (0 : Int32)) ⟨by decide, by decide⟩
        have pre206 : own_Pre p e below (s₁.setTop (entryFrame m #[(.ref a0), (.int p1), (.int p2)] 3)) (T203.setTop (mkF m 51 #[.val (.ref a0), .val (.int p1), .val (.int p2)] [(.int p1), (.int (wl.getD 0 (0 : Int32)))])) := fun t k => pre4 t (by
            show Steps p.tables e below (T3.setTop (mkF m 17 #[.val (.ref a0), .val (.int p1), .val (.int p2)] [(.int al), (.int p1)])) _
            refine XS.icmpNo X3.here hx rfl (hb hby d5_17) rfl (feq hc17).1 ?_
            refine XS.aloadN X3.here hx rfl (hb hby d5_20) rfl rfl ?_
            refine XS.iloadN X3.here hx rfl (hb hby d5_21) rfl ?_
            refine st191 _ ?_
            refine XS.aloadN X191.here hx rfl (hb hby d5_25) rfl rfl ?_
            show Steps p.tables e below (T191.setTop (mkF m 26 #[.val (.ref a0), .val (.int p1), .val (.int p2)] [(.ref a0)])) _
            refine XS.iconst X191.here hx rfl (hb hby d5_26) ?_
            refine st195 _ ?_
            refine XS.aloadN X195.here hx rfl (hb hby d5_30) rfl rfl ?_
            refine st198 _ ?_
            refine XS.aloadN X198.here hx rfl (hb hby d5_34) rfl rfl ?_
            show Steps p.tables e below (T198.setTop (mkF m 35 #[.val (.ref a0), .val (.int p1), .val (.int p2)] [(.ref a0), (.int (0 : Int32))])) _
            refine st200 _ ?_
            refine XS.icmpNo X200.here hx rfl (hb hby d5_38) rfl (tlt (by decide : ((0 : Int32) < (2 : Int32)))).2.1 ?_
            refine XS.aloadN X200.here hx rfl (hb hby d5_41) rfl rfl ?_
            refine st202 _ ?_
            refine XS.aloadN X202.here hx rfl (hb hby d5_45) rfl rfl ?_
            show Steps p.tables e below (T202.setTop (mkF m 46 #[.val (.ref a0), .val (.int p1), .val (.int p2)] [(.ref a0), (.ref la)])) _
            refine st203 _ ?_
            refine X203.iaload hx (j := (0 : Int32)) (v := (.int (wl.getD 0 (0 : Int32)))) (by rw [e203]; exact Ar205.1) (State.isArrayOf_alike hZ.alike Ar205.2.1) Ar205.2.2 hin205 hat205 (g := (mkF m 49 #[.val (.ref a0), .val (.int p1), .val (.int p2)] [(.int (0 : Int32)), (.ref la)])) rfl rfl (hb hby d5_49) _ ?_
            refine XS.iloadN X203.here hx rfl (hb hby d5_50) rfl ?_
            exact k)
        by_cases hc51 : (wl.getD 0 (0 : Int32)) < p1
        · obtain ⟨T207, X207, e207, st207⟩ := getF X203 hx hZ hown (host := "") (Or.inl (hw _ (own_w 17 rfl))) Via.refl e203 f201 (g := (mkF m 81 #[.val (.ref a0), .val (.int p1), .val (.int p2)] [(.ref a0)])) rfl rfl (hb hby d5_81)
          obtain ⟨T208, X208, e208, st208⟩ := getF X207 hx hZ hown (host := "") (Or.inl (hw _ (own_w 32 rfl))) Via.refl e207 f197 (g := (mkF m 85 #[.val (.ref a0), .val (.int p1), .val (.int p2)] [(.ref a0), (.ref la)])) rfl rfl (hb hby d5_85)
          obtain ⟨cl209, Ar209, hin209, hat209⟩ := own_AI.at f204 (j := (0 : Int32)) ⟨by decide, by decide⟩
          have hc90 : ¬ ((wl.getD 0 (0 : Int32)) = p1) := own_nlt hc51
          obtain ⟨T210, X210, e210, st210⟩ := getF X208 hx hZ hown (host := "") (Or.inl (hw _ (own_w 32 rfl))) Via.refl e208 f197 (g := (mkF m 113 #[.val (.ref a0), .val (.int p1), .val (.int p2)] [(.ref a0), (.ref a0)])) rfl rfl (hb hby d5_113)
          have f211 := (f193.wr W195)
          obtain ⟨T212, h212, X212, e212, W212, st212⟩ := putF X210 hx hZ hown (host := "") (Or.inl (hw _ (own_w 32 rfl))) Via.refl e210 f197 f211 (Or.inl (hw _ (own_w 33 rfl))) (hw _ (own_w 8 rfl)) (ty := .int) (by decide) rfl rfl (g := (mkF m 118 #[.val (.ref a0), .val (.int p1), .val (.int p2)] [(.int (1 : Int32)), (.ref a0)])) rfl rfl (hb hby d5_118)
          have Fw212 := f197.same W212
          have N212 := Fr.snoc X212 N195 g_a0
          have kp213 : Keep h0 h212 [a0] := kp196.wr W212 (Or.inl (own_w 0 rfl))
          obtain ⟨T214, X214, e214, st214⟩ := getF X212 hx hZ hown (host := "") (Or.inl (hw _ (own_w 32 rfl))) Via.refl e212 Fw212 (g := (mkF m 31 #[.val (.ref a0), .val (.int p1), .val (.int p2)] [(.ref a0)])) rfl rfl (hb hby d5_31)
          have f215 := (f199.other W212 (Or.inr (slot_ne (Or.inl (hw _ (own_w 35 rfl))) (Or.inl (hw _ (own_w 33 rfl))) (by decide) (t := .int) (t' := .int) (by decide) (by decide))))
          obtain ⟨T216, X216, e216, st216⟩ := getF X214 hx hZ hown (host := "") (Or.inl (hw _ (own_w 34 rfl))) Via.refl e214 f215 (g := (mkF m 35 #[.val (.ref a0), .val (.int p1), .val (.int p2)] [(.ref a0), (.int (1 : Int32))])) rfl rfl (hb hby d5_35)
          have f217 := (f201.other W212 (Or.inr (slot_ne (Or.inl (hw _ (own_w 18 rfl))) (Or.inl (hw _ (own_w 33 rfl))) (by decide) (t := (.array .int)) (t' := .int) (by decide) (by decide))))
          obtain ⟨T218, X218, e218, st218⟩ := getF X216 hx hZ hown (host := "") (Or.inl (hw _ (own_w 17 rfl))) Via.refl e216 f217 (g := (mkF m 42 #[.val (.ref a0), .val (.int p1), .val (.int p2)] [(.ref a0)])) rfl rfl (hb hby d5_42)
          obtain ⟨T219, X219, e219, st219⟩ := getF X218 hx hZ hown (host := "") (Or.inl (hw _ (own_w 32 rfl))) Via.refl e218 Fw212 (g := (mkF m 46 #[.val (.ref a0), .val (.int p1), .val (.int p2)] [(.ref a0), (.ref la)])) rfl rfl (hb hby d5_46)
          have f220 := (f204.other W212 (Ne.symm ne_a0_la))
          obtain ⟨cl221, Ar221, hin221, hat221⟩ := own_AI.at f220 (j := (1 : Int32)) ⟨by decide, by decide⟩
          have pre222 : own_Pre p e below (s₁.setTop (entryFrame m #[(.ref a0), (.int p1), (.int p2)] 3)) (T219.setTop (mkF m 51 #[.val (.ref a0), .val (.int p1), .val (.int p2)] [(.int p1), (.int (wl.getD 1 (0 : Int32)))])) := fun t k => pre206 t (by
              show Steps p.tables e below (T203.setTop (mkF m 51 #[.val (.ref a0), .val (.int p1), .val (.int p2)] [(.int p1), (.int (wl.getD 0 (0 : Int32)))])) _
              refine XS.icmpYes X203.here hx rfl (pc0 := 51) (pc' := 80) rfl (hb hby d5_51) rfl (tlt hc51).1 (by decide) (by decide) ?_
              refine XS.aloadN X203.here hx rfl (hb hby d5_80) rfl rfl ?_
              refine st207 _ ?_
              refine XS.aloadN X207.here hx rfl (hb hby d5_84) rfl rfl ?_
              refine st208 _ ?_
              show Steps p.tables e below (T208.setTop (mkF m 88 #[.val (.ref a0), .val (.int p1), .val (.int p2)] [(.int (0 : Int32)), (.ref la)])) _
              refine X208.iaload hx (j := (0 : Int32)) (v := (.int (wl.getD 0 (0 : Int32)))) (by rw [e208]; exact Ar209.1) (State.isArrayOf_alike hZ.alike Ar209.2.1) Ar209.2.2 hin209 hat209 (g := (mkF m 88 #[.val (.ref a0), .val (.int p1), .val (.int p2)] [(.int (0 : Int32)), (.ref la)])) rfl rfl (hb hby d5_88) _ ?_
              refine XS.iloadN X208.here hx rfl (hb hby d5_89) rfl ?_
              refine XS.icmpYes X208.here hx rfl (pc0 := 90) (pc' := 111) rfl (hb hby d5_90) rfl (feq hc90).2 (by decide) (by decide) ?_
              refine XS.aloadN X208.here hx rfl (hb hby d5_111) rfl rfl ?_
              refine XS.dup X208.here hx rfl (hb hby d5_112) rfl rfl ?_
              show Steps p.tables e below (T208.setTop (mkF m 113 #[.val (.ref a0), .val (.int p1), .val (.int p2)] [(.ref a0), (.ref a0)])) _
              refine st210 _ ?_
              refine XS.iconst X210.here hx rfl (hb hby d5_116) ?_
              refine XS.iadd X210.here hx rfl (hb hby d5_117) rfl ?_
              refine st212 _ ?_
              refine XS.goto X212.here hx rfl (pc0 := 121) (pc' := 30) rfl (hb hby d5_121) (by decide) (by decide) ?_
              show Steps p.tables e below (T212.setTop (mkF m 30 #[.val (.ref a0), .val (.int p1), .val (.int p2)] [])) _
              refine XS.aloadN X212.here hx rfl (hb hby d5_30) rfl rfl ?_
              refine st214 _ ?_
              refine XS.aloadN X214.here hx rfl (hb hby d5_34) rfl rfl ?_
              refine st216 _ ?_
              refine XS.icmpNo X216.here hx rfl (hb hby d5_38) rfl (tlt (by decide : ((1 : Int32) < (2 : Int32)))).2.1 ?_
              show Steps p.tables e below (T216.setTop (mkF m 41 #[.val (.ref a0), .val (.int p1), .val (.int p2)] [])) _
              refine XS.aloadN X216.here hx rfl (hb hby d5_41) rfl rfl ?_
              refine st218 _ ?_
              refine XS.aloadN X218.here hx rfl (hb hby d5_45) rfl rfl ?_
              refine st219 _ ?_
              refine X219.iaload hx (j := (1 : Int32)) (v := (.int (wl.getD 1 (0 : Int32)))) (by rw [e219]; exact Ar221.1) (State.isArrayOf_alike hZ.alike Ar221.2.1) Ar221.2.2 hin221 hat221 (g := (mkF m 49 #[.val (.ref a0), .val (.int p1), .val (.int p2)] [(.int (1 : Int32)), (.ref la)])) rfl rfl (hb hby d5_49) _ ?_
              show Steps p.tables e below (T219.setTop (mkF m 50 #[.val (.ref a0), .val (.int p1), .val (.int p2)] [(.int (wl.getD 1 (0 : Int32)))])) _
              refine XS.iloadN X219.here hx rfl (hb hby d5_50) rfl ?_
              exact k)
          by_cases hc51_2 : (wl.getD 1 (0 : Int32)) < p1
          · obtain ⟨T223, X223, e223, st223⟩ := getF X219 hx hZ hown (host := "") (Or.inl (hw _ (own_w 17 rfl))) Via.refl e219 f217 (g := (mkF m 81 #[.val (.ref a0), .val (.int p1), .val (.int p2)] [(.ref a0)])) rfl rfl (hb hby d5_81)
            obtain ⟨T224, X224, e224, st224⟩ := getF X223 hx hZ hown (host := "") (Or.inl (hw _ (own_w 32 rfl))) Via.refl e223 Fw212 (g := (mkF m 85 #[.val (.ref a0), .val (.int p1), .val (.int p2)] [(.ref a0), (.ref la)])) rfl rfl (hb hby d5_85)
            obtain ⟨cl225, Ar225, hin225, hat225⟩ := own_AI.at f220 (j := (1 : Int32)) ⟨by decide, by decide⟩
            have hc90_2 : ¬ ((wl.getD 1 (0 : Int32)) = p1) := own_nlt hc51_2
            obtain ⟨T226, X226, e226, st226⟩ := getF X224 hx hZ hown (host := "") (Or.inl (hw _ (own_w 32 rfl))) Via.refl e224 Fw212 (g := (mkF m 113 #[.val (.ref a0), .val (.int p1), .val (.int p2)] [(.ref a0), (.ref a0)])) rfl rfl (hb hby d5_113)
            have f227 := (f211.wr W212)
            obtain ⟨T228, h228, X228, e228, W228, st228⟩ := putF X226 hx hZ hown (host := "") (Or.inl (hw _ (own_w 32 rfl))) Via.refl e226 Fw212 f227 (Or.inl (hw _ (own_w 33 rfl))) (hw _ (own_w 8 rfl)) (ty := .int) (by decide) rfl rfl (g := (mkF m 118 #[.val (.ref a0), .val (.int p1), .val (.int p2)] [(.int (2 : Int32)), (.ref a0)])) rfl rfl (hb hby d5_118)
            have Fw228 := Fw212.same W228
            have N228 := Fr.snoc X228 N212 g_a0
            have kp229 : Keep h0 h228 [a0] := kp213.wr W228 (Or.inl (own_w 0 rfl))
            obtain ⟨T230, X230, e230, st230⟩ := getF X228 hx hZ hown (host := "") (Or.inl (hw _ (own_w 32 rfl))) Via.refl e228 Fw228 (g := (mkF m 31 #[.val (.ref a0), .val (.int p1), .val (.int p2)] [(.ref a0)])) rfl rfl (hb hby d5_31)
            have f231 := (f215.other W228 (Or.inr (slot_ne (Or.inl (hw _ (own_w 35 rfl))) (Or.inl (hw _ (own_w 33 rfl))) (by decide) (t := .int) (t' := .int) (by decide) (by decide))))
            obtain ⟨T232, X232, e232, st232⟩ := getF X230 hx hZ hown (host := "") (Or.inl (hw _ (own_w 34 rfl))) Via.refl e230 f231 (g := (mkF m 35 #[.val (.ref a0), .val (.int p1), .val (.int p2)] [(.ref a0), (.int (2 : Int32))])) rfl rfl (hb hby d5_35)
            have f233 := ((Fw195.other W212 (Or.inr (slot_ne (Or.inl (hw _ (own_w 31 rfl))) (Or.inl (hw _ (own_w 33 rfl))) (by decide) (t := .int) (t' := .int) (by decide) (by decide)))).other W228 (Or.inr (slot_ne (Or.inl (hw _ (own_w 31 rfl))) (Or.inl (hw _ (own_w 33 rfl))) (by decide) (t := .int) (t' := .int) (by decide) (by decide))))
            obtain ⟨T234, X234, e234, st234⟩ := getF X232 hx hZ hown (host := "") (Or.inl (hw _ (own_w 30 rfl))) Via.refl e232 f233 (g := (mkF m 126 #[.val (.ref a0), .val (.int p1), .val (.int p2)] [(.ref a0), (.int p2)])) rfl rfl (hb hby d5_126)
            obtain ⟨fs, hr, hrun, hended, hW, hsame⟩ := X234.leave (v := some (.int (p2 - (0 : Int32)))) (fun h => by rw [Bd.returns] at h; cases h)
            refine ⟨_, _, pre222 _ ?_, hrun, hended, _, _, rfl, ?_, ⟨_, rfl⟩, hW, hsame.mono (by decide) (by decide)⟩
            · show Steps p.tables e below (T219.setTop (mkF m 51 #[.val (.ref a0), .val (.int p1), .val (.int p2)] [(.int p1), (.int (wl.getD 1 (0 : Int32)))])) _
              refine XS.icmpYes X219.here hx rfl (pc0 := 51) (pc' := 80) rfl (hb hby d5_51) rfl (tlt hc51_2).1 (by decide) (by decide) ?_
              refine XS.aloadN X219.here hx rfl (hb hby d5_80) rfl rfl ?_
              refine st223 _ ?_
              refine XS.aloadN X223.here hx rfl (hb hby d5_84) rfl rfl ?_
              refine st224 _ ?_
              show Steps p.tables e below (T224.setTop (mkF m 88 #[.val (.ref a0), .val (.int p1), .val (.int p2)] [(.int (1 : Int32)), (.ref la)])) _
              refine X224.iaload hx (j := (1 : Int32)) (v := (.int (wl.getD 1 (0 : Int32)))) (by rw [e224]; exact Ar225.1) (State.isArrayOf_alike hZ.alike Ar225.2.1) Ar225.2.2 hin225 hat225 (g := (mkF m 88 #[.val (.ref a0), .val (.int p1), .val (.int p2)] [(.int (1 : Int32)), (.ref la)])) rfl rfl (hb hby d5_88) _ ?_
              refine XS.iloadN X224.here hx rfl (hb hby d5_89) rfl ?_
              refine XS.icmpYes X224.here hx rfl (pc0 := 90) (pc' := 111) rfl (hb hby d5_90) rfl (feq hc90_2).2 (by decide) (by decide) ?_
              refine XS.aloadN X224.here hx rfl (hb hby d5_111) rfl rfl ?_
              refine XS.dup X224.here hx rfl (hb hby d5_112) rfl rfl ?_
              show Steps p.tables e below (T224.setTop (mkF m 113 #[.val (.ref a0), .val (.int p1), .val (.int p2)] [(.ref a0), (.ref a0)])) _
              refine st226 _ ?_
              refine XS.iconst X226.here hx rfl (hb hby d5_116) ?_
              refine XS.iadd X226.here hx rfl (hb hby d5_117) rfl ?_
              refine st228 _ ?_
              refine XS.goto X228.here hx rfl (pc0 := 121) (pc' := 30) rfl (hb hby d5_121) (by decide) (by decide) ?_
              show Steps p.tables e below (T228.setTop (mkF m 30 #[.val (.ref a0), .val (.int p1), .val (.int p2)] [])) _
              refine XS.aloadN X228.here hx rfl (hb hby d5_30) rfl rfl ?_
              refine st230 _ ?_
              refine XS.aloadN X230.here hx rfl (hb hby d5_34) rfl rfl ?_
              refine st232 _ ?_
              refine XS.icmpYes X232.here hx rfl (pc0 := 38) (pc' := 124) rfl (hb hby d5_38) rfl (flt (by decide : ¬ ((2 : Int32) < (2 : Int32)))).2.1 (by decide) (by decide) ?_
              show Steps p.tables e below (T232.setTop (mkF m 124 #[.val (.ref a0), .val (.int p1), .val (.int p2)] [])) _
              refine XS.iloadN X232.here hx rfl (hb hby d5_124) rfl ?_
              refine XS.aloadN X232.here hx rfl (hb hby d5_125) rfl rfl ?_
              refine st234 _ ?_
              refine XS.isub X234.here hx rfl (hb hby d5_129) rfl ?_
              show Steps p.tables e below (T234.setTop (mkF m 130 #[.val (.ref a0), .val (.int p1), .val (.int p2)] [(.int (p2 - (0 : Int32)))])) _
              exact retI X234 hx Bd.returns (hb hby d5_130) hr
            · show Q5_0_2 Z a0 p1 p2 la ea ca kl ke kc wl we wc al pc h0 n0 _ T234.heap _
              rw [e234]
              unfold Q5_0_2
              have f235 := (f227.wr W228)
              have f236 := (f217.other W228 (Or.inr (slot_ne (Or.inl (hw _ (own_w 18 rfl))) (Or.inl (hw _ (own_w 33 rfl))) (by decide) (t := (.array .int)) (t' := .int) (by decide) (by decide))))
              have f237 := ((((F_a0_ends.other W191 (Or.inr (slot_ne (Or.inl (hw _ (own_w 20 rfl))) (Or.inl (hw _ (own_w 29 rfl))) (by decide) (t := (.array .int)) (t' := .int) (by decide) (by decide)))).other W195 (Or.inr (slot_ne (Or.inl (hw _ (own_w 20 rfl))) (Or.inl (hw _ (own_w 31 rfl))) (by decide) (t := (.array .int)) (t' := .int) (by decide) (by decide)))).other W212 (Or.inr (slot_ne (Or.inl (hw _ (own_w 20 rfl))) (Or.inl (hw _ (own_w 33 rfl))) (by decide) (t := (.array .int)) (t' := .int) (by decide) (by decide)))).other W228 (Or.inr (slot_ne (Or.inl (hw _ (own_w 20 rfl))) (Or.inl (hw _ (own_w 33 rfl))) (by decide) (t := (.array .int)) (t' := .int) (by decide) (by decide))))
              have f238 := ((((F_a0_changes.other W191 (Or.inr (slot_ne (Or.inl (hw _ (own_w 22 rfl))) (Or.inl (hw _ (own_w 29 rfl))) (by decide) (t := (.array .int)) (t' := .int) (by decide) (by decide)))).other W195 (Or.inr (slot_ne (Or.inl (hw _ (own_w 22 rfl))) (Or.inl (hw _ (own_w 31 rfl))) (by decide) (t := (.array .int)) (t' := .int) (by decide) (by decide)))).other W212 (Or.inr (slot_ne (Or.inl (hw _ (own_w 22 rfl))) (Or.inl (hw _ (own_w 33 rfl))) (by decide) (t := (.array .int)) (t' := .int) (by decide) (by decide)))).other W228 (Or.inr (slot_ne (Or.inl (hw _ (own_w 22 rfl))) (Or.inl (hw _ (own_w 33 rfl))) (by decide) (t := (.array .int)) (t' := .int) (by decide) (by decide))))
              have f239 := (((Fw191.other W195 (Or.inr (slot_ne (Or.inl (hw _ (own_w 29 rfl))) (Or.inl (hw _ (own_w 31 rfl))) (by decide) (t := .int) (t' := .int) (by decide) (by decide)))).other W212 (Or.inr (slot_ne (Or.inl (hw _ (own_w 29 rfl))) (Or.inl (hw _ (own_w 33 rfl))) (by decide) (t := .int) (t' := .int) (by decide) (by decide)))).other W228 (Or.inr (slot_ne (Or.inl (hw _ (own_w 29 rfl))) (Or.inl (hw _ (own_w 33 rfl))) (by decide) (t := .int) (t' := .int) (by decide) (by decide))))
              refine ⟨?_, N228, kp229, f235, ?_, ?_, ?_, ?_, ?_, ?_, ?_⟩
              · simp only [own_f5_0_2, if_neg hc2, if_neg hc7, if_neg hc17, if_pos hc51, if_pos hc51_2]
              · exact f236
              · exact f237
              · exact f238
              · rw [show (own_p5_0_2_first p1 p2 wl we) = (2 : Int32) from (by simp only [own_p5_0_2_first, if_neg hc2, if_neg hc7, if_neg hc17, if_pos hc51, if_pos hc51_2])]; exact Fw228
              · exact f231
              · rw [show (own_p5_0_2_askedLine p1 p2 al) = p1 from (by simp only [own_p5_0_2_askedLine, if_neg hc2, if_neg hc7, if_neg hc17, if_pos hc51, if_pos hc51_2])]; exact f239
              · rw [show (own_p5_0_2_passedChange p1 p2 wl we wc al pc) = (0 : Int32) from (by simp only [own_p5_0_2_passedChange, if_neg hc2, if_neg hc7, if_neg hc17, if_pos hc51, if_pos hc51_2])]; exact f233
          · obtain ⟨T240, X240, e240, st240⟩ := getF X219 hx hZ hown (host := "") (Or.inl (hw _ (own_w 17 rfl))) Via.refl e219 f217 (g := (mkF m 55 #[.val (.ref a0), .val (.int p1), .val (.int p2)] [(.ref a0)])) rfl rfl (hb hby d5_55)
            obtain ⟨T241, X241, e241, st241⟩ := getF X240 hx hZ hown (host := "") (Or.inl (hw _ (own_w 32 rfl))) Via.refl e240 Fw212 (g := (mkF m 59 #[.val (.ref a0), .val (.int p1), .val (.int p2)] [(.ref a0), (.ref la)])) rfl rfl (hb hby d5_59)
            obtain ⟨cl242, Ar242, hin242, hat242⟩ := own_AI.at f220 (j := (1 : Int32)) ⟨by decide, by decide⟩
            have pre243 : own_Pre p e below (s₁.setTop (entryFrame m #[(.ref a0), (.int p1), (.int p2)] 3)) (T241.setTop (mkF m 64 #[.val (.ref a0), .val (.int p1), .val (.int p2)] [(.int p1), (.int (wl.getD 1 (0 : Int32)))])) := fun t k => pre222 t (by
                show Steps p.tables e below (T219.setTop (mkF m 51 #[.val (.ref a0), .val (.int p1), .val (.int p2)] [(.int p1), (.int (wl.getD 1 (0 : Int32)))])) _
                refine XS.icmpNo X219.here hx rfl (hb hby d5_51) rfl (flt hc51_2).1 ?_
                refine XS.aloadN X219.here hx rfl (hb hby d5_54) rfl rfl ?_
                refine st240 _ ?_
                refine XS.aloadN X240.here hx rfl (hb hby d5_58) rfl rfl ?_
                refine st241 _ ?_
                show Steps p.tables e below (T241.setTop (mkF m 62 #[.val (.ref a0), .val (.int p1), .val (.int p2)] [(.int (1 : Int32)), (.ref la)])) _
                refine X241.iaload hx (j := (1 : Int32)) (v := (.int (wl.getD 1 (0 : Int32)))) (by rw [e241]; exact Ar242.1) (State.isArrayOf_alike hZ.alike Ar242.2.1) Ar242.2.2 hin242 hat242 (g := (mkF m 62 #[.val (.ref a0), .val (.int p1), .val (.int p2)] [(.int (1 : Int32)), (.ref la)])) rfl rfl (hb hby d5_62) _ ?_
                refine XS.iloadN X241.here hx rfl (hb hby d5_63) rfl ?_
                exact k)
            by_cases hc64 : (wl.getD 1 (0 : Int32)) = p1
            · have f244 := (((F_a0_ends.other W191 (Or.inr (slot_ne (Or.inl (hw _ (own_w 20 rfl))) (Or.inl (hw _ (own_w 29 rfl))) (by decide) (t := (.array .int)) (t' := .int) (by decide) (by decide)))).other W195 (Or.inr (slot_ne (Or.inl (hw _ (own_w 20 rfl))) (Or.inl (hw _ (own_w 31 rfl))) (by decide) (t := (.array .int)) (t' := .int) (by decide) (by decide)))).other W212 (Or.inr (slot_ne (Or.inl (hw _ (own_w 20 rfl))) (Or.inl (hw _ (own_w 33 rfl))) (by decide) (t := (.array .int)) (t' := .int) (by decide) (by decide))))
              obtain ⟨T245, X245, e245, st245⟩ := getF X241 hx hZ hown (host := "") (Or.inl (hw _ (own_w 19 rfl))) Via.refl e241 f244 (g := (mkF m 68 #[.val (.ref a0), .val (.int p1), .val (.int p2)] [(.ref a0)])) rfl rfl (hb hby d5_68)
              obtain ⟨T246, X246, e246, st246⟩ := getF X245 hx hZ hown (host := "") (Or.inl (hw _ (own_w 32 rfl))) Via.refl e245 Fw212 (g := (mkF m 72 #[.val (.ref a0), .val (.int p1), .val (.int p2)] [(.ref a0), (.ref ea)])) rfl rfl (hb hby d5_72)
              have f247 := (((V_ea.other W191 (Ne.symm ne_a0_ea)).other W195 (Ne.symm ne_a0_ea)).other W212 (Ne.symm ne_a0_ea))
              obtain ⟨cl248, Ar248, hin248, hat248⟩ := own_AI.at f247 (j := (1 : Int32)) ⟨by decide, by decide⟩
              have pre249 : own_Pre p e below (s₁.setTop (entryFrame m #[(.ref a0), (.int p1), (.int p2)] 3)) (T246.setTop (mkF m 77 #[.val (.ref a0), .val (.int p1), .val (.int p2)] [(.int p2), (.int (we.getD 1 (0 : Int32)))])) := fun t k => pre243 t (by
                  show Steps p.tables e below (T241.setTop (mkF m 64 #[.val (.ref a0), .val (.int p1), .val (.int p2)] [(.int p1), (.int (wl.getD 1 (0 : Int32)))])) _
                  refine XS.icmpNo X241.here hx rfl (hb hby d5_64) rfl (teq hc64).2 ?_
                  refine XS.aloadN X241.here hx rfl (hb hby d5_67) rfl rfl ?_
                  refine st245 _ ?_
                  refine XS.aloadN X245.here hx rfl (hb hby d5_71) rfl rfl ?_
                  refine st246 _ ?_
                  show Steps p.tables e below (T246.setTop (mkF m 75 #[.val (.ref a0), .val (.int p1), .val (.int p2)] [(.int (1 : Int32)), (.ref ea)])) _
                  refine X246.iaload hx (j := (1 : Int32)) (v := (.int (we.getD 1 (0 : Int32)))) (by rw [e246]; exact Ar248.1) (State.isArrayOf_alike hZ.alike Ar248.2.1) Ar248.2.2 hin248 hat248 (g := (mkF m 75 #[.val (.ref a0), .val (.int p1), .val (.int p2)] [(.int (1 : Int32)), (.ref ea)])) rfl rfl (hb hby d5_75) _ ?_
                  refine XS.iloadN X246.here hx rfl (hb hby d5_76) rfl ?_
                  exact k)
              by_cases hc77 : p2 < (we.getD 1 (0 : Int32))
              · have f250 := (Fw195.other W212 (Or.inr (slot_ne (Or.inl (hw _ (own_w 31 rfl))) (Or.inl (hw _ (own_w 33 rfl))) (by decide) (t := .int) (t' := .int) (by decide) (by decide))))
                obtain ⟨T251, X251, e251, st251⟩ := getF X246 hx hZ hown (host := "") (Or.inl (hw _ (own_w 30 rfl))) Via.refl e246 f250 (g := (mkF m 126 #[.val (.ref a0), .val (.int p1), .val (.int p2)] [(.ref a0), (.int p2)])) rfl rfl (hb hby d5_126)
                obtain ⟨fs, hr, hrun, hended, hW, hsame⟩ := X251.leave (v := some (.int (p2 - (0 : Int32)))) (fun h => by rw [Bd.returns] at h; cases h)
                refine ⟨_, _, pre249 _ ?_, hrun, hended, _, _, rfl, ?_, ⟨_, rfl⟩, hW, hsame.mono (by decide) (by decide)⟩
                · show Steps p.tables e below (T246.setTop (mkF m 77 #[.val (.ref a0), .val (.int p1), .val (.int p2)] [(.int p2), (.int (we.getD 1 (0 : Int32)))])) _
                  refine XS.icmpYes X246.here hx rfl (pc0 := 77) (pc' := 124) rfl (hb hby d5_77) rfl (tlt hc77).2.2.1 (by decide) (by decide) ?_
                  refine XS.iloadN X246.here hx rfl (hb hby d5_124) rfl ?_
                  refine XS.aloadN X246.here hx rfl (hb hby d5_125) rfl rfl ?_
                  refine st251 _ ?_
                  refine XS.isub X251.here hx rfl (hb hby d5_129) rfl ?_
                  show Steps p.tables e below (T251.setTop (mkF m 130 #[.val (.ref a0), .val (.int p1), .val (.int p2)] [(.int (p2 - (0 : Int32)))])) _
                  exact retI X251 hx Bd.returns (hb hby d5_130) hr
                · show Q5_0_2 Z a0 p1 p2 la ea ca kl ke kc wl we wc al pc h0 n0 _ T251.heap _
                  rw [e251]
                  unfold Q5_0_2
                  have f252 := (f211.wr W212)
                  have f253 := (((F_a0_changes.other W191 (Or.inr (slot_ne (Or.inl (hw _ (own_w 22 rfl))) (Or.inl (hw _ (own_w 29 rfl))) (by decide) (t := (.array .int)) (t' := .int) (by decide) (by decide)))).other W195 (Or.inr (slot_ne (Or.inl (hw _ (own_w 22 rfl))) (Or.inl (hw _ (own_w 31 rfl))) (by decide) (t := (.array .int)) (t' := .int) (by decide) (by decide)))).other W212 (Or.inr (slot_ne (Or.inl (hw _ (own_w 22 rfl))) (Or.inl (hw _ (own_w 33 rfl))) (by decide) (t := (.array .int)) (t' := .int) (by decide) (by decide))))
                  have f254 := ((Fw191.other W195 (Or.inr (slot_ne (Or.inl (hw _ (own_w 29 rfl))) (Or.inl (hw _ (own_w 31 rfl))) (by decide) (t := .int) (t' := .int) (by decide) (by decide)))).other W212 (Or.inr (slot_ne (Or.inl (hw _ (own_w 29 rfl))) (Or.inl (hw _ (own_w 33 rfl))) (by decide) (t := .int) (t' := .int) (by decide) (by decide))))
                  refine ⟨?_, N212, kp213, f252, ?_, ?_, ?_, ?_, ?_, ?_, ?_⟩
                  · simp only [own_f5_0_2, if_neg hc2, if_neg hc7, if_neg hc17, if_pos hc51, if_neg hc51_2, if_pos hc64, if_pos hc77]
                  · exact f217
                  · exact f244
                  · exact f253
                  · rw [show (own_p5_0_2_first p1 p2 wl we) = (1 : Int32) from (by simp only [own_p5_0_2_first, if_neg hc2, if_neg hc7, if_neg hc17, if_pos hc51, if_neg hc51_2, if_pos hc64, if_pos hc77])]; exact Fw212
                  · exact f215
                  · rw [show (own_p5_0_2_askedLine p1 p2 al) = p1 from (by simp only [own_p5_0_2_askedLine, if_neg hc2, if_neg hc7, if_neg hc17, if_pos hc51, if_neg hc51_2, if_pos hc64, if_pos hc77])]; exact f254
                  · rw [show (own_p5_0_2_passedChange p1 p2 wl we wc al pc) = (0 : Int32) from (by simp only [own_p5_0_2_passedChange, if_neg hc2, if_neg hc7, if_neg hc17, if_pos hc51, if_neg hc51_2, if_pos hc64, if_pos hc77])]; exact f250
              · obtain ⟨T255, X255, e255, st255⟩ := getF X246 hx hZ hown (host := "") (Or.inl (hw _ (own_w 17 rfl))) Via.refl e246 f217 (g := (mkF m 81 #[.val (.ref a0), .val (.int p1), .val (.int p2)] [(.ref a0)])) rfl rfl (hb hby d5_81)
                obtain ⟨T256, X256, e256, st256⟩ := getF X255 hx hZ hown (host := "") (Or.inl (hw _ (own_w 32 rfl))) Via.refl e255 Fw212 (g := (mkF m 85 #[.val (.ref a0), .val (.int p1), .val (.int p2)] [(.ref a0), (.ref la)])) rfl rfl (hb hby d5_85)
                obtain ⟨cl257, Ar257, hin257, hat257⟩ := own_AI.at f220 (j := (1 : Int32)) ⟨by decide, by decide⟩
                have hc90_2 : ((wl.getD 1 (0 : Int32)) = p1) := hc64
                have f258 := (Fw195.other W212 (Or.inr (slot_ne (Or.inl (hw _ (own_w 31 rfl))) (Or.inl (hw _ (own_w 33 rfl))) (by decide) (t := .int) (t' := .int) (by decide) (by decide))))
                obtain ⟨T259, X259, e259, st259⟩ := getF X256 hx hZ hown (host := "") (Or.inl (hw _ (own_w 30 rfl))) Via.refl e256 f258 (g := (mkF m 95 #[.val (.ref a0), .val (.int p1), .val (.int p2)] [(.ref a0), (.ref a0)])) rfl rfl (hb hby d5_95)
                have f260 := (((F_a0_changes.other W191 (Or.inr (slot_ne (Or.inl (hw _ (own_w 22 rfl))) (Or.inl (hw _ (own_w 29 rfl))) (by decide) (t := (.array .int)) (t' := .int) (by decide) (by decide)))).other W195 (Or.inr (slot_ne (Or.inl (hw _ (own_w 22 rfl))) (Or.inl (hw _ (own_w 31 rfl))) (by decide) (t := (.array .int)) (t' := .int) (by decide) (by decide)))).other W212 (Or.inr (slot_ne (Or.inl (hw _ (own_w 22 rfl))) (Or.inl (hw _ (own_w 33 rfl))) (by decide) (t := (.array .int)) (t' := .int) (by decide) (by decide))))
                obtain ⟨T261, X261, e261, st261⟩ := getF X259 hx hZ hown (host := "") (Or.inl (hw _ (own_w 21 rfl))) Via.refl e259 f260 (g := (mkF m 99 #[.val (.ref a0), .val (.int p1), .val (.int p2)] [(.ref a0), (.int (0 : Int32)), (.ref a0)])) rfl rfl (hb hby d5_99)
                obtain ⟨T262, X262, e262, st262⟩ := getF X261 hx hZ hown (host := "") (Or.inl (hw _ (own_w 32 rfl))) Via.refl e261 Fw212 (g := (mkF m 103 #[.val (.ref a0), .val (.int p1), .val (.int p2)] [(.ref a0), (.ref ca), (.int (0 : Int32)), (.ref a0)])) rfl rfl (hb hby d5_103)
                have f263 := (((V_ca.other W191 (Ne.symm ne_a0_ca)).other W195 (Ne.symm ne_a0_ca)).other W212 (Ne.symm ne_a0_ca))
                obtain ⟨cl264, Ar264, hin264, hat264⟩ := own_AI.at f263 (j := (1 : Int32)) ⟨by decide, by decide⟩
                have f265 := (f211.wr W212)
                obtain ⟨T266, h266, X266, e266, W266, st266⟩ := putF X262 hx hZ hown (host := "") (Or.inl (hw _ (own_w 30 rfl))) Via.refl e262 f258 f265 (Or.inl (hw _ (own_w 31 rfl))) (hw _ (own_w 8 rfl)) (ty := .int) (by decide) rfl rfl (g := (mkF m 108 #[.val (.ref a0), .val (.int p1), .val (.int p2)] [(.int ((0 : Int32) + (wc.getD 1 (0 : Int32)))), (.ref a0)])) rfl rfl (hb hby d5_108)
                have Fw266 := f258.same W266
                have N266 := Fr.snoc X266 N212 g_a0
                have kp267 : Keep h0 h266 [a0] := kp213.wr W266 (Or.inl (own_w 0 rfl))
                have f268 := (Fw212.other W266 (Or.inr (slot_ne (Or.inl (hw _ (own_w 33 rfl))) (Or.inl (hw _ (own_w 31 rfl))) (by decide) (t := .int) (t' := .int) (by decide) (by decide))))
                obtain ⟨T269, X269, e269, st269⟩ := getF X266 hx hZ hown (host := "") (Or.inl (hw _ (own_w 32 rfl))) Via.refl e266 f268 (g := (mkF m 113 #[.val (.ref a0), .val (.int p1), .val (.int p2)] [(.ref a0), (.ref a0)])) rfl rfl (hb hby d5_113)
                have f270 := (f265.wr W266)
                obtain ⟨T271, h271, X271, e271, W271, st271⟩ := putF X269 hx hZ hown (host := "") (Or.inl (hw _ (own_w 32 rfl))) Via.refl e269 f268 f270 (Or.inl (hw _ (own_w 33 rfl))) (hw _ (own_w 8 rfl)) (ty := .int) (by decide) rfl rfl (g := (mkF m 118 #[.val (.ref a0), .val (.int p1), .val (.int p2)] [(.int (2 : Int32)), (.ref a0)])) rfl rfl (hb hby d5_118)
                have Fw271 := f268.same W271
                have N271 := Fr.snoc X271 N266 g_a0
                have kp272 : Keep h0 h271 [a0] := kp267.wr W271 (Or.inl (own_w 0 rfl))
                obtain ⟨T273, X273, e273, st273⟩ := getF X271 hx hZ hown (host := "") (Or.inl (hw _ (own_w 32 rfl))) Via.refl e271 Fw271 (g := (mkF m 31 #[.val (.ref a0), .val (.int p1), .val (.int p2)] [(.ref a0)])) rfl rfl (hb hby d5_31)
                have f274 := ((f215.other W266 (Or.inr (slot_ne (Or.inl (hw _ (own_w 35 rfl))) (Or.inl (hw _ (own_w 31 rfl))) (by decide) (t := .int) (t' := .int) (by decide) (by decide)))).other W271 (Or.inr (slot_ne (Or.inl (hw _ (own_w 35 rfl))) (Or.inl (hw _ (own_w 33 rfl))) (by decide) (t := .int) (t' := .int) (by decide) (by decide))))
                obtain ⟨T275, X275, e275, st275⟩ := getF X273 hx hZ hown (host := "") (Or.inl (hw _ (own_w 34 rfl))) Via.refl e273 f274 (g := (mkF m 35 #[.val (.ref a0), .val (.int p1), .val (.int p2)] [(.ref a0), (.int (2 : Int32))])) rfl rfl (hb hby d5_35)
                have f276 := (Fw266.other W271 (Or.inr (slot_ne (Or.inl (hw _ (own_w 31 rfl))) (Or.inl (hw _ (own_w 33 rfl))) (by decide) (t := .int) (t' := .int) (by decide) (by decide))))
                obtain ⟨T277, X277, e277, st277⟩ := getF X275 hx hZ hown (host := "") (Or.inl (hw _ (own_w 30 rfl))) Via.refl e275 f276 (g := (mkF m 126 #[.val (.ref a0), .val (.int p1), .val (.int p2)] [(.ref a0), (.int p2)])) rfl rfl (hb hby d5_126)
                obtain ⟨fs, hr, hrun, hended, hW, hsame⟩ := X277.leave (v := some (.int (p2 - ((0 : Int32) + (wc.getD 1 (0 : Int32)))))) (fun h => by rw [Bd.returns] at h; cases h)
                refine ⟨_, _, pre249 _ ?_, hrun, hended, _, _, rfl, ?_, ⟨_, rfl⟩, hW, hsame.mono (by decide) (by decide)⟩
                · show Steps p.tables e below (T246.setTop (mkF m 77 #[.val (.ref a0), .val (.int p1), .val (.int p2)] [(.int p2), (.int (we.getD 1 (0 : Int32)))])) _
                  refine XS.icmpNo X246.here hx rfl (hb hby d5_77) rfl (flt hc77).2.2.1 ?_
                  refine XS.aloadN X246.here hx rfl (hb hby d5_80) rfl rfl ?_
                  refine st255 _ ?_
                  refine XS.aloadN X255.here hx rfl (hb hby d5_84) rfl rfl ?_
                  refine st256 _ ?_
                  show Steps p.tables e below (T256.setTop (mkF m 88 #[.val (.ref a0), .val (.int p1), .val (.int p2)] [(.int (1 : Int32)), (.ref la)])) _
                  refine X256.iaload hx (j := (1 : Int32)) (v := (.int (wl.getD 1 (0 : Int32)))) (by rw [e256]; exact Ar257.1) (State.isArrayOf_alike hZ.alike Ar257.2.1) Ar257.2.2 hin257 hat257 (g := (mkF m 88 #[.val (.ref a0), .val (.int p1), .val (.int p2)] [(.int (1 : Int32)), (.ref la)])) rfl rfl (hb hby d5_88) _ ?_
                  refine XS.iloadN X256.here hx rfl (hb hby d5_89) rfl ?_
                  refine XS.icmpNo X256.here hx rfl (hb hby d5_90) rfl (teq hc90_2).2 ?_
                  refine XS.aloadN X256.here hx rfl (hb hby d5_93) rfl rfl ?_
                  refine XS.dup X256.here hx rfl (hb hby d5_94) rfl rfl ?_
                  show Steps p.tables e below (T256.setTop (mkF m 95 #[.val (.ref a0), .val (.int p1), .val (.int p2)] [(.ref a0), (.ref a0)])) _
                  refine st259 _ ?_
                  refine XS.aloadN X259.here hx rfl (hb hby d5_98) rfl rfl ?_
                  refine st261 _ ?_
                  refine XS.aloadN X261.here hx rfl (hb hby d5_102) rfl rfl ?_
                  refine st262 _ ?_
                  show Steps p.tables e below (T262.setTop (mkF m 106 #[.val (.ref a0), .val (.int p1), .val (.int p2)] [(.int (1 : Int32)), (.ref ca), (.int (0 : Int32)), (.ref a0)])) _
                  refine X262.iaload hx (j := (1 : Int32)) (v := (.int (wc.getD 1 (0 : Int32)))) (by rw [e262]; exact Ar264.1) (State.isArrayOf_alike hZ.alike Ar264.2.1) Ar264.2.2 hin264 hat264 (g := (mkF m 106 #[.val (.ref a0), .val (.int p1), .val (.int p2)] [(.int (1 : Int32)), (.ref ca), (.int (0 : Int32)), (.ref a0)])) rfl rfl (hb hby d5_106) _ ?_
                  refine XS.iadd X262.here hx rfl (hb hby d5_107) rfl ?_
                  refine st266 _ ?_
                  refine XS.aloadN X266.here hx rfl (hb hby d5_111) rfl rfl ?_
                  refine XS.dup X266.here hx rfl (hb hby d5_112) rfl rfl ?_
                  show Steps p.tables e below (T266.setTop (mkF m 113 #[.val (.ref a0), .val (.int p1), .val (.int p2)] [(.ref a0), (.ref a0)])) _
                  refine st269 _ ?_
                  refine XS.iconst X269.here hx rfl (hb hby d5_116) ?_
                  refine XS.iadd X269.here hx rfl (hb hby d5_117) rfl ?_
                  refine st271 _ ?_
                  refine XS.goto X271.here hx rfl (pc0 := 121) (pc' := 30) rfl (hb hby d5_121) (by decide) (by decide) ?_
                  show Steps p.tables e below (T271.setTop (mkF m 30 #[.val (.ref a0), .val (.int p1), .val (.int p2)] [])) _
                  refine XS.aloadN X271.here hx rfl (hb hby d5_30) rfl rfl ?_
                  refine st273 _ ?_
                  refine XS.aloadN X273.here hx rfl (hb hby d5_34) rfl rfl ?_
                  refine st275 _ ?_
                  refine XS.icmpYes X275.here hx rfl (pc0 := 38) (pc' := 124) rfl (hb hby d5_38) rfl (flt (by decide : ¬ ((2 : Int32) < (2 : Int32)))).2.1 (by decide) (by decide) ?_
                  show Steps p.tables e below (T275.setTop (mkF m 124 #[.val (.ref a0), .val (.int p1), .val (.int p2)] [])) _
                  refine XS.iloadN X275.here hx rfl (hb hby d5_124) rfl ?_
                  refine XS.aloadN X275.here hx rfl (hb hby d5_125) rfl rfl ?_
                  refine st277 _ ?_
                  refine XS.isub X277.here hx rfl (hb hby d5_129) rfl ?_
                  show Steps p.tables e below (T277.setTop (mkF m 130 #[.val (.ref a0), .val (.int p1), .val (.int p2)] [(.int (p2 - ((0 : Int32) + (wc.getD 1 (0 : Int32)))))])) _
                  exact retI X277 hx Bd.returns (hb hby d5_130) hr
                · show Q5_0_2 Z a0 p1 p2 la ea ca kl ke kc wl we wc al pc h0 n0 _ T277.heap _
                  rw [e277]
                  unfold Q5_0_2
                  have f278 := (f270.wr W271)
                  have f279 := ((f217.other W266 (Or.inr (slot_ne (Or.inl (hw _ (own_w 18 rfl))) (Or.inl (hw _ (own_w 31 rfl))) (by decide) (t := (.array .int)) (t' := .int) (by decide) (by decide)))).other W271 (Or.inr (slot_ne (Or.inl (hw _ (own_w 18 rfl))) (Or.inl (hw _ (own_w 33 rfl))) (by decide) (t := (.array .int)) (t' := .int) (by decide) (by decide))))
                  have f280 := ((f244.other W266 (Or.inr (slot_ne (Or.inl (hw _ (own_w 20 rfl))) (Or.inl (hw _ (own_w 31 rfl))) (by decide) (t := (.array .int)) (t' := .int) (by decide) (by decide)))).other W271 (Or.inr (slot_ne (Or.inl (hw _ (own_w 20 rfl))) (Or.inl (hw _ (own_w 33 rfl))) (by decide) (t := (.array .int)) (t' := .int) (by decide) (by decide))))
                  have f281 := ((f260.other W266 (Or.inr (slot_ne (Or.inl (hw _ (own_w 22 rfl))) (Or.inl (hw _ (own_w 31 rfl))) (by decide) (t := (.array .int)) (t' := .int) (by decide) (by decide)))).other W271 (Or.inr (slot_ne (Or.inl (hw _ (own_w 22 rfl))) (Or.inl (hw _ (own_w 33 rfl))) (by decide) (t := (.array .int)) (t' := .int) (by decide) (by decide))))
                  have f282 := ((((Fw191.other W195 (Or.inr (slot_ne (Or.inl (hw _ (own_w 29 rfl))) (Or.inl (hw _ (own_w 31 rfl))) (by decide) (t := .int) (t' := .int) (by decide) (by decide)))).other W212 (Or.inr (slot_ne (Or.inl (hw _ (own_w 29 rfl))) (Or.inl (hw _ (own_w 33 rfl))) (by decide) (t := .int) (t' := .int) (by decide) (by decide)))).other W266 (Or.inr (slot_ne (Or.inl (hw _ (own_w 29 rfl))) (Or.inl (hw _ (own_w 31 rfl))) (by decide) (t := .int) (t' := .int) (by decide) (by decide)))).other W271 (Or.inr (slot_ne (Or.inl (hw _ (own_w 29 rfl))) (Or.inl (hw _ (own_w 33 rfl))) (by decide) (t := .int) (t' := .int) (by decide) (by decide))))
                  refine ⟨?_, N271, kp272, f278, ?_, ?_, ?_, ?_, ?_, ?_, ?_⟩
                  · simp only [own_f5_0_2, if_neg hc2, if_neg hc7, if_neg hc17, if_pos hc51, if_neg hc51_2, if_pos hc64, if_neg hc77]
                  · exact f279
                  · exact f280
                  · exact f281
                  · rw [show (own_p5_0_2_first p1 p2 wl we) = (2 : Int32) from (by simp only [own_p5_0_2_first, if_neg hc2, if_neg hc7, if_neg hc17, if_pos hc51, if_neg hc51_2, if_pos hc64, if_neg hc77])]; exact Fw271
                  · exact f274
                  · rw [show (own_p5_0_2_askedLine p1 p2 al) = p1 from (by simp only [own_p5_0_2_askedLine, if_neg hc2, if_neg hc7, if_neg hc17, if_pos hc51, if_neg hc51_2, if_pos hc64, if_neg hc77])]; exact f282
                  · rw [show (own_p5_0_2_passedChange p1 p2 wl we wc al pc) = ((0 : Int32) + (wc.getD 1 (0 : Int32))) from (by simp only [own_p5_0_2_passedChange, if_neg hc2, if_neg hc7, if_neg hc17, if_pos hc51, if_neg hc51_2, if_pos hc64, if_neg hc77])]; exact f276
            · have f283 := (Fw195.other W212 (Or.inr (slot_ne (Or.inl (hw _ (own_w 31 rfl))) (Or.inl (hw _ (own_w 33 rfl))) (by decide) (t := .int) (t' := .int) (by decide) (by decide))))
              obtain ⟨T284, X284, e284, st284⟩ := getF X241 hx hZ hown (host := "") (Or.inl (hw _ (own_w 30 rfl))) Via.refl e241 f283 (g := (mkF m 126 #[.val (.ref a0), .val (.int p1), .val (.int p2)] [(.ref a0), (.int p2)])) rfl rfl (hb hby d5_126)
              obtain ⟨fs, hr, hrun, hended, hW, hsame⟩ := X284.leave (v := some (.int (p2 - (0 : Int32)))) (fun h => by rw [Bd.returns] at h; cases h)
              refine ⟨_, _, pre243 _ ?_, hrun, hended, _, _, rfl, ?_, ⟨_, rfl⟩, hW, hsame.mono (by decide) (by decide)⟩
              · show Steps p.tables e below (T241.setTop (mkF m 64 #[.val (.ref a0), .val (.int p1), .val (.int p2)] [(.int p1), (.int (wl.getD 1 (0 : Int32)))])) _
                refine XS.icmpYes X241.here hx rfl (pc0 := 64) (pc' := 124) rfl (hb hby d5_64) rfl (feq hc64).2 (by decide) (by decide) ?_
                refine XS.iloadN X241.here hx rfl (hb hby d5_124) rfl ?_
                refine XS.aloadN X241.here hx rfl (hb hby d5_125) rfl rfl ?_
                refine st284 _ ?_
                refine XS.isub X284.here hx rfl (hb hby d5_129) rfl ?_
                show Steps p.tables e below (T284.setTop (mkF m 130 #[.val (.ref a0), .val (.int p1), .val (.int p2)] [(.int (p2 - (0 : Int32)))])) _
                exact retI X284 hx Bd.returns (hb hby d5_130) hr
              · show Q5_0_2 Z a0 p1 p2 la ea ca kl ke kc wl we wc al pc h0 n0 _ T284.heap _
                rw [e284]
                unfold Q5_0_2
                have f285 := (f211.wr W212)
                have f286 := (((F_a0_ends.other W191 (Or.inr (slot_ne (Or.inl (hw _ (own_w 20 rfl))) (Or.inl (hw _ (own_w 29 rfl))) (by decide) (t := (.array .int)) (t' := .int) (by decide) (by decide)))).other W195 (Or.inr (slot_ne (Or.inl (hw _ (own_w 20 rfl))) (Or.inl (hw _ (own_w 31 rfl))) (by decide) (t := (.array .int)) (t' := .int) (by decide) (by decide)))).other W212 (Or.inr (slot_ne (Or.inl (hw _ (own_w 20 rfl))) (Or.inl (hw _ (own_w 33 rfl))) (by decide) (t := (.array .int)) (t' := .int) (by decide) (by decide))))
                have f287 := (((F_a0_changes.other W191 (Or.inr (slot_ne (Or.inl (hw _ (own_w 22 rfl))) (Or.inl (hw _ (own_w 29 rfl))) (by decide) (t := (.array .int)) (t' := .int) (by decide) (by decide)))).other W195 (Or.inr (slot_ne (Or.inl (hw _ (own_w 22 rfl))) (Or.inl (hw _ (own_w 31 rfl))) (by decide) (t := (.array .int)) (t' := .int) (by decide) (by decide)))).other W212 (Or.inr (slot_ne (Or.inl (hw _ (own_w 22 rfl))) (Or.inl (hw _ (own_w 33 rfl))) (by decide) (t := (.array .int)) (t' := .int) (by decide) (by decide))))
                have f288 := ((Fw191.other W195 (Or.inr (slot_ne (Or.inl (hw _ (own_w 29 rfl))) (Or.inl (hw _ (own_w 31 rfl))) (by decide) (t := .int) (t' := .int) (by decide) (by decide)))).other W212 (Or.inr (slot_ne (Or.inl (hw _ (own_w 29 rfl))) (Or.inl (hw _ (own_w 33 rfl))) (by decide) (t := .int) (t' := .int) (by decide) (by decide))))
                refine ⟨?_, N212, kp213, f285, ?_, ?_, ?_, ?_, ?_, ?_, ?_⟩
                · simp only [own_f5_0_2, if_neg hc2, if_neg hc7, if_neg hc17, if_pos hc51, if_neg hc51_2, if_neg hc64]
                · exact f217
                · exact f286
                · exact f287
                · rw [show (own_p5_0_2_first p1 p2 wl we) = (1 : Int32) from (by simp only [own_p5_0_2_first, if_neg hc2, if_neg hc7, if_neg hc17, if_pos hc51, if_neg hc51_2, if_neg hc64])]; exact Fw212
                · exact f215
                · rw [show (own_p5_0_2_askedLine p1 p2 al) = p1 from (by simp only [own_p5_0_2_askedLine, if_neg hc2, if_neg hc7, if_neg hc17, if_pos hc51, if_neg hc51_2, if_neg hc64])]; exact f288
                · rw [show (own_p5_0_2_passedChange p1 p2 wl we wc al pc) = (0 : Int32) from (by simp only [own_p5_0_2_passedChange, if_neg hc2, if_neg hc7, if_neg hc17, if_pos hc51, if_neg hc51_2, if_neg hc64])]; exact f283
        · obtain ⟨T289, X289, e289, st289⟩ := getF X203 hx hZ hown (host := "") (Or.inl (hw _ (own_w 17 rfl))) Via.refl e203 f201 (g := (mkF m 55 #[.val (.ref a0), .val (.int p1), .val (.int p2)] [(.ref a0)])) rfl rfl (hb hby d5_55)
          obtain ⟨T290, X290, e290, st290⟩ := getF X289 hx hZ hown (host := "") (Or.inl (hw _ (own_w 32 rfl))) Via.refl e289 f197 (g := (mkF m 59 #[.val (.ref a0), .val (.int p1), .val (.int p2)] [(.ref a0), (.ref la)])) rfl rfl (hb hby d5_59)
          obtain ⟨cl291, Ar291, hin291, hat291⟩ := own_AI.at f204 (j := (0 : Int32)) ⟨by decide, by decide⟩
          have pre292 : own_Pre p e below (s₁.setTop (entryFrame m #[(.ref a0), (.int p1), (.int p2)] 3)) (T290.setTop (mkF m 64 #[.val (.ref a0), .val (.int p1), .val (.int p2)] [(.int p1), (.int (wl.getD 0 (0 : Int32)))])) := fun t k => pre206 t (by
              show Steps p.tables e below (T203.setTop (mkF m 51 #[.val (.ref a0), .val (.int p1), .val (.int p2)] [(.int p1), (.int (wl.getD 0 (0 : Int32)))])) _
              refine XS.icmpNo X203.here hx rfl (hb hby d5_51) rfl (flt hc51).1 ?_
              refine XS.aloadN X203.here hx rfl (hb hby d5_54) rfl rfl ?_
              refine st289 _ ?_
              refine XS.aloadN X289.here hx rfl (hb hby d5_58) rfl rfl ?_
              refine st290 _ ?_
              show Steps p.tables e below (T290.setTop (mkF m 62 #[.val (.ref a0), .val (.int p1), .val (.int p2)] [(.int (0 : Int32)), (.ref la)])) _
              refine X290.iaload hx (j := (0 : Int32)) (v := (.int (wl.getD 0 (0 : Int32)))) (by rw [e290]; exact Ar291.1) (State.isArrayOf_alike hZ.alike Ar291.2.1) Ar291.2.2 hin291 hat291 (g := (mkF m 62 #[.val (.ref a0), .val (.int p1), .val (.int p2)] [(.int (0 : Int32)), (.ref la)])) rfl rfl (hb hby d5_62) _ ?_
              refine XS.iloadN X290.here hx rfl (hb hby d5_63) rfl ?_
              exact k)
          by_cases hc64 : (wl.getD 0 (0 : Int32)) = p1
          · have f293 := ((F_a0_ends.other W191 (Or.inr (slot_ne (Or.inl (hw _ (own_w 20 rfl))) (Or.inl (hw _ (own_w 29 rfl))) (by decide) (t := (.array .int)) (t' := .int) (by decide) (by decide)))).other W195 (Or.inr (slot_ne (Or.inl (hw _ (own_w 20 rfl))) (Or.inl (hw _ (own_w 31 rfl))) (by decide) (t := (.array .int)) (t' := .int) (by decide) (by decide))))
            obtain ⟨T294, X294, e294, st294⟩ := getF X290 hx hZ hown (host := "") (Or.inl (hw _ (own_w 19 rfl))) Via.refl e290 f293 (g := (mkF m 68 #[.val (.ref a0), .val (.int p1), .val (.int p2)] [(.ref a0)])) rfl rfl (hb hby d5_68)
            obtain ⟨T295, X295, e295, st295⟩ := getF X294 hx hZ hown (host := "") (Or.inl (hw _ (own_w 32 rfl))) Via.refl e294 f197 (g := (mkF m 72 #[.val (.ref a0), .val (.int p1), .val (.int p2)] [(.ref a0), (.ref ea)])) rfl rfl (hb hby d5_72)
            have f296 := ((V_ea.other W191 (Ne.symm ne_a0_ea)).other W195 (Ne.symm ne_a0_ea))
            obtain ⟨cl297, Ar297, hin297, hat297⟩ := own_AI.at f296 (j := (0 : Int32)) ⟨by decide, by decide⟩
            have pre298 : own_Pre p e below (s₁.setTop (entryFrame m #[(.ref a0), (.int p1), (.int p2)] 3)) (T295.setTop (mkF m 77 #[.val (.ref a0), .val (.int p1), .val (.int p2)] [(.int p2), (.int (we.getD 0 (0 : Int32)))])) := fun t k => pre292 t (by
                show Steps p.tables e below (T290.setTop (mkF m 64 #[.val (.ref a0), .val (.int p1), .val (.int p2)] [(.int p1), (.int (wl.getD 0 (0 : Int32)))])) _
                refine XS.icmpNo X290.here hx rfl (hb hby d5_64) rfl (teq hc64).2 ?_
                refine XS.aloadN X290.here hx rfl (hb hby d5_67) rfl rfl ?_
                refine st294 _ ?_
                refine XS.aloadN X294.here hx rfl (hb hby d5_71) rfl rfl ?_
                refine st295 _ ?_
                show Steps p.tables e below (T295.setTop (mkF m 75 #[.val (.ref a0), .val (.int p1), .val (.int p2)] [(.int (0 : Int32)), (.ref ea)])) _
                refine X295.iaload hx (j := (0 : Int32)) (v := (.int (we.getD 0 (0 : Int32)))) (by rw [e295]; exact Ar297.1) (State.isArrayOf_alike hZ.alike Ar297.2.1) Ar297.2.2 hin297 hat297 (g := (mkF m 75 #[.val (.ref a0), .val (.int p1), .val (.int p2)] [(.int (0 : Int32)), (.ref ea)])) rfl rfl (hb hby d5_75) _ ?_
                refine XS.iloadN X295.here hx rfl (hb hby d5_76) rfl ?_
                exact k)
            by_cases hc77 : p2 < (we.getD 0 (0 : Int32))
            · obtain ⟨T299, X299, e299, st299⟩ := getF X295 hx hZ hown (host := "") (Or.inl (hw _ (own_w 30 rfl))) Via.refl e295 Fw195 (g := (mkF m 126 #[.val (.ref a0), .val (.int p1), .val (.int p2)] [(.ref a0), (.int p2)])) rfl rfl (hb hby d5_126)
              obtain ⟨fs, hr, hrun, hended, hW, hsame⟩ := X299.leave (v := some (.int (p2 - (0 : Int32)))) (fun h => by rw [Bd.returns] at h; cases h)
              refine ⟨_, _, pre298 _ ?_, hrun, hended, _, _, rfl, ?_, ⟨_, rfl⟩, hW, hsame.mono (by decide) (by decide)⟩
              · show Steps p.tables e below (T295.setTop (mkF m 77 #[.val (.ref a0), .val (.int p1), .val (.int p2)] [(.int p2), (.int (we.getD 0 (0 : Int32)))])) _
                refine XS.icmpYes X295.here hx rfl (pc0 := 77) (pc' := 124) rfl (hb hby d5_77) rfl (tlt hc77).2.2.1 (by decide) (by decide) ?_
                refine XS.iloadN X295.here hx rfl (hb hby d5_124) rfl ?_
                refine XS.aloadN X295.here hx rfl (hb hby d5_125) rfl rfl ?_
                refine st299 _ ?_
                refine XS.isub X299.here hx rfl (hb hby d5_129) rfl ?_
                show Steps p.tables e below (T299.setTop (mkF m 130 #[.val (.ref a0), .val (.int p1), .val (.int p2)] [(.int (p2 - (0 : Int32)))])) _
                exact retI X299 hx Bd.returns (hb hby d5_130) hr
              · show Q5_0_2 Z a0 p1 p2 la ea ca kl ke kc wl we wc al pc h0 n0 _ T299.heap _
                rw [e299]
                unfold Q5_0_2
                have f300 := (f193.wr W195)
                have f301 := ((F_a0_changes.other W191 (Or.inr (slot_ne (Or.inl (hw _ (own_w 22 rfl))) (Or.inl (hw _ (own_w 29 rfl))) (by decide) (t := (.array .int)) (t' := .int) (by decide) (by decide)))).other W195 (Or.inr (slot_ne (Or.inl (hw _ (own_w 22 rfl))) (Or.inl (hw _ (own_w 31 rfl))) (by decide) (t := (.array .int)) (t' := .int) (by decide) (by decide))))
                have f302 := (Fw191.other W195 (Or.inr (slot_ne (Or.inl (hw _ (own_w 29 rfl))) (Or.inl (hw _ (own_w 31 rfl))) (by decide) (t := .int) (t' := .int) (by decide) (by decide))))
                refine ⟨?_, N195, kp196, f300, ?_, ?_, ?_, ?_, ?_, ?_, ?_⟩
                · simp only [own_f5_0_2, if_neg hc2, if_neg hc7, if_neg hc17, if_neg hc51, if_pos hc64, if_pos hc77]
                · exact f201
                · exact f293
                · exact f301
                · rw [show (own_p5_0_2_first p1 p2 wl we) = (0 : Int32) from (by simp only [own_p5_0_2_first, if_neg hc2, if_neg hc7, if_neg hc17, if_neg hc51, if_pos hc64, if_pos hc77])]; exact f197
                · exact f199
                · rw [show (own_p5_0_2_askedLine p1 p2 al) = p1 from (by simp only [own_p5_0_2_askedLine, if_neg hc2, if_neg hc7, if_neg hc17, if_neg hc51, if_pos hc64, if_pos hc77])]; exact f302
                · rw [show (own_p5_0_2_passedChange p1 p2 wl we wc al pc) = (0 : Int32) from (by simp only [own_p5_0_2_passedChange, if_neg hc2, if_neg hc7, if_neg hc17, if_neg hc51, if_pos hc64, if_pos hc77])]; exact Fw195
            · obtain ⟨T303, X303, e303, st303⟩ := getF X295 hx hZ hown (host := "") (Or.inl (hw _ (own_w 17 rfl))) Via.refl e295 f201 (g := (mkF m 81 #[.val (.ref a0), .val (.int p1), .val (.int p2)] [(.ref a0)])) rfl rfl (hb hby d5_81)
              obtain ⟨T304, X304, e304, st304⟩ := getF X303 hx hZ hown (host := "") (Or.inl (hw _ (own_w 32 rfl))) Via.refl e303 f197 (g := (mkF m 85 #[.val (.ref a0), .val (.int p1), .val (.int p2)] [(.ref a0), (.ref la)])) rfl rfl (hb hby d5_85)
              obtain ⟨cl305, Ar305, hin305, hat305⟩ := own_AI.at f204 (j := (0 : Int32)) ⟨by decide, by decide⟩
              have hc90 : ((wl.getD 0 (0 : Int32)) = p1) := hc64
              obtain ⟨T306, X306, e306, st306⟩ := getF X304 hx hZ hown (host := "") (Or.inl (hw _ (own_w 30 rfl))) Via.refl e304 Fw195 (g := (mkF m 95 #[.val (.ref a0), .val (.int p1), .val (.int p2)] [(.ref a0), (.ref a0)])) rfl rfl (hb hby d5_95)
              have f307 := ((F_a0_changes.other W191 (Or.inr (slot_ne (Or.inl (hw _ (own_w 22 rfl))) (Or.inl (hw _ (own_w 29 rfl))) (by decide) (t := (.array .int)) (t' := .int) (by decide) (by decide)))).other W195 (Or.inr (slot_ne (Or.inl (hw _ (own_w 22 rfl))) (Or.inl (hw _ (own_w 31 rfl))) (by decide) (t := (.array .int)) (t' := .int) (by decide) (by decide))))
              obtain ⟨T308, X308, e308, st308⟩ := getF X306 hx hZ hown (host := "") (Or.inl (hw _ (own_w 21 rfl))) Via.refl e306 f307 (g := (mkF m 99 #[.val (.ref a0), .val (.int p1), .val (.int p2)] [(.ref a0), (.int (0 : Int32)), (.ref a0)])) rfl rfl (hb hby d5_99)
              obtain ⟨T309, X309, e309, st309⟩ := getF X308 hx hZ hown (host := "") (Or.inl (hw _ (own_w 32 rfl))) Via.refl e308 f197 (g := (mkF m 103 #[.val (.ref a0), .val (.int p1), .val (.int p2)] [(.ref a0), (.ref ca), (.int (0 : Int32)), (.ref a0)])) rfl rfl (hb hby d5_103)
              have f310 := ((V_ca.other W191 (Ne.symm ne_a0_ca)).other W195 (Ne.symm ne_a0_ca))
              obtain ⟨cl311, Ar311, hin311, hat311⟩ := own_AI.at f310 (j := (0 : Int32)) ⟨by decide, by decide⟩
              have f312 := (f193.wr W195)
              obtain ⟨T313, h313, X313, e313, W313, st313⟩ := putF X309 hx hZ hown (host := "") (Or.inl (hw _ (own_w 30 rfl))) Via.refl e309 Fw195 f312 (Or.inl (hw _ (own_w 31 rfl))) (hw _ (own_w 8 rfl)) (ty := .int) (by decide) rfl rfl (g := (mkF m 108 #[.val (.ref a0), .val (.int p1), .val (.int p2)] [(.int ((0 : Int32) + (wc.getD 0 (0 : Int32)))), (.ref a0)])) rfl rfl (hb hby d5_108)
              have Fw313 := Fw195.same W313
              have N313 := Fr.snoc X313 N195 g_a0
              have kp314 : Keep h0 h313 [a0] := kp196.wr W313 (Or.inl (own_w 0 rfl))
              have f315 := (f197.other W313 (Or.inr (slot_ne (Or.inl (hw _ (own_w 33 rfl))) (Or.inl (hw _ (own_w 31 rfl))) (by decide) (t := .int) (t' := .int) (by decide) (by decide))))
              obtain ⟨T316, X316, e316, st316⟩ := getF X313 hx hZ hown (host := "") (Or.inl (hw _ (own_w 32 rfl))) Via.refl e313 f315 (g := (mkF m 113 #[.val (.ref a0), .val (.int p1), .val (.int p2)] [(.ref a0), (.ref a0)])) rfl rfl (hb hby d5_113)
              have f317 := (f312.wr W313)
              obtain ⟨T318, h318, X318, e318, W318, st318⟩ := putF X316 hx hZ hown (host := "") (Or.inl (hw _ (own_w 32 rfl))) Via.refl e316 f315 f317 (Or.inl (hw _ (own_w 33 rfl))) (hw _ (own_w 8 rfl)) (ty := .int) (by decide) rfl rfl (g := (mkF m 118 #[.val (.ref a0), .val (.int p1), .val (.int p2)] [(.int (1 : Int32)), (.ref a0)])) rfl rfl (hb hby d5_118)
              have Fw318 := f315.same W318
              have N318 := Fr.snoc X318 N313 g_a0
              have kp319 : Keep h0 h318 [a0] := kp314.wr W318 (Or.inl (own_w 0 rfl))
              obtain ⟨T320, X320, e320, st320⟩ := getF X318 hx hZ hown (host := "") (Or.inl (hw _ (own_w 32 rfl))) Via.refl e318 Fw318 (g := (mkF m 31 #[.val (.ref a0), .val (.int p1), .val (.int p2)] [(.ref a0)])) rfl rfl (hb hby d5_31)
              have f321 := ((f199.other W313 (Or.inr (slot_ne (Or.inl (hw _ (own_w 35 rfl))) (Or.inl (hw _ (own_w 31 rfl))) (by decide) (t := .int) (t' := .int) (by decide) (by decide)))).other W318 (Or.inr (slot_ne (Or.inl (hw _ (own_w 35 rfl))) (Or.inl (hw _ (own_w 33 rfl))) (by decide) (t := .int) (t' := .int) (by decide) (by decide))))
              obtain ⟨T322, X322, e322, st322⟩ := getF X320 hx hZ hown (host := "") (Or.inl (hw _ (own_w 34 rfl))) Via.refl e320 f321 (g := (mkF m 35 #[.val (.ref a0), .val (.int p1), .val (.int p2)] [(.ref a0), (.int (1 : Int32))])) rfl rfl (hb hby d5_35)
              have f323 := ((f201.other W313 (Or.inr (slot_ne (Or.inl (hw _ (own_w 18 rfl))) (Or.inl (hw _ (own_w 31 rfl))) (by decide) (t := (.array .int)) (t' := .int) (by decide) (by decide)))).other W318 (Or.inr (slot_ne (Or.inl (hw _ (own_w 18 rfl))) (Or.inl (hw _ (own_w 33 rfl))) (by decide) (t := (.array .int)) (t' := .int) (by decide) (by decide))))
              obtain ⟨T324, X324, e324, st324⟩ := getF X322 hx hZ hown (host := "") (Or.inl (hw _ (own_w 17 rfl))) Via.refl e322 f323 (g := (mkF m 42 #[.val (.ref a0), .val (.int p1), .val (.int p2)] [(.ref a0)])) rfl rfl (hb hby d5_42)
              obtain ⟨T325, X325, e325, st325⟩ := getF X324 hx hZ hown (host := "") (Or.inl (hw _ (own_w 32 rfl))) Via.refl e324 Fw318 (g := (mkF m 46 #[.val (.ref a0), .val (.int p1), .val (.int p2)] [(.ref a0), (.ref la)])) rfl rfl (hb hby d5_46)
              have f326 := ((f204.other W313 (Ne.symm ne_a0_la)).other W318 (Ne.symm ne_a0_la))
              obtain ⟨cl327, Ar327, hin327, hat327⟩ := own_AI.at f326 (j := (1 : Int32)) ⟨by decide, by decide⟩
              have pre328 : own_Pre p e below (s₁.setTop (entryFrame m #[(.ref a0), (.int p1), (.int p2)] 3)) (T325.setTop (mkF m 51 #[.val (.ref a0), .val (.int p1), .val (.int p2)] [(.int p1), (.int (wl.getD 1 (0 : Int32)))])) := fun t k => pre298 t (by
                  show Steps p.tables e below (T295.setTop (mkF m 77 #[.val (.ref a0), .val (.int p1), .val (.int p2)] [(.int p2), (.int (we.getD 0 (0 : Int32)))])) _
                  refine XS.icmpNo X295.here hx rfl (hb hby d5_77) rfl (flt hc77).2.2.1 ?_
                  refine XS.aloadN X295.here hx rfl (hb hby d5_80) rfl rfl ?_
                  refine st303 _ ?_
                  refine XS.aloadN X303.here hx rfl (hb hby d5_84) rfl rfl ?_
                  refine st304 _ ?_
                  show Steps p.tables e below (T304.setTop (mkF m 88 #[.val (.ref a0), .val (.int p1), .val (.int p2)] [(.int (0 : Int32)), (.ref la)])) _
                  refine X304.iaload hx (j := (0 : Int32)) (v := (.int (wl.getD 0 (0 : Int32)))) (by rw [e304]; exact Ar305.1) (State.isArrayOf_alike hZ.alike Ar305.2.1) Ar305.2.2 hin305 hat305 (g := (mkF m 88 #[.val (.ref a0), .val (.int p1), .val (.int p2)] [(.int (0 : Int32)), (.ref la)])) rfl rfl (hb hby d5_88) _ ?_
                  refine XS.iloadN X304.here hx rfl (hb hby d5_89) rfl ?_
                  refine XS.icmpNo X304.here hx rfl (hb hby d5_90) rfl (teq hc90).2 ?_
                  refine XS.aloadN X304.here hx rfl (hb hby d5_93) rfl rfl ?_
                  refine XS.dup X304.here hx rfl (hb hby d5_94) rfl rfl ?_
                  show Steps p.tables e below (T304.setTop (mkF m 95 #[.val (.ref a0), .val (.int p1), .val (.int p2)] [(.ref a0), (.ref a0)])) _
                  refine st306 _ ?_
                  refine XS.aloadN X306.here hx rfl (hb hby d5_98) rfl rfl ?_
                  refine st308 _ ?_
                  refine XS.aloadN X308.here hx rfl (hb hby d5_102) rfl rfl ?_
                  refine st309 _ ?_
                  show Steps p.tables e below (T309.setTop (mkF m 106 #[.val (.ref a0), .val (.int p1), .val (.int p2)] [(.int (0 : Int32)), (.ref ca), (.int (0 : Int32)), (.ref a0)])) _
                  refine X309.iaload hx (j := (0 : Int32)) (v := (.int (wc.getD 0 (0 : Int32)))) (by rw [e309]; exact Ar311.1) (State.isArrayOf_alike hZ.alike Ar311.2.1) Ar311.2.2 hin311 hat311 (g := (mkF m 106 #[.val (.ref a0), .val (.int p1), .val (.int p2)] [(.int (0 : Int32)), (.ref ca), (.int (0 : Int32)), (.ref a0)])) rfl rfl (hb hby d5_106) _ ?_
                  refine XS.iadd X309.here hx rfl (hb hby d5_107) rfl ?_
                  refine st313 _ ?_
                  refine XS.aloadN X313.here hx rfl (hb hby d5_111) rfl rfl ?_
                  refine XS.dup X313.here hx rfl (hb hby d5_112) rfl rfl ?_
                  show Steps p.tables e below (T313.setTop (mkF m 113 #[.val (.ref a0), .val (.int p1), .val (.int p2)] [(.ref a0), (.ref a0)])) _
                  refine st316 _ ?_
                  refine XS.iconst X316.here hx rfl (hb hby d5_116) ?_
                  refine XS.iadd X316.here hx rfl (hb hby d5_117) rfl ?_
                  refine st318 _ ?_
                  refine XS.goto X318.here hx rfl (pc0 := 121) (pc' := 30) rfl (hb hby d5_121) (by decide) (by decide) ?_
                  show Steps p.tables e below (T318.setTop (mkF m 30 #[.val (.ref a0), .val (.int p1), .val (.int p2)] [])) _
                  refine XS.aloadN X318.here hx rfl (hb hby d5_30) rfl rfl ?_
                  refine st320 _ ?_
                  refine XS.aloadN X320.here hx rfl (hb hby d5_34) rfl rfl ?_
                  refine st322 _ ?_
                  refine XS.icmpNo X322.here hx rfl (hb hby d5_38) rfl (tlt (by decide : ((1 : Int32) < (2 : Int32)))).2.1 ?_
                  show Steps p.tables e below (T322.setTop (mkF m 41 #[.val (.ref a0), .val (.int p1), .val (.int p2)] [])) _
                  refine XS.aloadN X322.here hx rfl (hb hby d5_41) rfl rfl ?_
                  refine st324 _ ?_
                  refine XS.aloadN X324.here hx rfl (hb hby d5_45) rfl rfl ?_
                  refine st325 _ ?_
                  refine X325.iaload hx (j := (1 : Int32)) (v := (.int (wl.getD 1 (0 : Int32)))) (by rw [e325]; exact Ar327.1) (State.isArrayOf_alike hZ.alike Ar327.2.1) Ar327.2.2 hin327 hat327 (g := (mkF m 49 #[.val (.ref a0), .val (.int p1), .val (.int p2)] [(.int (1 : Int32)), (.ref la)])) rfl rfl (hb hby d5_49) _ ?_
                  show Steps p.tables e below (T325.setTop (mkF m 50 #[.val (.ref a0), .val (.int p1), .val (.int p2)] [(.int (wl.getD 1 (0 : Int32)))])) _
                  refine XS.iloadN X325.here hx rfl (hb hby d5_50) rfl ?_
                  exact k)
              by_cases hc51_2 : (wl.getD 1 (0 : Int32)) < p1
              · obtain ⟨T329, X329, e329, st329⟩ := getF X325 hx hZ hown (host := "") (Or.inl (hw _ (own_w 17 rfl))) Via.refl e325 f323 (g := (mkF m 81 #[.val (.ref a0), .val (.int p1), .val (.int p2)] [(.ref a0)])) rfl rfl (hb hby d5_81)
                obtain ⟨T330, X330, e330, st330⟩ := getF X329 hx hZ hown (host := "") (Or.inl (hw _ (own_w 32 rfl))) Via.refl e329 Fw318 (g := (mkF m 85 #[.val (.ref a0), .val (.int p1), .val (.int p2)] [(.ref a0), (.ref la)])) rfl rfl (hb hby d5_85)
                obtain ⟨cl331, Ar331, hin331, hat331⟩ := own_AI.at f326 (j := (1 : Int32)) ⟨by decide, by decide⟩
                have hc90_2 : ¬ ((wl.getD 1 (0 : Int32)) = p1) := own_nlt hc51_2
                obtain ⟨T332, X332, e332, st332⟩ := getF X330 hx hZ hown (host := "") (Or.inl (hw _ (own_w 32 rfl))) Via.refl e330 Fw318 (g := (mkF m 113 #[.val (.ref a0), .val (.int p1), .val (.int p2)] [(.ref a0), (.ref a0)])) rfl rfl (hb hby d5_113)
                have f333 := (f317.wr W318)
                obtain ⟨T334, h334, X334, e334, W334, st334⟩ := putF X332 hx hZ hown (host := "") (Or.inl (hw _ (own_w 32 rfl))) Via.refl e332 Fw318 f333 (Or.inl (hw _ (own_w 33 rfl))) (hw _ (own_w 8 rfl)) (ty := .int) (by decide) rfl rfl (g := (mkF m 118 #[.val (.ref a0), .val (.int p1), .val (.int p2)] [(.int (2 : Int32)), (.ref a0)])) rfl rfl (hb hby d5_118)
                have Fw334 := Fw318.same W334
                have N334 := Fr.snoc X334 N318 g_a0
                have kp335 : Keep h0 h334 [a0] := kp319.wr W334 (Or.inl (own_w 0 rfl))
                obtain ⟨T336, X336, e336, st336⟩ := getF X334 hx hZ hown (host := "") (Or.inl (hw _ (own_w 32 rfl))) Via.refl e334 Fw334 (g := (mkF m 31 #[.val (.ref a0), .val (.int p1), .val (.int p2)] [(.ref a0)])) rfl rfl (hb hby d5_31)
                have f337 := (f321.other W334 (Or.inr (slot_ne (Or.inl (hw _ (own_w 35 rfl))) (Or.inl (hw _ (own_w 33 rfl))) (by decide) (t := .int) (t' := .int) (by decide) (by decide))))
                obtain ⟨T338, X338, e338, st338⟩ := getF X336 hx hZ hown (host := "") (Or.inl (hw _ (own_w 34 rfl))) Via.refl e336 f337 (g := (mkF m 35 #[.val (.ref a0), .val (.int p1), .val (.int p2)] [(.ref a0), (.int (2 : Int32))])) rfl rfl (hb hby d5_35)
                have f339 := ((Fw313.other W318 (Or.inr (slot_ne (Or.inl (hw _ (own_w 31 rfl))) (Or.inl (hw _ (own_w 33 rfl))) (by decide) (t := .int) (t' := .int) (by decide) (by decide)))).other W334 (Or.inr (slot_ne (Or.inl (hw _ (own_w 31 rfl))) (Or.inl (hw _ (own_w 33 rfl))) (by decide) (t := .int) (t' := .int) (by decide) (by decide))))
                obtain ⟨T340, X340, e340, st340⟩ := getF X338 hx hZ hown (host := "") (Or.inl (hw _ (own_w 30 rfl))) Via.refl e338 f339 (g := (mkF m 126 #[.val (.ref a0), .val (.int p1), .val (.int p2)] [(.ref a0), (.int p2)])) rfl rfl (hb hby d5_126)
                obtain ⟨fs, hr, hrun, hended, hW, hsame⟩ := X340.leave (v := some (.int (p2 - ((0 : Int32) + (wc.getD 0 (0 : Int32)))))) (fun h => by rw [Bd.returns] at h; cases h)
                refine ⟨_, _, pre328 _ ?_, hrun, hended, _, _, rfl, ?_, ⟨_, rfl⟩, hW, hsame.mono (by decide) (by decide)⟩
                · show Steps p.tables e below (T325.setTop (mkF m 51 #[.val (.ref a0), .val (.int p1), .val (.int p2)] [(.int p1), (.int (wl.getD 1 (0 : Int32)))])) _
                  refine XS.icmpYes X325.here hx rfl (pc0 := 51) (pc' := 80) rfl (hb hby d5_51) rfl (tlt hc51_2).1 (by decide) (by decide) ?_
                  refine XS.aloadN X325.here hx rfl (hb hby d5_80) rfl rfl ?_
                  refine st329 _ ?_
                  refine XS.aloadN X329.here hx rfl (hb hby d5_84) rfl rfl ?_
                  refine st330 _ ?_
                  show Steps p.tables e below (T330.setTop (mkF m 88 #[.val (.ref a0), .val (.int p1), .val (.int p2)] [(.int (1 : Int32)), (.ref la)])) _
                  refine X330.iaload hx (j := (1 : Int32)) (v := (.int (wl.getD 1 (0 : Int32)))) (by rw [e330]; exact Ar331.1) (State.isArrayOf_alike hZ.alike Ar331.2.1) Ar331.2.2 hin331 hat331 (g := (mkF m 88 #[.val (.ref a0), .val (.int p1), .val (.int p2)] [(.int (1 : Int32)), (.ref la)])) rfl rfl (hb hby d5_88) _ ?_
                  refine XS.iloadN X330.here hx rfl (hb hby d5_89) rfl ?_
                  refine XS.icmpYes X330.here hx rfl (pc0 := 90) (pc' := 111) rfl (hb hby d5_90) rfl (feq hc90_2).2 (by decide) (by decide) ?_
                  refine XS.aloadN X330.here hx rfl (hb hby d5_111) rfl rfl ?_
                  refine XS.dup X330.here hx rfl (hb hby d5_112) rfl rfl ?_
                  show Steps p.tables e below (T330.setTop (mkF m 113 #[.val (.ref a0), .val (.int p1), .val (.int p2)] [(.ref a0), (.ref a0)])) _
                  refine st332 _ ?_
                  refine XS.iconst X332.here hx rfl (hb hby d5_116) ?_
                  refine XS.iadd X332.here hx rfl (hb hby d5_117) rfl ?_
                  refine st334 _ ?_
                  refine XS.goto X334.here hx rfl (pc0 := 121) (pc' := 30) rfl (hb hby d5_121) (by decide) (by decide) ?_
                  show Steps p.tables e below (T334.setTop (mkF m 30 #[.val (.ref a0), .val (.int p1), .val (.int p2)] [])) _
                  refine XS.aloadN X334.here hx rfl (hb hby d5_30) rfl rfl ?_
                  refine st336 _ ?_
                  refine XS.aloadN X336.here hx rfl (hb hby d5_34) rfl rfl ?_
                  refine st338 _ ?_
                  refine XS.icmpYes X338.here hx rfl (pc0 := 38) (pc' := 124) rfl (hb hby d5_38) rfl (flt (by decide : ¬ ((2 : Int32) < (2 : Int32)))).2.1 (by decide) (by decide) ?_
                  show Steps p.tables e below (T338.setTop (mkF m 124 #[.val (.ref a0), .val (.int p1), .val (.int p2)] [])) _
                  refine XS.iloadN X338.here hx rfl (hb hby d5_124) rfl ?_
                  refine XS.aloadN X338.here hx rfl (hb hby d5_125) rfl rfl ?_
                  refine st340 _ ?_
                  refine XS.isub X340.here hx rfl (hb hby d5_129) rfl ?_
                  show Steps p.tables e below (T340.setTop (mkF m 130 #[.val (.ref a0), .val (.int p1), .val (.int p2)] [(.int (p2 - ((0 : Int32) + (wc.getD 0 (0 : Int32)))))])) _
                  exact retI X340 hx Bd.returns (hb hby d5_130) hr
                · show Q5_0_2 Z a0 p1 p2 la ea ca kl ke kc wl we wc al pc h0 n0 _ T340.heap _
                  rw [e340]
                  unfold Q5_0_2
                  have f341 := (f333.wr W334)
                  have f342 := (f323.other W334 (Or.inr (slot_ne (Or.inl (hw _ (own_w 18 rfl))) (Or.inl (hw _ (own_w 33 rfl))) (by decide) (t := (.array .int)) (t' := .int) (by decide) (by decide))))
                  have f343 := (((f293.other W313 (Or.inr (slot_ne (Or.inl (hw _ (own_w 20 rfl))) (Or.inl (hw _ (own_w 31 rfl))) (by decide) (t := (.array .int)) (t' := .int) (by decide) (by decide)))).other W318 (Or.inr (slot_ne (Or.inl (hw _ (own_w 20 rfl))) (Or.inl (hw _ (own_w 33 rfl))) (by decide) (t := (.array .int)) (t' := .int) (by decide) (by decide)))).other W334 (Or.inr (slot_ne (Or.inl (hw _ (own_w 20 rfl))) (Or.inl (hw _ (own_w 33 rfl))) (by decide) (t := (.array .int)) (t' := .int) (by decide) (by decide))))
                  have f344 := (((f307.other W313 (Or.inr (slot_ne (Or.inl (hw _ (own_w 22 rfl))) (Or.inl (hw _ (own_w 31 rfl))) (by decide) (t := (.array .int)) (t' := .int) (by decide) (by decide)))).other W318 (Or.inr (slot_ne (Or.inl (hw _ (own_w 22 rfl))) (Or.inl (hw _ (own_w 33 rfl))) (by decide) (t := (.array .int)) (t' := .int) (by decide) (by decide)))).other W334 (Or.inr (slot_ne (Or.inl (hw _ (own_w 22 rfl))) (Or.inl (hw _ (own_w 33 rfl))) (by decide) (t := (.array .int)) (t' := .int) (by decide) (by decide))))
                  have f345 := ((((Fw191.other W195 (Or.inr (slot_ne (Or.inl (hw _ (own_w 29 rfl))) (Or.inl (hw _ (own_w 31 rfl))) (by decide) (t := .int) (t' := .int) (by decide) (by decide)))).other W313 (Or.inr (slot_ne (Or.inl (hw _ (own_w 29 rfl))) (Or.inl (hw _ (own_w 31 rfl))) (by decide) (t := .int) (t' := .int) (by decide) (by decide)))).other W318 (Or.inr (slot_ne (Or.inl (hw _ (own_w 29 rfl))) (Or.inl (hw _ (own_w 33 rfl))) (by decide) (t := .int) (t' := .int) (by decide) (by decide)))).other W334 (Or.inr (slot_ne (Or.inl (hw _ (own_w 29 rfl))) (Or.inl (hw _ (own_w 33 rfl))) (by decide) (t := .int) (t' := .int) (by decide) (by decide))))
                  refine ⟨?_, N334, kp335, f341, ?_, ?_, ?_, ?_, ?_, ?_, ?_⟩
                  · simp only [own_f5_0_2, if_neg hc2, if_neg hc7, if_neg hc17, if_neg hc51, if_pos hc64, if_neg hc77, if_pos hc51_2]
                  · exact f342
                  · exact f343
                  · exact f344
                  · rw [show (own_p5_0_2_first p1 p2 wl we) = (2 : Int32) from (by simp only [own_p5_0_2_first, if_neg hc2, if_neg hc7, if_neg hc17, if_neg hc51, if_pos hc64, if_neg hc77, if_pos hc51_2])]; exact Fw334
                  · exact f337
                  · rw [show (own_p5_0_2_askedLine p1 p2 al) = p1 from (by simp only [own_p5_0_2_askedLine, if_neg hc2, if_neg hc7, if_neg hc17, if_neg hc51, if_pos hc64, if_neg hc77, if_pos hc51_2])]; exact f345
                  · rw [show (own_p5_0_2_passedChange p1 p2 wl we wc al pc) = ((0 : Int32) + (wc.getD 0 (0 : Int32))) from (by simp only [own_p5_0_2_passedChange, if_neg hc2, if_neg hc7, if_neg hc17, if_neg hc51, if_pos hc64, if_neg hc77, if_pos hc51_2])]; exact f339
              · obtain ⟨T346, X346, e346, st346⟩ := getF X325 hx hZ hown (host := "") (Or.inl (hw _ (own_w 17 rfl))) Via.refl e325 f323 (g := (mkF m 55 #[.val (.ref a0), .val (.int p1), .val (.int p2)] [(.ref a0)])) rfl rfl (hb hby d5_55)
                obtain ⟨T347, X347, e347, st347⟩ := getF X346 hx hZ hown (host := "") (Or.inl (hw _ (own_w 32 rfl))) Via.refl e346 Fw318 (g := (mkF m 59 #[.val (.ref a0), .val (.int p1), .val (.int p2)] [(.ref a0), (.ref la)])) rfl rfl (hb hby d5_59)
                obtain ⟨cl348, Ar348, hin348, hat348⟩ := own_AI.at f326 (j := (1 : Int32)) ⟨by decide, by decide⟩
                have pre349 : own_Pre p e below (s₁.setTop (entryFrame m #[(.ref a0), (.int p1), (.int p2)] 3)) (T347.setTop (mkF m 64 #[.val (.ref a0), .val (.int p1), .val (.int p2)] [(.int p1), (.int (wl.getD 1 (0 : Int32)))])) := fun t k => pre328 t (by
                    show Steps p.tables e below (T325.setTop (mkF m 51 #[.val (.ref a0), .val (.int p1), .val (.int p2)] [(.int p1), (.int (wl.getD 1 (0 : Int32)))])) _
                    refine XS.icmpNo X325.here hx rfl (hb hby d5_51) rfl (flt hc51_2).1 ?_
                    refine XS.aloadN X325.here hx rfl (hb hby d5_54) rfl rfl ?_
                    refine st346 _ ?_
                    refine XS.aloadN X346.here hx rfl (hb hby d5_58) rfl rfl ?_
                    refine st347 _ ?_
                    show Steps p.tables e below (T347.setTop (mkF m 62 #[.val (.ref a0), .val (.int p1), .val (.int p2)] [(.int (1 : Int32)), (.ref la)])) _
                    refine X347.iaload hx (j := (1 : Int32)) (v := (.int (wl.getD 1 (0 : Int32)))) (by rw [e347]; exact Ar348.1) (State.isArrayOf_alike hZ.alike Ar348.2.1) Ar348.2.2 hin348 hat348 (g := (mkF m 62 #[.val (.ref a0), .val (.int p1), .val (.int p2)] [(.int (1 : Int32)), (.ref la)])) rfl rfl (hb hby d5_62) _ ?_
                    refine XS.iloadN X347.here hx rfl (hb hby d5_63) rfl ?_
                    exact k)
                by_cases hc64_2 : (wl.getD 1 (0 : Int32)) = p1
                · have f350 := ((f293.other W313 (Or.inr (slot_ne (Or.inl (hw _ (own_w 20 rfl))) (Or.inl (hw _ (own_w 31 rfl))) (by decide) (t := (.array .int)) (t' := .int) (by decide) (by decide)))).other W318 (Or.inr (slot_ne (Or.inl (hw _ (own_w 20 rfl))) (Or.inl (hw _ (own_w 33 rfl))) (by decide) (t := (.array .int)) (t' := .int) (by decide) (by decide))))
                  obtain ⟨T351, X351, e351, st351⟩ := getF X347 hx hZ hown (host := "") (Or.inl (hw _ (own_w 19 rfl))) Via.refl e347 f350 (g := (mkF m 68 #[.val (.ref a0), .val (.int p1), .val (.int p2)] [(.ref a0)])) rfl rfl (hb hby d5_68)
                  obtain ⟨T352, X352, e352, st352⟩ := getF X351 hx hZ hown (host := "") (Or.inl (hw _ (own_w 32 rfl))) Via.refl e351 Fw318 (g := (mkF m 72 #[.val (.ref a0), .val (.int p1), .val (.int p2)] [(.ref a0), (.ref ea)])) rfl rfl (hb hby d5_72)
                  have f353 := ((f296.other W313 (Ne.symm ne_a0_ea)).other W318 (Ne.symm ne_a0_ea))
                  obtain ⟨cl354, Ar354, hin354, hat354⟩ := own_AI.at f353 (j := (1 : Int32)) ⟨by decide, by decide⟩
                  have pre355 : own_Pre p e below (s₁.setTop (entryFrame m #[(.ref a0), (.int p1), (.int p2)] 3)) (T352.setTop (mkF m 77 #[.val (.ref a0), .val (.int p1), .val (.int p2)] [(.int p2), (.int (we.getD 1 (0 : Int32)))])) := fun t k => pre349 t (by
                      show Steps p.tables e below (T347.setTop (mkF m 64 #[.val (.ref a0), .val (.int p1), .val (.int p2)] [(.int p1), (.int (wl.getD 1 (0 : Int32)))])) _
                      refine XS.icmpNo X347.here hx rfl (hb hby d5_64) rfl (teq hc64_2).2 ?_
                      refine XS.aloadN X347.here hx rfl (hb hby d5_67) rfl rfl ?_
                      refine st351 _ ?_
                      refine XS.aloadN X351.here hx rfl (hb hby d5_71) rfl rfl ?_
                      refine st352 _ ?_
                      show Steps p.tables e below (T352.setTop (mkF m 75 #[.val (.ref a0), .val (.int p1), .val (.int p2)] [(.int (1 : Int32)), (.ref ea)])) _
                      refine X352.iaload hx (j := (1 : Int32)) (v := (.int (we.getD 1 (0 : Int32)))) (by rw [e352]; exact Ar354.1) (State.isArrayOf_alike hZ.alike Ar354.2.1) Ar354.2.2 hin354 hat354 (g := (mkF m 75 #[.val (.ref a0), .val (.int p1), .val (.int p2)] [(.int (1 : Int32)), (.ref ea)])) rfl rfl (hb hby d5_75) _ ?_
                      refine XS.iloadN X352.here hx rfl (hb hby d5_76) rfl ?_
                      exact k)
                  by_cases hc77_2 : p2 < (we.getD 1 (0 : Int32))
                  · have f356 := (Fw313.other W318 (Or.inr (slot_ne (Or.inl (hw _ (own_w 31 rfl))) (Or.inl (hw _ (own_w 33 rfl))) (by decide) (t := .int) (t' := .int) (by decide) (by decide))))
                    obtain ⟨T357, X357, e357, st357⟩ := getF X352 hx hZ hown (host := "") (Or.inl (hw _ (own_w 30 rfl))) Via.refl e352 f356 (g := (mkF m 126 #[.val (.ref a0), .val (.int p1), .val (.int p2)] [(.ref a0), (.int p2)])) rfl rfl (hb hby d5_126)
                    obtain ⟨fs, hr, hrun, hended, hW, hsame⟩ := X357.leave (v := some (.int (p2 - ((0 : Int32) + (wc.getD 0 (0 : Int32)))))) (fun h => by rw [Bd.returns] at h; cases h)
                    refine ⟨_, _, pre355 _ ?_, hrun, hended, _, _, rfl, ?_, ⟨_, rfl⟩, hW, hsame.mono (by decide) (by decide)⟩
                    · show Steps p.tables e below (T352.setTop (mkF m 77 #[.val (.ref a0), .val (.int p1), .val (.int p2)] [(.int p2), (.int (we.getD 1 (0 : Int32)))])) _
                      refine XS.icmpYes X352.here hx rfl (pc0 := 77) (pc' := 124) rfl (hb hby d5_77) rfl (tlt hc77_2).2.2.1 (by decide) (by decide) ?_
                      refine XS.iloadN X352.here hx rfl (hb hby d5_124) rfl ?_
                      refine XS.aloadN X352.here hx rfl (hb hby d5_125) rfl rfl ?_
                      refine st357 _ ?_
                      refine XS.isub X357.here hx rfl (hb hby d5_129) rfl ?_
                      show Steps p.tables e below (T357.setTop (mkF m 130 #[.val (.ref a0), .val (.int p1), .val (.int p2)] [(.int (p2 - ((0 : Int32) + (wc.getD 0 (0 : Int32)))))])) _
                      exact retI X357 hx Bd.returns (hb hby d5_130) hr
                    · show Q5_0_2 Z a0 p1 p2 la ea ca kl ke kc wl we wc al pc h0 n0 _ T357.heap _
                      rw [e357]
                      unfold Q5_0_2
                      have f358 := (f317.wr W318)
                      have f359 := ((f307.other W313 (Or.inr (slot_ne (Or.inl (hw _ (own_w 22 rfl))) (Or.inl (hw _ (own_w 31 rfl))) (by decide) (t := (.array .int)) (t' := .int) (by decide) (by decide)))).other W318 (Or.inr (slot_ne (Or.inl (hw _ (own_w 22 rfl))) (Or.inl (hw _ (own_w 33 rfl))) (by decide) (t := (.array .int)) (t' := .int) (by decide) (by decide))))
                      have f360 := (((Fw191.other W195 (Or.inr (slot_ne (Or.inl (hw _ (own_w 29 rfl))) (Or.inl (hw _ (own_w 31 rfl))) (by decide) (t := .int) (t' := .int) (by decide) (by decide)))).other W313 (Or.inr (slot_ne (Or.inl (hw _ (own_w 29 rfl))) (Or.inl (hw _ (own_w 31 rfl))) (by decide) (t := .int) (t' := .int) (by decide) (by decide)))).other W318 (Or.inr (slot_ne (Or.inl (hw _ (own_w 29 rfl))) (Or.inl (hw _ (own_w 33 rfl))) (by decide) (t := .int) (t' := .int) (by decide) (by decide))))
                      refine ⟨?_, N318, kp319, f358, ?_, ?_, ?_, ?_, ?_, ?_, ?_⟩
                      · simp only [own_f5_0_2, if_neg hc2, if_neg hc7, if_neg hc17, if_neg hc51, if_pos hc64, if_neg hc77, if_neg hc51_2, if_pos hc64_2, if_pos hc77_2]
                      · exact f323
                      · exact f350
                      · exact f359
                      · rw [show (own_p5_0_2_first p1 p2 wl we) = (1 : Int32) from (by simp only [own_p5_0_2_first, if_neg hc2, if_neg hc7, if_neg hc17, if_neg hc51, if_pos hc64, if_neg hc77, if_neg hc51_2, if_pos hc64_2, if_pos hc77_2])]; exact Fw318
                      · exact f321
                      · rw [show (own_p5_0_2_askedLine p1 p2 al) = p1 from (by simp only [own_p5_0_2_askedLine, if_neg hc2, if_neg hc7, if_neg hc17, if_neg hc51, if_pos hc64, if_neg hc77, if_neg hc51_2, if_pos hc64_2, if_pos hc77_2])]; exact f360
                      · rw [show (own_p5_0_2_passedChange p1 p2 wl we wc al pc) = ((0 : Int32) + (wc.getD 0 (0 : Int32))) from (by simp only [own_p5_0_2_passedChange, if_neg hc2, if_neg hc7, if_neg hc17, if_neg hc51, if_pos hc64, if_neg hc77, if_neg hc51_2, if_pos hc64_2, if_pos hc77_2])]; exact f356
                  · obtain ⟨T361, X361, e361, st361⟩ := getF X352 hx hZ hown (host := "") (Or.inl (hw _ (own_w 17 rfl))) Via.refl e352 f323 (g := (mkF m 81 #[.val (.ref a0), .val (.int p1), .val (.int p2)] [(.ref a0)])) rfl rfl (hb hby d5_81)
                    obtain ⟨T362, X362, e362, st362⟩ := getF X361 hx hZ hown (host := "") (Or.inl (hw _ (own_w 32 rfl))) Via.refl e361 Fw318 (g := (mkF m 85 #[.val (.ref a0), .val (.int p1), .val (.int p2)] [(.ref a0), (.ref la)])) rfl rfl (hb hby d5_85)
                    obtain ⟨cl363, Ar363, hin363, hat363⟩ := own_AI.at f326 (j := (1 : Int32)) ⟨by decide, by decide⟩
                    have hc90_2 : ((wl.getD 1 (0 : Int32)) = p1) := hc64_2
                    have f364 := (Fw313.other W318 (Or.inr (slot_ne (Or.inl (hw _ (own_w 31 rfl))) (Or.inl (hw _ (own_w 33 rfl))) (by decide) (t := .int) (t' := .int) (by decide) (by decide))))
                    obtain ⟨T365, X365, e365, st365⟩ := getF X362 hx hZ hown (host := "") (Or.inl (hw _ (own_w 30 rfl))) Via.refl e362 f364 (g := (mkF m 95 #[.val (.ref a0), .val (.int p1), .val (.int p2)] [(.ref a0), (.ref a0)])) rfl rfl (hb hby d5_95)
                    have f366 := ((f307.other W313 (Or.inr (slot_ne (Or.inl (hw _ (own_w 22 rfl))) (Or.inl (hw _ (own_w 31 rfl))) (by decide) (t := (.array .int)) (t' := .int) (by decide) (by decide)))).other W318 (Or.inr (slot_ne (Or.inl (hw _ (own_w 22 rfl))) (Or.inl (hw _ (own_w 33 rfl))) (by decide) (t := (.array .int)) (t' := .int) (by decide) (by decide))))
                    obtain ⟨T367, X367, e367, st367⟩ := getF X365 hx hZ hown (host := "") (Or.inl (hw _ (own_w 21 rfl))) Via.refl e365 f366 (g := (mkF m 99 #[.val (.ref a0), .val (.int p1), .val (.int p2)] [(.ref a0), (.int ((0 : Int32) + (wc.getD 0 (0 : Int32)))), (.ref a0)])) rfl rfl (hb hby d5_99)
                    obtain ⟨T368, X368, e368, st368⟩ := getF X367 hx hZ hown (host := "") (Or.inl (hw _ (own_w 32 rfl))) Via.refl e367 Fw318 (g := (mkF m 103 #[.val (.ref a0), .val (.int p1), .val (.int p2)] [(.ref a0), (.ref ca), (.int ((0 : Int32) + (wc.getD 0 (0 : Int32)))), (.ref a0)])) rfl rfl (hb hby d5_103)
                    have f369 := ((f310.other W313 (Ne.symm ne_a0_ca)).other W318 (Ne.symm ne_a0_ca))
                    obtain ⟨cl370, Ar370, hin370, hat370⟩ := own_AI.at f369 (j := (1 : Int32)) ⟨by decide, by decide⟩
                    have f371 := (f317.wr W318)
                    obtain ⟨T372, h372, X372, e372, W372, st372⟩ := putF X368 hx hZ hown (host := "") (Or.inl (hw _ (own_w 30 rfl))) Via.refl e368 f364 f371 (Or.inl (hw _ (own_w 31 rfl))) (hw _ (own_w 8 rfl)) (ty := .int) (by decide) rfl rfl (g := (mkF m 108 #[.val (.ref a0), .val (.int p1), .val (.int p2)] [(.int (((0 : Int32) + (wc.getD 0 (0 : Int32))) + (wc.getD 1 (0 : Int32)))), (.ref a0)])) rfl rfl (hb hby d5_108)
                    have Fw372 := f364.same W372
                    have N372 := Fr.snoc X372 N318 g_a0
                    have kp373 : Keep h0 h372 [a0] := kp319.wr W372 (Or.inl (own_w 0 rfl))
                    have f374 := (Fw318.other W372 (Or.inr (slot_ne (Or.inl (hw _ (own_w 33 rfl))) (Or.inl (hw _ (own_w 31 rfl))) (by decide) (t := .int) (t' := .int) (by decide) (by decide))))
                    obtain ⟨T375, X375, e375, st375⟩ := getF X372 hx hZ hown (host := "") (Or.inl (hw _ (own_w 32 rfl))) Via.refl e372 f374 (g := (mkF m 113 #[.val (.ref a0), .val (.int p1), .val (.int p2)] [(.ref a0), (.ref a0)])) rfl rfl (hb hby d5_113)
                    have f376 := (f371.wr W372)
                    obtain ⟨T377, h377, X377, e377, W377, st377⟩ := putF X375 hx hZ hown (host := "") (Or.inl (hw _ (own_w 32 rfl))) Via.refl e375 f374 f376 (Or.inl (hw _ (own_w 33 rfl))) (hw _ (own_w 8 rfl)) (ty := .int) (by decide) rfl rfl (g := (mkF m 118 #[.val (.ref a0), .val (.int p1), .val (.int p2)] [(.int (2 : Int32)), (.ref a0)])) rfl rfl (hb hby d5_118)
                    have Fw377 := f374.same W377
                    have N377 := Fr.snoc X377 N372 g_a0
                    have kp378 : Keep h0 h377 [a0] := kp373.wr W377 (Or.inl (own_w 0 rfl))
                    obtain ⟨T379, X379, e379, st379⟩ := getF X377 hx hZ hown (host := "") (Or.inl (hw _ (own_w 32 rfl))) Via.refl e377 Fw377 (g := (mkF m 31 #[.val (.ref a0), .val (.int p1), .val (.int p2)] [(.ref a0)])) rfl rfl (hb hby d5_31)
                    have f380 := ((f321.other W372 (Or.inr (slot_ne (Or.inl (hw _ (own_w 35 rfl))) (Or.inl (hw _ (own_w 31 rfl))) (by decide) (t := .int) (t' := .int) (by decide) (by decide)))).other W377 (Or.inr (slot_ne (Or.inl (hw _ (own_w 35 rfl))) (Or.inl (hw _ (own_w 33 rfl))) (by decide) (t := .int) (t' := .int) (by decide) (by decide))))
                    obtain ⟨T381, X381, e381, st381⟩ := getF X379 hx hZ hown (host := "") (Or.inl (hw _ (own_w 34 rfl))) Via.refl e379 f380 (g := (mkF m 35 #[.val (.ref a0), .val (.int p1), .val (.int p2)] [(.ref a0), (.int (2 : Int32))])) rfl rfl (hb hby d5_35)
                    have f382 := (Fw372.other W377 (Or.inr (slot_ne (Or.inl (hw _ (own_w 31 rfl))) (Or.inl (hw _ (own_w 33 rfl))) (by decide) (t := .int) (t' := .int) (by decide) (by decide))))
                    obtain ⟨T383, X383, e383, st383⟩ := getF X381 hx hZ hown (host := "") (Or.inl (hw _ (own_w 30 rfl))) Via.refl e381 f382 (g := (mkF m 126 #[.val (.ref a0), .val (.int p1), .val (.int p2)] [(.ref a0), (.int p2)])) rfl rfl (hb hby d5_126)
                    obtain ⟨fs, hr, hrun, hended, hW, hsame⟩ := X383.leave (v := some (.int (p2 - (((0 : Int32) + (wc.getD 0 (0 : Int32))) + (wc.getD 1 (0 : Int32)))))) (fun h => by rw [Bd.returns] at h; cases h)
                    refine ⟨_, _, pre355 _ ?_, hrun, hended, _, _, rfl, ?_, ⟨_, rfl⟩, hW, hsame.mono (by decide) (by decide)⟩
                    · show Steps p.tables e below (T352.setTop (mkF m 77 #[.val (.ref a0), .val (.int p1), .val (.int p2)] [(.int p2), (.int (we.getD 1 (0 : Int32)))])) _
                      refine XS.icmpNo X352.here hx rfl (hb hby d5_77) rfl (flt hc77_2).2.2.1 ?_
                      refine XS.aloadN X352.here hx rfl (hb hby d5_80) rfl rfl ?_
                      refine st361 _ ?_
                      refine XS.aloadN X361.here hx rfl (hb hby d5_84) rfl rfl ?_
                      refine st362 _ ?_
                      show Steps p.tables e below (T362.setTop (mkF m 88 #[.val (.ref a0), .val (.int p1), .val (.int p2)] [(.int (1 : Int32)), (.ref la)])) _
                      refine X362.iaload hx (j := (1 : Int32)) (v := (.int (wl.getD 1 (0 : Int32)))) (by rw [e362]; exact Ar363.1) (State.isArrayOf_alike hZ.alike Ar363.2.1) Ar363.2.2 hin363 hat363 (g := (mkF m 88 #[.val (.ref a0), .val (.int p1), .val (.int p2)] [(.int (1 : Int32)), (.ref la)])) rfl rfl (hb hby d5_88) _ ?_
                      refine XS.iloadN X362.here hx rfl (hb hby d5_89) rfl ?_
                      refine XS.icmpNo X362.here hx rfl (hb hby d5_90) rfl (teq hc90_2).2 ?_
                      refine XS.aloadN X362.here hx rfl (hb hby d5_93) rfl rfl ?_
                      refine XS.dup X362.here hx rfl (hb hby d5_94) rfl rfl ?_
                      show Steps p.tables e below (T362.setTop (mkF m 95 #[.val (.ref a0), .val (.int p1), .val (.int p2)] [(.ref a0), (.ref a0)])) _
                      refine st365 _ ?_
                      refine XS.aloadN X365.here hx rfl (hb hby d5_98) rfl rfl ?_
                      refine st367 _ ?_
                      refine XS.aloadN X367.here hx rfl (hb hby d5_102) rfl rfl ?_
                      refine st368 _ ?_
                      show Steps p.tables e below (T368.setTop (mkF m 106 #[.val (.ref a0), .val (.int p1), .val (.int p2)] [(.int (1 : Int32)), (.ref ca), (.int ((0 : Int32) + (wc.getD 0 (0 : Int32)))), (.ref a0)])) _
                      refine X368.iaload hx (j := (1 : Int32)) (v := (.int (wc.getD 1 (0 : Int32)))) (by rw [e368]; exact Ar370.1) (State.isArrayOf_alike hZ.alike Ar370.2.1) Ar370.2.2 hin370 hat370 (g := (mkF m 106 #[.val (.ref a0), .val (.int p1), .val (.int p2)] [(.int (1 : Int32)), (.ref ca), (.int ((0 : Int32) + (wc.getD 0 (0 : Int32)))), (.ref a0)])) rfl rfl (hb hby d5_106) _ ?_
                      refine XS.iadd X368.here hx rfl (hb hby d5_107) rfl ?_
                      refine st372 _ ?_
                      refine XS.aloadN X372.here hx rfl (hb hby d5_111) rfl rfl ?_
                      refine XS.dup X372.here hx rfl (hb hby d5_112) rfl rfl ?_
                      show Steps p.tables e below (T372.setTop (mkF m 113 #[.val (.ref a0), .val (.int p1), .val (.int p2)] [(.ref a0), (.ref a0)])) _
                      refine st375 _ ?_
                      refine XS.iconst X375.here hx rfl (hb hby d5_116) ?_
                      refine XS.iadd X375.here hx rfl (hb hby d5_117) rfl ?_
                      refine st377 _ ?_
                      refine XS.goto X377.here hx rfl (pc0 := 121) (pc' := 30) rfl (hb hby d5_121) (by decide) (by decide) ?_
                      show Steps p.tables e below (T377.setTop (mkF m 30 #[.val (.ref a0), .val (.int p1), .val (.int p2)] [])) _
                      refine XS.aloadN X377.here hx rfl (hb hby d5_30) rfl rfl ?_
                      refine st379 _ ?_
                      refine XS.aloadN X379.here hx rfl (hb hby d5_34) rfl rfl ?_
                      refine st381 _ ?_
                      refine XS.icmpYes X381.here hx rfl (pc0 := 38) (pc' := 124) rfl (hb hby d5_38) rfl (flt (by decide : ¬ ((2 : Int32) < (2 : Int32)))).2.1 (by decide) (by decide) ?_
                      show Steps p.tables e below (T381.setTop (mkF m 124 #[.val (.ref a0), .val (.int p1), .val (.int p2)] [])) _
                      refine XS.iloadN X381.here hx rfl (hb hby d5_124) rfl ?_
                      refine XS.aloadN X381.here hx rfl (hb hby d5_125) rfl rfl ?_
                      refine st383 _ ?_
                      refine XS.isub X383.here hx rfl (hb hby d5_129) rfl ?_
                      show Steps p.tables e below (T383.setTop (mkF m 130 #[.val (.ref a0), .val (.int p1), .val (.int p2)] [(.int (p2 - (((0 : Int32) + (wc.getD 0 (0 : Int32))) + (wc.getD 1 (0 : Int32)))))])) _
                      exact retI X383 hx Bd.returns (hb hby d5_130) hr
                    · show Q5_0_2 Z a0 p1 p2 la ea ca kl ke kc wl we wc al pc h0 n0 _ T383.heap _
                      rw [e383]
                      unfold Q5_0_2
                      have f384 := (f376.wr W377)
                      have f385 := ((f323.other W372 (Or.inr (slot_ne (Or.inl (hw _ (own_w 18 rfl))) (Or.inl (hw _ (own_w 31 rfl))) (by decide) (t := (.array .int)) (t' := .int) (by decide) (by decide)))).other W377 (Or.inr (slot_ne (Or.inl (hw _ (own_w 18 rfl))) (Or.inl (hw _ (own_w 33 rfl))) (by decide) (t := (.array .int)) (t' := .int) (by decide) (by decide))))
                      have f386 := ((f350.other W372 (Or.inr (slot_ne (Or.inl (hw _ (own_w 20 rfl))) (Or.inl (hw _ (own_w 31 rfl))) (by decide) (t := (.array .int)) (t' := .int) (by decide) (by decide)))).other W377 (Or.inr (slot_ne (Or.inl (hw _ (own_w 20 rfl))) (Or.inl (hw _ (own_w 33 rfl))) (by decide) (t := (.array .int)) (t' := .int) (by decide) (by decide))))
                      have f387 := ((f366.other W372 (Or.inr (slot_ne (Or.inl (hw _ (own_w 22 rfl))) (Or.inl (hw _ (own_w 31 rfl))) (by decide) (t := (.array .int)) (t' := .int) (by decide) (by decide)))).other W377 (Or.inr (slot_ne (Or.inl (hw _ (own_w 22 rfl))) (Or.inl (hw _ (own_w 33 rfl))) (by decide) (t := (.array .int)) (t' := .int) (by decide) (by decide))))
                      have f388 := (((((Fw191.other W195 (Or.inr (slot_ne (Or.inl (hw _ (own_w 29 rfl))) (Or.inl (hw _ (own_w 31 rfl))) (by decide) (t := .int) (t' := .int) (by decide) (by decide)))).other W313 (Or.inr (slot_ne (Or.inl (hw _ (own_w 29 rfl))) (Or.inl (hw _ (own_w 31 rfl))) (by decide) (t := .int) (t' := .int) (by decide) (by decide)))).other W318 (Or.inr (slot_ne (Or.inl (hw _ (own_w 29 rfl))) (Or.inl (hw _ (own_w 33 rfl))) (by decide) (t := .int) (t' := .int) (by decide) (by decide)))).other W372 (Or.inr (slot_ne (Or.inl (hw _ (own_w 29 rfl))) (Or.inl (hw _ (own_w 31 rfl))) (by decide) (t := .int) (t' := .int) (by decide) (by decide)))).other W377 (Or.inr (slot_ne (Or.inl (hw _ (own_w 29 rfl))) (Or.inl (hw _ (own_w 33 rfl))) (by decide) (t := .int) (t' := .int) (by decide) (by decide))))
                      refine ⟨?_, N377, kp378, f384, ?_, ?_, ?_, ?_, ?_, ?_, ?_⟩
                      · simp only [own_f5_0_2, if_neg hc2, if_neg hc7, if_neg hc17, if_neg hc51, if_pos hc64, if_neg hc77, if_neg hc51_2, if_pos hc64_2, if_neg hc77_2]
                      · exact f385
                      · exact f386
                      · exact f387
                      · rw [show (own_p5_0_2_first p1 p2 wl we) = (2 : Int32) from (by simp only [own_p5_0_2_first, if_neg hc2, if_neg hc7, if_neg hc17, if_neg hc51, if_pos hc64, if_neg hc77, if_neg hc51_2, if_pos hc64_2, if_neg hc77_2])]; exact Fw377
                      · exact f380
                      · rw [show (own_p5_0_2_askedLine p1 p2 al) = p1 from (by simp only [own_p5_0_2_askedLine, if_neg hc2, if_neg hc7, if_neg hc17, if_neg hc51, if_pos hc64, if_neg hc77, if_neg hc51_2, if_pos hc64_2, if_neg hc77_2])]; exact f388
                      · rw [show (own_p5_0_2_passedChange p1 p2 wl we wc al pc) = (((0 : Int32) + (wc.getD 0 (0 : Int32))) + (wc.getD 1 (0 : Int32))) from (by simp only [own_p5_0_2_passedChange, if_neg hc2, if_neg hc7, if_neg hc17, if_neg hc51, if_pos hc64, if_neg hc77, if_neg hc51_2, if_pos hc64_2, if_neg hc77_2])]; exact f382
                · have f389 := (Fw313.other W318 (Or.inr (slot_ne (Or.inl (hw _ (own_w 31 rfl))) (Or.inl (hw _ (own_w 33 rfl))) (by decide) (t := .int) (t' := .int) (by decide) (by decide))))
                  obtain ⟨T390, X390, e390, st390⟩ := getF X347 hx hZ hown (host := "") (Or.inl (hw _ (own_w 30 rfl))) Via.refl e347 f389 (g := (mkF m 126 #[.val (.ref a0), .val (.int p1), .val (.int p2)] [(.ref a0), (.int p2)])) rfl rfl (hb hby d5_126)
                  obtain ⟨fs, hr, hrun, hended, hW, hsame⟩ := X390.leave (v := some (.int (p2 - ((0 : Int32) + (wc.getD 0 (0 : Int32)))))) (fun h => by rw [Bd.returns] at h; cases h)
                  refine ⟨_, _, pre349 _ ?_, hrun, hended, _, _, rfl, ?_, ⟨_, rfl⟩, hW, hsame.mono (by decide) (by decide)⟩
                  · show Steps p.tables e below (T347.setTop (mkF m 64 #[.val (.ref a0), .val (.int p1), .val (.int p2)] [(.int p1), (.int (wl.getD 1 (0 : Int32)))])) _
                    refine XS.icmpYes X347.here hx rfl (pc0 := 64) (pc' := 124) rfl (hb hby d5_64) rfl (feq hc64_2).2 (by decide) (by decide) ?_
                    refine XS.iloadN X347.here hx rfl (hb hby d5_124) rfl ?_
                    refine XS.aloadN X347.here hx rfl (hb hby d5_125) rfl rfl ?_
                    refine st390 _ ?_
                    refine XS.isub X390.here hx rfl (hb hby d5_129) rfl ?_
                    show Steps p.tables e below (T390.setTop (mkF m 130 #[.val (.ref a0), .val (.int p1), .val (.int p2)] [(.int (p2 - ((0 : Int32) + (wc.getD 0 (0 : Int32)))))])) _
                    exact retI X390 hx Bd.returns (hb hby d5_130) hr
                  · show Q5_0_2 Z a0 p1 p2 la ea ca kl ke kc wl we wc al pc h0 n0 _ T390.heap _
                    rw [e390]
                    unfold Q5_0_2
                    have f391 := (f317.wr W318)
                    have f392 := ((f293.other W313 (Or.inr (slot_ne (Or.inl (hw _ (own_w 20 rfl))) (Or.inl (hw _ (own_w 31 rfl))) (by decide) (t := (.array .int)) (t' := .int) (by decide) (by decide)))).other W318 (Or.inr (slot_ne (Or.inl (hw _ (own_w 20 rfl))) (Or.inl (hw _ (own_w 33 rfl))) (by decide) (t := (.array .int)) (t' := .int) (by decide) (by decide))))
                    have f393 := ((f307.other W313 (Or.inr (slot_ne (Or.inl (hw _ (own_w 22 rfl))) (Or.inl (hw _ (own_w 31 rfl))) (by decide) (t := (.array .int)) (t' := .int) (by decide) (by decide)))).other W318 (Or.inr (slot_ne (Or.inl (hw _ (own_w 22 rfl))) (Or.inl (hw _ (own_w 33 rfl))) (by decide) (t := (.array .int)) (t' := .int) (by decide) (by decide))))
                    have f394 := (((Fw191.other W195 (Or.inr (slot_ne (Or.inl (hw _ (own_w 29 rfl))) (Or.inl (hw _ (own_w 31 rfl))) (by decide) (t := .int) (t' := .int) (by decide) (by decide)))).other W313 (Or.inr (slot_ne (Or.inl (hw _ (own_w 29 rfl))) (Or.inl (hw _ (own_w 31 rfl))) (by decide) (t := .int) (t' := .int) (by decide) (by decide)))).other W318 (Or.inr (slot_ne (Or.inl (hw _ (own_w 29 rfl))) (Or.inl (hw _ (own_w 33 rfl))) (by decide) (t := .int) (t' := .int) (by decide) (by decide))))
                    refine ⟨?_, N318, kp319, f391, ?_, ?_, ?_, ?_, ?_, ?_, ?_⟩
                    · simp only [own_f5_0_2, if_neg hc2, if_neg hc7, if_neg hc17, if_neg hc51, if_pos hc64, if_neg hc77, if_neg hc51_2, if_neg hc64_2]
                    · exact f323
                    · exact f392
                    · exact f393
                    · rw [show (own_p5_0_2_first p1 p2 wl we) = (1 : Int32) from (by simp only [own_p5_0_2_first, if_neg hc2, if_neg hc7, if_neg hc17, if_neg hc51, if_pos hc64, if_neg hc77, if_neg hc51_2, if_neg hc64_2])]; exact Fw318
                    · exact f321
                    · rw [show (own_p5_0_2_askedLine p1 p2 al) = p1 from (by simp only [own_p5_0_2_askedLine, if_neg hc2, if_neg hc7, if_neg hc17, if_neg hc51, if_pos hc64, if_neg hc77, if_neg hc51_2, if_neg hc64_2])]; exact f394
                    · rw [show (own_p5_0_2_passedChange p1 p2 wl we wc al pc) = ((0 : Int32) + (wc.getD 0 (0 : Int32))) from (by simp only [own_p5_0_2_passedChange, if_neg hc2, if_neg hc7, if_neg hc17, if_neg hc51, if_pos hc64, if_neg hc77, if_neg hc51_2, if_neg hc64_2])]; exact f389
          · obtain ⟨T395, X395, e395, st395⟩ := getF X290 hx hZ hown (host := "") (Or.inl (hw _ (own_w 30 rfl))) Via.refl e290 Fw195 (g := (mkF m 126 #[.val (.ref a0), .val (.int p1), .val (.int p2)] [(.ref a0), (.int p2)])) rfl rfl (hb hby d5_126)
            obtain ⟨fs, hr, hrun, hended, hW, hsame⟩ := X395.leave (v := some (.int (p2 - (0 : Int32)))) (fun h => by rw [Bd.returns] at h; cases h)
            refine ⟨_, _, pre292 _ ?_, hrun, hended, _, _, rfl, ?_, ⟨_, rfl⟩, hW, hsame.mono (by decide) (by decide)⟩
            · show Steps p.tables e below (T290.setTop (mkF m 64 #[.val (.ref a0), .val (.int p1), .val (.int p2)] [(.int p1), (.int (wl.getD 0 (0 : Int32)))])) _
              refine XS.icmpYes X290.here hx rfl (pc0 := 64) (pc' := 124) rfl (hb hby d5_64) rfl (feq hc64).2 (by decide) (by decide) ?_
              refine XS.iloadN X290.here hx rfl (hb hby d5_124) rfl ?_
              refine XS.aloadN X290.here hx rfl (hb hby d5_125) rfl rfl ?_
              refine st395 _ ?_
              refine XS.isub X395.here hx rfl (hb hby d5_129) rfl ?_
              show Steps p.tables e below (T395.setTop (mkF m 130 #[.val (.ref a0), .val (.int p1), .val (.int p2)] [(.int (p2 - (0 : Int32)))])) _
              exact retI X395 hx Bd.returns (hb hby d5_130) hr
            · show Q5_0_2 Z a0 p1 p2 la ea ca kl ke kc wl we wc al pc h0 n0 _ T395.heap _
              rw [e395]
              unfold Q5_0_2
              have f396 := (f193.wr W195)
              have f397 := ((F_a0_ends.other W191 (Or.inr (slot_ne (Or.inl (hw _ (own_w 20 rfl))) (Or.inl (hw _ (own_w 29 rfl))) (by decide) (t := (.array .int)) (t' := .int) (by decide) (by decide)))).other W195 (Or.inr (slot_ne (Or.inl (hw _ (own_w 20 rfl))) (Or.inl (hw _ (own_w 31 rfl))) (by decide) (t := (.array .int)) (t' := .int) (by decide) (by decide))))
              have f398 := ((F_a0_changes.other W191 (Or.inr (slot_ne (Or.inl (hw _ (own_w 22 rfl))) (Or.inl (hw _ (own_w 29 rfl))) (by decide) (t := (.array .int)) (t' := .int) (by decide) (by decide)))).other W195 (Or.inr (slot_ne (Or.inl (hw _ (own_w 22 rfl))) (Or.inl (hw _ (own_w 31 rfl))) (by decide) (t := (.array .int)) (t' := .int) (by decide) (by decide))))
              have f399 := (Fw191.other W195 (Or.inr (slot_ne (Or.inl (hw _ (own_w 29 rfl))) (Or.inl (hw _ (own_w 31 rfl))) (by decide) (t := .int) (t' := .int) (by decide) (by decide))))
              refine ⟨?_, N195, kp196, f396, ?_, ?_, ?_, ?_, ?_, ?_, ?_⟩
              · simp only [own_f5_0_2, if_neg hc2, if_neg hc7, if_neg hc17, if_neg hc51, if_neg hc64]
              · exact f201
              · exact f397
              · exact f398
              · rw [show (own_p5_0_2_first p1 p2 wl we) = (0 : Int32) from (by simp only [own_p5_0_2_first, if_neg hc2, if_neg hc7, if_neg hc17, if_neg hc51, if_neg hc64])]; exact f197
              · exact f199
              · rw [show (own_p5_0_2_askedLine p1 p2 al) = p1 from (by simp only [own_p5_0_2_askedLine, if_neg hc2, if_neg hc7, if_neg hc17, if_neg hc51, if_neg hc64])]; exact f399
              · rw [show (own_p5_0_2_passedChange p1 p2 wl we wc al pc) = (0 : Int32) from (by simp only [own_p5_0_2_passedChange, if_neg hc2, if_neg hc7, if_neg hc17, if_neg hc51, if_neg hc64])]; exact Fw195
theorem ef_5_1_2 (m : MethodId) (a0 : Addr) (p1 : Int32) (p2 : Int32) : entryFrame m #[(.ref a0), (.int p1), (.int p2)] 3 = mkF m 0 #[.val (.ref a0), .val (.int p1), .val (.int p2)] [] := by first | (simp [entryFrame, mkF, argsToLocals, Value.category]; done) | rfl
def own_f5_1_2 (p1 : Int32) (p2 : Int32) (wl : List Int32) (we : List Int32) (wc : List Int32) (al : Int32) (pc : Int32) : Int32 := (if p1 < (1 : Int32) then p2 else (if p2 < (1 : Int32) then p2 else (if p1 = al then (if (wl.getD 1 (0 : Int32)) < p1 then (p2 - pc) else (if (wl.getD 1 (0 : Int32)) = p1 then (if p2 < (we.getD 1 (0 : Int32)) then (p2 - pc) else (p2 - (pc + (wc.getD 1 (0 : Int32))))) else (p2 - pc))) else (if (wl.getD 1 (0 : Int32)) < p1 then (p2 - (0 : Int32)) else (if (wl.getD 1 (0 : Int32)) = p1 then (if p2 < (we.getD 1 (0 : Int32)) then (p2 - (0 : Int32)) else (p2 - ((0 : Int32) + (wc.getD 1 (0 : Int32))))) else (p2 - (0 : Int32)))))))
def own_p5_1_2_first (p1 : Int32) (p2 : Int32) (wl : List Int32) (we : List Int32) : Int32 := (if p1 < (1 : Int32) then (1 : Int32) else (if p2 < (1 : Int32) then (1 : Int32) else (if (wl.getD 1 (0 : Int32)) < p1 then (2 : Int32) else (if (wl.getD 1 (0 : Int32)) = p1 then (if p2 < (we.getD 1 (0 : Int32)) then (1 : Int32) else (2 : Int32)) else (1 : Int32)))))
def own_p5_1_2_askedLine (p1 : Int32) (p2 : Int32) (al : Int32) : Int32 := (if p1 < (1 : Int32) then al else (if p2 < (1 : Int32) then al else (if p1 = al then al else p1)))
def own_p5_1_2_passedChange (p1 : Int32) (p2 : Int32) (wl : List Int32) (we : List Int32) (wc : List Int32) (al : Int32) (pc : Int32) : Int32 := (if p1 < (1 : Int32) then pc else (if p2 < (1 : Int32) then pc else (if p1 = al then (if (wl.getD 1 (0 : Int32)) < p1 then pc else (if (wl.getD 1 (0 : Int32)) = p1 then (if p2 < (we.getD 1 (0 : Int32)) then pc else (pc + (wc.getD 1 (0 : Int32)))) else pc)) else (if (wl.getD 1 (0 : Int32)) < p1 then (0 : Int32) else (if (wl.getD 1 (0 : Int32)) = p1 then (if p2 < (we.getD 1 (0 : Int32)) then (0 : Int32) else ((0 : Int32) + (wc.getD 1 (0 : Int32)))) else (0 : Int32))))))
def Q5_1_2 (Z : State) (a0 : Addr) (p1 : Int32) (p2 : Int32) (la : Addr) (ea : Addr) (ca : Addr) (kl : ClassId) (ke : ClassId) (kc : ClassId) (wl : List Int32) (we : List Int32) (wc : List Int32) (al : Int32) (pc : Int32) (h0 : Heap) (n0 : Nat) (v : Option Value) (h : Heap) (L : List Loc) : Prop := v = some (.int (own_f5_1_2 p1 p2 wl we wc al pc)) ∧ Fr n0 L ∧ Keep h0 h [a0] ∧ Exa Z h a0 "com/example/trawl/trawl/load/ColumnShifts" ∧ Fld Z h a0 "com/example/trawl/trawl/load/ColumnShifts" "lines" "[I" (.ref la) ∧ Fld Z h a0 "com/example/trawl/trawl/load/ColumnShifts" "ends" "[I" (.ref ea) ∧ Fld Z h a0 "com/example/trawl/trawl/load/ColumnShifts" "changes" "[I" (.ref ca) ∧ Fld Z h a0 "com/example/trawl/trawl/load/ColumnShifts" "first" "I" (.int (own_p5_1_2_first p1 p2 wl we)) ∧ Fld Z h a0 "com/example/trawl/trawl/load/ColumnShifts" "end" "I" (.int (2 : Int32)) ∧ Fld Z h a0 "com/example/trawl/trawl/load/ColumnShifts" "askedLine" "I" (.int (own_p5_1_2_askedLine p1 p2 al)) ∧ Fld Z h a0 "com/example/trawl/trawl/load/ColumnShifts" "passedChange" "I" (.int (own_p5_1_2_passedChange p1 p2 wl we wc al pc))
set_option maxRecDepth 65536 in
set_option maxHeartbeats 40000000 in
theorem rm5_1_2 (l : Launch) (Z : State) (aw : Array Value) (hw : ∀ d ∈ tables_1, d.before aw Z = true) (wq : List Jvm.Cond) (a0 : Addr) (p1 : Int32) (p2 : Int32) (la : Addr) (ea : Addr) (ca : Addr) (kl : ClassId) (ke : ClassId) (kc : ClassId) (wl : List Int32) (we : List Int32) (wc : List Int32) (al : Int32) (pc : Int32) (h0 : Heap) (n0 : Nat) (Z0 : n0 ≤ h0.size) (E_a0 : Exa Z h0 a0 "com/example/trawl/trawl/load/ColumnShifts") (F_a0_lines : Fld Z h0 a0 "com/example/trawl/trawl/load/ColumnShifts" "lines" "[I" (.ref la)) (F_a0_ends : Fld Z h0 a0 "com/example/trawl/trawl/load/ColumnShifts" "ends" "[I" (.ref ea)) (F_a0_changes : Fld Z h0 a0 "com/example/trawl/trawl/load/ColumnShifts" "changes" "[I" (.ref ca)) (V_la : own_AI Z h0 la kl .int (4 : Int32) wl) (V_ea : own_AI Z h0 ea ke .int (4 : Int32) we) (V_ca : own_AI Z h0 ca kc .int (4 : Int32) wc) (ne_la_ea : la ≠ ea) (ne_la_ca : la ≠ ca) (ne_ea_ca : ea ≠ ca) (ne_a0_la : a0 ≠ la) (ne_a0_ea : a0 ≠ ea) (ne_a0_ca : a0 ≠ ca) (g_a0 : n0 ≤ a0) (F_a0_first : Fld Z h0 a0 "com/example/trawl/trawl/load/ColumnShifts" "first" "I" (.int (1 : Int32))) (F_a0_end : Fld Z h0 a0 "com/example/trawl/trawl/load/ColumnShifts" "end" "I" (.int (2 : Int32))) (F_a0_askedLine : Fld Z h0 a0 "com/example/trawl/trawl/load/ColumnShifts" "askedLine" "I" (.int al)) (F_a0_passedChange : Fld Z h0 a0 "com/example/trawl/trawl/load/ColumnShifts" "passedChange" "I" (.int pc)) :
    MetFree l (⟨"com/example/trawl/trawl/load/ColumnShifts", "columnInText", "(II)I"⟩ : MethodName) (head1 (Jvm.Cond.code (⟨"com/example/trawl/trawl/load/ColumnShifts", "columnInText", "(II)I"⟩ : MethodName) prog_28_method_3_code 3 (some .int) :: wq) ({ frames := 0, cells := 0, slots := 0, locals := 0 } : Room)) (fun a U => a = #[(.ref a0), (.int p1), (.int p2)] ∧ Z.Warmed39 U.vm ∧ U.heap = h0) (fun _ _ _ _ _ => True) (fun _ U o U' => ∃ v L, o = .returned v ∧ Q5_1_2 Z a0 p1 p2 la ea ca kl ke kc wl we wc al pc h0 n0 v U'.heap L ∧ FrameEnd U o U' L ({ frames := 0, cells := 0, slots := 0, locals := 0 } : Room).cells ({ frames := 0, cells := 0, slots := 0, locals := 0 } : Room).slots) := by
  refine MetFree.of_bodySF (plainFor_of_name pn_0) hisR ?_
  intro p e s m args below meth c s₁ Bd hml0 hP hK
  obtain ⟨rfl, hZ, hh⟩ := hP
  have hx := Bd.exec
  have hby := Bd.bytes
  have hml : c.maxLocals = 3 := hml0
  have hown : s.vm.findClass "com/example/trawl/trawl/load/ColumnShifts" = some m.cls := findClass_of_methodNamed Bd.named
  have hnm := (name_of_methodNamed Bd.named Bd.method).1
  have X0 : Stand p l e ({ frames := 0, cells := 0, slots := 0, locals := 0 } : Room) s m #[(.ref a0), (.int p1), (.int p2)] below meth c s₁ [] 0 0 := Stand.of_body Bd
  have e0 : s₁.heap = h0 := by rw [← hh, Bd.state]; rfl
  have N0 := Fr.nil n0
  have pre0 : own_Pre p e below (s₁.setTop (entryFrame m #[(.ref a0), (.int p1), (.int p2)] 3)) (s₁.setTop (mkF m 0 #[.val (.ref a0), .val (.int p1), .val (.int p2)] [])) := fun t k => castTop (ef_5_1_2 m a0 p1 p2) k
  have pre1 : own_Pre p e below (s₁.setTop (entryFrame m #[(.ref a0), (.int p1), (.int p2)] 3)) (s₁.setTop (mkF m 2 #[.val (.ref a0), .val (.int p1), .val (.int p2)] [(.int (1 : Int32)), (.int p1)])) := fun t k => pre0 t (by
      show Steps p.tables e below (s₁.setTop (mkF m 0 #[.val (.ref a0), .val (.int p1), .val (.int p2)] [])) _
      refine XS.iloadN X0.here hx rfl (hb hby d5_0) rfl ?_
      refine XS.iconst X0.here hx rfl (hb hby d5_1) ?_
      exact k)
  by_cases hc2 : p1 < (1 : Int32)
  · obtain ⟨fs, hr, hrun, hended, hW, hsame⟩ := X0.leave (v := some (.int p2)) (fun h => by rw [Bd.returns] at h; cases h)
    refine ⟨_, _, pre1 _ ?_, hrun, hended, _, _, rfl, ?_, ⟨_, rfl⟩, hW, hsame.mono (by decide) (by decide)⟩
    · show Steps p.tables e below (s₁.setTop (mkF m 2 #[.val (.ref a0), .val (.int p1), .val (.int p2)] [(.int (1 : Int32)), (.int p1)])) _
      refine XS.icmpYes X0.here hx rfl (pc0 := 2) (pc' := 10) rfl (hb hby d5_2) rfl (tlt hc2).1 (by decide) (by decide) ?_
      refine XS.iloadN X0.here hx rfl (hb hby d5_10) rfl ?_
      show Steps p.tables e below (s₁.setTop (mkF m 11 #[.val (.ref a0), .val (.int p1), .val (.int p2)] [(.int p2)])) _
      exact retI X0 hx Bd.returns (hb hby d5_11) hr
    · show Q5_1_2 Z a0 p1 p2 la ea ca kl ke kc wl we wc al pc h0 n0 _ s₁.heap _
      rw [e0]
      unfold Q5_1_2
      refine ⟨?_, N0, (Keep.refl h0 [a0]), E_a0, ?_, ?_, ?_, ?_, ?_, ?_, ?_⟩
      · simp only [own_f5_1_2, if_pos hc2]
      · exact F_a0_lines
      · exact F_a0_ends
      · exact F_a0_changes
      · rw [show (own_p5_1_2_first p1 p2 wl we) = (1 : Int32) from (by simp only [own_p5_1_2_first, if_pos hc2])]; exact F_a0_first
      · exact F_a0_end
      · rw [show (own_p5_1_2_askedLine p1 p2 al) = al from (by simp only [own_p5_1_2_askedLine, if_pos hc2])]; exact F_a0_askedLine
      · rw [show (own_p5_1_2_passedChange p1 p2 wl we wc al pc) = pc from (by simp only [own_p5_1_2_passedChange, if_pos hc2])]; exact F_a0_passedChange
  · have pre2 : own_Pre p e below (s₁.setTop (entryFrame m #[(.ref a0), (.int p1), (.int p2)] 3)) (s₁.setTop (mkF m 7 #[.val (.ref a0), .val (.int p1), .val (.int p2)] [(.int (1 : Int32)), (.int p2)])) := fun t k => pre1 t (by
        show Steps p.tables e below (s₁.setTop (mkF m 2 #[.val (.ref a0), .val (.int p1), .val (.int p2)] [(.int (1 : Int32)), (.int p1)])) _
        refine XS.icmpNo X0.here hx rfl (hb hby d5_2) rfl (flt hc2).1 ?_
        refine XS.iloadN X0.here hx rfl (hb hby d5_5) rfl ?_
        refine XS.iconst X0.here hx rfl (hb hby d5_6) ?_
        exact k)
    by_cases hc7 : p2 < (1 : Int32)
    · obtain ⟨fs, hr, hrun, hended, hW, hsame⟩ := X0.leave (v := some (.int p2)) (fun h => by rw [Bd.returns] at h; cases h)
      refine ⟨_, _, pre2 _ ?_, hrun, hended, _, _, rfl, ?_, ⟨_, rfl⟩, hW, hsame.mono (by decide) (by decide)⟩
      · show Steps p.tables e below (s₁.setTop (mkF m 7 #[.val (.ref a0), .val (.int p1), .val (.int p2)] [(.int (1 : Int32)), (.int p2)])) _
        refine XS.icmpNo X0.here hx rfl (hb hby d5_7) rfl (tlt hc7).2.1 ?_
        refine XS.iloadN X0.here hx rfl (hb hby d5_10) rfl ?_
        show Steps p.tables e below (s₁.setTop (mkF m 11 #[.val (.ref a0), .val (.int p1), .val (.int p2)] [(.int p2)])) _
        exact retI X0 hx Bd.returns (hb hby d5_11) hr
      · show Q5_1_2 Z a0 p1 p2 la ea ca kl ke kc wl we wc al pc h0 n0 _ s₁.heap _
        rw [e0]
        unfold Q5_1_2
        refine ⟨?_, N0, (Keep.refl h0 [a0]), E_a0, ?_, ?_, ?_, ?_, ?_, ?_, ?_⟩
        · simp only [own_f5_1_2, if_neg hc2, if_pos hc7]
        · exact F_a0_lines
        · exact F_a0_ends
        · exact F_a0_changes
        · rw [show (own_p5_1_2_first p1 p2 wl we) = (1 : Int32) from (by simp only [own_p5_1_2_first, if_neg hc2, if_pos hc7])]; exact F_a0_first
        · exact F_a0_end
        · rw [show (own_p5_1_2_askedLine p1 p2 al) = al from (by simp only [own_p5_1_2_askedLine, if_neg hc2, if_pos hc7])]; exact F_a0_askedLine
        · rw [show (own_p5_1_2_passedChange p1 p2 wl we wc al pc) = pc from (by simp only [own_p5_1_2_passedChange, if_neg hc2, if_pos hc7])]; exact F_a0_passedChange
    · obtain ⟨T3, X3, e3, st3⟩ := getF X0 hx hZ hown (host := "") (Or.inl (hw _ (own_w 28 rfl))) Via.refl e0 F_a0_askedLine (g := (mkF m 14 #[.val (.ref a0), .val (.int p1), .val (.int p2)] [(.ref a0), (.int p1)])) rfl rfl (hb hby d5_14)
      have pre4 : own_Pre p e below (s₁.setTop (entryFrame m #[(.ref a0), (.int p1), (.int p2)] 3)) (T3.setTop (mkF m 17 #[.val (.ref a0), .val (.int p1), .val (.int p2)] [(.int al), (.int p1)])) := fun t k => pre2 t (by
          show Steps p.tables e below (s₁.setTop (mkF m 7 #[.val (.ref a0), .val (.int p1), .val (.int p2)] [(.int (1 : Int32)), (.int p2)])) _
          refine XS.icmpYes X0.here hx rfl (pc0 := 7) (pc' := 12) rfl (hb hby d5_7) rfl (flt hc7).2.1 (by decide) (by decide) ?_
          refine XS.iloadN X0.here hx rfl (hb hby d5_12) rfl ?_
          refine XS.aloadN X0.here hx rfl (hb hby d5_13) rfl rfl ?_
          refine st3 _ ?_
          exact k)
      by_cases hc17 : p1 = al
      · obtain ⟨T5, X5, e5, st5⟩ := getF X3 hx hZ hown (host := "") (Or.inl (hw _ (own_w 32 rfl))) Via.refl e3 F_a0_first (g := (mkF m 31 #[.val (.ref a0), .val (.int p1), .val (.int p2)] [(.ref a0)])) rfl rfl (hb hby d5_31)
        obtain ⟨T6, X6, e6, st6⟩ := getF X5 hx hZ hown (host := "") (Or.inl (hw _ (own_w 34 rfl))) Via.refl e5 F_a0_end (g := (mkF m 35 #[.val (.ref a0), .val (.int p1), .val (.int p2)] [(.ref a0), (.int (1 : Int32))])) rfl rfl (hb hby d5_35)
        obtain ⟨T7, X7, e7, st7⟩ := getF X6 hx hZ hown (host := "") (Or.inl (hw _ (own_w 17 rfl))) Via.refl e6 F_a0_lines (g := (mkF m 42 #[.val (.ref a0), .val (.int p1), .val (.int p2)] [(.ref a0)])) rfl rfl (hb hby d5_42)
        obtain ⟨T8, X8, e8, st8⟩ := getF X7 hx hZ hown (host := "") (Or.inl (hw _ (own_w 32 rfl))) Via.refl e7 F_a0_first (g := (mkF m 46 #[.val (.ref a0), .val (.int p1), .val (.int p2)] [(.ref a0), (.ref la)])) rfl rfl (hb hby d5_46)
        obtain ⟨cl9, Ar9, hin9, hat9⟩ := own_AI.at V_la (j := (1 : Int32)) ⟨by decide, by decide⟩
        have pre10 : own_Pre p e below (s₁.setTop (entryFrame m #[(.ref a0), (.int p1), (.int p2)] 3)) (T8.setTop (mkF m 51 #[.val (.ref a0), .val (.int p1), .val (.int p2)] [(.int p1), (.int (wl.getD 1 (0 : Int32)))])) := fun t k => pre4 t (by
            show Steps p.tables e below (T3.setTop (mkF m 17 #[.val (.ref a0), .val (.int p1), .val (.int p2)] [(.int al), (.int p1)])) _
            refine XS.icmpYes X3.here hx rfl (pc0 := 17) (pc' := 30) rfl (hb hby d5_17) rfl (teq hc17).1 (by decide) (by decide) ?_
            refine XS.aloadN X3.here hx rfl (hb hby d5_30) rfl rfl ?_
            refine st5 _ ?_
            refine XS.aloadN X5.here hx rfl (hb hby d5_34) rfl rfl ?_
            refine st6 _ ?_
            show Steps p.tables e below (T6.setTop (mkF m 38 #[.val (.ref a0), .val (.int p1), .val (.int p2)] [(.int (2 : Int32)), (.int (1 : Int32))])) _
            refine XS.icmpNo X6.here hx rfl (hb hby d5_38) rfl (tlt (by decide : ((1 : Int32) < (2 : Int32)))).2.1 ?_
            refine XS.aloadN X6.here hx rfl (hb hby d5_41) rfl rfl ?_
            refine st7 _ ?_
            refine XS.aloadN X7.here hx rfl (hb hby d5_45) rfl rfl ?_
            refine st8 _ ?_
            show Steps p.tables e below (T8.setTop (mkF m 49 #[.val (.ref a0), .val (.int p1), .val (.int p2)] [(.int (1 : Int32)), (.ref la)])) _
            refine X8.iaload hx (j := (1 : Int32)) (v := (.int (wl.getD 1 (0 : Int32)))) (by rw [e8]; exact Ar9.1) (State.isArrayOf_alike hZ.alike Ar9.2.1) Ar9.2.2 hin9 hat9 (g := (mkF m 49 #[.val (.ref a0), .val (.int p1), .val (.int p2)] [(.int (1 : Int32)), (.ref la)])) rfl rfl (hb hby d5_49) _ ?_
            refine XS.iloadN X8.here hx rfl (hb hby d5_50) rfl ?_
            exact k)
        by_cases hc51 : (wl.getD 1 (0 : Int32)) < p1
        · obtain ⟨T11, X11, e11, st11⟩ := getF X8 hx hZ hown (host := "") (Or.inl (hw _ (own_w 17 rfl))) Via.refl e8 F_a0_lines (g := (mkF m 81 #[.val (.ref a0), .val (.int p1), .val (.int p2)] [(.ref a0)])) rfl rfl (hb hby d5_81)
          obtain ⟨T12, X12, e12, st12⟩ := getF X11 hx hZ hown (host := "") (Or.inl (hw _ (own_w 32 rfl))) Via.refl e11 F_a0_first (g := (mkF m 85 #[.val (.ref a0), .val (.int p1), .val (.int p2)] [(.ref a0), (.ref la)])) rfl rfl (hb hby d5_85)
          obtain ⟨cl13, Ar13, hin13, hat13⟩ := own_AI.at V_la (j := (1 : Int32)) ⟨by decide, by decide⟩
          have hc90 : ¬ ((wl.getD 1 (0 : Int32)) = p1) := own_nlt hc51
          obtain ⟨T14, X14, e14, st14⟩ := getF X12 hx hZ hown (host := "") (Or.inl (hw _ (own_w 32 rfl))) Via.refl e12 F_a0_first (g := (mkF m 113 #[.val (.ref a0), .val (.int p1), .val (.int p2)] [(.ref a0), (.ref a0)])) rfl rfl (hb hby d5_113)
          obtain ⟨T15, h15, X15, e15, W15, st15⟩ := putF X14 hx hZ hown (host := "") (Or.inl (hw _ (own_w 32 rfl))) Via.refl e14 F_a0_first E_a0 (Or.inl (hw _ (own_w 33 rfl))) (hw _ (own_w 8 rfl)) (ty := .int) (by decide) rfl rfl (g := (mkF m 118 #[.val (.ref a0), .val (.int p1), .val (.int p2)] [(.int (2 : Int32)), (.ref a0)])) rfl rfl (hb hby d5_118)
          have Fw15 := F_a0_first.same W15
          have N15 := Fr.snoc X15 N0 g_a0
          have kp16 : Keep h0 h15 [a0] := (Keep.refl h0 [a0]).wr W15 (Or.inl (own_w 0 rfl))
          obtain ⟨T17, X17, e17, st17⟩ := getF X15 hx hZ hown (host := "") (Or.inl (hw _ (own_w 32 rfl))) Via.refl e15 Fw15 (g := (mkF m 31 #[.val (.ref a0), .val (.int p1), .val (.int p2)] [(.ref a0)])) rfl rfl (hb hby d5_31)
          have f18 := (F_a0_end.other W15 (Or.inr (slot_ne (Or.inl (hw _ (own_w 35 rfl))) (Or.inl (hw _ (own_w 33 rfl))) (by decide) (t := .int) (t' := .int) (by decide) (by decide))))
          obtain ⟨T19, X19, e19, st19⟩ := getF X17 hx hZ hown (host := "") (Or.inl (hw _ (own_w 34 rfl))) Via.refl e17 f18 (g := (mkF m 35 #[.val (.ref a0), .val (.int p1), .val (.int p2)] [(.ref a0), (.int (2 : Int32))])) rfl rfl (hb hby d5_35)
          have f20 := (F_a0_passedChange.other W15 (Or.inr (slot_ne (Or.inl (hw _ (own_w 31 rfl))) (Or.inl (hw _ (own_w 33 rfl))) (by decide) (t := .int) (t' := .int) (by decide) (by decide))))
          obtain ⟨T21, X21, e21, st21⟩ := getF X19 hx hZ hown (host := "") (Or.inl (hw _ (own_w 30 rfl))) Via.refl e19 f20 (g := (mkF m 126 #[.val (.ref a0), .val (.int p1), .val (.int p2)] [(.ref a0), (.int p2)])) rfl rfl (hb hby d5_126)
          obtain ⟨fs, hr, hrun, hended, hW, hsame⟩ := X21.leave (v := some (.int (p2 - pc))) (fun h => by rw [Bd.returns] at h; cases h)
          refine ⟨_, _, pre10 _ ?_, hrun, hended, _, _, rfl, ?_, ⟨_, rfl⟩, hW, hsame.mono (by decide) (by decide)⟩
          · show Steps p.tables e below (T8.setTop (mkF m 51 #[.val (.ref a0), .val (.int p1), .val (.int p2)] [(.int p1), (.int (wl.getD 1 (0 : Int32)))])) _
            refine XS.icmpYes X8.here hx rfl (pc0 := 51) (pc' := 80) rfl (hb hby d5_51) rfl (tlt hc51).1 (by decide) (by decide) ?_
            refine XS.aloadN X8.here hx rfl (hb hby d5_80) rfl rfl ?_
            refine st11 _ ?_
            refine XS.aloadN X11.here hx rfl (hb hby d5_84) rfl rfl ?_
            refine st12 _ ?_
            show Steps p.tables e below (T12.setTop (mkF m 88 #[.val (.ref a0), .val (.int p1), .val (.int p2)] [(.int (1 : Int32)), (.ref la)])) _
            refine X12.iaload hx (j := (1 : Int32)) (v := (.int (wl.getD 1 (0 : Int32)))) (by rw [e12]; exact Ar13.1) (State.isArrayOf_alike hZ.alike Ar13.2.1) Ar13.2.2 hin13 hat13 (g := (mkF m 88 #[.val (.ref a0), .val (.int p1), .val (.int p2)] [(.int (1 : Int32)), (.ref la)])) rfl rfl (hb hby d5_88) _ ?_
            refine XS.iloadN X12.here hx rfl (hb hby d5_89) rfl ?_
            refine XS.icmpYes X12.here hx rfl (pc0 := 90) (pc' := 111) rfl (hb hby d5_90) rfl (feq hc90).2 (by decide) (by decide) ?_
            refine XS.aloadN X12.here hx rfl (hb hby d5_111) rfl rfl ?_
            refine XS.dup X12.here hx rfl (hb hby d5_112) rfl rfl ?_
            show Steps p.tables e below (T12.setTop (mkF m 113 #[.val (.ref a0), .val (.int p1), .val (.int p2)] [(.ref a0), (.ref a0)])) _
            refine st14 _ ?_
            refine XS.iconst X14.here hx rfl (hb hby d5_116) ?_
            refine XS.iadd X14.here hx rfl (hb hby d5_117) rfl ?_
            refine st15 _ ?_
            refine XS.goto X15.here hx rfl (pc0 := 121) (pc' := 30) rfl (hb hby d5_121) (by decide) (by decide) ?_
            show Steps p.tables e below (T15.setTop (mkF m 30 #[.val (.ref a0), .val (.int p1), .val (.int p2)] [])) _
            refine XS.aloadN X15.here hx rfl (hb hby d5_30) rfl rfl ?_
            refine st17 _ ?_
            refine XS.aloadN X17.here hx rfl (hb hby d5_34) rfl rfl ?_
            refine st19 _ ?_
            refine XS.icmpYes X19.here hx rfl (pc0 := 38) (pc' := 124) rfl (hb hby d5_38) rfl (flt (by decide : ¬ ((2 : Int32) < (2 : Int32)))).2.1 (by decide) (by decide) ?_
            show Steps p.tables e below (T19.setTop (mkF m 124 #[.val (.ref a0), .val (.int p1), .val (.int p2)] [])) _
            refine XS.iloadN X19.here hx rfl (hb hby d5_124) rfl ?_
            refine XS.aloadN X19.here hx rfl (hb hby d5_125) rfl rfl ?_
            refine st21 _ ?_
            refine XS.isub X21.here hx rfl (hb hby d5_129) rfl ?_
            show Steps p.tables e below (T21.setTop (mkF m 130 #[.val (.ref a0), .val (.int p1), .val (.int p2)] [(.int (p2 - pc))])) _
            exact retI X21 hx Bd.returns (hb hby d5_130) hr
          · show Q5_1_2 Z a0 p1 p2 la ea ca kl ke kc wl we wc al pc h0 n0 _ T21.heap _
            rw [e21]
            unfold Q5_1_2
            have f22 := (E_a0.wr W15)
            have f23 := (F_a0_lines.other W15 (Or.inr (slot_ne (Or.inl (hw _ (own_w 18 rfl))) (Or.inl (hw _ (own_w 33 rfl))) (by decide) (t := (.array .int)) (t' := .int) (by decide) (by decide))))
            have f24 := (F_a0_ends.other W15 (Or.inr (slot_ne (Or.inl (hw _ (own_w 20 rfl))) (Or.inl (hw _ (own_w 33 rfl))) (by decide) (t := (.array .int)) (t' := .int) (by decide) (by decide))))
            have f25 := (F_a0_changes.other W15 (Or.inr (slot_ne (Or.inl (hw _ (own_w 22 rfl))) (Or.inl (hw _ (own_w 33 rfl))) (by decide) (t := (.array .int)) (t' := .int) (by decide) (by decide))))
            have f26 := (F_a0_askedLine.other W15 (Or.inr (slot_ne (Or.inl (hw _ (own_w 29 rfl))) (Or.inl (hw _ (own_w 33 rfl))) (by decide) (t := .int) (t' := .int) (by decide) (by decide))))
            refine ⟨?_, N15, kp16, f22, ?_, ?_, ?_, ?_, ?_, ?_, ?_⟩
            · simp only [own_f5_1_2, if_neg hc2, if_neg hc7, if_pos hc17, if_pos hc51]
            · exact f23
            · exact f24
            · exact f25
            · rw [show (own_p5_1_2_first p1 p2 wl we) = (2 : Int32) from (by simp only [own_p5_1_2_first, if_neg hc2, if_neg hc7, if_pos hc17, if_pos hc51])]; exact Fw15
            · exact f18
            · rw [show (own_p5_1_2_askedLine p1 p2 al) = al from (by simp only [own_p5_1_2_askedLine, if_neg hc2, if_neg hc7, if_pos hc17, if_pos hc51])]; exact f26
            · rw [show (own_p5_1_2_passedChange p1 p2 wl we wc al pc) = pc from (by simp only [own_p5_1_2_passedChange, if_neg hc2, if_neg hc7, if_pos hc17, if_pos hc51])]; exact f20
        · obtain ⟨T27, X27, e27, st27⟩ := getF X8 hx hZ hown (host := "") (Or.inl (hw _ (own_w 17 rfl))) Via.refl e8 F_a0_lines (g := (mkF m 55 #[.val (.ref a0), .val (.int p1), .val (.int p2)] [(.ref a0)])) rfl rfl (hb hby d5_55)
          obtain ⟨T28, X28, e28, st28⟩ := getF X27 hx hZ hown (host := "") (Or.inl (hw _ (own_w 32 rfl))) Via.refl e27 F_a0_first (g := (mkF m 59 #[.val (.ref a0), .val (.int p1), .val (.int p2)] [(.ref a0), (.ref la)])) rfl rfl (hb hby d5_59)
          obtain ⟨cl29, Ar29, hin29, hat29⟩ := own_AI.at V_la (j := (1 : Int32)) ⟨by decide, by decide⟩
          have pre30 : own_Pre p e below (s₁.setTop (entryFrame m #[(.ref a0), (.int p1), (.int p2)] 3)) (T28.setTop (mkF m 64 #[.val (.ref a0), .val (.int p1), .val (.int p2)] [(.int p1), (.int (wl.getD 1 (0 : Int32)))])) := fun t k => pre10 t (by
              show Steps p.tables e below (T8.setTop (mkF m 51 #[.val (.ref a0), .val (.int p1), .val (.int p2)] [(.int p1), (.int (wl.getD 1 (0 : Int32)))])) _
              refine XS.icmpNo X8.here hx rfl (hb hby d5_51) rfl (flt hc51).1 ?_
              refine XS.aloadN X8.here hx rfl (hb hby d5_54) rfl rfl ?_
              refine st27 _ ?_
              refine XS.aloadN X27.here hx rfl (hb hby d5_58) rfl rfl ?_
              refine st28 _ ?_
              show Steps p.tables e below (T28.setTop (mkF m 62 #[.val (.ref a0), .val (.int p1), .val (.int p2)] [(.int (1 : Int32)), (.ref la)])) _
              refine X28.iaload hx (j := (1 : Int32)) (v := (.int (wl.getD 1 (0 : Int32)))) (by rw [e28]; exact Ar29.1) (State.isArrayOf_alike hZ.alike Ar29.2.1) Ar29.2.2 hin29 hat29 (g := (mkF m 62 #[.val (.ref a0), .val (.int p1), .val (.int p2)] [(.int (1 : Int32)), (.ref la)])) rfl rfl (hb hby d5_62) _ ?_
              refine XS.iloadN X28.here hx rfl (hb hby d5_63) rfl ?_
              exact k)
          by_cases hc64 : (wl.getD 1 (0 : Int32)) = p1
          · obtain ⟨T31, X31, e31, st31⟩ := getF X28 hx hZ hown (host := "") (Or.inl (hw _ (own_w 19 rfl))) Via.refl e28 F_a0_ends (g := (mkF m 68 #[.val (.ref a0), .val (.int p1), .val (.int p2)] [(.ref a0)])) rfl rfl (hb hby d5_68)
            obtain ⟨T32, X32, e32, st32⟩ := getF X31 hx hZ hown (host := "") (Or.inl (hw _ (own_w 32 rfl))) Via.refl e31 F_a0_first (g := (mkF m 72 #[.val (.ref a0), .val (.int p1), .val (.int p2)] [(.ref a0), (.ref ea)])) rfl rfl (hb hby d5_72)
            obtain ⟨cl33, Ar33, hin33, hat33⟩ := own_AI.at V_ea (j := (1 : Int32)) ⟨by decide, by decide⟩
            have pre34 : own_Pre p e below (s₁.setTop (entryFrame m #[(.ref a0), (.int p1), (.int p2)] 3)) (T32.setTop (mkF m 77 #[.val (.ref a0), .val (.int p1), .val (.int p2)] [(.int p2), (.int (we.getD 1 (0 : Int32)))])) := fun t k => pre30 t (by
                show Steps p.tables e below (T28.setTop (mkF m 64 #[.val (.ref a0), .val (.int p1), .val (.int p2)] [(.int p1), (.int (wl.getD 1 (0 : Int32)))])) _
                refine XS.icmpNo X28.here hx rfl (hb hby d5_64) rfl (teq hc64).2 ?_
                refine XS.aloadN X28.here hx rfl (hb hby d5_67) rfl rfl ?_
                refine st31 _ ?_
                refine XS.aloadN X31.here hx rfl (hb hby d5_71) rfl rfl ?_
                refine st32 _ ?_
                show Steps p.tables e below (T32.setTop (mkF m 75 #[.val (.ref a0), .val (.int p1), .val (.int p2)] [(.int (1 : Int32)), (.ref ea)])) _
                refine X32.iaload hx (j := (1 : Int32)) (v := (.int (we.getD 1 (0 : Int32)))) (by rw [e32]; exact Ar33.1) (State.isArrayOf_alike hZ.alike Ar33.2.1) Ar33.2.2 hin33 hat33 (g := (mkF m 75 #[.val (.ref a0), .val (.int p1), .val (.int p2)] [(.int (1 : Int32)), (.ref ea)])) rfl rfl (hb hby d5_75) _ ?_
                refine XS.iloadN X32.here hx rfl (hb hby d5_76) rfl ?_
                exact k)
            by_cases hc77 : p2 < (we.getD 1 (0 : Int32))
            · obtain ⟨T35, X35, e35, st35⟩ := getF X32 hx hZ hown (host := "") (Or.inl (hw _ (own_w 30 rfl))) Via.refl e32 F_a0_passedChange (g := (mkF m 126 #[.val (.ref a0), .val (.int p1), .val (.int p2)] [(.ref a0), (.int p2)])) rfl rfl (hb hby d5_126)
              obtain ⟨fs, hr, hrun, hended, hW, hsame⟩ := X35.leave (v := some (.int (p2 - pc))) (fun h => by rw [Bd.returns] at h; cases h)
              refine ⟨_, _, pre34 _ ?_, hrun, hended, _, _, rfl, ?_, ⟨_, rfl⟩, hW, hsame.mono (by decide) (by decide)⟩
              · show Steps p.tables e below (T32.setTop (mkF m 77 #[.val (.ref a0), .val (.int p1), .val (.int p2)] [(.int p2), (.int (we.getD 1 (0 : Int32)))])) _
                refine XS.icmpYes X32.here hx rfl (pc0 := 77) (pc' := 124) rfl (hb hby d5_77) rfl (tlt hc77).2.2.1 (by decide) (by decide) ?_
                refine XS.iloadN X32.here hx rfl (hb hby d5_124) rfl ?_
                refine XS.aloadN X32.here hx rfl (hb hby d5_125) rfl rfl ?_
                refine st35 _ ?_
                refine XS.isub X35.here hx rfl (hb hby d5_129) rfl ?_
                show Steps p.tables e below (T35.setTop (mkF m 130 #[.val (.ref a0), .val (.int p1), .val (.int p2)] [(.int (p2 - pc))])) _
                exact retI X35 hx Bd.returns (hb hby d5_130) hr
              · show Q5_1_2 Z a0 p1 p2 la ea ca kl ke kc wl we wc al pc h0 n0 _ T35.heap _
                rw [e35]
                unfold Q5_1_2
                refine ⟨?_, N0, (Keep.refl h0 [a0]), E_a0, ?_, ?_, ?_, ?_, ?_, ?_, ?_⟩
                · simp only [own_f5_1_2, if_neg hc2, if_neg hc7, if_pos hc17, if_neg hc51, if_pos hc64, if_pos hc77]
                · exact F_a0_lines
                · exact F_a0_ends
                · exact F_a0_changes
                · rw [show (own_p5_1_2_first p1 p2 wl we) = (1 : Int32) from (by simp only [own_p5_1_2_first, if_neg hc2, if_neg hc7, if_pos hc17, if_neg hc51, if_pos hc64, if_pos hc77])]; exact F_a0_first
                · exact F_a0_end
                · rw [show (own_p5_1_2_askedLine p1 p2 al) = al from (by simp only [own_p5_1_2_askedLine, if_neg hc2, if_neg hc7, if_pos hc17, if_neg hc51, if_pos hc64, if_pos hc77])]; exact F_a0_askedLine
                · rw [show (own_p5_1_2_passedChange p1 p2 wl we wc al pc) = pc from (by simp only [own_p5_1_2_passedChange, if_neg hc2, if_neg hc7, if_pos hc17, if_neg hc51, if_pos hc64, if_pos hc77])]; exact F_a0_passedChange
            · obtain ⟨T36, X36, e36, st36⟩ := getF X32 hx hZ hown (host := "") (Or.inl (hw _ (own_w 17 rfl))) Via.refl e32 F_a0_lines (g := (mkF m 81 #[.val (.ref a0), .val (.int p1), .val (.int p2)] [(.ref a0)])) rfl rfl (hb hby d5_81)
              obtain ⟨T37, X37, e37, st37⟩ := getF X36 hx hZ hown (host := "") (Or.inl (hw _ (own_w 32 rfl))) Via.refl e36 F_a0_first (g := (mkF m 85 #[.val (.ref a0), .val (.int p1), .val (.int p2)] [(.ref a0), (.ref la)])) rfl rfl (hb hby d5_85)
              obtain ⟨cl38, Ar38, hin38, hat38⟩ := own_AI.at V_la (j := (1 : Int32)) ⟨by decide, by decide⟩
              have hc90 : ((wl.getD 1 (0 : Int32)) = p1) := hc64
              obtain ⟨T39, X39, e39, st39⟩ := getF X37 hx hZ hown (host := "") (Or.inl (hw _ (own_w 30 rfl))) Via.refl e37 F_a0_passedChange (g := (mkF m 95 #[.val (.ref a0), .val (.int p1), .val (.int p2)] [(.ref a0), (.ref a0)])) rfl rfl (hb hby d5_95)
              obtain ⟨T40, X40, e40, st40⟩ := getF X39 hx hZ hown (host := "") (Or.inl (hw _ (own_w 21 rfl))) Via.refl e39 F_a0_changes (g := (mkF m 99 #[.val (.ref a0), .val (.int p1), .val (.int p2)] [(.ref a0), (.int pc), (.ref a0)])) rfl rfl (hb hby d5_99)
              obtain ⟨T41, X41, e41, st41⟩ := getF X40 hx hZ hown (host := "") (Or.inl (hw _ (own_w 32 rfl))) Via.refl e40 F_a0_first (g := (mkF m 103 #[.val (.ref a0), .val (.int p1), .val (.int p2)] [(.ref a0), (.ref ca), (.int pc), (.ref a0)])) rfl rfl (hb hby d5_103)
              obtain ⟨cl42, Ar42, hin42, hat42⟩ := own_AI.at V_ca (j := (1 : Int32)) ⟨by decide, by decide⟩
              obtain ⟨T43, h43, X43, e43, W43, st43⟩ := putF X41 hx hZ hown (host := "") (Or.inl (hw _ (own_w 30 rfl))) Via.refl e41 F_a0_passedChange E_a0 (Or.inl (hw _ (own_w 31 rfl))) (hw _ (own_w 8 rfl)) (ty := .int) (by decide) rfl rfl (g := (mkF m 108 #[.val (.ref a0), .val (.int p1), .val (.int p2)] [(.int (pc + (wc.getD 1 (0 : Int32)))), (.ref a0)])) rfl rfl (hb hby d5_108)
              have Fw43 := F_a0_passedChange.same W43
              have N43 := Fr.snoc X43 N0 g_a0
              have kp44 : Keep h0 h43 [a0] := (Keep.refl h0 [a0]).wr W43 (Or.inl (own_w 0 rfl))
              have f45 := (F_a0_first.other W43 (Or.inr (slot_ne (Or.inl (hw _ (own_w 33 rfl))) (Or.inl (hw _ (own_w 31 rfl))) (by decide) (t := .int) (t' := .int) (by decide) (by decide))))
              obtain ⟨T46, X46, e46, st46⟩ := getF X43 hx hZ hown (host := "") (Or.inl (hw _ (own_w 32 rfl))) Via.refl e43 f45 (g := (mkF m 113 #[.val (.ref a0), .val (.int p1), .val (.int p2)] [(.ref a0), (.ref a0)])) rfl rfl (hb hby d5_113)
              have f47 := (E_a0.wr W43)
              obtain ⟨T48, h48, X48, e48, W48, st48⟩ := putF X46 hx hZ hown (host := "") (Or.inl (hw _ (own_w 32 rfl))) Via.refl e46 f45 f47 (Or.inl (hw _ (own_w 33 rfl))) (hw _ (own_w 8 rfl)) (ty := .int) (by decide) rfl rfl (g := (mkF m 118 #[.val (.ref a0), .val (.int p1), .val (.int p2)] [(.int (2 : Int32)), (.ref a0)])) rfl rfl (hb hby d5_118)
              have Fw48 := f45.same W48
              have N48 := Fr.snoc X48 N43 g_a0
              have kp49 : Keep h0 h48 [a0] := kp44.wr W48 (Or.inl (own_w 0 rfl))
              obtain ⟨T50, X50, e50, st50⟩ := getF X48 hx hZ hown (host := "") (Or.inl (hw _ (own_w 32 rfl))) Via.refl e48 Fw48 (g := (mkF m 31 #[.val (.ref a0), .val (.int p1), .val (.int p2)] [(.ref a0)])) rfl rfl (hb hby d5_31)
              have f51 := ((F_a0_end.other W43 (Or.inr (slot_ne (Or.inl (hw _ (own_w 35 rfl))) (Or.inl (hw _ (own_w 31 rfl))) (by decide) (t := .int) (t' := .int) (by decide) (by decide)))).other W48 (Or.inr (slot_ne (Or.inl (hw _ (own_w 35 rfl))) (Or.inl (hw _ (own_w 33 rfl))) (by decide) (t := .int) (t' := .int) (by decide) (by decide))))
              obtain ⟨T52, X52, e52, st52⟩ := getF X50 hx hZ hown (host := "") (Or.inl (hw _ (own_w 34 rfl))) Via.refl e50 f51 (g := (mkF m 35 #[.val (.ref a0), .val (.int p1), .val (.int p2)] [(.ref a0), (.int (2 : Int32))])) rfl rfl (hb hby d5_35)
              have f53 := (Fw43.other W48 (Or.inr (slot_ne (Or.inl (hw _ (own_w 31 rfl))) (Or.inl (hw _ (own_w 33 rfl))) (by decide) (t := .int) (t' := .int) (by decide) (by decide))))
              obtain ⟨T54, X54, e54, st54⟩ := getF X52 hx hZ hown (host := "") (Or.inl (hw _ (own_w 30 rfl))) Via.refl e52 f53 (g := (mkF m 126 #[.val (.ref a0), .val (.int p1), .val (.int p2)] [(.ref a0), (.int p2)])) rfl rfl (hb hby d5_126)
              obtain ⟨fs, hr, hrun, hended, hW, hsame⟩ := X54.leave (v := some (.int (p2 - (pc + (wc.getD 1 (0 : Int32)))))) (fun h => by rw [Bd.returns] at h; cases h)
              refine ⟨_, _, pre34 _ ?_, hrun, hended, _, _, rfl, ?_, ⟨_, rfl⟩, hW, hsame.mono (by decide) (by decide)⟩
              · show Steps p.tables e below (T32.setTop (mkF m 77 #[.val (.ref a0), .val (.int p1), .val (.int p2)] [(.int p2), (.int (we.getD 1 (0 : Int32)))])) _
                refine XS.icmpNo X32.here hx rfl (hb hby d5_77) rfl (flt hc77).2.2.1 ?_
                refine XS.aloadN X32.here hx rfl (hb hby d5_80) rfl rfl ?_
                refine st36 _ ?_
                refine XS.aloadN X36.here hx rfl (hb hby d5_84) rfl rfl ?_
                refine st37 _ ?_
                show Steps p.tables e below (T37.setTop (mkF m 88 #[.val (.ref a0), .val (.int p1), .val (.int p2)] [(.int (1 : Int32)), (.ref la)])) _
                refine X37.iaload hx (j := (1 : Int32)) (v := (.int (wl.getD 1 (0 : Int32)))) (by rw [e37]; exact Ar38.1) (State.isArrayOf_alike hZ.alike Ar38.2.1) Ar38.2.2 hin38 hat38 (g := (mkF m 88 #[.val (.ref a0), .val (.int p1), .val (.int p2)] [(.int (1 : Int32)), (.ref la)])) rfl rfl (hb hby d5_88) _ ?_
                refine XS.iloadN X37.here hx rfl (hb hby d5_89) rfl ?_
                refine XS.icmpNo X37.here hx rfl (hb hby d5_90) rfl (teq hc90).2 ?_
                refine XS.aloadN X37.here hx rfl (hb hby d5_93) rfl rfl ?_
                refine XS.dup X37.here hx rfl (hb hby d5_94) rfl rfl ?_
                show Steps p.tables e below (T37.setTop (mkF m 95 #[.val (.ref a0), .val (.int p1), .val (.int p2)] [(.ref a0), (.ref a0)])) _
                refine st39 _ ?_
                refine XS.aloadN X39.here hx rfl (hb hby d5_98) rfl rfl ?_
                refine st40 _ ?_
                refine XS.aloadN X40.here hx rfl (hb hby d5_102) rfl rfl ?_
                refine st41 _ ?_
                show Steps p.tables e below (T41.setTop (mkF m 106 #[.val (.ref a0), .val (.int p1), .val (.int p2)] [(.int (1 : Int32)), (.ref ca), (.int pc), (.ref a0)])) _
                refine X41.iaload hx (j := (1 : Int32)) (v := (.int (wc.getD 1 (0 : Int32)))) (by rw [e41]; exact Ar42.1) (State.isArrayOf_alike hZ.alike Ar42.2.1) Ar42.2.2 hin42 hat42 (g := (mkF m 106 #[.val (.ref a0), .val (.int p1), .val (.int p2)] [(.int (1 : Int32)), (.ref ca), (.int pc), (.ref a0)])) rfl rfl (hb hby d5_106) _ ?_
                refine XS.iadd X41.here hx rfl (hb hby d5_107) rfl ?_
                refine st43 _ ?_
                refine XS.aloadN X43.here hx rfl (hb hby d5_111) rfl rfl ?_
                refine XS.dup X43.here hx rfl (hb hby d5_112) rfl rfl ?_
                show Steps p.tables e below (T43.setTop (mkF m 113 #[.val (.ref a0), .val (.int p1), .val (.int p2)] [(.ref a0), (.ref a0)])) _
                refine st46 _ ?_
                refine XS.iconst X46.here hx rfl (hb hby d5_116) ?_
                refine XS.iadd X46.here hx rfl (hb hby d5_117) rfl ?_
                refine st48 _ ?_
                refine XS.goto X48.here hx rfl (pc0 := 121) (pc' := 30) rfl (hb hby d5_121) (by decide) (by decide) ?_
                show Steps p.tables e below (T48.setTop (mkF m 30 #[.val (.ref a0), .val (.int p1), .val (.int p2)] [])) _
                refine XS.aloadN X48.here hx rfl (hb hby d5_30) rfl rfl ?_
                refine st50 _ ?_
                refine XS.aloadN X50.here hx rfl (hb hby d5_34) rfl rfl ?_
                refine st52 _ ?_
                refine XS.icmpYes X52.here hx rfl (pc0 := 38) (pc' := 124) rfl (hb hby d5_38) rfl (flt (by decide : ¬ ((2 : Int32) < (2 : Int32)))).2.1 (by decide) (by decide) ?_
                show Steps p.tables e below (T52.setTop (mkF m 124 #[.val (.ref a0), .val (.int p1), .val (.int p2)] [])) _
                refine XS.iloadN X52.here hx rfl (hb hby d5_124) rfl ?_
                refine XS.aloadN X52.here hx rfl (hb hby d5_125) rfl rfl ?_
                refine st54 _ ?_
                refine XS.isub X54.here hx rfl (hb hby d5_129) rfl ?_
                show Steps p.tables e below (T54.setTop (mkF m 130 #[.val (.ref a0), .val (.int p1), .val (.int p2)] [(.int (p2 - (pc + (wc.getD 1 (0 : Int32)))))])) _
                exact retI X54 hx Bd.returns (hb hby d5_130) hr
              · show Q5_1_2 Z a0 p1 p2 la ea ca kl ke kc wl we wc al pc h0 n0 _ T54.heap _
                rw [e54]
                unfold Q5_1_2
                have f55 := (f47.wr W48)
                have f56 := ((F_a0_lines.other W43 (Or.inr (slot_ne (Or.inl (hw _ (own_w 18 rfl))) (Or.inl (hw _ (own_w 31 rfl))) (by decide) (t := (.array .int)) (t' := .int) (by decide) (by decide)))).other W48 (Or.inr (slot_ne (Or.inl (hw _ (own_w 18 rfl))) (Or.inl (hw _ (own_w 33 rfl))) (by decide) (t := (.array .int)) (t' := .int) (by decide) (by decide))))
                have f57 := ((F_a0_ends.other W43 (Or.inr (slot_ne (Or.inl (hw _ (own_w 20 rfl))) (Or.inl (hw _ (own_w 31 rfl))) (by decide) (t := (.array .int)) (t' := .int) (by decide) (by decide)))).other W48 (Or.inr (slot_ne (Or.inl (hw _ (own_w 20 rfl))) (Or.inl (hw _ (own_w 33 rfl))) (by decide) (t := (.array .int)) (t' := .int) (by decide) (by decide))))
                have f58 := ((F_a0_changes.other W43 (Or.inr (slot_ne (Or.inl (hw _ (own_w 22 rfl))) (Or.inl (hw _ (own_w 31 rfl))) (by decide) (t := (.array .int)) (t' := .int) (by decide) (by decide)))).other W48 (Or.inr (slot_ne (Or.inl (hw _ (own_w 22 rfl))) (Or.inl (hw _ (own_w 33 rfl))) (by decide) (t := (.array .int)) (t' := .int) (by decide) (by decide))))
                have f59 := ((F_a0_askedLine.other W43 (Or.inr (slot_ne (Or.inl (hw _ (own_w 29 rfl))) (Or.inl (hw _ (own_w 31 rfl))) (by decide) (t := .int) (t' := .int) (by decide) (by decide)))).other W48 (Or.inr (slot_ne (Or.inl (hw _ (own_w 29 rfl))) (Or.inl (hw _ (own_w 33 rfl))) (by decide) (t := .int) (t' := .int) (by decide) (by decide))))
                refine ⟨?_, N48, kp49, f55, ?_, ?_, ?_, ?_, ?_, ?_, ?_⟩
                · simp only [own_f5_1_2, if_neg hc2, if_neg hc7, if_pos hc17, if_neg hc51, if_pos hc64, if_neg hc77]
                · exact f56
                · exact f57
                · exact f58
                · rw [show (own_p5_1_2_first p1 p2 wl we) = (2 : Int32) from (by simp only [own_p5_1_2_first, if_neg hc2, if_neg hc7, if_pos hc17, if_neg hc51, if_pos hc64, if_neg hc77])]; exact Fw48
                · exact f51
                · rw [show (own_p5_1_2_askedLine p1 p2 al) = al from (by simp only [own_p5_1_2_askedLine, if_neg hc2, if_neg hc7, if_pos hc17, if_neg hc51, if_pos hc64, if_neg hc77])]; exact f59
                · rw [show (own_p5_1_2_passedChange p1 p2 wl we wc al pc) = (pc + (wc.getD 1 (0 : Int32))) from (by simp only [own_p5_1_2_passedChange, if_neg hc2, if_neg hc7, if_pos hc17, if_neg hc51, if_pos hc64, if_neg hc77])]; exact f53
          · obtain ⟨T60, X60, e60, st60⟩ := getF X28 hx hZ hown (host := "") (Or.inl (hw _ (own_w 30 rfl))) Via.refl e28 F_a0_passedChange (g := (mkF m 126 #[.val (.ref a0), .val (.int p1), .val (.int p2)] [(.ref a0), (.int p2)])) rfl rfl (hb hby d5_126)
            obtain ⟨fs, hr, hrun, hended, hW, hsame⟩ := X60.leave (v := some (.int (p2 - pc))) (fun h => by rw [Bd.returns] at h; cases h)
            refine ⟨_, _, pre30 _ ?_, hrun, hended, _, _, rfl, ?_, ⟨_, rfl⟩, hW, hsame.mono (by decide) (by decide)⟩
            · show Steps p.tables e below (T28.setTop (mkF m 64 #[.val (.ref a0), .val (.int p1), .val (.int p2)] [(.int p1), (.int (wl.getD 1 (0 : Int32)))])) _
              refine XS.icmpYes X28.here hx rfl (pc0 := 64) (pc' := 124) rfl (hb hby d5_64) rfl (feq hc64).2 (by decide) (by decide) ?_
              refine XS.iloadN X28.here hx rfl (hb hby d5_124) rfl ?_
              refine XS.aloadN X28.here hx rfl (hb hby d5_125) rfl rfl ?_
              refine st60 _ ?_
              refine XS.isub X60.here hx rfl (hb hby d5_129) rfl ?_
              show Steps p.tables e below (T60.setTop (mkF m 130 #[.val (.ref a0), .val (.int p1), .val (.int p2)] [(.int (p2 - pc))])) _
              exact retI X60 hx Bd.returns (hb hby d5_130) hr
            · show Q5_1_2 Z a0 p1 p2 la ea ca kl ke kc wl we wc al pc h0 n0 _ T60.heap _
              rw [e60]
              unfold Q5_1_2
              refine ⟨?_, N0, (Keep.refl h0 [a0]), E_a0, ?_, ?_, ?_, ?_, ?_, ?_, ?_⟩
              · simp only [own_f5_1_2, if_neg hc2, if_neg hc7, if_pos hc17, if_neg hc51, if_neg hc64]
              · exact F_a0_lines
              · exact F_a0_ends
              · exact F_a0_changes
              · rw [show (own_p5_1_2_first p1 p2 wl we) = (1 : Int32) from (by simp only [own_p5_1_2_first, if_neg hc2, if_neg hc7, if_pos hc17, if_neg hc51, if_neg hc64])]; exact F_a0_first
              · exact F_a0_end
              · rw [show (own_p5_1_2_askedLine p1 p2 al) = al from (by simp only [own_p5_1_2_askedLine, if_neg hc2, if_neg hc7, if_pos hc17, if_neg hc51, if_neg hc64])]; exact F_a0_askedLine
              · rw [show (own_p5_1_2_passedChange p1 p2 wl we wc al pc) = pc from (by simp only [own_p5_1_2_passedChange, if_neg hc2, if_neg hc7, if_pos hc17, if_neg hc51, if_neg hc64])]; exact F_a0_passedChange
      · obtain ⟨T61, h61, X61, e61, W61, st61⟩ := putF X3 hx hZ hown (host := "") (Or.inl (hw _ (own_w 28 rfl))) Via.refl e3 F_a0_askedLine E_a0 (Or.inl (hw _ (own_w 29 rfl))) (hw _ (own_w 8 rfl)) (ty := .int) (by decide) rfl rfl (g := (mkF m 22 #[.val (.ref a0), .val (.int p1), .val (.int p2)] [(.int p1), (.ref a0)])) rfl rfl (hb hby d5_22)
        have Fw61 := F_a0_askedLine.same W61
        have N61 := Fr.snoc X61 N0 g_a0
        have kp62 : Keep h0 h61 [a0] := (Keep.refl h0 [a0]).wr W61 (Or.inl (own_w 0 rfl))
        have f63 := (E_a0.wr W61)
        have f64 := (F_a0_passedChange.other W61 (Or.inr (slot_ne (Or.inl (hw _ (own_w 31 rfl))) (Or.inl (hw _ (own_w 29 rfl))) (by decide) (t := .int) (t' := .int) (by decide) (by decide))))
        obtain ⟨T65, h65, X65, e65, W65, st65⟩ := putF X61 hx hZ hown (host := "") (Or.inl (hw _ (own_w 30 rfl))) Via.refl e61 f64 f63 (Or.inl (hw _ (own_w 31 rfl))) (hw _ (own_w 8 rfl)) (ty := .int) (by decide) rfl rfl (g := (mkF m 27 #[.val (.ref a0), .val (.int p1), .val (.int p2)] [(.int (0 : Int32)), (.ref a0)])) rfl rfl (hb hby d5_27)
        have Fw65 := f64.same W65
        have N65 := Fr.snoc X65 N61 g_a0
        have kp66 : Keep h0 h65 [a0] := kp62.wr W65 (Or.inl (own_w 0 rfl))
        have f67 := ((F_a0_first.other W61 (Or.inr (slot_ne (Or.inl (hw _ (own_w 33 rfl))) (Or.inl (hw _ (own_w 29 rfl))) (by decide) (t := .int) (t' := .int) (by decide) (by decide)))).other W65 (Or.inr (slot_ne (Or.inl (hw _ (own_w 33 rfl))) (Or.inl (hw _ (own_w 31 rfl))) (by decide) (t := .int) (t' := .int) (by decide) (by decide))))
        obtain ⟨T68, X68, e68, st68⟩ := getF X65 hx hZ hown (host := "") (Or.inl (hw _ (own_w 32 rfl))) Via.refl e65 f67 (g := (mkF m 31 #[.val (.ref a0), .val (.int p1), .val (.int p2)] [(.ref a0)])) rfl rfl (hb hby d5_31)
        have f69 := ((F_a0_end.other W61 (Or.inr (slot_ne (Or.inl (hw _ (own_w 35 rfl))) (Or.inl (hw _ (own_w 29 rfl))) (by decide) (t := .int) (t' := .int) (by decide) (by decide)))).other W65 (Or.inr (slot_ne (Or.inl (hw _ (own_w 35 rfl))) (Or.inl (hw _ (own_w 31 rfl))) (by decide) (t := .int) (t' := .int) (by decide) (by decide))))
        obtain ⟨T70, X70, e70, st70⟩ := getF X68 hx hZ hown (host := "") (Or.inl (hw _ (own_w 34 rfl))) Via.refl e68 f69 (g := (mkF m 35 #[.val (.ref a0), .val (.int p1), .val (.int p2)] [(.ref a0), (.int (1 : Int32))])) rfl rfl (hb hby d5_35)
        have f71 := ((F_a0_lines.other W61 (Or.inr (slot_ne (Or.inl (hw _ (own_w 18 rfl))) (Or.inl (hw _ (own_w 29 rfl))) (by decide) (t := (.array .int)) (t' := .int) (by decide) (by decide)))).other W65 (Or.inr (slot_ne (Or.inl (hw _ (own_w 18 rfl))) (Or.inl (hw _ (own_w 31 rfl))) (by decide) (t := (.array .int)) (t' := .int) (by decide) (by decide))))
        obtain ⟨T72, X72, e72, st72⟩ := getF X70 hx hZ hown (host := "") (Or.inl (hw _ (own_w 17 rfl))) Via.refl e70 f71 (g := (mkF m 42 #[.val (.ref a0), .val (.int p1), .val (.int p2)] [(.ref a0)])) rfl rfl (hb hby d5_42)
        obtain ⟨T73, X73, e73, st73⟩ := getF X72 hx hZ hown (host := "") (Or.inl (hw _ (own_w 32 rfl))) Via.refl e72 f67 (g := (mkF m 46 #[.val (.ref a0), .val (.int p1), .val (.int p2)] [(.ref a0), (.ref la)])) rfl rfl (hb hby d5_46)
        have f74 := ((V_la.other W61 (Ne.symm ne_a0_la)).other W65 (Ne.symm ne_a0_la))
        obtain ⟨cl75, Ar75, hin75, hat75⟩ := own_AI.at f74 (j := (1 : Int32)) ⟨by decide, by decide⟩
        have pre76 : own_Pre p e below (s₁.setTop (entryFrame m #[(.ref a0), (.int p1), (.int p2)] 3)) (T73.setTop (mkF m 51 #[.val (.ref a0), .val (.int p1), .val (.int p2)] [(.int p1), (.int (wl.getD 1 (0 : Int32)))])) := fun t k => pre4 t (by
            show Steps p.tables e below (T3.setTop (mkF m 17 #[.val (.ref a0), .val (.int p1), .val (.int p2)] [(.int al), (.int p1)])) _
            refine XS.icmpNo X3.here hx rfl (hb hby d5_17) rfl (feq hc17).1 ?_
            refine XS.aloadN X3.here hx rfl (hb hby d5_20) rfl rfl ?_
            refine XS.iloadN X3.here hx rfl (hb hby d5_21) rfl ?_
            refine st61 _ ?_
            refine XS.aloadN X61.here hx rfl (hb hby d5_25) rfl rfl ?_
            show Steps p.tables e below (T61.setTop (mkF m 26 #[.val (.ref a0), .val (.int p1), .val (.int p2)] [(.ref a0)])) _
            refine XS.iconst X61.here hx rfl (hb hby d5_26) ?_
            refine st65 _ ?_
            refine XS.aloadN X65.here hx rfl (hb hby d5_30) rfl rfl ?_
            refine st68 _ ?_
            refine XS.aloadN X68.here hx rfl (hb hby d5_34) rfl rfl ?_
            show Steps p.tables e below (T68.setTop (mkF m 35 #[.val (.ref a0), .val (.int p1), .val (.int p2)] [(.ref a0), (.int (1 : Int32))])) _
            refine st70 _ ?_
            refine XS.icmpNo X70.here hx rfl (hb hby d5_38) rfl (tlt (by decide : ((1 : Int32) < (2 : Int32)))).2.1 ?_
            refine XS.aloadN X70.here hx rfl (hb hby d5_41) rfl rfl ?_
            refine st72 _ ?_
            refine XS.aloadN X72.here hx rfl (hb hby d5_45) rfl rfl ?_
            show Steps p.tables e below (T72.setTop (mkF m 46 #[.val (.ref a0), .val (.int p1), .val (.int p2)] [(.ref a0), (.ref la)])) _
            refine st73 _ ?_
            refine X73.iaload hx (j := (1 : Int32)) (v := (.int (wl.getD 1 (0 : Int32)))) (by rw [e73]; exact Ar75.1) (State.isArrayOf_alike hZ.alike Ar75.2.1) Ar75.2.2 hin75 hat75 (g := (mkF m 49 #[.val (.ref a0), .val (.int p1), .val (.int p2)] [(.int (1 : Int32)), (.ref la)])) rfl rfl (hb hby d5_49) _ ?_
            refine XS.iloadN X73.here hx rfl (hb hby d5_50) rfl ?_
            exact k)
        by_cases hc51 : (wl.getD 1 (0 : Int32)) < p1
        · obtain ⟨T77, X77, e77, st77⟩ := getF X73 hx hZ hown (host := "") (Or.inl (hw _ (own_w 17 rfl))) Via.refl e73 f71 (g := (mkF m 81 #[.val (.ref a0), .val (.int p1), .val (.int p2)] [(.ref a0)])) rfl rfl (hb hby d5_81)
          obtain ⟨T78, X78, e78, st78⟩ := getF X77 hx hZ hown (host := "") (Or.inl (hw _ (own_w 32 rfl))) Via.refl e77 f67 (g := (mkF m 85 #[.val (.ref a0), .val (.int p1), .val (.int p2)] [(.ref a0), (.ref la)])) rfl rfl (hb hby d5_85)
          obtain ⟨cl79, Ar79, hin79, hat79⟩ := own_AI.at f74 (j := (1 : Int32)) ⟨by decide, by decide⟩
          have hc90 : ¬ ((wl.getD 1 (0 : Int32)) = p1) := own_nlt hc51
          obtain ⟨T80, X80, e80, st80⟩ := getF X78 hx hZ hown (host := "") (Or.inl (hw _ (own_w 32 rfl))) Via.refl e78 f67 (g := (mkF m 113 #[.val (.ref a0), .val (.int p1), .val (.int p2)] [(.ref a0), (.ref a0)])) rfl rfl (hb hby d5_113)
          have f81 := (f63.wr W65)
          obtain ⟨T82, h82, X82, e82, W82, st82⟩ := putF X80 hx hZ hown (host := "") (Or.inl (hw _ (own_w 32 rfl))) Via.refl e80 f67 f81 (Or.inl (hw _ (own_w 33 rfl))) (hw _ (own_w 8 rfl)) (ty := .int) (by decide) rfl rfl (g := (mkF m 118 #[.val (.ref a0), .val (.int p1), .val (.int p2)] [(.int (2 : Int32)), (.ref a0)])) rfl rfl (hb hby d5_118)
          have Fw82 := f67.same W82
          have N82 := Fr.snoc X82 N65 g_a0
          have kp83 : Keep h0 h82 [a0] := kp66.wr W82 (Or.inl (own_w 0 rfl))
          obtain ⟨T84, X84, e84, st84⟩ := getF X82 hx hZ hown (host := "") (Or.inl (hw _ (own_w 32 rfl))) Via.refl e82 Fw82 (g := (mkF m 31 #[.val (.ref a0), .val (.int p1), .val (.int p2)] [(.ref a0)])) rfl rfl (hb hby d5_31)
          have f85 := (f69.other W82 (Or.inr (slot_ne (Or.inl (hw _ (own_w 35 rfl))) (Or.inl (hw _ (own_w 33 rfl))) (by decide) (t := .int) (t' := .int) (by decide) (by decide))))
          obtain ⟨T86, X86, e86, st86⟩ := getF X84 hx hZ hown (host := "") (Or.inl (hw _ (own_w 34 rfl))) Via.refl e84 f85 (g := (mkF m 35 #[.val (.ref a0), .val (.int p1), .val (.int p2)] [(.ref a0), (.int (2 : Int32))])) rfl rfl (hb hby d5_35)
          have f87 := (Fw65.other W82 (Or.inr (slot_ne (Or.inl (hw _ (own_w 31 rfl))) (Or.inl (hw _ (own_w 33 rfl))) (by decide) (t := .int) (t' := .int) (by decide) (by decide))))
          obtain ⟨T88, X88, e88, st88⟩ := getF X86 hx hZ hown (host := "") (Or.inl (hw _ (own_w 30 rfl))) Via.refl e86 f87 (g := (mkF m 126 #[.val (.ref a0), .val (.int p1), .val (.int p2)] [(.ref a0), (.int p2)])) rfl rfl (hb hby d5_126)
          obtain ⟨fs, hr, hrun, hended, hW, hsame⟩ := X88.leave (v := some (.int (p2 - (0 : Int32)))) (fun h => by rw [Bd.returns] at h; cases h)
          refine ⟨_, _, pre76 _ ?_, hrun, hended, _, _, rfl, ?_, ⟨_, rfl⟩, hW, hsame.mono (by decide) (by decide)⟩
          · show Steps p.tables e below (T73.setTop (mkF m 51 #[.val (.ref a0), .val (.int p1), .val (.int p2)] [(.int p1), (.int (wl.getD 1 (0 : Int32)))])) _
            refine XS.icmpYes X73.here hx rfl (pc0 := 51) (pc' := 80) rfl (hb hby d5_51) rfl (tlt hc51).1 (by decide) (by decide) ?_
            refine XS.aloadN X73.here hx rfl (hb hby d5_80) rfl rfl ?_
            refine st77 _ ?_
            refine XS.aloadN X77.here hx rfl (hb hby d5_84) rfl rfl ?_
            refine st78 _ ?_
            show Steps p.tables e below (T78.setTop (mkF m 88 #[.val (.ref a0), .val (.int p1), .val (.int p2)] [(.int (1 : Int32)), (.ref la)])) _
            refine X78.iaload hx (j := (1 : Int32)) (v := (.int (wl.getD 1 (0 : Int32)))) (by rw [e78]; exact Ar79.1) (State.isArrayOf_alike hZ.alike Ar79.2.1) Ar79.2.2 hin79 hat79 (g := (mkF m 88 #[.val (.ref a0), .val (.int p1), .val (.int p2)] [(.int (1 : Int32)), (.ref la)])) rfl rfl (hb hby d5_88) _ ?_
            refine XS.iloadN X78.here hx rfl (hb hby d5_89) rfl ?_
            refine XS.icmpYes X78.here hx rfl (pc0 := 90) (pc' := 111) rfl (hb hby d5_90) rfl (feq hc90).2 (by decide) (by decide) ?_
            refine XS.aloadN X78.here hx rfl (hb hby d5_111) rfl rfl ?_
            refine XS.dup X78.here hx rfl (hb hby d5_112) rfl rfl ?_
            show Steps p.tables e below (T78.setTop (mkF m 113 #[.val (.ref a0), .val (.int p1), .val (.int p2)] [(.ref a0), (.ref a0)])) _
            refine st80 _ ?_
            refine XS.iconst X80.here hx rfl (hb hby d5_116) ?_
            refine XS.iadd X80.here hx rfl (hb hby d5_117) rfl ?_
            refine st82 _ ?_
            refine XS.goto X82.here hx rfl (pc0 := 121) (pc' := 30) rfl (hb hby d5_121) (by decide) (by decide) ?_
            show Steps p.tables e below (T82.setTop (mkF m 30 #[.val (.ref a0), .val (.int p1), .val (.int p2)] [])) _
            refine XS.aloadN X82.here hx rfl (hb hby d5_30) rfl rfl ?_
            refine st84 _ ?_
            refine XS.aloadN X84.here hx rfl (hb hby d5_34) rfl rfl ?_
            refine st86 _ ?_
            refine XS.icmpYes X86.here hx rfl (pc0 := 38) (pc' := 124) rfl (hb hby d5_38) rfl (flt (by decide : ¬ ((2 : Int32) < (2 : Int32)))).2.1 (by decide) (by decide) ?_
            show Steps p.tables e below (T86.setTop (mkF m 124 #[.val (.ref a0), .val (.int p1), .val (.int p2)] [])) _
            refine XS.iloadN X86.here hx rfl (hb hby d5_124) rfl ?_
            refine XS.aloadN X86.here hx rfl (hb hby d5_125) rfl rfl ?_
            refine st88 _ ?_
            refine XS.isub X88.here hx rfl (hb hby d5_129) rfl ?_
            show Steps p.tables e below (T88.setTop (mkF m 130 #[.val (.ref a0), .val (.int p1), .val (.int p2)] [(.int (p2 - (0 : Int32)))])) _
            exact retI X88 hx Bd.returns (hb hby d5_130) hr
          · show Q5_1_2 Z a0 p1 p2 la ea ca kl ke kc wl we wc al pc h0 n0 _ T88.heap _
            rw [e88]
            unfold Q5_1_2
            have f89 := (f81.wr W82)
            have f90 := (f71.other W82 (Or.inr (slot_ne (Or.inl (hw _ (own_w 18 rfl))) (Or.inl (hw _ (own_w 33 rfl))) (by decide) (t := (.array .int)) (t' := .int) (by decide) (by decide))))
            have f91 := (((F_a0_ends.other W61 (Or.inr (slot_ne (Or.inl (hw _ (own_w 20 rfl))) (Or.inl (hw _ (own_w 29 rfl))) (by decide) (t := (.array .int)) (t' := .int) (by decide) (by decide)))).other W65 (Or.inr (slot_ne (Or.inl (hw _ (own_w 20 rfl))) (Or.inl (hw _ (own_w 31 rfl))) (by decide) (t := (.array .int)) (t' := .int) (by decide) (by decide)))).other W82 (Or.inr (slot_ne (Or.inl (hw _ (own_w 20 rfl))) (Or.inl (hw _ (own_w 33 rfl))) (by decide) (t := (.array .int)) (t' := .int) (by decide) (by decide))))
            have f92 := (((F_a0_changes.other W61 (Or.inr (slot_ne (Or.inl (hw _ (own_w 22 rfl))) (Or.inl (hw _ (own_w 29 rfl))) (by decide) (t := (.array .int)) (t' := .int) (by decide) (by decide)))).other W65 (Or.inr (slot_ne (Or.inl (hw _ (own_w 22 rfl))) (Or.inl (hw _ (own_w 31 rfl))) (by decide) (t := (.array .int)) (t' := .int) (by decide) (by decide)))).other W82 (Or.inr (slot_ne (Or.inl (hw _ (own_w 22 rfl))) (Or.inl (hw _ (own_w 33 rfl))) (by decide) (t := (.array .int)) (t' := .int) (by decide) (by decide))))
            have f93 := ((Fw61.other W65 (Or.inr (slot_ne (Or.inl (hw _ (own_w 29 rfl))) (Or.inl (hw _ (own_w 31 rfl))) (by decide) (t := .int) (t' := .int) (by decide) (by decide)))).other W82 (Or.inr (slot_ne (Or.inl (hw _ (own_w 29 rfl))) (Or.inl (hw _ (own_w 33 rfl))) (by decide) (t := .int) (t' := .int) (by decide) (by decide))))
            refine ⟨?_, N82, kp83, f89, ?_, ?_, ?_, ?_, ?_, ?_, ?_⟩
            · simp only [own_f5_1_2, if_neg hc2, if_neg hc7, if_neg hc17, if_pos hc51]
            · exact f90
            · exact f91
            · exact f92
            · rw [show (own_p5_1_2_first p1 p2 wl we) = (2 : Int32) from (by simp only [own_p5_1_2_first, if_neg hc2, if_neg hc7, if_neg hc17, if_pos hc51])]; exact Fw82
            · exact f85
            · rw [show (own_p5_1_2_askedLine p1 p2 al) = p1 from (by simp only [own_p5_1_2_askedLine, if_neg hc2, if_neg hc7, if_neg hc17, if_pos hc51])]; exact f93
            · rw [show (own_p5_1_2_passedChange p1 p2 wl we wc al pc) = (0 : Int32) from (by simp only [own_p5_1_2_passedChange, if_neg hc2, if_neg hc7, if_neg hc17, if_pos hc51])]; exact f87
        · obtain ⟨T94, X94, e94, st94⟩ := getF X73 hx hZ hown (host := "") (Or.inl (hw _ (own_w 17 rfl))) Via.refl e73 f71 (g := (mkF m 55 #[.val (.ref a0), .val (.int p1), .val (.int p2)] [(.ref a0)])) rfl rfl (hb hby d5_55)
          obtain ⟨T95, X95, e95, st95⟩ := getF X94 hx hZ hown (host := "") (Or.inl (hw _ (own_w 32 rfl))) Via.refl e94 f67 (g := (mkF m 59 #[.val (.ref a0), .val (.int p1), .val (.int p2)] [(.ref a0), (.ref la)])) rfl rfl (hb hby d5_59)
          obtain ⟨cl96, Ar96, hin96, hat96⟩ := own_AI.at f74 (j := (1 : Int32)) ⟨by decide, by decide⟩
          have pre97 : own_Pre p e below (s₁.setTop (entryFrame m #[(.ref a0), (.int p1), (.int p2)] 3)) (T95.setTop (mkF m 64 #[.val (.ref a0), .val (.int p1), .val (.int p2)] [(.int p1), (.int (wl.getD 1 (0 : Int32)))])) := fun t k => pre76 t (by
              show Steps p.tables e below (T73.setTop (mkF m 51 #[.val (.ref a0), .val (.int p1), .val (.int p2)] [(.int p1), (.int (wl.getD 1 (0 : Int32)))])) _
              refine XS.icmpNo X73.here hx rfl (hb hby d5_51) rfl (flt hc51).1 ?_
              refine XS.aloadN X73.here hx rfl (hb hby d5_54) rfl rfl ?_
              refine st94 _ ?_
              refine XS.aloadN X94.here hx rfl (hb hby d5_58) rfl rfl ?_
              refine st95 _ ?_
              show Steps p.tables e below (T95.setTop (mkF m 62 #[.val (.ref a0), .val (.int p1), .val (.int p2)] [(.int (1 : Int32)), (.ref la)])) _
              refine X95.iaload hx (j := (1 : Int32)) (v := (.int (wl.getD 1 (0 : Int32)))) (by rw [e95]; exact Ar96.1) (State.isArrayOf_alike hZ.alike Ar96.2.1) Ar96.2.2 hin96 hat96 (g := (mkF m 62 #[.val (.ref a0), .val (.int p1), .val (.int p2)] [(.int (1 : Int32)), (.ref la)])) rfl rfl (hb hby d5_62) _ ?_
              refine XS.iloadN X95.here hx rfl (hb hby d5_63) rfl ?_
              exact k)
          by_cases hc64 : (wl.getD 1 (0 : Int32)) = p1
          · have f98 := ((F_a0_ends.other W61 (Or.inr (slot_ne (Or.inl (hw _ (own_w 20 rfl))) (Or.inl (hw _ (own_w 29 rfl))) (by decide) (t := (.array .int)) (t' := .int) (by decide) (by decide)))).other W65 (Or.inr (slot_ne (Or.inl (hw _ (own_w 20 rfl))) (Or.inl (hw _ (own_w 31 rfl))) (by decide) (t := (.array .int)) (t' := .int) (by decide) (by decide))))
            obtain ⟨T99, X99, e99, st99⟩ := getF X95 hx hZ hown (host := "") (Or.inl (hw _ (own_w 19 rfl))) Via.refl e95 f98 (g := (mkF m 68 #[.val (.ref a0), .val (.int p1), .val (.int p2)] [(.ref a0)])) rfl rfl (hb hby d5_68)
            obtain ⟨T100, X100, e100, st100⟩ := getF X99 hx hZ hown (host := "") (Or.inl (hw _ (own_w 32 rfl))) Via.refl e99 f67 (g := (mkF m 72 #[.val (.ref a0), .val (.int p1), .val (.int p2)] [(.ref a0), (.ref ea)])) rfl rfl (hb hby d5_72)
            have f101 := ((V_ea.other W61 (Ne.symm ne_a0_ea)).other W65 (Ne.symm ne_a0_ea))
            obtain ⟨cl102, Ar102, hin102, hat102⟩ := own_AI.at f101 (j := (1 : Int32)) ⟨by decide, by decide⟩
            have pre103 : own_Pre p e below (s₁.setTop (entryFrame m #[(.ref a0), (.int p1), (.int p2)] 3)) (T100.setTop (mkF m 77 #[.val (.ref a0), .val (.int p1), .val (.int p2)] [(.int p2), (.int (we.getD 1 (0 : Int32)))])) := fun t k => pre97 t (by
                show Steps p.tables e below (T95.setTop (mkF m 64 #[.val (.ref a0), .val (.int p1), .val (.int p2)] [(.int p1), (.int (wl.getD 1 (0 : Int32)))])) _
                refine XS.icmpNo X95.here hx rfl (hb hby d5_64) rfl (teq hc64).2 ?_
                refine XS.aloadN X95.here hx rfl (hb hby d5_67) rfl rfl ?_
                refine st99 _ ?_
                refine XS.aloadN X99.here hx rfl (hb hby d5_71) rfl rfl ?_
                refine st100 _ ?_
                show Steps p.tables e below (T100.setTop (mkF m 75 #[.val (.ref a0), .val (.int p1), .val (.int p2)] [(.int (1 : Int32)), (.ref ea)])) _
                refine X100.iaload hx (j := (1 : Int32)) (v := (.int (we.getD 1 (0 : Int32)))) (by rw [e100]; exact Ar102.1) (State.isArrayOf_alike hZ.alike Ar102.2.1) Ar102.2.2 hin102 hat102 (g := (mkF m 75 #[.val (.ref a0), .val (.int p1), .val (.int p2)] [(.int (1 : Int32)), (.ref ea)])) rfl rfl (hb hby d5_75) _ ?_
                refine XS.iloadN X100.here hx rfl (hb hby d5_76) rfl ?_
                exact k)
            by_cases hc77 : p2 < (we.getD 1 (0 : Int32))
            · obtain ⟨T104, X104, e104, st104⟩ := getF X100 hx hZ hown (host := "") (Or.inl (hw _ (own_w 30 rfl))) Via.refl e100 Fw65 (g := (mkF m 126 #[.val (.ref a0), .val (.int p1), .val (.int p2)] [(.ref a0), (.int p2)])) rfl rfl (hb hby d5_126)
              obtain ⟨fs, hr, hrun, hended, hW, hsame⟩ := X104.leave (v := some (.int (p2 - (0 : Int32)))) (fun h => by rw [Bd.returns] at h; cases h)
              refine ⟨_, _, pre103 _ ?_, hrun, hended, _, _, rfl, ?_, ⟨_, rfl⟩, hW, hsame.mono (by decide) (by decide)⟩
              · show Steps p.tables e below (T100.setTop (mkF m 77 #[.val (.ref a0), .val (.int p1), .val (.int p2)] [(.int p2), (.int (we.getD 1 (0 : Int32)))])) _
                refine XS.icmpYes X100.here hx rfl (pc0 := 77) (pc' := 124) rfl (hb hby d5_77) rfl (tlt hc77).2.2.1 (by decide) (by decide) ?_
                refine XS.iloadN X100.here hx rfl (hb hby d5_124) rfl ?_
                refine XS.aloadN X100.here hx rfl (hb hby d5_125) rfl rfl ?_
                refine st104 _ ?_
                refine XS.isub X104.here hx rfl (hb hby d5_129) rfl ?_
                show Steps p.tables e below (T104.setTop (mkF m 130 #[.val (.ref a0), .val (.int p1), .val (.int p2)] [(.int (p2 - (0 : Int32)))])) _
                exact retI X104 hx Bd.returns (hb hby d5_130) hr
              · show Q5_1_2 Z a0 p1 p2 la ea ca kl ke kc wl we wc al pc h0 n0 _ T104.heap _
                rw [e104]
                unfold Q5_1_2
                have f105 := (f63.wr W65)
                have f106 := ((F_a0_changes.other W61 (Or.inr (slot_ne (Or.inl (hw _ (own_w 22 rfl))) (Or.inl (hw _ (own_w 29 rfl))) (by decide) (t := (.array .int)) (t' := .int) (by decide) (by decide)))).other W65 (Or.inr (slot_ne (Or.inl (hw _ (own_w 22 rfl))) (Or.inl (hw _ (own_w 31 rfl))) (by decide) (t := (.array .int)) (t' := .int) (by decide) (by decide))))
                have f107 := (Fw61.other W65 (Or.inr (slot_ne (Or.inl (hw _ (own_w 29 rfl))) (Or.inl (hw _ (own_w 31 rfl))) (by decide) (t := .int) (t' := .int) (by decide) (by decide))))
                refine ⟨?_, N65, kp66, f105, ?_, ?_, ?_, ?_, ?_, ?_, ?_⟩
                · simp only [own_f5_1_2, if_neg hc2, if_neg hc7, if_neg hc17, if_neg hc51, if_pos hc64, if_pos hc77]
                · exact f71
                · exact f98
                · exact f106
                · rw [show (own_p5_1_2_first p1 p2 wl we) = (1 : Int32) from (by simp only [own_p5_1_2_first, if_neg hc2, if_neg hc7, if_neg hc17, if_neg hc51, if_pos hc64, if_pos hc77])]; exact f67
                · exact f69
                · rw [show (own_p5_1_2_askedLine p1 p2 al) = p1 from (by simp only [own_p5_1_2_askedLine, if_neg hc2, if_neg hc7, if_neg hc17, if_neg hc51, if_pos hc64, if_pos hc77])]; exact f107
                · rw [show (own_p5_1_2_passedChange p1 p2 wl we wc al pc) = (0 : Int32) from (by simp only [own_p5_1_2_passedChange, if_neg hc2, if_neg hc7, if_neg hc17, if_neg hc51, if_pos hc64, if_pos hc77])]; exact Fw65
            · obtain ⟨T108, X108, e108, st108⟩ := getF X100 hx hZ hown (host := "") (Or.inl (hw _ (own_w 17 rfl))) Via.refl e100 f71 (g := (mkF m 81 #[.val (.ref a0), .val (.int p1), .val (.int p2)] [(.ref a0)])) rfl rfl (hb hby d5_81)
              obtain ⟨T109, X109, e109, st109⟩ := getF X108 hx hZ hown (host := "") (Or.inl (hw _ (own_w 32 rfl))) Via.refl e108 f67 (g := (mkF m 85 #[.val (.ref a0), .val (.int p1), .val (.int p2)] [(.ref a0), (.ref la)])) rfl rfl (hb hby d5_85)
              obtain ⟨cl110, Ar110, hin110, hat110⟩ := own_AI.at f74 (j := (1 : Int32)) ⟨by decide, by decide⟩
              have hc90 : ((wl.getD 1 (0 : Int32)) = p1) := hc64
              obtain ⟨T111, X111, e111, st111⟩ := getF X109 hx hZ hown (host := "") (Or.inl (hw _ (own_w 30 rfl))) Via.refl e109 Fw65 (g := (mkF m 95 #[.val (.ref a0), .val (.int p1), .val (.int p2)] [(.ref a0), (.ref a0)])) rfl rfl (hb hby d5_95)
              have f112 := ((F_a0_changes.other W61 (Or.inr (slot_ne (Or.inl (hw _ (own_w 22 rfl))) (Or.inl (hw _ (own_w 29 rfl))) (by decide) (t := (.array .int)) (t' := .int) (by decide) (by decide)))).other W65 (Or.inr (slot_ne (Or.inl (hw _ (own_w 22 rfl))) (Or.inl (hw _ (own_w 31 rfl))) (by decide) (t := (.array .int)) (t' := .int) (by decide) (by decide))))
              obtain ⟨T113, X113, e113, st113⟩ := getF X111 hx hZ hown (host := "") (Or.inl (hw _ (own_w 21 rfl))) Via.refl e111 f112 (g := (mkF m 99 #[.val (.ref a0), .val (.int p1), .val (.int p2)] [(.ref a0), (.int (0 : Int32)), (.ref a0)])) rfl rfl (hb hby d5_99)
              obtain ⟨T114, X114, e114, st114⟩ := getF X113 hx hZ hown (host := "") (Or.inl (hw _ (own_w 32 rfl))) Via.refl e113 f67 (g := (mkF m 103 #[.val (.ref a0), .val (.int p1), .val (.int p2)] [(.ref a0), (.ref ca), (.int (0 : Int32)), (.ref a0)])) rfl rfl (hb hby d5_103)
              have f115 := ((V_ca.other W61 (Ne.symm ne_a0_ca)).other W65 (Ne.symm ne_a0_ca))
              obtain ⟨cl116, Ar116, hin116, hat116⟩ := own_AI.at f115 (j := (1 : Int32)) ⟨by decide, by decide⟩
              have f117 := (f63.wr W65)
              obtain ⟨T118, h118, X118, e118, W118, st118⟩ := putF X114 hx hZ hown (host := "") (Or.inl (hw _ (own_w 30 rfl))) Via.refl e114 Fw65 f117 (Or.inl (hw _ (own_w 31 rfl))) (hw _ (own_w 8 rfl)) (ty := .int) (by decide) rfl rfl (g := (mkF m 108 #[.val (.ref a0), .val (.int p1), .val (.int p2)] [(.int ((0 : Int32) + (wc.getD 1 (0 : Int32)))), (.ref a0)])) rfl rfl (hb hby d5_108)
              have Fw118 := Fw65.same W118
              have N118 := Fr.snoc X118 N65 g_a0
              have kp119 : Keep h0 h118 [a0] := kp66.wr W118 (Or.inl (own_w 0 rfl))
              have f120 := (f67.other W118 (Or.inr (slot_ne (Or.inl (hw _ (own_w 33 rfl))) (Or.inl (hw _ (own_w 31 rfl))) (by decide) (t := .int) (t' := .int) (by decide) (by decide))))
              obtain ⟨T121, X121, e121, st121⟩ := getF X118 hx hZ hown (host := "") (Or.inl (hw _ (own_w 32 rfl))) Via.refl e118 f120 (g := (mkF m 113 #[.val (.ref a0), .val (.int p1), .val (.int p2)] [(.ref a0), (.ref a0)])) rfl rfl (hb hby d5_113)
              have f122 := (f117.wr W118)
              obtain ⟨T123, h123, X123, e123, W123, st123⟩ := putF X121 hx hZ hown (host := "") (Or.inl (hw _ (own_w 32 rfl))) Via.refl e121 f120 f122 (Or.inl (hw _ (own_w 33 rfl))) (hw _ (own_w 8 rfl)) (ty := .int) (by decide) rfl rfl (g := (mkF m 118 #[.val (.ref a0), .val (.int p1), .val (.int p2)] [(.int (2 : Int32)), (.ref a0)])) rfl rfl (hb hby d5_118)
              have Fw123 := f120.same W123
              have N123 := Fr.snoc X123 N118 g_a0
              have kp124 : Keep h0 h123 [a0] := kp119.wr W123 (Or.inl (own_w 0 rfl))
              obtain ⟨T125, X125, e125, st125⟩ := getF X123 hx hZ hown (host := "") (Or.inl (hw _ (own_w 32 rfl))) Via.refl e123 Fw123 (g := (mkF m 31 #[.val (.ref a0), .val (.int p1), .val (.int p2)] [(.ref a0)])) rfl rfl (hb hby d5_31)
              have f126 := ((f69.other W118 (Or.inr (slot_ne (Or.inl (hw _ (own_w 35 rfl))) (Or.inl (hw _ (own_w 31 rfl))) (by decide) (t := .int) (t' := .int) (by decide) (by decide)))).other W123 (Or.inr (slot_ne (Or.inl (hw _ (own_w 35 rfl))) (Or.inl (hw _ (own_w 33 rfl))) (by decide) (t := .int) (t' := .int) (by decide) (by decide))))
              obtain ⟨T127, X127, e127, st127⟩ := getF X125 hx hZ hown (host := "") (Or.inl (hw _ (own_w 34 rfl))) Via.refl e125 f126 (g := (mkF m 35 #[.val (.ref a0), .val (.int p1), .val (.int p2)] [(.ref a0), (.int (2 : Int32))])) rfl rfl (hb hby d5_35)
              have f128 := (Fw118.other W123 (Or.inr (slot_ne (Or.inl (hw _ (own_w 31 rfl))) (Or.inl (hw _ (own_w 33 rfl))) (by decide) (t := .int) (t' := .int) (by decide) (by decide))))
              obtain ⟨T129, X129, e129, st129⟩ := getF X127 hx hZ hown (host := "") (Or.inl (hw _ (own_w 30 rfl))) Via.refl e127 f128 (g := (mkF m 126 #[.val (.ref a0), .val (.int p1), .val (.int p2)] [(.ref a0), (.int p2)])) rfl rfl (hb hby d5_126)
              obtain ⟨fs, hr, hrun, hended, hW, hsame⟩ := X129.leave (v := some (.int (p2 - ((0 : Int32) + (wc.getD 1 (0 : Int32)))))) (fun h => by rw [Bd.returns] at h; cases h)
              refine ⟨_, _, pre103 _ ?_, hrun, hended, _, _, rfl, ?_, ⟨_, rfl⟩, hW, hsame.mono (by decide) (by decide)⟩
              · show Steps p.tables e below (T100.setTop (mkF m 77 #[.val (.ref a0), .val (.int p1), .val (.int p2)] [(.int p2), (.int (we.getD 1 (0 : Int32)))])) _
                refine XS.icmpNo X100.here hx rfl (hb hby d5_77) rfl (flt hc77).2.2.1 ?_
                refine XS.aloadN X100.here hx rfl (hb hby d5_80) rfl rfl ?_
                refine st108 _ ?_
                refine XS.aloadN X108.here hx rfl (hb hby d5_84) rfl rfl ?_
                refine st109 _ ?_
                show Steps p.tables e below (T109.setTop (mkF m 88 #[.val (.ref a0), .val (.int p1), .val (.int p2)] [(.int (1 : Int32)), (.ref la)])) _
                refine X109.iaload hx (j := (1 : Int32)) (v := (.int (wl.getD 1 (0 : Int32)))) (by rw [e109]; exact Ar110.1) (State.isArrayOf_alike hZ.alike Ar110.2.1) Ar110.2.2 hin110 hat110 (g := (mkF m 88 #[.val (.ref a0), .val (.int p1), .val (.int p2)] [(.int (1 : Int32)), (.ref la)])) rfl rfl (hb hby d5_88) _ ?_
                refine XS.iloadN X109.here hx rfl (hb hby d5_89) rfl ?_
                refine XS.icmpNo X109.here hx rfl (hb hby d5_90) rfl (teq hc90).2 ?_
                refine XS.aloadN X109.here hx rfl (hb hby d5_93) rfl rfl ?_
                refine XS.dup X109.here hx rfl (hb hby d5_94) rfl rfl ?_
                show Steps p.tables e below (T109.setTop (mkF m 95 #[.val (.ref a0), .val (.int p1), .val (.int p2)] [(.ref a0), (.ref a0)])) _
                refine st111 _ ?_
                refine XS.aloadN X111.here hx rfl (hb hby d5_98) rfl rfl ?_
                refine st113 _ ?_
                refine XS.aloadN X113.here hx rfl (hb hby d5_102) rfl rfl ?_
                refine st114 _ ?_
                show Steps p.tables e below (T114.setTop (mkF m 106 #[.val (.ref a0), .val (.int p1), .val (.int p2)] [(.int (1 : Int32)), (.ref ca), (.int (0 : Int32)), (.ref a0)])) _
                refine X114.iaload hx (j := (1 : Int32)) (v := (.int (wc.getD 1 (0 : Int32)))) (by rw [e114]; exact Ar116.1) (State.isArrayOf_alike hZ.alike Ar116.2.1) Ar116.2.2 hin116 hat116 (g := (mkF m 106 #[.val (.ref a0), .val (.int p1), .val (.int p2)] [(.int (1 : Int32)), (.ref ca), (.int (0 : Int32)), (.ref a0)])) rfl rfl (hb hby d5_106) _ ?_
                refine XS.iadd X114.here hx rfl (hb hby d5_107) rfl ?_
                refine st118 _ ?_
                refine XS.aloadN X118.here hx rfl (hb hby d5_111) rfl rfl ?_
                refine XS.dup X118.here hx rfl (hb hby d5_112) rfl rfl ?_
                show Steps p.tables e below (T118.setTop (mkF m 113 #[.val (.ref a0), .val (.int p1), .val (.int p2)] [(.ref a0), (.ref a0)])) _
                refine st121 _ ?_
                refine XS.iconst X121.here hx rfl (hb hby d5_116) ?_
                refine XS.iadd X121.here hx rfl (hb hby d5_117) rfl ?_
                refine st123 _ ?_
                refine XS.goto X123.here hx rfl (pc0 := 121) (pc' := 30) rfl (hb hby d5_121) (by decide) (by decide) ?_
                show Steps p.tables e below (T123.setTop (mkF m 30 #[.val (.ref a0), .val (.int p1), .val (.int p2)] [])) _
                refine XS.aloadN X123.here hx rfl (hb hby d5_30) rfl rfl ?_
                refine st125 _ ?_
                refine XS.aloadN X125.here hx rfl (hb hby d5_34) rfl rfl ?_
                refine st127 _ ?_
                refine XS.icmpYes X127.here hx rfl (pc0 := 38) (pc' := 124) rfl (hb hby d5_38) rfl (flt (by decide : ¬ ((2 : Int32) < (2 : Int32)))).2.1 (by decide) (by decide) ?_
                show Steps p.tables e below (T127.setTop (mkF m 124 #[.val (.ref a0), .val (.int p1), .val (.int p2)] [])) _
                refine XS.iloadN X127.here hx rfl (hb hby d5_124) rfl ?_
                refine XS.aloadN X127.here hx rfl (hb hby d5_125) rfl rfl ?_
                refine st129 _ ?_
                refine XS.isub X129.here hx rfl (hb hby d5_129) rfl ?_
                show Steps p.tables e below (T129.setTop (mkF m 130 #[.val (.ref a0), .val (.int p1), .val (.int p2)] [(.int (p2 - ((0 : Int32) + (wc.getD 1 (0 : Int32)))))])) _
                exact retI X129 hx Bd.returns (hb hby d5_130) hr
              · show Q5_1_2 Z a0 p1 p2 la ea ca kl ke kc wl we wc al pc h0 n0 _ T129.heap _
                rw [e129]
                unfold Q5_1_2
                have f130 := (f122.wr W123)
                have f131 := ((f71.other W118 (Or.inr (slot_ne (Or.inl (hw _ (own_w 18 rfl))) (Or.inl (hw _ (own_w 31 rfl))) (by decide) (t := (.array .int)) (t' := .int) (by decide) (by decide)))).other W123 (Or.inr (slot_ne (Or.inl (hw _ (own_w 18 rfl))) (Or.inl (hw _ (own_w 33 rfl))) (by decide) (t := (.array .int)) (t' := .int) (by decide) (by decide))))
                have f132 := ((f98.other W118 (Or.inr (slot_ne (Or.inl (hw _ (own_w 20 rfl))) (Or.inl (hw _ (own_w 31 rfl))) (by decide) (t := (.array .int)) (t' := .int) (by decide) (by decide)))).other W123 (Or.inr (slot_ne (Or.inl (hw _ (own_w 20 rfl))) (Or.inl (hw _ (own_w 33 rfl))) (by decide) (t := (.array .int)) (t' := .int) (by decide) (by decide))))
                have f133 := ((f112.other W118 (Or.inr (slot_ne (Or.inl (hw _ (own_w 22 rfl))) (Or.inl (hw _ (own_w 31 rfl))) (by decide) (t := (.array .int)) (t' := .int) (by decide) (by decide)))).other W123 (Or.inr (slot_ne (Or.inl (hw _ (own_w 22 rfl))) (Or.inl (hw _ (own_w 33 rfl))) (by decide) (t := (.array .int)) (t' := .int) (by decide) (by decide))))
                have f134 := (((Fw61.other W65 (Or.inr (slot_ne (Or.inl (hw _ (own_w 29 rfl))) (Or.inl (hw _ (own_w 31 rfl))) (by decide) (t := .int) (t' := .int) (by decide) (by decide)))).other W118 (Or.inr (slot_ne (Or.inl (hw _ (own_w 29 rfl))) (Or.inl (hw _ (own_w 31 rfl))) (by decide) (t := .int) (t' := .int) (by decide) (by decide)))).other W123 (Or.inr (slot_ne (Or.inl (hw _ (own_w 29 rfl))) (Or.inl (hw _ (own_w 33 rfl))) (by decide) (t := .int) (t' := .int) (by decide) (by decide))))
                refine ⟨?_, N123, kp124, f130, ?_, ?_, ?_, ?_, ?_, ?_, ?_⟩
                · simp only [own_f5_1_2, if_neg hc2, if_neg hc7, if_neg hc17, if_neg hc51, if_pos hc64, if_neg hc77]
                · exact f131
                · exact f132
                · exact f133
                · rw [show (own_p5_1_2_first p1 p2 wl we) = (2 : Int32) from (by simp only [own_p5_1_2_first, if_neg hc2, if_neg hc7, if_neg hc17, if_neg hc51, if_pos hc64, if_neg hc77])]; exact Fw123
                · exact f126
                · rw [show (own_p5_1_2_askedLine p1 p2 al) = p1 from (by simp only [own_p5_1_2_askedLine, if_neg hc2, if_neg hc7, if_neg hc17, if_neg hc51, if_pos hc64, if_neg hc77])]; exact f134
                · rw [show (own_p5_1_2_passedChange p1 p2 wl we wc al pc) = ((0 : Int32) + (wc.getD 1 (0 : Int32))) from (by simp only [own_p5_1_2_passedChange, if_neg hc2, if_neg hc7, if_neg hc17, if_neg hc51, if_pos hc64, if_neg hc77])]; exact f128
          · obtain ⟨T135, X135, e135, st135⟩ := getF X95 hx hZ hown (host := "") (Or.inl (hw _ (own_w 30 rfl))) Via.refl e95 Fw65 (g := (mkF m 126 #[.val (.ref a0), .val (.int p1), .val (.int p2)] [(.ref a0), (.int p2)])) rfl rfl (hb hby d5_126)
            obtain ⟨fs, hr, hrun, hended, hW, hsame⟩ := X135.leave (v := some (.int (p2 - (0 : Int32)))) (fun h => by rw [Bd.returns] at h; cases h)
            refine ⟨_, _, pre97 _ ?_, hrun, hended, _, _, rfl, ?_, ⟨_, rfl⟩, hW, hsame.mono (by decide) (by decide)⟩
            · show Steps p.tables e below (T95.setTop (mkF m 64 #[.val (.ref a0), .val (.int p1), .val (.int p2)] [(.int p1), (.int (wl.getD 1 (0 : Int32)))])) _
              refine XS.icmpYes X95.here hx rfl (pc0 := 64) (pc' := 124) rfl (hb hby d5_64) rfl (feq hc64).2 (by decide) (by decide) ?_
              refine XS.iloadN X95.here hx rfl (hb hby d5_124) rfl ?_
              refine XS.aloadN X95.here hx rfl (hb hby d5_125) rfl rfl ?_
              refine st135 _ ?_
              refine XS.isub X135.here hx rfl (hb hby d5_129) rfl ?_
              show Steps p.tables e below (T135.setTop (mkF m 130 #[.val (.ref a0), .val (.int p1), .val (.int p2)] [(.int (p2 - (0 : Int32)))])) _
              exact retI X135 hx Bd.returns (hb hby d5_130) hr
            · show Q5_1_2 Z a0 p1 p2 la ea ca kl ke kc wl we wc al pc h0 n0 _ T135.heap _
              rw [e135]
              unfold Q5_1_2
              have f136 := (f63.wr W65)
              have f137 := ((F_a0_ends.other W61 (Or.inr (slot_ne (Or.inl (hw _ (own_w 20 rfl))) (Or.inl (hw _ (own_w 29 rfl))) (by decide) (t := (.array .int)) (t' := .int) (by decide) (by decide)))).other W65 (Or.inr (slot_ne (Or.inl (hw _ (own_w 20 rfl))) (Or.inl (hw _ (own_w 31 rfl))) (by decide) (t := (.array .int)) (t' := .int) (by decide) (by decide))))
              have f138 := ((F_a0_changes.other W61 (Or.inr (slot_ne (Or.inl (hw _ (own_w 22 rfl))) (Or.inl (hw _ (own_w 29 rfl))) (by decide) (t := (.array .int)) (t' := .int) (by decide) (by decide)))).other W65 (Or.inr (slot_ne (Or.inl (hw _ (own_w 22 rfl))) (Or.inl (hw _ (own_w 31 rfl))) (by decide) (t := (.array .int)) (t' := .int) (by decide) (by decide))))
              have f139 := (Fw61.other W65 (Or.inr (slot_ne (Or.inl (hw _ (own_w 29 rfl))) (Or.inl (hw _ (own_w 31 rfl))) (by decide) (t := .int) (t' := .int) (by decide) (by decide))))
              refine ⟨?_, N65, kp66, f136, ?_, ?_, ?_, ?_, ?_, ?_, ?_⟩
              · simp only [own_f5_1_2, if_neg hc2, if_neg hc7, if_neg hc17, if_neg hc51, if_neg hc64]
              · exact f71
              · exact f137
              · exact f138
              · rw [show (own_p5_1_2_first p1 p2 wl we) = (1 : Int32) from (by simp only [own_p5_1_2_first, if_neg hc2, if_neg hc7, if_neg hc17, if_neg hc51, if_neg hc64])]; exact f67
              · exact f69
              · rw [show (own_p5_1_2_askedLine p1 p2 al) = p1 from (by simp only [own_p5_1_2_askedLine, if_neg hc2, if_neg hc7, if_neg hc17, if_neg hc51, if_neg hc64])]; exact f139
              · rw [show (own_p5_1_2_passedChange p1 p2 wl we wc al pc) = (0 : Int32) from (by simp only [own_p5_1_2_passedChange, if_neg hc2, if_neg hc7, if_neg hc17, if_neg hc51, if_neg hc64])]; exact Fw65
theorem ef_5_2_2 (m : MethodId) (a0 : Addr) (p1 : Int32) (p2 : Int32) : entryFrame m #[(.ref a0), (.int p1), (.int p2)] 3 = mkF m 0 #[.val (.ref a0), .val (.int p1), .val (.int p2)] [] := by first | (simp [entryFrame, mkF, argsToLocals, Value.category]; done) | rfl
def own_f5_2_2 (p1 : Int32) (p2 : Int32) (al : Int32) (pc : Int32) : Int32 := (if p1 < (1 : Int32) then p2 else (if p2 < (1 : Int32) then p2 else (if p1 = al then (p2 - pc) else (p2 - (0 : Int32)))))
def own_p5_2_2_askedLine (p1 : Int32) (p2 : Int32) (al : Int32) : Int32 := (if p1 < (1 : Int32) then al else (if p2 < (1 : Int32) then al else (if p1 = al then al else p1)))
def own_p5_2_2_passedChange (p1 : Int32) (p2 : Int32) (al : Int32) (pc : Int32) : Int32 := (if p1 < (1 : Int32) then pc else (if p2 < (1 : Int32) then pc else (if p1 = al then pc else (0 : Int32))))
def Q5_2_2 (Z : State) (a0 : Addr) (p1 : Int32) (p2 : Int32) (la : Addr) (ea : Addr) (ca : Addr) (kl : ClassId) (ke : ClassId) (kc : ClassId) (wl : List Int32) (we : List Int32) (wc : List Int32) (al : Int32) (pc : Int32) (h0 : Heap) (n0 : Nat) (v : Option Value) (h : Heap) (L : List Loc) : Prop := v = some (.int (own_f5_2_2 p1 p2 al pc)) ∧ Fr n0 L ∧ Keep h0 h [a0] ∧ Exa Z h a0 "com/example/trawl/trawl/load/ColumnShifts" ∧ Fld Z h a0 "com/example/trawl/trawl/load/ColumnShifts" "lines" "[I" (.ref la) ∧ Fld Z h a0 "com/example/trawl/trawl/load/ColumnShifts" "ends" "[I" (.ref ea) ∧ Fld Z h a0 "com/example/trawl/trawl/load/ColumnShifts" "changes" "[I" (.ref ca) ∧ Fld Z h a0 "com/example/trawl/trawl/load/ColumnShifts" "first" "I" (.int (2 : Int32)) ∧ Fld Z h a0 "com/example/trawl/trawl/load/ColumnShifts" "end" "I" (.int (2 : Int32)) ∧ Fld Z h a0 "com/example/trawl/trawl/load/ColumnShifts" "askedLine" "I" (.int (own_p5_2_2_askedLine p1 p2 al)) ∧ Fld Z h a0 "com/example/trawl/trawl/load/ColumnShifts" "passedChange" "I" (.int (own_p5_2_2_passedChange p1 p2 al pc))
set_option maxRecDepth 65536 in
set_option maxHeartbeats 40000000 in
theorem rm5_2_2 (l : Launch) (Z : State) (aw : Array Value) (hw : ∀ d ∈ tables_1, d.before aw Z = true) (wq : List Jvm.Cond) (a0 : Addr) (p1 : Int32) (p2 : Int32) (la : Addr) (ea : Addr) (ca : Addr) (kl : ClassId) (ke : ClassId) (kc : ClassId) (wl : List Int32) (we : List Int32) (wc : List Int32) (al : Int32) (pc : Int32) (h0 : Heap) (n0 : Nat) (Z0 : n0 ≤ h0.size) (E_a0 : Exa Z h0 a0 "com/example/trawl/trawl/load/ColumnShifts") (F_a0_lines : Fld Z h0 a0 "com/example/trawl/trawl/load/ColumnShifts" "lines" "[I" (.ref la)) (F_a0_ends : Fld Z h0 a0 "com/example/trawl/trawl/load/ColumnShifts" "ends" "[I" (.ref ea)) (F_a0_changes : Fld Z h0 a0 "com/example/trawl/trawl/load/ColumnShifts" "changes" "[I" (.ref ca)) (V_la : own_AI Z h0 la kl .int (4 : Int32) wl) (V_ea : own_AI Z h0 ea ke .int (4 : Int32) we) (V_ca : own_AI Z h0 ca kc .int (4 : Int32) wc) (ne_la_ea : la ≠ ea) (ne_la_ca : la ≠ ca) (ne_ea_ca : ea ≠ ca) (ne_a0_la : a0 ≠ la) (ne_a0_ea : a0 ≠ ea) (ne_a0_ca : a0 ≠ ca) (g_a0 : n0 ≤ a0) (F_a0_first : Fld Z h0 a0 "com/example/trawl/trawl/load/ColumnShifts" "first" "I" (.int (2 : Int32))) (F_a0_end : Fld Z h0 a0 "com/example/trawl/trawl/load/ColumnShifts" "end" "I" (.int (2 : Int32))) (F_a0_askedLine : Fld Z h0 a0 "com/example/trawl/trawl/load/ColumnShifts" "askedLine" "I" (.int al)) (F_a0_passedChange : Fld Z h0 a0 "com/example/trawl/trawl/load/ColumnShifts" "passedChange" "I" (.int pc)) :
    MetFree l (⟨"com/example/trawl/trawl/load/ColumnShifts", "columnInText", "(II)I"⟩ : MethodName) (head1 (Jvm.Cond.code (⟨"com/example/trawl/trawl/load/ColumnShifts", "columnInText", "(II)I"⟩ : MethodName) prog_28_method_3_code 3 (some .int) :: wq) ({ frames := 0, cells := 0, slots := 0, locals := 0 } : Room)) (fun a U => a = #[(.ref a0), (.int p1), (.int p2)] ∧ Z.Warmed39 U.vm ∧ U.heap = h0) (fun _ _ _ _ _ => True) (fun _ U o U' => ∃ v L, o = .returned v ∧ Q5_2_2 Z a0 p1 p2 la ea ca kl ke kc wl we wc al pc h0 n0 v U'.heap L ∧ FrameEnd U o U' L ({ frames := 0, cells := 0, slots := 0, locals := 0 } : Room).cells ({ frames := 0, cells := 0, slots := 0, locals := 0 } : Room).slots) := by
  refine MetFree.of_bodySF (plainFor_of_name pn_0) hisR ?_
  intro p e s m args below meth c s₁ Bd hml0 hP hK
  obtain ⟨rfl, hZ, hh⟩ := hP
  have hx := Bd.exec
  have hby := Bd.bytes
  have hml : c.maxLocals = 3 := hml0
  have hown : s.vm.findClass "com/example/trawl/trawl/load/ColumnShifts" = some m.cls := findClass_of_methodNamed Bd.named
  have hnm := (name_of_methodNamed Bd.named Bd.method).1
  have X0 : Stand p l e ({ frames := 0, cells := 0, slots := 0, locals := 0 } : Room) s m #[(.ref a0), (.int p1), (.int p2)] below meth c s₁ [] 0 0 := Stand.of_body Bd
  have e0 : s₁.heap = h0 := by rw [← hh, Bd.state]; rfl
  have N0 := Fr.nil n0
  have pre0 : own_Pre p e below (s₁.setTop (entryFrame m #[(.ref a0), (.int p1), (.int p2)] 3)) (s₁.setTop (mkF m 0 #[.val (.ref a0), .val (.int p1), .val (.int p2)] [])) := fun t k => castTop (ef_5_2_2 m a0 p1 p2) k
  have pre1 : own_Pre p e below (s₁.setTop (entryFrame m #[(.ref a0), (.int p1), (.int p2)] 3)) (s₁.setTop (mkF m 2 #[.val (.ref a0), .val (.int p1), .val (.int p2)] [(.int (1 : Int32)), (.int p1)])) := fun t k => pre0 t (by
      show Steps p.tables e below (s₁.setTop (mkF m 0 #[.val (.ref a0), .val (.int p1), .val (.int p2)] [])) _
      refine XS.iloadN X0.here hx rfl (hb hby d5_0) rfl ?_
      refine XS.iconst X0.here hx rfl (hb hby d5_1) ?_
      exact k)
  by_cases hc2 : p1 < (1 : Int32)
  · obtain ⟨fs, hr, hrun, hended, hW, hsame⟩ := X0.leave (v := some (.int p2)) (fun h => by rw [Bd.returns] at h; cases h)
    refine ⟨_, _, pre1 _ ?_, hrun, hended, _, _, rfl, ?_, ⟨_, rfl⟩, hW, hsame.mono (by decide) (by decide)⟩
    · show Steps p.tables e below (s₁.setTop (mkF m 2 #[.val (.ref a0), .val (.int p1), .val (.int p2)] [(.int (1 : Int32)), (.int p1)])) _
      refine XS.icmpYes X0.here hx rfl (pc0 := 2) (pc' := 10) rfl (hb hby d5_2) rfl (tlt hc2).1 (by decide) (by decide) ?_
      refine XS.iloadN X0.here hx rfl (hb hby d5_10) rfl ?_
      show Steps p.tables e below (s₁.setTop (mkF m 11 #[.val (.ref a0), .val (.int p1), .val (.int p2)] [(.int p2)])) _
      exact retI X0 hx Bd.returns (hb hby d5_11) hr
    · show Q5_2_2 Z a0 p1 p2 la ea ca kl ke kc wl we wc al pc h0 n0 _ s₁.heap _
      rw [e0]
      unfold Q5_2_2
      refine ⟨?_, N0, (Keep.refl h0 [a0]), E_a0, ?_, ?_, ?_, ?_, ?_, ?_, ?_⟩
      · simp only [own_f5_2_2, if_pos hc2]
      · exact F_a0_lines
      · exact F_a0_ends
      · exact F_a0_changes
      · exact F_a0_first
      · exact F_a0_end
      · rw [show (own_p5_2_2_askedLine p1 p2 al) = al from (by simp only [own_p5_2_2_askedLine, if_pos hc2])]; exact F_a0_askedLine
      · rw [show (own_p5_2_2_passedChange p1 p2 al pc) = pc from (by simp only [own_p5_2_2_passedChange, if_pos hc2])]; exact F_a0_passedChange
  · have pre2 : own_Pre p e below (s₁.setTop (entryFrame m #[(.ref a0), (.int p1), (.int p2)] 3)) (s₁.setTop (mkF m 7 #[.val (.ref a0), .val (.int p1), .val (.int p2)] [(.int (1 : Int32)), (.int p2)])) := fun t k => pre1 t (by
        show Steps p.tables e below (s₁.setTop (mkF m 2 #[.val (.ref a0), .val (.int p1), .val (.int p2)] [(.int (1 : Int32)), (.int p1)])) _
        refine XS.icmpNo X0.here hx rfl (hb hby d5_2) rfl (flt hc2).1 ?_
        refine XS.iloadN X0.here hx rfl (hb hby d5_5) rfl ?_
        refine XS.iconst X0.here hx rfl (hb hby d5_6) ?_
        exact k)
    by_cases hc7 : p2 < (1 : Int32)
    · obtain ⟨fs, hr, hrun, hended, hW, hsame⟩ := X0.leave (v := some (.int p2)) (fun h => by rw [Bd.returns] at h; cases h)
      refine ⟨_, _, pre2 _ ?_, hrun, hended, _, _, rfl, ?_, ⟨_, rfl⟩, hW, hsame.mono (by decide) (by decide)⟩
      · show Steps p.tables e below (s₁.setTop (mkF m 7 #[.val (.ref a0), .val (.int p1), .val (.int p2)] [(.int (1 : Int32)), (.int p2)])) _
        refine XS.icmpNo X0.here hx rfl (hb hby d5_7) rfl (tlt hc7).2.1 ?_
        refine XS.iloadN X0.here hx rfl (hb hby d5_10) rfl ?_
        show Steps p.tables e below (s₁.setTop (mkF m 11 #[.val (.ref a0), .val (.int p1), .val (.int p2)] [(.int p2)])) _
        exact retI X0 hx Bd.returns (hb hby d5_11) hr
      · show Q5_2_2 Z a0 p1 p2 la ea ca kl ke kc wl we wc al pc h0 n0 _ s₁.heap _
        rw [e0]
        unfold Q5_2_2
        refine ⟨?_, N0, (Keep.refl h0 [a0]), E_a0, ?_, ?_, ?_, ?_, ?_, ?_, ?_⟩
        · simp only [own_f5_2_2, if_neg hc2, if_pos hc7]
        · exact F_a0_lines
        · exact F_a0_ends
        · exact F_a0_changes
        · exact F_a0_first
        · exact F_a0_end
        · rw [show (own_p5_2_2_askedLine p1 p2 al) = al from (by simp only [own_p5_2_2_askedLine, if_neg hc2, if_pos hc7])]; exact F_a0_askedLine
        · rw [show (own_p5_2_2_passedChange p1 p2 al pc) = pc from (by simp only [own_p5_2_2_passedChange, if_neg hc2, if_pos hc7])]; exact F_a0_passedChange
    · obtain ⟨T3, X3, e3, st3⟩ := getF X0 hx hZ hown (host := "") (Or.inl (hw _ (own_w 28 rfl))) Via.refl e0 F_a0_askedLine (g := (mkF m 14 #[.val (.ref a0), .val (.int p1), .val (.int p2)] [(.ref a0), (.int p1)])) rfl rfl (hb hby d5_14)
      have pre4 : own_Pre p e below (s₁.setTop (entryFrame m #[(.ref a0), (.int p1), (.int p2)] 3)) (T3.setTop (mkF m 17 #[.val (.ref a0), .val (.int p1), .val (.int p2)] [(.int al), (.int p1)])) := fun t k => pre2 t (by
          show Steps p.tables e below (s₁.setTop (mkF m 7 #[.val (.ref a0), .val (.int p1), .val (.int p2)] [(.int (1 : Int32)), (.int p2)])) _
          refine XS.icmpYes X0.here hx rfl (pc0 := 7) (pc' := 12) rfl (hb hby d5_7) rfl (flt hc7).2.1 (by decide) (by decide) ?_
          refine XS.iloadN X0.here hx rfl (hb hby d5_12) rfl ?_
          refine XS.aloadN X0.here hx rfl (hb hby d5_13) rfl rfl ?_
          refine st3 _ ?_
          exact k)
      by_cases hc17 : p1 = al
      · obtain ⟨T5, X5, e5, st5⟩ := getF X3 hx hZ hown (host := "") (Or.inl (hw _ (own_w 32 rfl))) Via.refl e3 F_a0_first (g := (mkF m 31 #[.val (.ref a0), .val (.int p1), .val (.int p2)] [(.ref a0)])) rfl rfl (hb hby d5_31)
        obtain ⟨T6, X6, e6, st6⟩ := getF X5 hx hZ hown (host := "") (Or.inl (hw _ (own_w 34 rfl))) Via.refl e5 F_a0_end (g := (mkF m 35 #[.val (.ref a0), .val (.int p1), .val (.int p2)] [(.ref a0), (.int (2 : Int32))])) rfl rfl (hb hby d5_35)
        obtain ⟨T7, X7, e7, st7⟩ := getF X6 hx hZ hown (host := "") (Or.inl (hw _ (own_w 30 rfl))) Via.refl e6 F_a0_passedChange (g := (mkF m 126 #[.val (.ref a0), .val (.int p1), .val (.int p2)] [(.ref a0), (.int p2)])) rfl rfl (hb hby d5_126)
        obtain ⟨fs, hr, hrun, hended, hW, hsame⟩ := X7.leave (v := some (.int (p2 - pc))) (fun h => by rw [Bd.returns] at h; cases h)
        refine ⟨_, _, pre4 _ ?_, hrun, hended, _, _, rfl, ?_, ⟨_, rfl⟩, hW, hsame.mono (by decide) (by decide)⟩
        · show Steps p.tables e below (T3.setTop (mkF m 17 #[.val (.ref a0), .val (.int p1), .val (.int p2)] [(.int al), (.int p1)])) _
          refine XS.icmpYes X3.here hx rfl (pc0 := 17) (pc' := 30) rfl (hb hby d5_17) rfl (teq hc17).1 (by decide) (by decide) ?_
          refine XS.aloadN X3.here hx rfl (hb hby d5_30) rfl rfl ?_
          refine st5 _ ?_
          refine XS.aloadN X5.here hx rfl (hb hby d5_34) rfl rfl ?_
          refine st6 _ ?_
          show Steps p.tables e below (T6.setTop (mkF m 38 #[.val (.ref a0), .val (.int p1), .val (.int p2)] [(.int (2 : Int32)), (.int (2 : Int32))])) _
          refine XS.icmpYes X6.here hx rfl (pc0 := 38) (pc' := 124) rfl (hb hby d5_38) rfl (flt (by decide : ¬ ((2 : Int32) < (2 : Int32)))).2.1 (by decide) (by decide) ?_
          refine XS.iloadN X6.here hx rfl (hb hby d5_124) rfl ?_
          refine XS.aloadN X6.here hx rfl (hb hby d5_125) rfl rfl ?_
          refine st7 _ ?_
          refine XS.isub X7.here hx rfl (hb hby d5_129) rfl ?_
          show Steps p.tables e below (T7.setTop (mkF m 130 #[.val (.ref a0), .val (.int p1), .val (.int p2)] [(.int (p2 - pc))])) _
          exact retI X7 hx Bd.returns (hb hby d5_130) hr
        · show Q5_2_2 Z a0 p1 p2 la ea ca kl ke kc wl we wc al pc h0 n0 _ T7.heap _
          rw [e7]
          unfold Q5_2_2
          refine ⟨?_, N0, (Keep.refl h0 [a0]), E_a0, ?_, ?_, ?_, ?_, ?_, ?_, ?_⟩
          · simp only [own_f5_2_2, if_neg hc2, if_neg hc7, if_pos hc17]
          · exact F_a0_lines
          · exact F_a0_ends
          · exact F_a0_changes
          · exact F_a0_first
          · exact F_a0_end
          · rw [show (own_p5_2_2_askedLine p1 p2 al) = al from (by simp only [own_p5_2_2_askedLine, if_neg hc2, if_neg hc7, if_pos hc17])]; exact F_a0_askedLine
          · rw [show (own_p5_2_2_passedChange p1 p2 al pc) = pc from (by simp only [own_p5_2_2_passedChange, if_neg hc2, if_neg hc7, if_pos hc17])]; exact F_a0_passedChange
      · obtain ⟨T8, h8, X8, e8, W8, st8⟩ := putF X3 hx hZ hown (host := "") (Or.inl (hw _ (own_w 28 rfl))) Via.refl e3 F_a0_askedLine E_a0 (Or.inl (hw _ (own_w 29 rfl))) (hw _ (own_w 8 rfl)) (ty := .int) (by decide) rfl rfl (g := (mkF m 22 #[.val (.ref a0), .val (.int p1), .val (.int p2)] [(.int p1), (.ref a0)])) rfl rfl (hb hby d5_22)
        have Fw8 := F_a0_askedLine.same W8
        have N8 := Fr.snoc X8 N0 g_a0
        have kp9 : Keep h0 h8 [a0] := (Keep.refl h0 [a0]).wr W8 (Or.inl (own_w 0 rfl))
        have f10 := (E_a0.wr W8)
        have f11 := (F_a0_passedChange.other W8 (Or.inr (slot_ne (Or.inl (hw _ (own_w 31 rfl))) (Or.inl (hw _ (own_w 29 rfl))) (by decide) (t := .int) (t' := .int) (by decide) (by decide))))
        obtain ⟨T12, h12, X12, e12, W12, st12⟩ := putF X8 hx hZ hown (host := "") (Or.inl (hw _ (own_w 30 rfl))) Via.refl e8 f11 f10 (Or.inl (hw _ (own_w 31 rfl))) (hw _ (own_w 8 rfl)) (ty := .int) (by decide) rfl rfl (g := (mkF m 27 #[.val (.ref a0), .val (.int p1), .val (.int p2)] [(.int (0 : Int32)), (.ref a0)])) rfl rfl (hb hby d5_27)
        have Fw12 := f11.same W12
        have N12 := Fr.snoc X12 N8 g_a0
        have kp13 : Keep h0 h12 [a0] := kp9.wr W12 (Or.inl (own_w 0 rfl))
        have f14 := ((F_a0_first.other W8 (Or.inr (slot_ne (Or.inl (hw _ (own_w 33 rfl))) (Or.inl (hw _ (own_w 29 rfl))) (by decide) (t := .int) (t' := .int) (by decide) (by decide)))).other W12 (Or.inr (slot_ne (Or.inl (hw _ (own_w 33 rfl))) (Or.inl (hw _ (own_w 31 rfl))) (by decide) (t := .int) (t' := .int) (by decide) (by decide))))
        obtain ⟨T15, X15, e15, st15⟩ := getF X12 hx hZ hown (host := "") (Or.inl (hw _ (own_w 32 rfl))) Via.refl e12 f14 (g := (mkF m 31 #[.val (.ref a0), .val (.int p1), .val (.int p2)] [(.ref a0)])) rfl rfl (hb hby d5_31)
        have f16 := ((F_a0_end.other W8 (Or.inr (slot_ne (Or.inl (hw _ (own_w 35 rfl))) (Or.inl (hw _ (own_w 29 rfl))) (by decide) (t := .int) (t' := .int) (by decide) (by decide)))).other W12 (Or.inr (slot_ne (Or.inl (hw _ (own_w 35 rfl))) (Or.inl (hw _ (own_w 31 rfl))) (by decide) (t := .int) (t' := .int) (by decide) (by decide))))
        obtain ⟨T17, X17, e17, st17⟩ := getF X15 hx hZ hown (host := "") (Or.inl (hw _ (own_w 34 rfl))) Via.refl e15 f16 (g := (mkF m 35 #[.val (.ref a0), .val (.int p1), .val (.int p2)] [(.ref a0), (.int (2 : Int32))])) rfl rfl (hb hby d5_35)
        obtain ⟨T18, X18, e18, st18⟩ := getF X17 hx hZ hown (host := "") (Or.inl (hw _ (own_w 30 rfl))) Via.refl e17 Fw12 (g := (mkF m 126 #[.val (.ref a0), .val (.int p1), .val (.int p2)] [(.ref a0), (.int p2)])) rfl rfl (hb hby d5_126)
        obtain ⟨fs, hr, hrun, hended, hW, hsame⟩ := X18.leave (v := some (.int (p2 - (0 : Int32)))) (fun h => by rw [Bd.returns] at h; cases h)
        refine ⟨_, _, pre4 _ ?_, hrun, hended, _, _, rfl, ?_, ⟨_, rfl⟩, hW, hsame.mono (by decide) (by decide)⟩
        · show Steps p.tables e below (T3.setTop (mkF m 17 #[.val (.ref a0), .val (.int p1), .val (.int p2)] [(.int al), (.int p1)])) _
          refine XS.icmpNo X3.here hx rfl (hb hby d5_17) rfl (feq hc17).1 ?_
          refine XS.aloadN X3.here hx rfl (hb hby d5_20) rfl rfl ?_
          refine XS.iloadN X3.here hx rfl (hb hby d5_21) rfl ?_
          refine st8 _ ?_
          refine XS.aloadN X8.here hx rfl (hb hby d5_25) rfl rfl ?_
          show Steps p.tables e below (T8.setTop (mkF m 26 #[.val (.ref a0), .val (.int p1), .val (.int p2)] [(.ref a0)])) _
          refine XS.iconst X8.here hx rfl (hb hby d5_26) ?_
          refine st12 _ ?_
          refine XS.aloadN X12.here hx rfl (hb hby d5_30) rfl rfl ?_
          refine st15 _ ?_
          refine XS.aloadN X15.here hx rfl (hb hby d5_34) rfl rfl ?_
          show Steps p.tables e below (T15.setTop (mkF m 35 #[.val (.ref a0), .val (.int p1), .val (.int p2)] [(.ref a0), (.int (2 : Int32))])) _
          refine st17 _ ?_
          refine XS.icmpYes X17.here hx rfl (pc0 := 38) (pc' := 124) rfl (hb hby d5_38) rfl (flt (by decide : ¬ ((2 : Int32) < (2 : Int32)))).2.1 (by decide) (by decide) ?_
          refine XS.iloadN X17.here hx rfl (hb hby d5_124) rfl ?_
          refine XS.aloadN X17.here hx rfl (hb hby d5_125) rfl rfl ?_
          refine st18 _ ?_
          show Steps p.tables e below (T18.setTop (mkF m 129 #[.val (.ref a0), .val (.int p1), .val (.int p2)] [(.int (0 : Int32)), (.int p2)])) _
          refine XS.isub X18.here hx rfl (hb hby d5_129) rfl ?_
          show Steps p.tables e below (T18.setTop (mkF m 130 #[.val (.ref a0), .val (.int p1), .val (.int p2)] [(.int (p2 - (0 : Int32)))])) _
          exact retI X18 hx Bd.returns (hb hby d5_130) hr
        · show Q5_2_2 Z a0 p1 p2 la ea ca kl ke kc wl we wc al pc h0 n0 _ T18.heap _
          rw [e18]
          unfold Q5_2_2
          have f19 := (f10.wr W12)
          have f20 := ((F_a0_lines.other W8 (Or.inr (slot_ne (Or.inl (hw _ (own_w 18 rfl))) (Or.inl (hw _ (own_w 29 rfl))) (by decide) (t := (.array .int)) (t' := .int) (by decide) (by decide)))).other W12 (Or.inr (slot_ne (Or.inl (hw _ (own_w 18 rfl))) (Or.inl (hw _ (own_w 31 rfl))) (by decide) (t := (.array .int)) (t' := .int) (by decide) (by decide))))
          have f21 := ((F_a0_ends.other W8 (Or.inr (slot_ne (Or.inl (hw _ (own_w 20 rfl))) (Or.inl (hw _ (own_w 29 rfl))) (by decide) (t := (.array .int)) (t' := .int) (by decide) (by decide)))).other W12 (Or.inr (slot_ne (Or.inl (hw _ (own_w 20 rfl))) (Or.inl (hw _ (own_w 31 rfl))) (by decide) (t := (.array .int)) (t' := .int) (by decide) (by decide))))
          have f22 := ((F_a0_changes.other W8 (Or.inr (slot_ne (Or.inl (hw _ (own_w 22 rfl))) (Or.inl (hw _ (own_w 29 rfl))) (by decide) (t := (.array .int)) (t' := .int) (by decide) (by decide)))).other W12 (Or.inr (slot_ne (Or.inl (hw _ (own_w 22 rfl))) (Or.inl (hw _ (own_w 31 rfl))) (by decide) (t := (.array .int)) (t' := .int) (by decide) (by decide))))
          have f23 := (Fw8.other W12 (Or.inr (slot_ne (Or.inl (hw _ (own_w 29 rfl))) (Or.inl (hw _ (own_w 31 rfl))) (by decide) (t := .int) (t' := .int) (by decide) (by decide))))
          refine ⟨?_, N12, kp13, f19, ?_, ?_, ?_, ?_, ?_, ?_, ?_⟩
          · simp only [own_f5_2_2, if_neg hc2, if_neg hc7, if_neg hc17]
          · exact f20
          · exact f21
          · exact f22
          · exact f14
          · exact f16
          · rw [show (own_p5_2_2_askedLine p1 p2 al) = p1 from (by simp only [own_p5_2_2_askedLine, if_neg hc2, if_neg hc7, if_neg hc17])]; exact f23
          · rw [show (own_p5_2_2_passedChange p1 p2 al pc) = (0 : Int32) from (by simp only [own_p5_2_2_passedChange, if_neg hc2, if_neg hc7, if_neg hc17])]; exact Fw12
theorem d6_0 : decode method_2_code 0 = .ok (.iload_n 0, 1) := by decide +kernel
theorem d6_1 : decode method_2_code 1 = .ok (.iconst 1, 1) := by decide +kernel
theorem d6_2 : decode method_2_code 2 = .ok (.if_icmp .lt 8, 3) := by decide +kernel
theorem d6_5 : decode method_2_code 5 = .ok (.iload_n 1, 1) := by decide +kernel
theorem d6_6 : decode method_2_code 6 = .ok (.iconst 1, 1) := by decide +kernel
theorem d6_7 : decode method_2_code 7 = .ok (.if_icmp .ge 5, 3) := by decide +kernel
theorem d6_10 : decode method_2_code 10 = .ok (.iload_n 1, 1) := by decide +kernel
theorem d6_11 : decode method_2_code 11 = .ok (.ireturn, 1) := by decide +kernel
theorem d6_12 : decode method_2_code 12 = .ok (.iconst 0, 1) := by decide +kernel
theorem d6_13 : decode method_2_code 13 = .ok (.istore 8, 2) := by decide +kernel
theorem d6_15 : decode method_2_code 15 = .ok (.iload_n 0, 1) := by decide +kernel
theorem d6_16 : decode method_2_code 16 = .ok (.iload_n 2, 1) := by decide +kernel
theorem d6_17 : decode method_2_code 17 = .ok (.if_icmp .ne 15, 3) := by decide +kernel
theorem d6_20 : decode method_2_code 20 = .ok (.iload_n 3, 1) := by decide +kernel
theorem d6_21 : decode method_2_code 21 = .ok (.iload_n 1, 1) := by decide +kernel
theorem d6_22 : decode method_2_code 22 = .ok (.if_icmp .gt 10, 3) := by decide +kernel
theorem d6_25 : decode method_2_code 25 = .ok (.iload 8, 2) := by decide +kernel
theorem d6_27 : decode method_2_code 27 = .ok (.iload 4, 2) := by decide +kernel
theorem d6_29 : decode method_2_code 29 = .ok (.iadd, 1) := by decide +kernel
theorem d6_30 : decode method_2_code 30 = .ok (.istore 8, 2) := by decide +kernel
theorem d6_32 : decode method_2_code 32 = .ok (.iload_n 0, 1) := by decide +kernel
theorem d6_33 : decode method_2_code 33 = .ok (.iload 5, 2) := by decide +kernel
theorem d6_35 : decode method_2_code 35 = .ok (.if_icmp .ne 16, 3) := by decide +kernel
theorem d6_38 : decode method_2_code 38 = .ok (.iload 6, 2) := by decide +kernel
theorem d6_40 : decode method_2_code 40 = .ok (.iload_n 1, 1) := by decide +kernel
theorem d6_41 : decode method_2_code 41 = .ok (.if_icmp .gt 10, 3) := by decide +kernel
theorem d6_44 : decode method_2_code 44 = .ok (.iload 8, 2) := by decide +kernel
theorem d6_46 : decode method_2_code 46 = .ok (.iload 7, 2) := by decide +kernel
theorem d6_48 : decode method_2_code 48 = .ok (.iadd, 1) := by decide +kernel
theorem d6_49 : decode method_2_code 49 = .ok (.istore 8, 2) := by decide +kernel
theorem d6_51 : decode method_2_code 51 = .ok (.iload_n 1, 1) := by decide +kernel
theorem d6_52 : decode method_2_code 52 = .ok (.iload 8, 2) := by decide +kernel
theorem d6_54 : decode method_2_code 54 = .ok (.isub, 1) := by decide +kernel
theorem d6_55 : decode method_2_code 55 = .ok (.ireturn, 1) := by decide +kernel
theorem pn_1 : plainName "com/example/trawl/trawl/load/ColumnShiftsColumnInTextPinLaw" = true := by first | (simp [plainName, overriddenIn]; done) | decide +kernel
theorem ef_6 (m : MethodId) (p0 : Int32) (p1 : Int32) (p2 : Int32) (p3 : Int32) (p4 : Int32) (p5 : Int32) (p6 : Int32) (p7 : Int32) : entryFrame m #[(.int p0), (.int p1), (.int p2), (.int p3), (.int p4), (.int p5), (.int p6), (.int p7)] 9 = mkF m 0 #[.val (.int p0), .val (.int p1), .val (.int p2), .val (.int p3), .val (.int p4), .val (.int p5), .val (.int p6), .val (.int p7), .unset] [] := by first | (simp [entryFrame, mkF, argsToLocals, Value.category]; done) | rfl
def own_m6_32_l8 (v0 : Int32) (v1 : Int32) (v2 : Int32) (v3 : Int32) (v4 : Int32) : Int32 := (if v0 = v1 then (if v2 < v3 then (0 : Int32) else (((0 : Int32) + v4))) else (0 : Int32))
def own_m6_51_l8 (v0 : Int32) (v1 : Int32) (v2 : Int32) (v3 : Int32) (v4 : Int32) (v5 : Int32) : Int32 := (if v0 = v1 then (if v2 < v3 then v4 else ((v4 + v5))) else v4)
def own_f6 (p0 : Int32) (p1 : Int32) (p2 : Int32) (p3 : Int32) (p4 : Int32) (p5 : Int32) (p6 : Int32) (p7 : Int32) : Int32 := (if p0 < (1 : Int32) then p1 else (if p1 < (1 : Int32) then p1 else (p1 - ((own_m6_51_l8 p0 p5 p1 p6 ((own_m6_32_l8 p0 p2 p1 p3 p4)) p7)))))
def Q6 (Z : State) (p0 : Int32) (p1 : Int32) (p2 : Int32) (p3 : Int32) (p4 : Int32) (p5 : Int32) (p6 : Int32) (p7 : Int32) (h0 : Heap) (n0 : Nat) (v : Option Value) (h : Heap) (L : List Loc) : Prop := v = some (.int (own_f6 p0 p1 p2 p3 p4 p5 p6 p7)) ∧ Fr n0 L ∧ h = h0
set_option maxRecDepth 65536 in
set_option maxHeartbeats 40000000 in
theorem rm6 (l : Launch) (Z : State) (aw : Array Value) (hw : ∀ d ∈ tables_1, d.before aw Z = true) (wq : List Jvm.Cond) (p0 : Int32) (p1 : Int32) (p2 : Int32) (p3 : Int32) (p4 : Int32) (p5 : Int32) (p6 : Int32) (p7 : Int32) (h0 : Heap) (n0 : Nat) (Z0 : n0 ≤ h0.size) :
    MetFree l (⟨"com/example/trawl/trawl/load/ColumnShiftsColumnInTextPinLaw", "expected", "(IIIIIIII)I"⟩ : MethodName) (head1 (Jvm.Cond.code (⟨"com/example/trawl/trawl/load/ColumnShiftsColumnInTextPinLaw", "expected", "(IIIIIIII)I"⟩ : MethodName) method_2_code 9 (some .int) :: wq) ({ frames := 0, cells := 0, slots := 0, locals := 0 } : Room)) (fun a U => a = #[(.int p0), (.int p1), (.int p2), (.int p3), (.int p4), (.int p5), (.int p6), (.int p7)] ∧ Z.Warmed39 U.vm ∧ U.heap = h0) (fun _ _ _ _ _ => True) (fun _ U o U' => ∃ v L, o = .returned v ∧ Q6 Z p0 p1 p2 p3 p4 p5 p6 p7 h0 n0 v U'.heap L ∧ FrameEnd U o U' L ({ frames := 0, cells := 0, slots := 0, locals := 0 } : Room).cells ({ frames := 0, cells := 0, slots := 0, locals := 0 } : Room).slots) := by
  refine MetFree.of_bodySF (plainFor_of_name pn_1) hisR ?_
  intro p e s m args below meth c s₁ Bd hml0 hP hK
  obtain ⟨rfl, hZ, hh⟩ := hP
  have hx := Bd.exec
  have hby := Bd.bytes
  have hml : c.maxLocals = 9 := hml0
  have hown : s.vm.findClass "com/example/trawl/trawl/load/ColumnShiftsColumnInTextPinLaw" = some m.cls := findClass_of_methodNamed Bd.named
  have hnm := (name_of_methodNamed Bd.named Bd.method).1
  have X0 : Stand p l e ({ frames := 0, cells := 0, slots := 0, locals := 0 } : Room) s m #[(.int p0), (.int p1), (.int p2), (.int p3), (.int p4), (.int p5), (.int p6), (.int p7)] below meth c s₁ [] 0 0 := Stand.of_body Bd
  have e0 : s₁.heap = h0 := by rw [← hh, Bd.state]; rfl
  have N0 := Fr.nil n0
  have pre0 : own_Pre p e below (s₁.setTop (entryFrame m #[(.int p0), (.int p1), (.int p2), (.int p3), (.int p4), (.int p5), (.int p6), (.int p7)] 9)) (s₁.setTop (mkF m 0 #[.val (.int p0), .val (.int p1), .val (.int p2), .val (.int p3), .val (.int p4), .val (.int p5), .val (.int p6), .val (.int p7), .unset] [])) := fun t k => castTop (ef_6 m p0 p1 p2 p3 p4 p5 p6 p7) k
  have pre1 : own_Pre p e below (s₁.setTop (entryFrame m #[(.int p0), (.int p1), (.int p2), (.int p3), (.int p4), (.int p5), (.int p6), (.int p7)] 9)) (s₁.setTop (mkF m 2 #[.val (.int p0), .val (.int p1), .val (.int p2), .val (.int p3), .val (.int p4), .val (.int p5), .val (.int p6), .val (.int p7), .unset] [(.int (1 : Int32)), (.int p0)])) := fun t k => pre0 t (by
      show Steps p.tables e below (s₁.setTop (mkF m 0 #[.val (.int p0), .val (.int p1), .val (.int p2), .val (.int p3), .val (.int p4), .val (.int p5), .val (.int p6), .val (.int p7), .unset] [])) _
      refine XS.iloadN X0.here hx rfl (hb hby d6_0) rfl ?_
      refine XS.iconst X0.here hx rfl (hb hby d6_1) ?_
      exact k)
  by_cases hc2 : p0 < (1 : Int32)
  · obtain ⟨fs, hr, hrun, hended, hW, hsame⟩ := X0.leave (v := some (.int p1)) (fun h => by rw [Bd.returns] at h; cases h)
    refine ⟨_, _, pre1 _ ?_, hrun, hended, _, _, rfl, ?_, ⟨_, rfl⟩, hW, hsame.mono (by decide) (by decide)⟩
    · show Steps p.tables e below (s₁.setTop (mkF m 2 #[.val (.int p0), .val (.int p1), .val (.int p2), .val (.int p3), .val (.int p4), .val (.int p5), .val (.int p6), .val (.int p7), .unset] [(.int (1 : Int32)), (.int p0)])) _
      refine XS.icmpYes X0.here hx rfl (pc0 := 2) (pc' := 10) rfl (hb hby d6_2) rfl (tlt hc2).1 (by decide) (by decide) ?_
      refine XS.iloadN X0.here hx rfl (hb hby d6_10) rfl ?_
      show Steps p.tables e below (s₁.setTop (mkF m 11 #[.val (.int p0), .val (.int p1), .val (.int p2), .val (.int p3), .val (.int p4), .val (.int p5), .val (.int p6), .val (.int p7), .unset] [(.int p1)])) _
      exact retI X0 hx Bd.returns (hb hby d6_11) hr
    · show Q6 Z p0 p1 p2 p3 p4 p5 p6 p7 h0 n0 _ s₁.heap _
      rw [e0]
      unfold Q6
      refine ⟨?_, N0, rfl⟩
      · simp only [own_f6, if_pos hc2]
  · have pre2 : own_Pre p e below (s₁.setTop (entryFrame m #[(.int p0), (.int p1), (.int p2), (.int p3), (.int p4), (.int p5), (.int p6), (.int p7)] 9)) (s₁.setTop (mkF m 7 #[.val (.int p0), .val (.int p1), .val (.int p2), .val (.int p3), .val (.int p4), .val (.int p5), .val (.int p6), .val (.int p7), .unset] [(.int (1 : Int32)), (.int p1)])) := fun t k => pre1 t (by
        show Steps p.tables e below (s₁.setTop (mkF m 2 #[.val (.int p0), .val (.int p1), .val (.int p2), .val (.int p3), .val (.int p4), .val (.int p5), .val (.int p6), .val (.int p7), .unset] [(.int (1 : Int32)), (.int p0)])) _
        refine XS.icmpNo X0.here hx rfl (hb hby d6_2) rfl (flt hc2).1 ?_
        refine XS.iloadN X0.here hx rfl (hb hby d6_5) rfl ?_
        refine XS.iconst X0.here hx rfl (hb hby d6_6) ?_
        exact k)
    by_cases hc7 : p1 < (1 : Int32)
    · obtain ⟨fs, hr, hrun, hended, hW, hsame⟩ := X0.leave (v := some (.int p1)) (fun h => by rw [Bd.returns] at h; cases h)
      refine ⟨_, _, pre2 _ ?_, hrun, hended, _, _, rfl, ?_, ⟨_, rfl⟩, hW, hsame.mono (by decide) (by decide)⟩
      · show Steps p.tables e below (s₁.setTop (mkF m 7 #[.val (.int p0), .val (.int p1), .val (.int p2), .val (.int p3), .val (.int p4), .val (.int p5), .val (.int p6), .val (.int p7), .unset] [(.int (1 : Int32)), (.int p1)])) _
        refine XS.icmpNo X0.here hx rfl (hb hby d6_7) rfl (tlt hc7).2.1 ?_
        refine XS.iloadN X0.here hx rfl (hb hby d6_10) rfl ?_
        show Steps p.tables e below (s₁.setTop (mkF m 11 #[.val (.int p0), .val (.int p1), .val (.int p2), .val (.int p3), .val (.int p4), .val (.int p5), .val (.int p6), .val (.int p7), .unset] [(.int p1)])) _
        exact retI X0 hx Bd.returns (hb hby d6_11) hr
      · show Q6 Z p0 p1 p2 p3 p4 p5 p6 p7 h0 n0 _ s₁.heap _
        rw [e0]
        unfold Q6
        refine ⟨?_, N0, rfl⟩
        · simp only [own_f6, if_neg hc2, if_pos hc7]
    · have pre5 : own_Pre p e below (s₁.setTop (entryFrame m #[(.int p0), (.int p1), (.int p2), (.int p3), (.int p4), (.int p5), (.int p6), (.int p7)] 9)) (s₁.setTop (mkF m 17 #[.val (.int p0), .val (.int p1), .val (.int p2), .val (.int p3), .val (.int p4), .val (.int p5), .val (.int p6), .val (.int p7), .val (.int (0 : Int32))] [(.int p2), (.int p0)])) := fun t k => pre2 t (by
          show Steps p.tables e below (s₁.setTop (mkF m 7 #[.val (.int p0), .val (.int p1), .val (.int p2), .val (.int p3), .val (.int p4), .val (.int p5), .val (.int p6), .val (.int p7), .unset] [(.int (1 : Int32)), (.int p1)])) _
          refine XS.icmpYes X0.here hx rfl (pc0 := 7) (pc' := 12) rfl (hb hby d6_7) rfl (flt hc7).2.1 (by decide) (by decide) ?_
          refine XS.iconst X0.here hx rfl (hb hby d6_12) ?_
          refine XS.istore X0.here hx rfl (hb hby d6_13) rfl (l' := #[.val (.int p0), .val (.int p1), .val (.int p2), .val (.int p3), .val (.int p4), .val (.int p5), .val (.int p6), .val (.int p7), .val (.int (0 : Int32))]) rfl ?_
          refine XS.iloadN X0.here hx rfl (hb hby d6_15) rfl ?_
          refine XS.iloadN X0.here hx rfl (hb hby d6_16) rfl ?_
          exact k)
      obtain ⟨m32_l8, hm32_l8, pre4⟩ : ∃ (m32_l8 : Int32), m32_l8 = (own_m6_32_l8 p0 p2 p1 p3 p4) ∧ own_Pre p e below (s₁.setTop (entryFrame m #[(.int p0), (.int p1), (.int p2), (.int p3), (.int p4), (.int p5), (.int p6), (.int p7)] 9)) (s₁.setTop (mkF m 32 #[.val (.int p0), .val (.int p1), .val (.int p2), .val (.int p3), .val (.int p4), .val (.int p5), .val (.int p6), .val (.int p7), .val (.int m32_l8)] [])) := by
        by_cases hc17 : p0 = p2
        · have pre6 : own_Pre p e below (s₁.setTop (entryFrame m #[(.int p0), (.int p1), (.int p2), (.int p3), (.int p4), (.int p5), (.int p6), (.int p7)] 9)) (s₁.setTop (mkF m 22 #[.val (.int p0), .val (.int p1), .val (.int p2), .val (.int p3), .val (.int p4), .val (.int p5), .val (.int p6), .val (.int p7), .val (.int (0 : Int32))] [(.int p1), (.int p3)])) := fun t k => pre5 t (by
              show Steps p.tables e below (s₁.setTop (mkF m 17 #[.val (.int p0), .val (.int p1), .val (.int p2), .val (.int p3), .val (.int p4), .val (.int p5), .val (.int p6), .val (.int p7), .val (.int (0 : Int32))] [(.int p2), (.int p0)])) _
              refine XS.icmpNo X0.here hx rfl (hb hby d6_17) rfl (teq hc17).2 ?_
              refine XS.iloadN X0.here hx rfl (hb hby d6_20) rfl ?_
              refine XS.iloadN X0.here hx rfl (hb hby d6_21) rfl ?_
              exact k)
          by_cases hc22 : p1 < p3
          · have pre7 : own_Pre p e below (s₁.setTop (entryFrame m #[(.int p0), (.int p1), (.int p2), (.int p3), (.int p4), (.int p5), (.int p6), (.int p7)] 9)) (s₁.setTop (mkF m 32 #[.val (.int p0), .val (.int p1), .val (.int p2), .val (.int p3), .val (.int p4), .val (.int p5), .val (.int p6), .val (.int p7), .val (.int (0 : Int32))] [])) := fun t k => pre6 t (by
                show Steps p.tables e below (s₁.setTop (mkF m 22 #[.val (.int p0), .val (.int p1), .val (.int p2), .val (.int p3), .val (.int p4), .val (.int p5), .val (.int p6), .val (.int p7), .val (.int (0 : Int32))] [(.int p1), (.int p3)])) _
                refine XS.icmpYes X0.here hx rfl (pc0 := 22) (pc' := 32) rfl (hb hby d6_22) rfl (tlt hc22).2.2.1 (by decide) (by decide) ?_
                exact k)
            refine ⟨_, ?_, pre7⟩
            all_goals (first | (simp only [own_m6_32_l8, if_pos hc17, if_pos hc22]; done) | (simp [own_m6_32_l8, if_pos hc17, if_pos hc22]; done))
          · obtain ⟨x8_32, hx8_32, pre8⟩ : ∃ z : Int32, z = ((0 : Int32) + p4) ∧ own_Pre p e below (s₁.setTop (entryFrame m #[(.int p0), (.int p1), (.int p2), (.int p3), (.int p4), (.int p5), (.int p6), (.int p7)] 9)) (s₁.setTop (mkF m 32 #[.val (.int p0), .val (.int p1), .val (.int p2), .val (.int p3), .val (.int p4), .val (.int p5), .val (.int p6), .val (.int p7), .val (.int z)] [])) := ⟨_, rfl, fun t k => pre6 t (by
                show Steps p.tables e below (s₁.setTop (mkF m 22 #[.val (.int p0), .val (.int p1), .val (.int p2), .val (.int p3), .val (.int p4), .val (.int p5), .val (.int p6), .val (.int p7), .val (.int (0 : Int32))] [(.int p1), (.int p3)])) _
                refine XS.icmpNo X0.here hx rfl (hb hby d6_22) rfl (flt hc22).2.2.1 ?_
                refine XS.iload X0.here hx rfl (hb hby d6_25) rfl ?_
                refine XS.iload X0.here hx rfl (hb hby d6_27) rfl ?_
                refine XS.iadd X0.here hx rfl (hb hby d6_29) rfl ?_
                refine XS.istore X0.here hx rfl (hb hby d6_30) rfl (l' := #[.val (.int p0), .val (.int p1), .val (.int p2), .val (.int p3), .val (.int p4), .val (.int p5), .val (.int p6), .val (.int p7), .val (.int ((0 : Int32) + p4))]) rfl ?_
                exact k)⟩
            refine ⟨_, ?_, pre8⟩
            all_goals (subst hx8_32; first | (simp only [own_m6_32_l8, if_pos hc17, if_neg hc22]; done) | (simp [own_m6_32_l8, if_pos hc17, if_neg hc22]; done))
        · have pre9 : own_Pre p e below (s₁.setTop (entryFrame m #[(.int p0), (.int p1), (.int p2), (.int p3), (.int p4), (.int p5), (.int p6), (.int p7)] 9)) (s₁.setTop (mkF m 32 #[.val (.int p0), .val (.int p1), .val (.int p2), .val (.int p3), .val (.int p4), .val (.int p5), .val (.int p6), .val (.int p7), .val (.int (0 : Int32))] [])) := fun t k => pre5 t (by
              show Steps p.tables e below (s₁.setTop (mkF m 17 #[.val (.int p0), .val (.int p1), .val (.int p2), .val (.int p3), .val (.int p4), .val (.int p5), .val (.int p6), .val (.int p7), .val (.int (0 : Int32))] [(.int p2), (.int p0)])) _
              refine XS.icmpYes X0.here hx rfl (pc0 := 17) (pc' := 32) rfl (hb hby d6_17) rfl (feq hc17).2 (by decide) (by decide) ?_
              exact k)
          refine ⟨_, ?_, pre9⟩
          all_goals (first | (simp only [own_m6_32_l8, if_neg hc17]; done) | (simp [own_m6_32_l8, if_neg hc17]; done))
      have pre12 : own_Pre p e below (s₁.setTop (entryFrame m #[(.int p0), (.int p1), (.int p2), (.int p3), (.int p4), (.int p5), (.int p6), (.int p7)] 9)) (s₁.setTop (mkF m 35 #[.val (.int p0), .val (.int p1), .val (.int p2), .val (.int p3), .val (.int p4), .val (.int p5), .val (.int p6), .val (.int p7), .val (.int m32_l8)] [(.int p5), (.int p0)])) := fun t k => pre4 t (by
          show Steps p.tables e below (s₁.setTop (mkF m 32 #[.val (.int p0), .val (.int p1), .val (.int p2), .val (.int p3), .val (.int p4), .val (.int p5), .val (.int p6), .val (.int p7), .val (.int m32_l8)] [])) _
          refine XS.iloadN X0.here hx rfl (hb hby d6_32) rfl ?_
          refine XS.iload X0.here hx rfl (hb hby d6_33) rfl ?_
          exact k)
      obtain ⟨m51_l8, hm51_l8, pre11⟩ : ∃ (m51_l8 : Int32), m51_l8 = (own_m6_51_l8 p0 p5 p1 p6 m32_l8 p7) ∧ own_Pre p e below (s₁.setTop (entryFrame m #[(.int p0), (.int p1), (.int p2), (.int p3), (.int p4), (.int p5), (.int p6), (.int p7)] 9)) (s₁.setTop (mkF m 51 #[.val (.int p0), .val (.int p1), .val (.int p2), .val (.int p3), .val (.int p4), .val (.int p5), .val (.int p6), .val (.int p7), .val (.int m51_l8)] [])) := by
        by_cases hc35 : p0 = p5
        · have pre13 : own_Pre p e below (s₁.setTop (entryFrame m #[(.int p0), (.int p1), (.int p2), (.int p3), (.int p4), (.int p5), (.int p6), (.int p7)] 9)) (s₁.setTop (mkF m 41 #[.val (.int p0), .val (.int p1), .val (.int p2), .val (.int p3), .val (.int p4), .val (.int p5), .val (.int p6), .val (.int p7), .val (.int m32_l8)] [(.int p1), (.int p6)])) := fun t k => pre12 t (by
              show Steps p.tables e below (s₁.setTop (mkF m 35 #[.val (.int p0), .val (.int p1), .val (.int p2), .val (.int p3), .val (.int p4), .val (.int p5), .val (.int p6), .val (.int p7), .val (.int m32_l8)] [(.int p5), (.int p0)])) _
              refine XS.icmpNo X0.here hx rfl (hb hby d6_35) rfl (teq hc35).2 ?_
              refine XS.iload X0.here hx rfl (hb hby d6_38) rfl ?_
              refine XS.iloadN X0.here hx rfl (hb hby d6_40) rfl ?_
              exact k)
          by_cases hc41 : p1 < p6
          · have pre14 : own_Pre p e below (s₁.setTop (entryFrame m #[(.int p0), (.int p1), (.int p2), (.int p3), (.int p4), (.int p5), (.int p6), (.int p7)] 9)) (s₁.setTop (mkF m 51 #[.val (.int p0), .val (.int p1), .val (.int p2), .val (.int p3), .val (.int p4), .val (.int p5), .val (.int p6), .val (.int p7), .val (.int m32_l8)] [])) := fun t k => pre13 t (by
                show Steps p.tables e below (s₁.setTop (mkF m 41 #[.val (.int p0), .val (.int p1), .val (.int p2), .val (.int p3), .val (.int p4), .val (.int p5), .val (.int p6), .val (.int p7), .val (.int m32_l8)] [(.int p1), (.int p6)])) _
                refine XS.icmpYes X0.here hx rfl (pc0 := 41) (pc' := 51) rfl (hb hby d6_41) rfl (tlt hc41).2.2.1 (by decide) (by decide) ?_
                exact k)
            refine ⟨_, ?_, pre14⟩
            all_goals (first | (simp only [own_m6_51_l8, if_pos hc35, if_pos hc41]; done) | (simp [own_m6_51_l8, if_pos hc35, if_pos hc41]; done))
          · obtain ⟨x8_51, hx8_51, pre15⟩ : ∃ z : Int32, z = (m32_l8 + p7) ∧ own_Pre p e below (s₁.setTop (entryFrame m #[(.int p0), (.int p1), (.int p2), (.int p3), (.int p4), (.int p5), (.int p6), (.int p7)] 9)) (s₁.setTop (mkF m 51 #[.val (.int p0), .val (.int p1), .val (.int p2), .val (.int p3), .val (.int p4), .val (.int p5), .val (.int p6), .val (.int p7), .val (.int z)] [])) := ⟨_, rfl, fun t k => pre13 t (by
                show Steps p.tables e below (s₁.setTop (mkF m 41 #[.val (.int p0), .val (.int p1), .val (.int p2), .val (.int p3), .val (.int p4), .val (.int p5), .val (.int p6), .val (.int p7), .val (.int m32_l8)] [(.int p1), (.int p6)])) _
                refine XS.icmpNo X0.here hx rfl (hb hby d6_41) rfl (flt hc41).2.2.1 ?_
                refine XS.iload X0.here hx rfl (hb hby d6_44) rfl ?_
                refine XS.iload X0.here hx rfl (hb hby d6_46) rfl ?_
                refine XS.iadd X0.here hx rfl (hb hby d6_48) rfl ?_
                refine XS.istore X0.here hx rfl (hb hby d6_49) rfl (l' := #[.val (.int p0), .val (.int p1), .val (.int p2), .val (.int p3), .val (.int p4), .val (.int p5), .val (.int p6), .val (.int p7), .val (.int (m32_l8 + p7))]) rfl ?_
                exact k)⟩
            refine ⟨_, ?_, pre15⟩
            all_goals (subst hx8_51; first | (simp only [own_m6_51_l8, if_pos hc35, if_neg hc41]; done) | (simp [own_m6_51_l8, if_pos hc35, if_neg hc41]; done))
        · have pre16 : own_Pre p e below (s₁.setTop (entryFrame m #[(.int p0), (.int p1), (.int p2), (.int p3), (.int p4), (.int p5), (.int p6), (.int p7)] 9)) (s₁.setTop (mkF m 51 #[.val (.int p0), .val (.int p1), .val (.int p2), .val (.int p3), .val (.int p4), .val (.int p5), .val (.int p6), .val (.int p7), .val (.int m32_l8)] [])) := fun t k => pre12 t (by
              show Steps p.tables e below (s₁.setTop (mkF m 35 #[.val (.int p0), .val (.int p1), .val (.int p2), .val (.int p3), .val (.int p4), .val (.int p5), .val (.int p6), .val (.int p7), .val (.int m32_l8)] [(.int p5), (.int p0)])) _
              refine XS.icmpYes X0.here hx rfl (pc0 := 35) (pc' := 51) rfl (hb hby d6_35) rfl (feq hc35).2 (by decide) (by decide) ?_
              exact k)
          refine ⟨_, ?_, pre16⟩
          all_goals (first | (simp only [own_m6_51_l8, if_neg hc35]; done) | (simp [own_m6_51_l8, if_neg hc35]; done))
      obtain ⟨fs, hr, hrun, hended, hW, hsame⟩ := X0.leave (v := some (.int (p1 - m51_l8))) (fun h => by rw [Bd.returns] at h; cases h)
      refine ⟨_, _, pre11 _ ?_, hrun, hended, _, _, rfl, ?_, ⟨_, rfl⟩, hW, hsame.mono (by decide) (by decide)⟩
      · show Steps p.tables e below (s₁.setTop (mkF m 51 #[.val (.int p0), .val (.int p1), .val (.int p2), .val (.int p3), .val (.int p4), .val (.int p5), .val (.int p6), .val (.int p7), .val (.int m51_l8)] [])) _
        refine XS.iloadN X0.here hx rfl (hb hby d6_51) rfl ?_
        refine XS.iload X0.here hx rfl (hb hby d6_52) rfl ?_
        refine XS.isub X0.here hx rfl (hb hby d6_54) rfl ?_
        show Steps p.tables e below (s₁.setTop (mkF m 55 #[.val (.int p0), .val (.int p1), .val (.int p2), .val (.int p3), .val (.int p4), .val (.int p5), .val (.int p6), .val (.int p7), .val (.int m51_l8)] [(.int (p1 - m51_l8))])) _
        exact retI X0 hx Bd.returns (hb hby d6_55) hr
      · show Q6 Z p0 p1 p2 p3 p4 p5 p6 p7 h0 n0 _ s₁.heap _
        rw [e0]
        unfold Q6
        refine ⟨?_, N0, rfl⟩
        · subst hm51_l8 hm32_l8; simp only [own_f6, if_neg hc2, if_neg hc7]
theorem pd_0 : parseMethodDescriptor "(II)I" = some ⟨[.int, .int], some .int⟩ := by decide +kernel
theorem pd_1 : parseMethodDescriptor "()V" = some ⟨[], none⟩ := by decide +kernel
theorem pd_2 : parseMethodDescriptor "(IIIIIIII)I" = some ⟨[.int, .int, .int, .int, .int, .int, .int, .int], some .int⟩ := by decide +kernel
theorem pd_3 : parseMethodDescriptor "(IIII)V" = some ⟨[.int, .int, .int, .int], none⟩ := by decide +kernel
theorem ef_0 (m : MethodId) (p0 : Int32) (p1 : Int32) (p2 : Int32) (p3 : Int32) : entryFrame m #[(.int p0), (.int p1), (.int p2), (.int p3)] maxLocals = mkF m 0 #[.val (.int p0), .val (.int p1), .val (.int p2), .val (.int p3), .unset, .unset, .unset, .unset, .unset, .unset, .unset, .unset, .unset, .unset, .unset, .unset, .unset, .unset, .unset, .unset, .unset, .unset, .unset, .unset, .unset, .unset, .unset, .unset, .unset, .unset, .unset, .unset, .unset] [] := by first | (simp [entryFrame, mkF, argsToLocals, Value.category, maxLocals]; done) | rfl
def own_m0_49_s0 (v0 : Int32) : Int32 := (if (((v0).toUInt32 >>> ((12 : Int32) &&& 31).toUInt32).toInt32 &&& (1 : Int32)) = (0 : Int32) then (1 : Int32) else (0 : Int32))
def own_m0_97_s0 (v0 : Int32) : Int32 := (if v0 < (1 : Int32) then (0 : Int32) else (1 : Int32))
def own_m0_110_s0 (v0 : Int32) : Int32 := (if v0 < (2 : Int32) then (0 : Int32) else (1 : Int32))
def own_m0_126_s0 (v0 : Int32) (v1 : Int32) : Int32 := (if v0 = (0 : Int32) then (v1 + (1 : Int32)) else v1)
def own_m0_148_s0 (v0 : Int32) (v1 : Int32) (v2 : Int32) (v3 : Int32) : Int32 := (if v0 = (0 : Int32) then ((1 : Int32) + v1) else ((v2 + v3) + v1))
def own_m0_192_s0 (v0 : Int32) (v1 : Int32) (v2 : Int32) (v3 : Int32) : Int32 := (if v0 = (0 : Int32) then (v1 + v2) else ((v1 + v3) + v2))
def own_m0_235_s0 (v0 : Int32) (v1 : Int32) : Int32 := (if (((v0).toUInt32 >>> ((5 : Int32) &&& 31).toUInt32).toInt32 &&& (1 : Int32)) = (0 : Int32) then v1 else ((v1 &&& (63 : Int32)) - (8 : Int32)))
def own_m0_257_s0 (v0 : Int32) (v1 : Int32) : Int32 := (if (((v0).toUInt32 >>> ((6 : Int32) &&& 31).toUInt32).toInt32 &&& (1 : Int32)) = (0 : Int32) then v1 else ((v1 &&& (63 : Int32)) - (8 : Int32)))
def own_m0_276_s0 (v0 : Int32) (v1 : Int32) (v2 : Int32) : Int32 := (if v0 = (0 : Int32) then (own_f1 v1 v2) else v1)
def own_m0_295_s0 (v0 : Int32) (v1 : Int32) (v2 : Int32) : Int32 := (if v0 = (0 : Int32) then (own_f2 v1 v2) else v2)
theorem own_has {v13 v14 n : Int32} (h13 : v13 = own_m0_97_s0 n) (h14 : v14 = own_m0_110_s0 n) (h : v13 = 0) : v14 = 0 := by
  rw [h13] at h; rw [h14]; unfold own_m0_97_s0 at h; unfold own_m0_110_s0
  by_cases k : n < (1 : Int32)
  · rw [if_pos]; rw [Int32.lt_iff_toInt_lt] at k ⊢; have e1 : (1 : Int32).toInt = 1 := rfl; have e2 : (2 : Int32).toInt = 2 := rfl; omega
  · rw [if_neg k] at h; exact absurd h (by decide)
theorem own_fst1 {q c : Int32} {wl we : List Int32} (h : ¬ own_p5_0_1_first q c wl we = 0) : own_p5_0_1_first q c wl we = 1 := by
  have : own_p5_0_1_first q c wl we = 0 ∨ own_p5_0_1_first q c wl we = 1 := by
    unfold own_p5_0_1_first
    repeat' split
    all_goals first | exact Or.inl rfl | exact Or.inr rfl
  exact this.resolve_left h
theorem own_fst2 {q c : Int32} {wl we : List Int32} (h : ¬ own_p5_0_2_first q c wl we = 0) (h' : ¬ own_p5_0_2_first q c wl we = 1) : own_p5_0_2_first q c wl we = 2 := by
  have : own_p5_0_2_first q c wl we = 0 ∨ own_p5_0_2_first q c wl we = 1 ∨ own_p5_0_2_first q c wl we = 2 := by
    unfold own_p5_0_2_first
    repeat' split
    all_goals first | exact Or.inl rfl | exact Or.inr (Or.inl rfl) | exact Or.inr (Or.inr rfl)
  exact (this.resolve_left h).resolve_left h'
/-- where the entries lie and how the two questions follow one another -/
def own_Geo (l1 l2 e1 e2 q1 q2 k1 k2 : Int32) : Prop := 1 ≤ l1.toInt ∧ l1.toInt ≤ l2.toInt ∧ (l2 = l1 → e1.toInt ≤ e2.toInt) ∧ q1.toInt ≤ q2.toInt ∧ (q2 = q1 → k1.toInt ≤ k2.toInt)
theorem own_lt {a b : Int32} : a < b ↔ a.toInt < b.toInt := Int32.lt_iff_toInt_lt
theorem own_eq {a b : Int32} : a = b ↔ a.toInt = b.toInt := Int32.toInt_inj.symm
theorem own_one : (1 : Int32).toInt = 1 := rfl
theorem own_nul : (0 : Int32).toInt = 0 := rfl
/-- no line is asked that is 0 -/
theorem own_none (q c e1 c1 e2 c2 al : Int32) : own_f5_0_0 q c al 0 = own_f6 q c 0 e1 c1 0 e2 c2 := by
  unfold own_f5_0_0 own_f6
  by_cases a : q < 1
  · rw [if_pos a, if_pos a]
  by_cases b : c < 1
  · rw [if_neg a, if_neg a, if_pos b, if_pos b]
  have n : ¬ q = 0 := fun z => by rw [z] at a; exact a (by decide)
  rw [if_neg a, if_neg a, if_neg b, if_neg b]
  unfold own_m6_51_l8 own_m6_32_l8
  rw [if_neg n, if_neg n, ite_self]
theorem own_pc0 (q c al : Int32) : own_p5_0_0_passedChange q c al 0 = 0 := by
  unfold own_p5_0_0_passedChange
  repeat' split
  all_goals rfl
/-- one entry, from the start -/
theorem own_one0 (q c l e d e2 c2 al : Int32) (wl we wc : List Int32) (hl : wl.getD 0 0 = l) (he : we.getD 0 0 = e) (hd : wc.getD 0 0 = d) : own_f5_0_1 q c wl we wc al 0 = own_f6 q c l e d 0 e2 c2 := by
  unfold own_f5_0_1 own_f6
  rw [hl, he, hd]
  by_cases a : q < 1
  · rw [if_pos a, if_pos a]
  by_cases b : c < 1
  · rw [if_neg a, if_neg a, if_pos b, if_pos b]
  have n : ¬ q = 0 := fun z => by rw [z] at a; exact a (by decide)
  rw [if_neg a, if_neg a, if_neg b, if_neg b, ite_self]
  unfold own_m6_51_l8 own_m6_32_l8
  rw [if_neg n]
  by_cases x : l = q
  · have y : ¬ l < q := by rw [x, own_lt]; omega
    rw [if_neg y, if_pos x, if_pos x.symm]
    by_cases z : c < e
    · rw [if_pos z, if_pos z]
    · rw [if_neg z, if_neg z]
  · rw [if_neg x, if_neg (Ne.symm x), ite_self]
/-- the state after the first question, one entry -/
theorem own_st1 {q c l e d : Int32} {wl we wc : List Int32} (hl : wl.getD 0 0 = l) (he : we.getD 0 0 = e) (hd : wc.getD 0 0 = d) (h1 : 1 ≤ l.toInt) :
    (own_p5_0_1_first q c wl we = 0 → own_p5_0_1_passedChange q c wl we wc 0 0 = 0) ∧
    (own_p5_0_1_first q c wl we = 1 → ¬ q < 1 ∧ ¬ c < 1 ∧ own_p5_0_1_askedLine q c 0 = q ∧ ((l < q ∧ own_p5_0_1_passedChange q c wl we wc 0 0 = 0) ∨ (l = q ∧ ¬ c < e ∧ own_p5_0_1_passedChange q c wl we wc 0 0 = d))) := by
  by_cases a : q < 1
  · rw [show own_p5_0_1_first q c wl we = 0 by simp only [own_p5_0_1_first, hl, he, hd, if_pos a], show own_p5_0_1_passedChange q c wl we wc 0 0 = 0 by simp only [own_p5_0_1_passedChange, hl, he, hd, if_pos a], show own_p5_0_1_askedLine q c 0 = 0 by simp only [own_p5_0_1_askedLine, if_pos a]]; exact ⟨fun _ => rfl, fun z => absurd z (by decide)⟩
  by_cases b : c < 1
  · rw [show own_p5_0_1_first q c wl we = 0 by simp only [own_p5_0_1_first, hl, he, hd, if_neg a, if_pos b], show own_p5_0_1_passedChange q c wl we wc 0 0 = 0 by simp only [own_p5_0_1_passedChange, hl, he, hd, if_neg a, if_pos b], show own_p5_0_1_askedLine q c 0 = 0 by simp only [own_p5_0_1_askedLine, if_neg a, if_pos b]]; exact ⟨fun _ => rfl, fun z => absurd z (by decide)⟩
  have n : ¬ q = 0 := fun z => by rw [z] at a; exact a (by decide)
  by_cases x : l < q
  · rw [show own_p5_0_1_first q c wl we = 1 by simp only [own_p5_0_1_first, hl, he, hd, if_neg a, if_neg b, if_neg n, if_pos x], show own_p5_0_1_passedChange q c wl we wc 0 0 = 0 by simp only [own_p5_0_1_passedChange, hl, he, hd, if_neg a, if_neg b, if_neg n, if_pos x], show own_p5_0_1_askedLine q c 0 = q by simp only [own_p5_0_1_askedLine, if_neg a, if_neg b, if_neg n, if_pos x]]; exact ⟨fun _ => rfl, fun _ => ⟨a, b, rfl, Or.inl ⟨x, rfl⟩⟩⟩
  by_cases y : l = q
  · by_cases z : c < e
    · rw [show own_p5_0_1_first q c wl we = 0 by simp only [own_p5_0_1_first, hl, he, hd, if_neg a, if_neg b, if_neg n, if_neg x, if_pos y, if_pos z], show own_p5_0_1_passedChange q c wl we wc 0 0 = 0 by simp only [own_p5_0_1_passedChange, hl, he, hd, if_neg a, if_neg b, if_neg n, if_neg x, if_pos y, if_pos z], show own_p5_0_1_askedLine q c 0 = q by simp only [own_p5_0_1_askedLine, if_neg a, if_neg b, if_neg n, if_neg x, if_pos y, if_pos z]]; exact ⟨fun _ => rfl, fun z => absurd z (by decide)⟩
    · rw [show own_p5_0_1_first q c wl we = 1 by simp only [own_p5_0_1_first, hl, he, hd, if_neg a, if_neg b, if_neg n, if_neg x, if_pos y, if_neg z], show own_p5_0_1_passedChange q c wl we wc 0 0 = 0 + d by simp only [own_p5_0_1_passedChange, hl, he, hd, if_neg a, if_neg b, if_neg n, if_neg x, if_pos y, if_neg z], show own_p5_0_1_askedLine q c 0 = q by simp only [own_p5_0_1_askedLine, if_neg a, if_neg b, if_neg n, if_neg x, if_pos y, if_neg z]]; exact ⟨fun z => absurd z (by decide), fun _ => ⟨a, b, rfl, Or.inr ⟨y, z, Int32.zero_add d⟩⟩⟩
  · rw [show own_p5_0_1_first q c wl we = 0 by simp only [own_p5_0_1_first, hl, he, hd, if_neg a, if_neg b, if_neg n, if_neg x, if_neg y], show own_p5_0_1_passedChange q c wl we wc 0 0 = 0 by simp only [own_p5_0_1_passedChange, hl, he, hd, if_neg a, if_neg b, if_neg n, if_neg x, if_neg y], show own_p5_0_1_askedLine q c 0 = q by simp only [own_p5_0_1_askedLine, if_neg a, if_neg b, if_neg n, if_neg x, if_neg y]]; exact ⟨fun _ => rfl, fun z => absurd z (by decide)⟩
theorem own_one1 {q c l e d q2 k2 e2 c2 al pc : Int32} {wl we wc : List Int32} (hl : wl.getD 0 0 = l) (he : we.getD 0 0 = e) (hd : wc.getD 0 0 = d) (h1 : 1 ≤ l.toInt) (hq : q.toInt ≤ q2.toInt) (hk : q2 = q → c.toInt ≤ k2.toInt)
    (hal : al = own_p5_0_1_askedLine q c 0) (hpc : pc = own_p5_0_1_passedChange q c wl we wc 0 0) (hf : own_p5_0_1_first q c wl we = 1) : own_f5_1_1 q2 k2 al pc = own_f6 q2 k2 l e d 0 e2 c2 := by
  obtain ⟨a, b, s1, s2⟩ := (own_st1 hl he hd h1).2 hf
  rw [s1] at hal; rw [← hpc] at s2; subst hal
  have a' : ¬ q2 < 1 := by rw [own_lt] at a ⊢; omega
  have n : ¬ q2 = 0 := fun z => by rw [z] at a'; exact a' (by decide)
  unfold own_f5_1_1 own_f6
  by_cases b' : k2 < 1
  · rw [if_neg a', if_neg a', if_pos b', if_pos b']
  rw [if_neg a', if_neg a', if_neg b', if_neg b']
  unfold own_m6_51_l8 own_m6_32_l8
  rw [if_neg n]
  by_cases x : q2 = al
  · rw [if_pos x]; subst x
    rcases s2 with ⟨u, v⟩ | ⟨u, v, w⟩
    · have y : ¬ q2 = l := by intro z; rw [own_lt] at u; rw [z] at u; omega
      rw [if_neg y, v]
    · have y : ¬ k2 < e := by have := hk rfl; rw [own_lt] at v ⊢; omega
      rw [if_pos u.symm, if_neg y, w, Int32.zero_add]
  · have y : ¬ q2 = l := by
      intro z; apply x; rw [own_eq]; rw [z] at hq ⊢
      rcases s2 with ⟨u, v⟩ | ⟨u, v, w⟩
      · rw [own_lt] at u; omega
      · rw [u]
    rw [if_neg x, if_neg y]
/-- two entries, from the start -/
theorem own_two0 (q c l e d l2 e2 d2 al : Int32) (wl we wc : List Int32) (hl : wl.getD 0 0 = l) (he : we.getD 0 0 = e) (hd : wc.getD 0 0 = d) (hl2 : wl.getD 1 0 = l2) (he2 : we.getD 1 0 = e2) (hd2 : wc.getD 1 0 = d2)
    (h12 : l.toInt ≤ l2.toInt) (h3 : l2 = l → e.toInt ≤ e2.toInt) : own_f5_0_2 q c wl we wc al 0 = own_f6 q c l e d l2 e2 d2 := by
  unfold own_f5_0_2 own_f6
  rw [hl, he, hd, hl2, he2, hd2]
  by_cases a : q < 1
  · rw [if_pos a, if_pos a]
  by_cases b : c < 1
  · rw [if_neg a, if_neg a, if_pos b, if_pos b]
  rw [if_neg a, if_neg a, if_neg b, if_neg b, ite_self]
  unfold own_m6_51_l8 own_m6_32_l8
  by_cases x : l < q
  · have x' : ¬ q = l := by intro z; rw [own_lt, z] at x; omega
    simp only [if_pos x, if_neg x']
    by_cases y : l2 = q
    · have y' : ¬ l2 < q := by rw [y, own_lt]; omega
      simp only [if_neg y', if_pos y, if_pos y.symm]
      by_cases z : c < e2
      · simp only [if_pos z]
      · simp only [if_neg z]
    · simp only [if_neg y, if_neg (Ne.symm y), ite_self]
  by_cases x2 : l = q
  · subst x2
    by_cases z : c < e
    · simp only [if_neg x, if_pos z, if_true]
      by_cases y : l = l2
      · have w : ¬ ¬ c < e2 := fun k => by have := h3 y.symm; rw [own_lt] at z k; omega
        simp only [if_pos y, if_pos (Decidable.not_not.mp w)]
      · simp only [if_neg y]
    · simp only [if_neg x, if_neg z, if_true]
      have y' : ¬ l2 < l := by rw [own_lt]; omega
      by_cases y : l2 = l
      · simp only [if_neg y', if_pos y, if_pos y.symm]
        by_cases w : c < e2
        · simp only [if_pos w]
        · simp only [if_neg w]
      · simp only [if_neg y', if_neg y, if_neg (Ne.symm y)]
  · have y : ¬ q = l2 := by intro z; rw [own_lt] at x; rw [own_eq] at x2; rw [own_eq] at z; omega
    simp only [if_neg x, if_neg x2, if_neg (Ne.symm x2), if_neg y]
/-- the state after the first question, two entries -/
theorem own_st2 {q c l e d l2 e2 d2 : Int32} {wl we wc : List Int32} (hl : wl.getD 0 0 = l) (he : we.getD 0 0 = e) (hd : wc.getD 0 0 = d) (hl2 : wl.getD 1 0 = l2) (he2 : we.getD 1 0 = e2) (hd2 : wc.getD 1 0 = d2) (h12 : l.toInt ≤ l2.toInt) :
    (own_p5_0_2_first q c wl we = 0 → own_p5_0_2_passedChange q c wl we wc 0 0 = 0) ∧
    (own_p5_0_2_first q c wl we = 1 → ¬ q < 1 ∧ ¬ c < 1 ∧ own_p5_0_2_askedLine q c 0 = q ∧ ((l < q ∧ own_p5_0_2_passedChange q c wl we wc 0 0 = 0) ∨ (l = q ∧ ¬ c < e ∧ own_p5_0_2_passedChange q c wl we wc 0 0 = d))) ∧
    (own_p5_0_2_first q c wl we = 2 → ¬ q < 1 ∧ ¬ c < 1 ∧ own_p5_0_2_askedLine q c 0 = q ∧ ((l2 < q ∧ own_p5_0_2_passedChange q c wl we wc 0 0 = 0) ∨ (l < q ∧ l2 = q ∧ ¬ c < e2 ∧ own_p5_0_2_passedChange q c wl we wc 0 0 = d2) ∨ (l = q ∧ l2 = q ∧ ¬ c < e ∧ ¬ c < e2 ∧ own_p5_0_2_passedChange q c wl we wc 0 0 = d + d2))) := by
  by_cases a : q < 1
  · rw [show own_p5_0_2_first q c wl we = 0 by simp only [own_p5_0_2_first, hl, he, hd, hl2, he2, hd2, if_pos a], show own_p5_0_2_passedChange q c wl we wc 0 0 = 0 by simp only [own_p5_0_2_passedChange, hl, he, hd, hl2, he2, hd2, if_pos a], show own_p5_0_2_askedLine q c 0 = 0 by simp only [own_p5_0_2_askedLine, if_pos a]]; exact ⟨fun _ => rfl, fun z => absurd z (by decide), fun z => absurd z (by decide)⟩
  by_cases b : c < 1
  · rw [show own_p5_0_2_first q c wl we = 0 by simp only [own_p5_0_2_first, hl, he, hd, hl2, he2, hd2, if_neg a, if_pos b], show own_p5_0_2_passedChange q c wl we wc 0 0 = 0 by simp only [own_p5_0_2_passedChange, hl, he, hd, hl2, he2, hd2, if_neg a, if_pos b], show own_p5_0_2_askedLine q c 0 = 0 by simp only [own_p5_0_2_askedLine, if_neg a, if_pos b]]; exact ⟨fun _ => rfl, fun z => absurd z (by decide), fun z => absurd z (by decide)⟩
  have n : ¬ q = 0 := fun z => by rw [z] at a; exact a (by decide)
  by_cases x : l < q
  · by_cases y : l2 < q
    · rw [show own_p5_0_2_first q c wl we = 2 by simp only [own_p5_0_2_first, hl, he, hd, hl2, he2, hd2, if_neg a, if_neg b, if_neg n, if_pos x, if_pos y], show own_p5_0_2_passedChange q c wl we wc 0 0 = 0 by simp only [own_p5_0_2_passedChange, hl, he, hd, hl2, he2, hd2, if_neg a, if_neg b, if_neg n, if_pos x, if_pos y], show own_p5_0_2_askedLine q c 0 = q by simp only [own_p5_0_2_askedLine, if_neg a, if_neg b, if_neg n, if_pos x, if_pos y]]; exact ⟨fun z => absurd z (by decide), fun z => absurd z (by decide), fun _ => ⟨a, b, rfl, Or.inl ⟨y, rfl⟩⟩⟩
    by_cases y2 : l2 = q
    · by_cases w : c < e2
      · rw [show own_p5_0_2_first q c wl we = 1 by simp only [own_p5_0_2_first, hl, he, hd, hl2, he2, hd2, if_neg a, if_neg b, if_neg n, if_pos x, if_neg y, if_pos y2, if_pos w], show own_p5_0_2_passedChange q c wl we wc 0 0 = 0 by simp only [own_p5_0_2_passedChange, hl, he, hd, hl2, he2, hd2, if_neg a, if_neg b, if_neg n, if_pos x, if_neg y, if_pos y2, if_pos w], show own_p5_0_2_askedLine q c 0 = q by simp only [own_p5_0_2_askedLine, if_neg a, if_neg b, if_neg n, if_pos x, if_neg y, if_pos y2, if_pos w]]; exact ⟨fun z => absurd z (by decide), fun _ => ⟨a, b, rfl, Or.inl ⟨x, rfl⟩⟩, fun z => absurd z (by decide)⟩
      · rw [show own_p5_0_2_first q c wl we = 2 by simp only [own_p5_0_2_first, hl, he, hd, hl2, he2, hd2, if_neg a, if_neg b, if_neg n, if_pos x, if_neg y, if_pos y2, if_neg w], show own_p5_0_2_passedChange q c wl we wc 0 0 = 0 + d2 by simp only [own_p5_0_2_passedChange, hl, he, hd, hl2, he2, hd2, if_neg a, if_neg b, if_neg n, if_pos x, if_neg y, if_pos y2, if_neg w], show own_p5_0_2_askedLine q c 0 = q by simp only [own_p5_0_2_askedLine, if_neg a, if_neg b, if_neg n, if_pos x, if_neg y, if_pos y2, if_neg w]]; exact ⟨fun z => absurd z (by decide), fun z => absurd z (by decide), fun _ => ⟨a, b, rfl, Or.inr (Or.inl ⟨x, y2, w, Int32.zero_add d2⟩)⟩⟩
    · rw [show own_p5_0_2_first q c wl we = 1 by simp only [own_p5_0_2_first, hl, he, hd, hl2, he2, hd2, if_neg a, if_neg b, if_neg n, if_pos x, if_neg y, if_neg y2], show own_p5_0_2_passedChange q c wl we wc 0 0 = 0 by simp only [own_p5_0_2_passedChange, hl, he, hd, hl2, he2, hd2, if_neg a, if_neg b, if_neg n, if_pos x, if_neg y, if_neg y2], show own_p5_0_2_askedLine q c 0 = q by simp only [own_p5_0_2_askedLine, if_neg a, if_neg b, if_neg n, if_pos x, if_neg y, if_neg y2]]; exact ⟨fun z => absurd z (by decide), fun _ => ⟨a, b, rfl, Or.inl ⟨x, rfl⟩⟩, fun z => absurd z (by decide)⟩
  by_cases x2 : l = q
  · by_cases z : c < e
    · rw [show own_p5_0_2_first q c wl we = 0 by simp only [own_p5_0_2_first, hl, he, hd, hl2, he2, hd2, if_neg a, if_neg b, if_neg n, if_neg x, if_pos x2, if_pos z], show own_p5_0_2_passedChange q c wl we wc 0 0 = 0 by simp only [own_p5_0_2_passedChange, hl, he, hd, hl2, he2, hd2, if_neg a, if_neg b, if_neg n, if_neg x, if_pos x2, if_pos z], show own_p5_0_2_askedLine q c 0 = q by simp only [own_p5_0_2_askedLine, if_neg a, if_neg b, if_neg n, if_neg x, if_pos x2, if_pos z]]; exact ⟨fun _ => rfl, fun z => absurd z (by decide), fun z => absurd z (by decide)⟩
    have y : ¬ l2 < q := by rw [own_lt, ← x2]; omega
    by_cases y2 : l2 = q
    · by_cases w : c < e2
      · rw [show own_p5_0_2_first q c wl we = 1 by simp only [own_p5_0_2_first, hl, he, hd, hl2, he2, hd2, if_neg a, if_neg b, if_neg n, if_neg x, if_pos x2, if_neg z, if_neg y, if_pos y2, if_pos w], show own_p5_0_2_passedChange q c wl we wc 0 0 = 0 + d by simp only [own_p5_0_2_passedChange, hl, he, hd, hl2, he2, hd2, if_neg a, if_neg b, if_neg n, if_neg x, if_pos x2, if_neg z, if_neg y, if_pos y2, if_pos w], show own_p5_0_2_askedLine q c 0 = q by simp only [own_p5_0_2_askedLine, if_neg a, if_neg b, if_neg n, if_neg x, if_pos x2, if_neg z, if_neg y, if_pos y2, if_pos w]]; exact ⟨fun z => absurd z (by decide), fun _ => ⟨a, b, rfl, Or.inr ⟨x2, z, Int32.zero_add d⟩⟩, fun z => absurd z (by decide)⟩
      · rw [show own_p5_0_2_first q c wl we = 2 by simp only [own_p5_0_2_first, hl, he, hd, hl2, he2, hd2, if_neg a, if_neg b, if_neg n, if_neg x, if_pos x2, if_neg z, if_neg y, if_pos y2, if_neg w], show own_p5_0_2_passedChange q c wl we wc 0 0 = 0 + d + d2 by simp only [own_p5_0_2_passedChange, hl, he, hd, hl2, he2, hd2, if_neg a, if_neg b, if_neg n, if_neg x, if_pos x2, if_neg z, if_neg y, if_pos y2, if_neg w], show own_p5_0_2_askedLine q c 0 = q by simp only [own_p5_0_2_askedLine, if_neg a, if_neg b, if_neg n, if_neg x, if_pos x2, if_neg z, if_neg y, if_pos y2, if_neg w]]; exact ⟨fun z => absurd z (by decide), fun z => absurd z (by decide), fun _ => ⟨a, b, rfl, Or.inr (Or.inr ⟨x2, y2, z, w, by rw [Int32.zero_add]⟩)⟩⟩
    · rw [show own_p5_0_2_first q c wl we = 1 by simp only [own_p5_0_2_first, hl, he, hd, hl2, he2, hd2, if_neg a, if_neg b, if_neg n, if_neg x, if_pos x2, if_neg z, if_neg y, if_neg y2], show own_p5_0_2_passedChange q c wl we wc 0 0 = 0 + d by simp only [own_p5_0_2_passedChange, hl, he, hd, hl2, he2, hd2, if_neg a, if_neg b, if_neg n, if_neg x, if_pos x2, if_neg z, if_neg y, if_neg y2], show own_p5_0_2_askedLine q c 0 = q by simp only [own_p5_0_2_askedLine, if_neg a, if_neg b, if_neg n, if_neg x, if_pos x2, if_neg z, if_neg y, if_neg y2]]; exact ⟨fun z => absurd z (by decide), fun _ => ⟨a, b, rfl, Or.inr ⟨x2, z, Int32.zero_add d⟩⟩, fun z => absurd z (by decide)⟩
  · rw [show own_p5_0_2_first q c wl we = 0 by simp only [own_p5_0_2_first, hl, he, hd, hl2, he2, hd2, if_neg a, if_neg b, if_neg n, if_neg x, if_neg x2], show own_p5_0_2_passedChange q c wl we wc 0 0 = 0 by simp only [own_p5_0_2_passedChange, hl, he, hd, hl2, he2, hd2, if_neg a, if_neg b, if_neg n, if_neg x, if_neg x2], show own_p5_0_2_askedLine q c 0 = q by simp only [own_p5_0_2_askedLine, if_neg a, if_neg b, if_neg n, if_neg x, if_neg x2]]; exact ⟨fun _ => rfl, fun z => absurd z (by decide), fun z => absurd z (by decide)⟩
theorem own_two1 {q c l e d l2 e2 d2 q2 k2 al pc : Int32} {wl we wc : List Int32} (hl : wl.getD 0 0 = l) (he : we.getD 0 0 = e) (hd : wc.getD 0 0 = d) (hl2 : wl.getD 1 0 = l2) (he2 : we.getD 1 0 = e2) (hd2 : wc.getD 1 0 = d2) (h12 : l.toInt ≤ l2.toInt) (hq : q.toInt ≤ q2.toInt) (hk : q2 = q → c.toInt ≤ k2.toInt)
    (hal : al = own_p5_0_2_askedLine q c 0) (hpc : pc = own_p5_0_2_passedChange q c wl we wc 0 0) (hf : own_p5_0_2_first q c wl we = 1) : own_f5_1_2 q2 k2 wl we wc al pc = own_f6 q2 k2 l e d l2 e2 d2 := by
  obtain ⟨a, b, s1, s2⟩ := (own_st2 hl he hd hl2 he2 hd2 h12).2.1 hf
  rw [s1] at hal; rw [← hpc] at s2; subst hal
  have a' : ¬ q2 < 1 := by rw [own_lt] at a ⊢; omega
  unfold own_f5_1_2 own_f6
  rw [hl2, he2, hd2]
  by_cases b' : k2 < 1
  · rw [if_neg a', if_neg a', if_pos b', if_pos b']
  rw [if_neg a', if_neg a', if_neg b', if_neg b']
  unfold own_m6_51_l8 own_m6_32_l8
  have key : ∀ A B : Int32, B = A → (if l2 < q2 then k2 - A else if l2 = q2 then if k2 < e2 then k2 - A else k2 - (A + d2) else k2 - A) = k2 - (if q2 = l2 then if k2 < e2 then B else B + d2 else B) := by
    intro A B hBA; subst hBA
    by_cases y : l2 = q2
    · have y' : ¬ l2 < q2 := by rw [y, own_lt]; omega
      rw [if_neg y', if_pos y, if_pos y.symm]
      by_cases z : k2 < e2
      · rw [if_pos z, if_pos z]
      · rw [if_neg z, if_neg z]
    · rw [if_neg y, if_neg (Ne.symm y), ite_self]
  by_cases x : q2 = al
  · rw [if_pos x]; subst x
    rcases s2 with ⟨u, v⟩ | ⟨u, v, w⟩
    · have y : ¬ q2 = l := by intro z; rw [own_lt] at u; rw [z] at u; omega
      rw [v]; exact key _ _ (by rw [if_neg y])
    · have y : ¬ k2 < e := by have := hk rfl; rw [own_lt] at v ⊢; omega
      rw [w]; exact key _ _ (by rw [if_pos u.symm, if_neg y, Int32.zero_add])
  · have y : ¬ q2 = l := by
      intro z; apply x; rw [own_eq]; rw [z] at hq ⊢
      rcases s2 with ⟨u, v⟩ | ⟨u, v, w⟩
      · rw [own_lt] at u; omega
      · rw [u]
    rw [if_neg x]; exact key _ _ (by rw [if_neg y])
theorem own_two2 {q c l e d l2 e2 d2 q2 k2 al pc : Int32} {wl we wc : List Int32} (hl : wl.getD 0 0 = l) (he : we.getD 0 0 = e) (hd : wc.getD 0 0 = d) (hl2 : wl.getD 1 0 = l2) (he2 : we.getD 1 0 = e2) (hd2 : wc.getD 1 0 = d2) (h12 : l.toInt ≤ l2.toInt) (hq : q.toInt ≤ q2.toInt) (hk : q2 = q → c.toInt ≤ k2.toInt)
    (hal : al = own_p5_0_2_askedLine q c 0) (hpc : pc = own_p5_0_2_passedChange q c wl we wc 0 0) (hf : own_p5_0_2_first q c wl we = 2) : own_f5_2_2 q2 k2 al pc = own_f6 q2 k2 l e d l2 e2 d2 := by
  obtain ⟨a, b, s1, s2⟩ := (own_st2 hl he hd hl2 he2 hd2 h12).2.2 hf
  rw [s1] at hal; rw [← hpc] at s2; subst hal
  have a' : ¬ q2 < 1 := by rw [own_lt] at a ⊢; omega
  unfold own_f5_2_2 own_f6
  by_cases b' : k2 < 1
  · rw [if_neg a', if_neg a', if_pos b', if_pos b']
  rw [if_neg a', if_neg a', if_neg b', if_neg b']
  unfold own_m6_51_l8 own_m6_32_l8
  by_cases x : q2 = al
  · rw [if_pos x]; subst x
    have kk := hk rfl
    rcases s2 with ⟨u, v⟩ | ⟨u, u2, v, w⟩ | ⟨u, u2, v, v2, w⟩
    · have y : ¬ q2 = l2 := by intro z; rw [own_lt] at u; rw [z] at u; omega
      have y' : ¬ q2 = l := by intro z; rw [own_lt] at u; rw [z] at u; omega
      rw [if_neg y, if_neg y', v]
    · have y' : ¬ q2 = l := by intro z; rw [own_lt] at u; rw [z] at u; omega
      have y : ¬ k2 < e2 := by rw [own_lt] at v ⊢; omega
      rw [if_pos u2.symm, if_neg y, if_neg y', w, Int32.zero_add]
    · have y : ¬ k2 < e2 := by rw [own_lt] at v2 ⊢; omega
      have y' : ¬ k2 < e := by rw [own_lt] at v ⊢; omega
      rw [if_pos u2.symm, if_neg y, if_pos u.symm, if_neg y', w, Int32.zero_add]
  · have y2 : l2.toInt ≤ al.toInt := by
      rcases s2 with ⟨u, v⟩ | ⟨u, u2, v, w⟩ | ⟨u, u2, v, v2, w⟩
      · rw [own_lt] at u; omega
      · rw [u2]; omega
      · rw [u2]; omega
    have y : ¬ q2 = l2 := by intro z; apply x; rw [own_eq] at z ⊢; omega
    have y' : ¬ q2 = l := by intro z; apply x; rw [own_eq] at z ⊢; omega
    rw [if_neg x, if_neg y, if_neg y']
/-- the packed inputs -/
theorem own_geo {p0 p1 a b l1 c1 r1 w1 sm gp w2 l2 c2 ch1 e1 e2 q1 dl q2 k1 k2 : Int32} (hl1 : l1 = (1 : Int32) + (p0 &&& (3 : Int32))) (hc1 : c1 = (1 : Int32) + (((p0).toUInt32 >>> ((2 : Int32) &&& 31).toUInt32).toInt32 &&& (15 : Int32)))
    (hr1 : r1 = (((p0).toUInt32 >>> ((6 : Int32) &&& 31).toUInt32).toInt32 &&& (7 : Int32))) (hw1 : w1 = (((p0).toUInt32 >>> ((9 : Int32) &&& 31).toUInt32).toInt32 &&& (7 : Int32)))
    (hgp : gp = (((p0).toUInt32 >>> ((13 : Int32) &&& 31).toUInt32).toInt32 &&& (15 : Int32))) (hw2 : w2 = (((p0).toUInt32 >>> ((20 : Int32) &&& 31).toUInt32).toInt32 &&& (7 : Int32)))
    (hl2 : l2 = own_m0_126_s0 sm l1) (hc2 : c2 = own_m0_148_s0 sm gp c1 r1) (hch : ch1 = w1 - r1) (he1 : e1 = c1 + w1) (he2 : e2 = own_m0_192_s0 sm c2 w2 ch1)
    (hq1 : q1 = (p1 &&& (7 : Int32)) - (1 : Int32)) (hdl : dl = (((p1).toUInt32 >>> ((3 : Int32) &&& 31).toUInt32).toInt32 &&& (3 : Int32))) (hq2 : q2 = q1 + dl) (hk1 : k1 = own_m0_276_s0 dl a b) (hk2 : k2 = own_m0_295_s0 dl a b) :
    own_Geo l1 l2 e1 e2 q1 q2 k1 k2 ∧ (sm = 0 ↔ ¬ l2 = l1) ∧ ¬ l1 = 0 := by
  have A := c_mask p0 3 2 (by decide) (by decide)
  have B := c_mask (((p0).toUInt32 >>> ((2 : Int32) &&& 31).toUInt32).toInt32) 15 4 (by decide) (by decide)
  have C := c_mask (((p0).toUInt32 >>> ((6 : Int32) &&& 31).toUInt32).toInt32) 7 3 (by decide) (by decide)
  have D := c_mask (((p0).toUInt32 >>> ((9 : Int32) &&& 31).toUInt32).toInt32) 7 3 (by decide) (by decide)
  have E := c_mask (((p0).toUInt32 >>> ((13 : Int32) &&& 31).toUInt32).toInt32) 15 4 (by decide) (by decide)
  have G := c_mask (((p0).toUInt32 >>> ((20 : Int32) &&& 31).toUInt32).toInt32) 7 3 (by decide) (by decide)
  have H := c_mask p1 7 3 (by decide) (by decide)
  have I := c_mask (((p1).toUInt32 >>> ((3 : Int32) &&& 31).toUInt32).toInt32) 3 2 (by decide) (by decide)
  rw [← hr1] at C; rw [← hw1] at D; rw [← hgp] at E; rw [← hw2] at G; rw [← hdl] at I
  have e1' : (1 : Int32).toInt = 1 := rfl
  have e0' : (0 : Int32).toInt = 0 := rfl
  have A1 := c_iadd 1 (p0 &&& 3); rw [← hl1] at A1; have A2 := rng32 l1
  have B1 := c_iadd 1 (((p0).toUInt32 >>> ((2 : Int32) &&& 31).toUInt32).toInt32 &&& (15 : Int32)); rw [← hc1] at B1; have B2 := rng32 c1
  have H1 := c_isub (p1 &&& 7) 1; rw [← hq1] at H1; have H2 := rng32 q1
  have I1 := c_iadd q1 dl; rw [← hq2] at I1; have I2 := rng32 q2
  have J1 := c_isub w1 r1; rw [← hch] at J1; have J2 := rng32 ch1
  have K1 := c_iadd c1 w1; rw [← he1] at K1; have K2 := rng32 e1
  have L1 := c_iadd l1 1; have L2 := rng32 (l1 + 1)
  have M : (sm = 0 → l2.toInt = l1.toInt + 1) ∧ (¬ sm = 0 → l2 = l1) := by
    rw [hl2]; unfold own_m0_126_s0
    refine ⟨fun z => ?_, fun z => ?_⟩
    · rw [if_pos z]; omega
    · rw [if_neg z]
  have N : ¬ sm = 0 → e1.toInt ≤ e2.toInt := by
    intro z
    rw [he2, hc2]; unfold own_m0_192_s0 own_m0_148_s0; simp only [if_neg z]
    have n1 := c_iadd c1 r1; have n2 := rng32 (c1 + r1)
    have n3 := c_iadd (c1 + r1) gp; have n4 := rng32 (c1 + r1 + gp)
    have n5 := c_iadd (c1 + r1 + gp) ch1; have n6 := rng32 (c1 + r1 + gp + ch1)
    have n7 := c_iadd (c1 + r1 + gp + ch1) w2; have n8 := rng32 (c1 + r1 + gp + ch1 + w2)
    omega
  have O : dl = 0 → k1.toInt ≤ k2.toInt := by
    intro z
    rw [hk1, hk2]; unfold own_m0_276_s0 own_m0_295_s0 own_f1 own_f2; simp only [if_pos z]
    by_cases u : b < a
    · have v : ¬ a < b := by rw [own_lt] at u ⊢; omega
      rw [if_pos u, if_neg v]; rw [own_lt] at u; omega
    · by_cases v : a < b
      · rw [if_neg u, if_pos v]; rw [own_lt] at v; omega
      · rw [if_neg u, if_neg v]; omega
  refine ⟨⟨by omega, ?_, ?_, by omega, ?_⟩, ⟨fun z w => ?_, fun z => ?_⟩, fun z => ?_⟩
  · by_cases z : sm = 0
    · have := M.1 z; omega
    · rw [M.2 z]; omega
  · intro z; apply N; intro w; have := M.1 w; rw [z] at this; omega
  · intro z; apply O; rw [own_eq, e0']; rw [own_eq] at z; omega
  · have := M.1 z; rw [w] at this; omega
  · by_cases w : sm = 0
    · exact w
    · exact absurd (M.2 w) z
  · rw [z] at A1; omega
/-- the lists after the first add -/
theorem own_add0 {l1 c1 r1 w1 : Int32} {A B C wl we wc : List Int32} (hA : A = List.replicate 4 (0 : Int32)) (hB : B = List.replicate 4 (0 : Int32)) (hC : C = List.replicate 4 (0 : Int32))
    (h1 : wl = own_p7_0_la l1 A) (h2 : we = own_p7_0_ea l1 c1 w1 B 0 0) (h3 : wc = own_p7_0_ca r1 w1 C) (n : ¬ l1 = 0) : wl.getD 0 0 = l1 ∧ we.getD 0 0 = c1 + w1 ∧ wc.getD 0 0 = w1 - r1 ∧ wl.length = 4 ∧ we.length = 4 ∧ wc.length = 4 := by
  subst hA hB hC; subst h1 h2 h3
  unfold own_p7_0_la own_p7_0_ea own_p7_0_ca
  rw [if_neg n]
  refine ⟨rfl, ?_, rfl, rfl, rfl, rfl⟩
  show (c1 + 0 + w1 : Int32) = c1 + w1
  rw [Int32.add_zero]
theorem own_add1 {l1 r1 w1 l2 c2 r2 w2 rc sm e2 ch1 : Int32} {A B C wl we wc : List Int32} (hA : A.length = 4) (hB : B.length = 4) (hC : C.length = 4) (hrc : rc = own_p7_0_recordedChange l1 r1 w1 0 0) (n : ¬ l1 = 0)
    (h1 : wl = own_p7_1_la l2 A) (h2 : we = own_p7_1_ea l2 c2 w2 B l1 rc) (h3 : wc = own_p7_1_ca r2 w2 C) (hs : sm = 0 ↔ ¬ l2 = l1) (he2 : e2 = own_m0_192_s0 sm c2 w2 ch1) (hch : ch1 = w1 - r1) :
    wl.getD 0 0 = A.getD 0 0 ∧ we.getD 0 0 = B.getD 0 0 ∧ wc.getD 0 0 = C.getD 0 0 ∧ wl.getD 1 0 = l2 ∧ we.getD 1 0 = e2 ∧ wc.getD 1 0 = w2 - r2 := by
  have hrc' : rc = ch1 := by rw [hrc, hch]; unfold own_p7_0_recordedChange; rw [if_neg n, Int32.zero_add]
  rw [hrc'] at h2; subst h1 h2 h3
  match A, hA, B, hB, C, hC with
  | [a0, a1, a2, a3], _, [b0, b1, b2, b3], _, [c0, c1, c2', c3], _ =>
    refine ⟨rfl, ?_, rfl, rfl, ?_, rfl⟩
    · unfold own_p7_1_ea; split <;> rfl
    · rw [he2]; unfold own_p7_1_ea own_m0_192_s0
      by_cases z : l2 = l1
      · have w : ¬ sm = 0 := fun w => hs.mp w z
        rw [if_pos z, if_neg w]; rfl
      · rw [if_neg z, if_pos (hs.mpr z)]
        show (c2 + 0 + w2 : Int32) = c2 + w2
        rw [Int32.add_zero]

def Q0 (Z : State) (p0 : Int32) (p1 : Int32) (p2 : Int32) (p3 : Int32) (h0 : Heap) (n0 : Nat) (v : Option Value) (h : Heap) (L : List Loc) : Prop := v = some (.int (1 : Int32)) ∧ Fr n0 L
set_option maxRecDepth 65536 in
set_option maxHeartbeats 40000000 in
theorem rm0 (l : Launch) (Z : State) (aw : Array Value) (hw : ∀ d ∈ tables_1, d.before aw Z = true) (wq : List Jvm.Cond) (p0 : Int32) (p1 : Int32) (p2 : Int32) (p3 : Int32) (h0 : Heap) (n0 : Nat) (Z0 : n0 ≤ h0.size) :
    MetFree l x (head1 (Jvm.Cond.code x code maxLocals ret :: wq) room_1) (fun a U => a = #[(.int p0), (.int p1), (.int p2), (.int p3)] ∧ Z.Warmed39 U.vm ∧ U.heap = h0) (fun _ _ _ _ _ => True) (fun _ U o U' => ∃ v L, o = .returned v ∧ Q0 Z p0 p1 p2 p3 h0 n0 v U'.heap L ∧ FrameEnd U o U' L 4 21) := by
  refine MetFree.of_bodySF (plainFor_of_name pn_1) hisR ?_
  intro p e s m args below meth c s₁ Bd hml0 hP hK
  obtain ⟨rfl, hZ, hh⟩ := hP
  have hx := Bd.exec
  have hby := Bd.bytes
  have hml : c.maxLocals = 33 := hml0
  have hown : s.vm.findClass "com/example/trawl/trawl/load/ColumnShiftsColumnInTextPinLaw" = some m.cls := findClass_of_methodNamed Bd.named
  have hnm := (name_of_methodNamed Bd.named Bd.method).1
  have X0 : Stand p l e room_1 s m #[(.int p0), (.int p1), (.int p2), (.int p3)] below meth c s₁ [] 0 0 := Stand.of_body Bd
  have e0 : s₁.heap = h0 := by rw [← hh, Bd.state]; rfl
  have N0 := Fr.nil n0
  have pre0 : own_Pre p e below (s₁.setTop (entryFrame m #[(.int p0), (.int p1), (.int p2), (.int p3)] maxLocals)) (s₁.setTop (mkF m 0 #[.val (.int p0), .val (.int p1), .val (.int p2), .val (.int p3), .unset, .unset, .unset, .unset, .unset, .unset, .unset, .unset, .unset, .unset, .unset, .unset, .unset, .unset, .unset, .unset, .unset, .unset, .unset, .unset, .unset, .unset, .unset, .unset, .unset, .unset, .unset, .unset, .unset] [])) := fun t k => castTop (ef_0 m p0 p1 p2 p3) k
  obtain ⟨x4_7, hx4_7, pre1⟩ : ∃ z : Int32, z = ((1 : Int32) + (p0 &&& (3 : Int32))) ∧ own_Pre p e below (s₁.setTop (entryFrame m #[(.int p0), (.int p1), (.int p2), (.int p3)] maxLocals)) (s₁.setTop (mkF m 7 #[.val (.int p0), .val (.int p1), .val (.int p2), .val (.int p3), .val (.int z), .unset, .unset, .unset, .unset, .unset, .unset, .unset, .unset, .unset, .unset, .unset, .unset, .unset, .unset, .unset, .unset, .unset, .unset, .unset, .unset, .unset, .unset, .unset, .unset, .unset, .unset, .unset, .unset] [])) := ⟨_, rfl, fun t k => pre0 t (by
      show Steps p.tables e below (s₁.setTop (mkF m 0 #[.val (.int p0), .val (.int p1), .val (.int p2), .val (.int p3), .unset, .unset, .unset, .unset, .unset, .unset, .unset, .unset, .unset, .unset, .unset, .unset, .unset, .unset, .unset, .unset, .unset, .unset, .unset, .unset, .unset, .unset, .unset, .unset, .unset, .unset, .unset, .unset, .unset] [])) _
      refine XS.iconst X0.here hx rfl (hb hby at_0) ?_
      refine XS.iloadN X0.here hx rfl (hb hby at_1) rfl ?_
      refine XS.iconst X0.here hx rfl (hb hby at_2) ?_
      refine XS.iand X0.here hx rfl (hb hby at_3) rfl ?_
      refine XS.iadd X0.here hx rfl (hb hby at_4) rfl ?_
      show Steps p.tables e below (s₁.setTop (mkF m 5 #[.val (.int p0), .val (.int p1), .val (.int p2), .val (.int p3), .unset, .unset, .unset, .unset, .unset, .unset, .unset, .unset, .unset, .unset, .unset, .unset, .unset, .unset, .unset, .unset, .unset, .unset, .unset, .unset, .unset, .unset, .unset, .unset, .unset, .unset, .unset, .unset, .unset] [(.int ((1 : Int32) + (p0 &&& (3 : Int32))))])) _
      refine XS.istore X0.here hx rfl (hb hby at_5) rfl (l' := #[.val (.int p0), .val (.int p1), .val (.int p2), .val (.int p3), .val (.int ((1 : Int32) + (p0 &&& (3 : Int32)))), .unset, .unset, .unset, .unset, .unset, .unset, .unset, .unset, .unset, .unset, .unset, .unset, .unset, .unset, .unset, .unset, .unset, .unset, .unset, .unset, .unset, .unset, .unset, .unset, .unset, .unset, .unset, .unset]) rfl ?_
      exact k)⟩
  obtain ⟨x5_17, hx5_17, pre2⟩ : ∃ z : Int32, z = ((1 : Int32) + (((p0).toUInt32 >>> ((2 : Int32) &&& 31).toUInt32).toInt32 &&& (15 : Int32))) ∧ own_Pre p e below (s₁.setTop (entryFrame m #[(.int p0), (.int p1), (.int p2), (.int p3)] maxLocals)) (s₁.setTop (mkF m 17 #[.val (.int p0), .val (.int p1), .val (.int p2), .val (.int p3), .val (.int x4_7), .val (.int z), .unset, .unset, .unset, .unset, .unset, .unset, .unset, .unset, .unset, .unset, .unset, .unset, .unset, .unset, .unset, .unset, .unset, .unset, .unset, .unset, .unset, .unset, .unset, .unset, .unset, .unset, .unset] [])) := ⟨_, rfl, fun t k => pre1 t (by
      show Steps p.tables e below (s₁.setTop (mkF m 7 #[.val (.int p0), .val (.int p1), .val (.int p2), .val (.int p3), .val (.int x4_7), .unset, .unset, .unset, .unset, .unset, .unset, .unset, .unset, .unset, .unset, .unset, .unset, .unset, .unset, .unset, .unset, .unset, .unset, .unset, .unset, .unset, .unset, .unset, .unset, .unset, .unset, .unset, .unset] [])) _
      refine XS.iconst X0.here hx rfl (hb hby at_7) ?_
      refine XS.iloadN X0.here hx rfl (hb hby at_8) rfl ?_
      refine XS.iconst X0.here hx rfl (hb hby at_9) ?_
      refine XS.iushr X0.here hx rfl (hb hby at_10) rfl ?_
      refine XS.bipush X0.here hx rfl (hb hby at_11) ?_
      show Steps p.tables e below (s₁.setTop (mkF m 13 #[.val (.int p0), .val (.int p1), .val (.int p2), .val (.int p3), .val (.int x4_7), .unset, .unset, .unset, .unset, .unset, .unset, .unset, .unset, .unset, .unset, .unset, .unset, .unset, .unset, .unset, .unset, .unset, .unset, .unset, .unset, .unset, .unset, .unset, .unset, .unset, .unset, .unset, .unset] [(.int (15 : Int32)), (.int ((p0).toUInt32 >>> ((2 : Int32) &&& 31).toUInt32).toInt32), (.int (1 : Int32))])) _
      refine XS.iand X0.here hx rfl (hb hby at_13) rfl ?_
      refine XS.iadd X0.here hx rfl (hb hby at_14) rfl ?_
      refine XS.istore X0.here hx rfl (hb hby at_15) rfl (l' := #[.val (.int p0), .val (.int p1), .val (.int p2), .val (.int p3), .val (.int x4_7), .val (.int ((1 : Int32) + (((p0).toUInt32 >>> ((2 : Int32) &&& 31).toUInt32).toInt32 &&& (15 : Int32)))), .unset, .unset, .unset, .unset, .unset, .unset, .unset, .unset, .unset, .unset, .unset, .unset, .unset, .unset, .unset, .unset, .unset, .unset, .unset, .unset, .unset, .unset, .unset, .unset, .unset, .unset, .unset]) rfl ?_
      exact k)⟩
  obtain ⟨x6_26, hx6_26, pre3⟩ : ∃ z : Int32, z = (((p0).toUInt32 >>> ((6 : Int32) &&& 31).toUInt32).toInt32 &&& (7 : Int32)) ∧ own_Pre p e below (s₁.setTop (entryFrame m #[(.int p0), (.int p1), (.int p2), (.int p3)] maxLocals)) (s₁.setTop (mkF m 26 #[.val (.int p0), .val (.int p1), .val (.int p2), .val (.int p3), .val (.int x4_7), .val (.int x5_17), .val (.int z), .unset, .unset, .unset, .unset, .unset, .unset, .unset, .unset, .unset, .unset, .unset, .unset, .unset, .unset, .unset, .unset, .unset, .unset, .unset, .unset, .unset, .unset, .unset, .unset, .unset, .unset] [])) := ⟨_, rfl, fun t k => pre2 t (by
      show Steps p.tables e below (s₁.setTop (mkF m 17 #[.val (.int p0), .val (.int p1), .val (.int p2), .val (.int p3), .val (.int x4_7), .val (.int x5_17), .unset, .unset, .unset, .unset, .unset, .unset, .unset, .unset, .unset, .unset, .unset, .unset, .unset, .unset, .unset, .unset, .unset, .unset, .unset, .unset, .unset, .unset, .unset, .unset, .unset, .unset, .unset] [])) _
      refine XS.iloadN X0.here hx rfl (hb hby at_17) rfl ?_
      refine XS.bipush X0.here hx rfl (hb hby at_18) ?_
      refine XS.iushr X0.here hx rfl (hb hby at_20) rfl ?_
      refine XS.bipush X0.here hx rfl (hb hby at_21) ?_
      refine XS.iand X0.here hx rfl (hb hby at_23) rfl ?_
      show Steps p.tables e below (s₁.setTop (mkF m 24 #[.val (.int p0), .val (.int p1), .val (.int p2), .val (.int p3), .val (.int x4_7), .val (.int x5_17), .unset, .unset, .unset, .unset, .unset, .unset, .unset, .unset, .unset, .unset, .unset, .unset, .unset, .unset, .unset, .unset, .unset, .unset, .unset, .unset, .unset, .unset, .unset, .unset, .unset, .unset, .unset] [(.int (((p0).toUInt32 >>> ((6 : Int32) &&& 31).toUInt32).toInt32 &&& (7 : Int32)))])) _
      refine XS.istore X0.here hx rfl (hb hby at_24) rfl (l' := #[.val (.int p0), .val (.int p1), .val (.int p2), .val (.int p3), .val (.int x4_7), .val (.int x5_17), .val (.int (((p0).toUInt32 >>> ((6 : Int32) &&& 31).toUInt32).toInt32 &&& (7 : Int32))), .unset, .unset, .unset, .unset, .unset, .unset, .unset, .unset, .unset, .unset, .unset, .unset, .unset, .unset, .unset, .unset, .unset, .unset, .unset, .unset, .unset, .unset, .unset, .unset, .unset, .unset]) rfl ?_
      exact k)⟩
  obtain ⟨x7_35, hx7_35, pre4⟩ : ∃ z : Int32, z = (((p0).toUInt32 >>> ((9 : Int32) &&& 31).toUInt32).toInt32 &&& (7 : Int32)) ∧ own_Pre p e below (s₁.setTop (entryFrame m #[(.int p0), (.int p1), (.int p2), (.int p3)] maxLocals)) (s₁.setTop (mkF m 35 #[.val (.int p0), .val (.int p1), .val (.int p2), .val (.int p3), .val (.int x4_7), .val (.int x5_17), .val (.int x6_26), .val (.int z), .unset, .unset, .unset, .unset, .unset, .unset, .unset, .unset, .unset, .unset, .unset, .unset, .unset, .unset, .unset, .unset, .unset, .unset, .unset, .unset, .unset, .unset, .unset, .unset, .unset] [])) := ⟨_, rfl, fun t k => pre3 t (by
      show Steps p.tables e below (s₁.setTop (mkF m 26 #[.val (.int p0), .val (.int p1), .val (.int p2), .val (.int p3), .val (.int x4_7), .val (.int x5_17), .val (.int x6_26), .unset, .unset, .unset, .unset, .unset, .unset, .unset, .unset, .unset, .unset, .unset, .unset, .unset, .unset, .unset, .unset, .unset, .unset, .unset, .unset, .unset, .unset, .unset, .unset, .unset, .unset] [])) _
      refine XS.iloadN X0.here hx rfl (hb hby at_26) rfl ?_
      refine XS.bipush X0.here hx rfl (hb hby at_27) ?_
      refine XS.iushr X0.here hx rfl (hb hby at_29) rfl ?_
      refine XS.bipush X0.here hx rfl (hb hby at_30) ?_
      refine XS.iand X0.here hx rfl (hb hby at_32) rfl ?_
      show Steps p.tables e below (s₁.setTop (mkF m 33 #[.val (.int p0), .val (.int p1), .val (.int p2), .val (.int p3), .val (.int x4_7), .val (.int x5_17), .val (.int x6_26), .unset, .unset, .unset, .unset, .unset, .unset, .unset, .unset, .unset, .unset, .unset, .unset, .unset, .unset, .unset, .unset, .unset, .unset, .unset, .unset, .unset, .unset, .unset, .unset, .unset, .unset] [(.int (((p0).toUInt32 >>> ((9 : Int32) &&& 31).toUInt32).toInt32 &&& (7 : Int32)))])) _
      refine XS.istore X0.here hx rfl (hb hby at_33) rfl (l' := #[.val (.int p0), .val (.int p1), .val (.int p2), .val (.int p3), .val (.int x4_7), .val (.int x5_17), .val (.int x6_26), .val (.int (((p0).toUInt32 >>> ((9 : Int32) &&& 31).toUInt32).toInt32 &&& (7 : Int32))), .unset, .unset, .unset, .unset, .unset, .unset, .unset, .unset, .unset, .unset, .unset, .unset, .unset, .unset, .unset, .unset, .unset, .unset, .unset, .unset, .unset, .unset, .unset, .unset, .unset]) rfl ?_
      exact k)⟩
  have pre7 : own_Pre p e below (s₁.setTop (entryFrame m #[(.int p0), (.int p1), (.int p2), (.int p3)] maxLocals)) (s₁.setTop (mkF m 41 #[.val (.int p0), .val (.int p1), .val (.int p2), .val (.int p3), .val (.int x4_7), .val (.int x5_17), .val (.int x6_26), .val (.int x7_35), .unset, .unset, .unset, .unset, .unset, .unset, .unset, .unset, .unset, .unset, .unset, .unset, .unset, .unset, .unset, .unset, .unset, .unset, .unset, .unset, .unset, .unset, .unset, .unset, .unset] [(.int (((p0).toUInt32 >>> ((12 : Int32) &&& 31).toUInt32).toInt32 &&& (1 : Int32)))])) := fun t k => pre4 t (by
      show Steps p.tables e below (s₁.setTop (mkF m 35 #[.val (.int p0), .val (.int p1), .val (.int p2), .val (.int p3), .val (.int x4_7), .val (.int x5_17), .val (.int x6_26), .val (.int x7_35), .unset, .unset, .unset, .unset, .unset, .unset, .unset, .unset, .unset, .unset, .unset, .unset, .unset, .unset, .unset, .unset, .unset, .unset, .unset, .unset, .unset, .unset, .unset, .unset, .unset] [])) _
      refine XS.iloadN X0.here hx rfl (hb hby at_35) rfl ?_
      refine XS.bipush X0.here hx rfl (hb hby at_36) ?_
      refine XS.iushr X0.here hx rfl (hb hby at_38) rfl ?_
      refine XS.iconst X0.here hx rfl (hb hby at_39) ?_
      refine XS.iand X0.here hx rfl (hb hby at_40) rfl ?_
      exact k)
  obtain ⟨m49_s0, hm49_s0, pre6⟩ : ∃ (m49_s0 : Int32), m49_s0 = (own_m0_49_s0 p0) ∧ own_Pre p e below (s₁.setTop (entryFrame m #[(.int p0), (.int p1), (.int p2), (.int p3)] maxLocals)) (s₁.setTop (mkF m 49 #[.val (.int p0), .val (.int p1), .val (.int p2), .val (.int p3), .val (.int x4_7), .val (.int x5_17), .val (.int x6_26), .val (.int x7_35), .unset, .unset, .unset, .unset, .unset, .unset, .unset, .unset, .unset, .unset, .unset, .unset, .unset, .unset, .unset, .unset, .unset, .unset, .unset, .unset, .unset, .unset, .unset, .unset, .unset] [(.int m49_s0)])) := by
    by_cases hc41 : (((p0).toUInt32 >>> ((12 : Int32) &&& 31).toUInt32).toInt32 &&& (1 : Int32)) = (0 : Int32)
    · have pre8 : own_Pre p e below (s₁.setTop (entryFrame m #[(.int p0), (.int p1), (.int p2), (.int p3)] maxLocals)) (s₁.setTop (mkF m 49 #[.val (.int p0), .val (.int p1), .val (.int p2), .val (.int p3), .val (.int x4_7), .val (.int x5_17), .val (.int x6_26), .val (.int x7_35), .unset, .unset, .unset, .unset, .unset, .unset, .unset, .unset, .unset, .unset, .unset, .unset, .unset, .unset, .unset, .unset, .unset, .unset, .unset, .unset, .unset, .unset, .unset, .unset, .unset] [(.int (1 : Int32))])) := fun t k => pre7 t (by
          show Steps p.tables e below (s₁.setTop (mkF m 41 #[.val (.int p0), .val (.int p1), .val (.int p2), .val (.int p3), .val (.int x4_7), .val (.int x5_17), .val (.int x6_26), .val (.int x7_35), .unset, .unset, .unset, .unset, .unset, .unset, .unset, .unset, .unset, .unset, .unset, .unset, .unset, .unset, .unset, .unset, .unset, .unset, .unset, .unset, .unset, .unset, .unset, .unset, .unset] [(.int (((p0).toUInt32 >>> ((12 : Int32) &&& 31).toUInt32).toInt32 &&& (1 : Int32)))])) _
          refine XS.ifNo X0.here hx rfl (hb hby at_41) rfl ((if0 _ _).trans (teq hc41).2) ?_
          refine XS.iconst X0.here hx rfl (hb hby at_44) ?_
          refine XS.goto X0.here hx rfl (pc0 := 45) (pc' := 49) rfl (hb hby at_45) (by decide) (by decide) ?_
          exact k)
      refine ⟨_, ?_, pre8⟩
      all_goals (first | (simp only [own_m0_49_s0, if_pos hc41]; done) | (simp [own_m0_49_s0, if_pos hc41]; done))
    · have pre9 : own_Pre p e below (s₁.setTop (entryFrame m #[(.int p0), (.int p1), (.int p2), (.int p3)] maxLocals)) (s₁.setTop (mkF m 49 #[.val (.int p0), .val (.int p1), .val (.int p2), .val (.int p3), .val (.int x4_7), .val (.int x5_17), .val (.int x6_26), .val (.int x7_35), .unset, .unset, .unset, .unset, .unset, .unset, .unset, .unset, .unset, .unset, .unset, .unset, .unset, .unset, .unset, .unset, .unset, .unset, .unset, .unset, .unset, .unset, .unset, .unset, .unset] [(.int (0 : Int32))])) := fun t k => pre7 t (by
          show Steps p.tables e below (s₁.setTop (mkF m 41 #[.val (.int p0), .val (.int p1), .val (.int p2), .val (.int p3), .val (.int x4_7), .val (.int x5_17), .val (.int x6_26), .val (.int x7_35), .unset, .unset, .unset, .unset, .unset, .unset, .unset, .unset, .unset, .unset, .unset, .unset, .unset, .unset, .unset, .unset, .unset, .unset, .unset, .unset, .unset, .unset, .unset, .unset, .unset] [(.int (((p0).toUInt32 >>> ((12 : Int32) &&& 31).toUInt32).toInt32 &&& (1 : Int32)))])) _
          refine XS.ifYes X0.here hx rfl (pc0 := 41) (pc' := 48) rfl (hb hby at_41) rfl ((if0 _ _).trans (feq hc41).2) (by decide) (by decide) ?_
          refine XS.iconst X0.here hx rfl (hb hby at_48) ?_
          exact k)
      refine ⟨_, ?_, pre9⟩
      all_goals (first | (simp only [own_m0_49_s0, if_neg hc41]; done) | (simp [own_m0_49_s0, if_neg hc41]; done))
  obtain ⟨x9_60, hx9_60, pre10⟩ : ∃ z : Int32, z = (((p0).toUInt32 >>> ((13 : Int32) &&& 31).toUInt32).toInt32 &&& (15 : Int32)) ∧ own_Pre p e below (s₁.setTop (entryFrame m #[(.int p0), (.int p1), (.int p2), (.int p3)] maxLocals)) (s₁.setTop (mkF m 60 #[.val (.int p0), .val (.int p1), .val (.int p2), .val (.int p3), .val (.int x4_7), .val (.int x5_17), .val (.int x6_26), .val (.int x7_35), .val (.int m49_s0), .val (.int z), .unset, .unset, .unset, .unset, .unset, .unset, .unset, .unset, .unset, .unset, .unset, .unset, .unset, .unset, .unset, .unset, .unset, .unset, .unset, .unset, .unset, .unset, .unset] [])) := ⟨_, rfl, fun t k => pre6 t (by
      show Steps p.tables e below (s₁.setTop (mkF m 49 #[.val (.int p0), .val (.int p1), .val (.int p2), .val (.int p3), .val (.int x4_7), .val (.int x5_17), .val (.int x6_26), .val (.int x7_35), .unset, .unset, .unset, .unset, .unset, .unset, .unset, .unset, .unset, .unset, .unset, .unset, .unset, .unset, .unset, .unset, .unset, .unset, .unset, .unset, .unset, .unset, .unset, .unset, .unset] [(.int m49_s0)])) _
      refine XS.istore X0.here hx rfl (hb hby at_49) rfl (l' := #[.val (.int p0), .val (.int p1), .val (.int p2), .val (.int p3), .val (.int x4_7), .val (.int x5_17), .val (.int x6_26), .val (.int x7_35), .val (.int m49_s0), .unset, .unset, .unset, .unset, .unset, .unset, .unset, .unset, .unset, .unset, .unset, .unset, .unset, .unset, .unset, .unset, .unset, .unset, .unset, .unset, .unset, .unset, .unset, .unset]) rfl ?_
      refine XS.iloadN X0.here hx rfl (hb hby at_51) rfl ?_
      refine XS.bipush X0.here hx rfl (hb hby at_52) ?_
      refine XS.iushr X0.here hx rfl (hb hby at_54) rfl ?_
      refine XS.bipush X0.here hx rfl (hb hby at_55) ?_
      show Steps p.tables e below (s₁.setTop (mkF m 57 #[.val (.int p0), .val (.int p1), .val (.int p2), .val (.int p3), .val (.int x4_7), .val (.int x5_17), .val (.int x6_26), .val (.int x7_35), .val (.int m49_s0), .unset, .unset, .unset, .unset, .unset, .unset, .unset, .unset, .unset, .unset, .unset, .unset, .unset, .unset, .unset, .unset, .unset, .unset, .unset, .unset, .unset, .unset, .unset, .unset] [(.int (15 : Int32)), (.int ((p0).toUInt32 >>> ((13 : Int32) &&& 31).toUInt32).toInt32)])) _
      refine XS.iand X0.here hx rfl (hb hby at_57) rfl ?_
      refine XS.istore X0.here hx rfl (hb hby at_58) rfl (l' := #[.val (.int p0), .val (.int p1), .val (.int p2), .val (.int p3), .val (.int x4_7), .val (.int x5_17), .val (.int x6_26), .val (.int x7_35), .val (.int m49_s0), .val (.int (((p0).toUInt32 >>> ((13 : Int32) &&& 31).toUInt32).toInt32 &&& (15 : Int32))), .unset, .unset, .unset, .unset, .unset, .unset, .unset, .unset, .unset, .unset, .unset, .unset, .unset, .unset, .unset, .unset, .unset, .unset, .unset, .unset, .unset, .unset, .unset]) rfl ?_
      exact k)⟩
  obtain ⟨x10_69, hx10_69, pre11⟩ : ∃ z : Int32, z = (((p0).toUInt32 >>> ((17 : Int32) &&& 31).toUInt32).toInt32 &&& (7 : Int32)) ∧ own_Pre p e below (s₁.setTop (entryFrame m #[(.int p0), (.int p1), (.int p2), (.int p3)] maxLocals)) (s₁.setTop (mkF m 69 #[.val (.int p0), .val (.int p1), .val (.int p2), .val (.int p3), .val (.int x4_7), .val (.int x5_17), .val (.int x6_26), .val (.int x7_35), .val (.int m49_s0), .val (.int x9_60), .val (.int z), .unset, .unset, .unset, .unset, .unset, .unset, .unset, .unset, .unset, .unset, .unset, .unset, .unset, .unset, .unset, .unset, .unset, .unset, .unset, .unset, .unset, .unset] [])) := ⟨_, rfl, fun t k => pre10 t (by
      show Steps p.tables e below (s₁.setTop (mkF m 60 #[.val (.int p0), .val (.int p1), .val (.int p2), .val (.int p3), .val (.int x4_7), .val (.int x5_17), .val (.int x6_26), .val (.int x7_35), .val (.int m49_s0), .val (.int x9_60), .unset, .unset, .unset, .unset, .unset, .unset, .unset, .unset, .unset, .unset, .unset, .unset, .unset, .unset, .unset, .unset, .unset, .unset, .unset, .unset, .unset, .unset, .unset] [])) _
      refine XS.iloadN X0.here hx rfl (hb hby at_60) rfl ?_
      refine XS.bipush X0.here hx rfl (hb hby at_61) ?_
      refine XS.iushr X0.here hx rfl (hb hby at_63) rfl ?_
      refine XS.bipush X0.here hx rfl (hb hby at_64) ?_
      refine XS.iand X0.here hx rfl (hb hby at_66) rfl ?_
      show Steps p.tables e below (s₁.setTop (mkF m 67 #[.val (.int p0), .val (.int p1), .val (.int p2), .val (.int p3), .val (.int x4_7), .val (.int x5_17), .val (.int x6_26), .val (.int x7_35), .val (.int m49_s0), .val (.int x9_60), .unset, .unset, .unset, .unset, .unset, .unset, .unset, .unset, .unset, .unset, .unset, .unset, .unset, .unset, .unset, .unset, .unset, .unset, .unset, .unset, .unset, .unset, .unset] [(.int (((p0).toUInt32 >>> ((17 : Int32) &&& 31).toUInt32).toInt32 &&& (7 : Int32)))])) _
      refine XS.istore X0.here hx rfl (hb hby at_67) rfl (l' := #[.val (.int p0), .val (.int p1), .val (.int p2), .val (.int p3), .val (.int x4_7), .val (.int x5_17), .val (.int x6_26), .val (.int x7_35), .val (.int m49_s0), .val (.int x9_60), .val (.int (((p0).toUInt32 >>> ((17 : Int32) &&& 31).toUInt32).toInt32 &&& (7 : Int32))), .unset, .unset, .unset, .unset, .unset, .unset, .unset, .unset, .unset, .unset, .unset, .unset, .unset, .unset, .unset, .unset, .unset, .unset, .unset, .unset, .unset, .unset]) rfl ?_
      exact k)⟩
  obtain ⟨x11_78, hx11_78, pre12⟩ : ∃ z : Int32, z = (((p0).toUInt32 >>> ((20 : Int32) &&& 31).toUInt32).toInt32 &&& (7 : Int32)) ∧ own_Pre p e below (s₁.setTop (entryFrame m #[(.int p0), (.int p1), (.int p2), (.int p3)] maxLocals)) (s₁.setTop (mkF m 78 #[.val (.int p0), .val (.int p1), .val (.int p2), .val (.int p3), .val (.int x4_7), .val (.int x5_17), .val (.int x6_26), .val (.int x7_35), .val (.int m49_s0), .val (.int x9_60), .val (.int x10_69), .val (.int z), .unset, .unset, .unset, .unset, .unset, .unset, .unset, .unset, .unset, .unset, .unset, .unset, .unset, .unset, .unset, .unset, .unset, .unset, .unset, .unset, .unset] [])) := ⟨_, rfl, fun t k => pre11 t (by
      show Steps p.tables e below (s₁.setTop (mkF m 69 #[.val (.int p0), .val (.int p1), .val (.int p2), .val (.int p3), .val (.int x4_7), .val (.int x5_17), .val (.int x6_26), .val (.int x7_35), .val (.int m49_s0), .val (.int x9_60), .val (.int x10_69), .unset, .unset, .unset, .unset, .unset, .unset, .unset, .unset, .unset, .unset, .unset, .unset, .unset, .unset, .unset, .unset, .unset, .unset, .unset, .unset, .unset, .unset] [])) _
      refine XS.iloadN X0.here hx rfl (hb hby at_69) rfl ?_
      refine XS.bipush X0.here hx rfl (hb hby at_70) ?_
      refine XS.iushr X0.here hx rfl (hb hby at_72) rfl ?_
      refine XS.bipush X0.here hx rfl (hb hby at_73) ?_
      refine XS.iand X0.here hx rfl (hb hby at_75) rfl ?_
      show Steps p.tables e below (s₁.setTop (mkF m 76 #[.val (.int p0), .val (.int p1), .val (.int p2), .val (.int p3), .val (.int x4_7), .val (.int x5_17), .val (.int x6_26), .val (.int x7_35), .val (.int m49_s0), .val (.int x9_60), .val (.int x10_69), .unset, .unset, .unset, .unset, .unset, .unset, .unset, .unset, .unset, .unset, .unset, .unset, .unset, .unset, .unset, .unset, .unset, .unset, .unset, .unset, .unset, .unset] [(.int (((p0).toUInt32 >>> ((20 : Int32) &&& 31).toUInt32).toInt32 &&& (7 : Int32)))])) _
      refine XS.istore X0.here hx rfl (hb hby at_76) rfl (l' := #[.val (.int p0), .val (.int p1), .val (.int p2), .val (.int p3), .val (.int x4_7), .val (.int x5_17), .val (.int x6_26), .val (.int x7_35), .val (.int m49_s0), .val (.int x9_60), .val (.int x10_69), .val (.int (((p0).toUInt32 >>> ((20 : Int32) &&& 31).toUInt32).toInt32 &&& (7 : Int32))), .unset, .unset, .unset, .unset, .unset, .unset, .unset, .unset, .unset, .unset, .unset, .unset, .unset, .unset, .unset, .unset, .unset, .unset, .unset, .unset, .unset]) rfl ?_
      exact k)⟩
  obtain ⟨x12_86, hx12_86, pre13⟩ : ∃ z : Int32, z = (((p0).toUInt32 >>> ((23 : Int32) &&& 31).toUInt32).toInt32 &&& (3 : Int32)) ∧ own_Pre p e below (s₁.setTop (entryFrame m #[(.int p0), (.int p1), (.int p2), (.int p3)] maxLocals)) (s₁.setTop (mkF m 86 #[.val (.int p0), .val (.int p1), .val (.int p2), .val (.int p3), .val (.int x4_7), .val (.int x5_17), .val (.int x6_26), .val (.int x7_35), .val (.int m49_s0), .val (.int x9_60), .val (.int x10_69), .val (.int x11_78), .val (.int z), .unset, .unset, .unset, .unset, .unset, .unset, .unset, .unset, .unset, .unset, .unset, .unset, .unset, .unset, .unset, .unset, .unset, .unset, .unset, .unset] [])) := ⟨_, rfl, fun t k => pre12 t (by
      show Steps p.tables e below (s₁.setTop (mkF m 78 #[.val (.int p0), .val (.int p1), .val (.int p2), .val (.int p3), .val (.int x4_7), .val (.int x5_17), .val (.int x6_26), .val (.int x7_35), .val (.int m49_s0), .val (.int x9_60), .val (.int x10_69), .val (.int x11_78), .unset, .unset, .unset, .unset, .unset, .unset, .unset, .unset, .unset, .unset, .unset, .unset, .unset, .unset, .unset, .unset, .unset, .unset, .unset, .unset, .unset] [])) _
      refine XS.iloadN X0.here hx rfl (hb hby at_78) rfl ?_
      refine XS.bipush X0.here hx rfl (hb hby at_79) ?_
      refine XS.iushr X0.here hx rfl (hb hby at_81) rfl ?_
      refine XS.iconst X0.here hx rfl (hb hby at_82) ?_
      refine XS.iand X0.here hx rfl (hb hby at_83) rfl ?_
      show Steps p.tables e below (s₁.setTop (mkF m 84 #[.val (.int p0), .val (.int p1), .val (.int p2), .val (.int p3), .val (.int x4_7), .val (.int x5_17), .val (.int x6_26), .val (.int x7_35), .val (.int m49_s0), .val (.int x9_60), .val (.int x10_69), .val (.int x11_78), .unset, .unset, .unset, .unset, .unset, .unset, .unset, .unset, .unset, .unset, .unset, .unset, .unset, .unset, .unset, .unset, .unset, .unset, .unset, .unset, .unset] [(.int (((p0).toUInt32 >>> ((23 : Int32) &&& 31).toUInt32).toInt32 &&& (3 : Int32)))])) _
      refine XS.istore X0.here hx rfl (hb hby at_84) rfl (l' := #[.val (.int p0), .val (.int p1), .val (.int p2), .val (.int p3), .val (.int x4_7), .val (.int x5_17), .val (.int x6_26), .val (.int x7_35), .val (.int m49_s0), .val (.int x9_60), .val (.int x10_69), .val (.int x11_78), .val (.int (((p0).toUInt32 >>> ((23 : Int32) &&& 31).toUInt32).toInt32 &&& (3 : Int32))), .unset, .unset, .unset, .unset, .unset, .unset, .unset, .unset, .unset, .unset, .unset, .unset, .unset, .unset, .unset, .unset, .unset, .unset, .unset, .unset]) rfl ?_
      exact k)⟩
  have pre16 : own_Pre p e below (s₁.setTop (entryFrame m #[(.int p0), (.int p1), (.int p2), (.int p3)] maxLocals)) (s₁.setTop (mkF m 89 #[.val (.int p0), .val (.int p1), .val (.int p2), .val (.int p3), .val (.int x4_7), .val (.int x5_17), .val (.int x6_26), .val (.int x7_35), .val (.int m49_s0), .val (.int x9_60), .val (.int x10_69), .val (.int x11_78), .val (.int x12_86), .unset, .unset, .unset, .unset, .unset, .unset, .unset, .unset, .unset, .unset, .unset, .unset, .unset, .unset, .unset, .unset, .unset, .unset, .unset, .unset] [(.int (1 : Int32)), (.int x12_86)])) := fun t k => pre13 t (by
      show Steps p.tables e below (s₁.setTop (mkF m 86 #[.val (.int p0), .val (.int p1), .val (.int p2), .val (.int p3), .val (.int x4_7), .val (.int x5_17), .val (.int x6_26), .val (.int x7_35), .val (.int m49_s0), .val (.int x9_60), .val (.int x10_69), .val (.int x11_78), .val (.int x12_86), .unset, .unset, .unset, .unset, .unset, .unset, .unset, .unset, .unset, .unset, .unset, .unset, .unset, .unset, .unset, .unset, .unset, .unset, .unset, .unset] [])) _
      refine XS.iload X0.here hx rfl (hb hby at_86) rfl ?_
      refine XS.iconst X0.here hx rfl (hb hby at_88) ?_
      exact k)
  obtain ⟨m97_s0, hm97_s0, pre15⟩ : ∃ (m97_s0 : Int32), m97_s0 = (own_m0_97_s0 x12_86) ∧ own_Pre p e below (s₁.setTop (entryFrame m #[(.int p0), (.int p1), (.int p2), (.int p3)] maxLocals)) (s₁.setTop (mkF m 97 #[.val (.int p0), .val (.int p1), .val (.int p2), .val (.int p3), .val (.int x4_7), .val (.int x5_17), .val (.int x6_26), .val (.int x7_35), .val (.int m49_s0), .val (.int x9_60), .val (.int x10_69), .val (.int x11_78), .val (.int x12_86), .unset, .unset, .unset, .unset, .unset, .unset, .unset, .unset, .unset, .unset, .unset, .unset, .unset, .unset, .unset, .unset, .unset, .unset, .unset, .unset] [(.int m97_s0)])) := by
    by_cases hc89 : x12_86 < (1 : Int32)
    · have pre17 : own_Pre p e below (s₁.setTop (entryFrame m #[(.int p0), (.int p1), (.int p2), (.int p3)] maxLocals)) (s₁.setTop (mkF m 97 #[.val (.int p0), .val (.int p1), .val (.int p2), .val (.int p3), .val (.int x4_7), .val (.int x5_17), .val (.int x6_26), .val (.int x7_35), .val (.int m49_s0), .val (.int x9_60), .val (.int x10_69), .val (.int x11_78), .val (.int x12_86), .unset, .unset, .unset, .unset, .unset, .unset, .unset, .unset, .unset, .unset, .unset, .unset, .unset, .unset, .unset, .unset, .unset, .unset, .unset, .unset] [(.int (0 : Int32))])) := fun t k => pre16 t (by
          show Steps p.tables e below (s₁.setTop (mkF m 89 #[.val (.int p0), .val (.int p1), .val (.int p2), .val (.int p3), .val (.int x4_7), .val (.int x5_17), .val (.int x6_26), .val (.int x7_35), .val (.int m49_s0), .val (.int x9_60), .val (.int x10_69), .val (.int x11_78), .val (.int x12_86), .unset, .unset, .unset, .unset, .unset, .unset, .unset, .unset, .unset, .unset, .unset, .unset, .unset, .unset, .unset, .unset, .unset, .unset, .unset, .unset] [(.int (1 : Int32)), (.int x12_86)])) _
          refine XS.icmpYes X0.here hx rfl (pc0 := 89) (pc' := 96) rfl (hb hby at_89) rfl (tlt hc89).1 (by decide) (by decide) ?_
          refine XS.iconst X0.here hx rfl (hb hby at_96) ?_
          exact k)
      refine ⟨_, ?_, pre17⟩
      all_goals (first | (simp only [own_m0_97_s0, if_pos hc89]; done) | (simp [own_m0_97_s0, if_pos hc89]; done))
    · have pre18 : own_Pre p e below (s₁.setTop (entryFrame m #[(.int p0), (.int p1), (.int p2), (.int p3)] maxLocals)) (s₁.setTop (mkF m 97 #[.val (.int p0), .val (.int p1), .val (.int p2), .val (.int p3), .val (.int x4_7), .val (.int x5_17), .val (.int x6_26), .val (.int x7_35), .val (.int m49_s0), .val (.int x9_60), .val (.int x10_69), .val (.int x11_78), .val (.int x12_86), .unset, .unset, .unset, .unset, .unset, .unset, .unset, .unset, .unset, .unset, .unset, .unset, .unset, .unset, .unset, .unset, .unset, .unset, .unset, .unset] [(.int (1 : Int32))])) := fun t k => pre16 t (by
          show Steps p.tables e below (s₁.setTop (mkF m 89 #[.val (.int p0), .val (.int p1), .val (.int p2), .val (.int p3), .val (.int x4_7), .val (.int x5_17), .val (.int x6_26), .val (.int x7_35), .val (.int m49_s0), .val (.int x9_60), .val (.int x10_69), .val (.int x11_78), .val (.int x12_86), .unset, .unset, .unset, .unset, .unset, .unset, .unset, .unset, .unset, .unset, .unset, .unset, .unset, .unset, .unset, .unset, .unset, .unset, .unset, .unset] [(.int (1 : Int32)), (.int x12_86)])) _
          refine XS.icmpNo X0.here hx rfl (hb hby at_89) rfl (flt hc89).1 ?_
          refine XS.iconst X0.here hx rfl (hb hby at_92) ?_
          refine XS.goto X0.here hx rfl (pc0 := 93) (pc' := 97) rfl (hb hby at_93) (by decide) (by decide) ?_
          exact k)
      refine ⟨_, ?_, pre18⟩
      all_goals (first | (simp only [own_m0_97_s0, if_neg hc89]; done) | (simp [own_m0_97_s0, if_neg hc89]; done))
  have pre21 : own_Pre p e below (s₁.setTop (entryFrame m #[(.int p0), (.int p1), (.int p2), (.int p3)] maxLocals)) (s₁.setTop (mkF m 102 #[.val (.int p0), .val (.int p1), .val (.int p2), .val (.int p3), .val (.int x4_7), .val (.int x5_17), .val (.int x6_26), .val (.int x7_35), .val (.int m49_s0), .val (.int x9_60), .val (.int x10_69), .val (.int x11_78), .val (.int x12_86), .val (.int m97_s0), .unset, .unset, .unset, .unset, .unset, .unset, .unset, .unset, .unset, .unset, .unset, .unset, .unset, .unset, .unset, .unset, .unset, .unset, .unset] [(.int (2 : Int32)), (.int x12_86)])) := fun t k => pre15 t (by
      show Steps p.tables e below (s₁.setTop (mkF m 97 #[.val (.int p0), .val (.int p1), .val (.int p2), .val (.int p3), .val (.int x4_7), .val (.int x5_17), .val (.int x6_26), .val (.int x7_35), .val (.int m49_s0), .val (.int x9_60), .val (.int x10_69), .val (.int x11_78), .val (.int x12_86), .unset, .unset, .unset, .unset, .unset, .unset, .unset, .unset, .unset, .unset, .unset, .unset, .unset, .unset, .unset, .unset, .unset, .unset, .unset, .unset] [(.int m97_s0)])) _
      refine XS.istore X0.here hx rfl (hb hby at_97) rfl (l' := #[.val (.int p0), .val (.int p1), .val (.int p2), .val (.int p3), .val (.int x4_7), .val (.int x5_17), .val (.int x6_26), .val (.int x7_35), .val (.int m49_s0), .val (.int x9_60), .val (.int x10_69), .val (.int x11_78), .val (.int x12_86), .val (.int m97_s0), .unset, .unset, .unset, .unset, .unset, .unset, .unset, .unset, .unset, .unset, .unset, .unset, .unset, .unset, .unset, .unset, .unset, .unset, .unset]) rfl ?_
      refine XS.iload X0.here hx rfl (hb hby at_99) rfl ?_
      refine XS.iconst X0.here hx rfl (hb hby at_101) ?_
      exact k)
  obtain ⟨m110_s0, hm110_s0, pre20⟩ : ∃ (m110_s0 : Int32), m110_s0 = (own_m0_110_s0 x12_86) ∧ own_Pre p e below (s₁.setTop (entryFrame m #[(.int p0), (.int p1), (.int p2), (.int p3)] maxLocals)) (s₁.setTop (mkF m 110 #[.val (.int p0), .val (.int p1), .val (.int p2), .val (.int p3), .val (.int x4_7), .val (.int x5_17), .val (.int x6_26), .val (.int x7_35), .val (.int m49_s0), .val (.int x9_60), .val (.int x10_69), .val (.int x11_78), .val (.int x12_86), .val (.int m97_s0), .unset, .unset, .unset, .unset, .unset, .unset, .unset, .unset, .unset, .unset, .unset, .unset, .unset, .unset, .unset, .unset, .unset, .unset, .unset] [(.int m110_s0)])) := by
    by_cases hc102 : x12_86 < (2 : Int32)
    · have pre22 : own_Pre p e below (s₁.setTop (entryFrame m #[(.int p0), (.int p1), (.int p2), (.int p3)] maxLocals)) (s₁.setTop (mkF m 110 #[.val (.int p0), .val (.int p1), .val (.int p2), .val (.int p3), .val (.int x4_7), .val (.int x5_17), .val (.int x6_26), .val (.int x7_35), .val (.int m49_s0), .val (.int x9_60), .val (.int x10_69), .val (.int x11_78), .val (.int x12_86), .val (.int m97_s0), .unset, .unset, .unset, .unset, .unset, .unset, .unset, .unset, .unset, .unset, .unset, .unset, .unset, .unset, .unset, .unset, .unset, .unset, .unset] [(.int (0 : Int32))])) := fun t k => pre21 t (by
          show Steps p.tables e below (s₁.setTop (mkF m 102 #[.val (.int p0), .val (.int p1), .val (.int p2), .val (.int p3), .val (.int x4_7), .val (.int x5_17), .val (.int x6_26), .val (.int x7_35), .val (.int m49_s0), .val (.int x9_60), .val (.int x10_69), .val (.int x11_78), .val (.int x12_86), .val (.int m97_s0), .unset, .unset, .unset, .unset, .unset, .unset, .unset, .unset, .unset, .unset, .unset, .unset, .unset, .unset, .unset, .unset, .unset, .unset, .unset] [(.int (2 : Int32)), (.int x12_86)])) _
          refine XS.icmpYes X0.here hx rfl (pc0 := 102) (pc' := 109) rfl (hb hby at_102) rfl (tlt hc102).1 (by decide) (by decide) ?_
          refine XS.iconst X0.here hx rfl (hb hby at_109) ?_
          exact k)
      refine ⟨_, ?_, pre22⟩
      all_goals (first | (simp only [own_m0_110_s0, if_pos hc102]; done) | (simp [own_m0_110_s0, if_pos hc102]; done))
    · have pre23 : own_Pre p e below (s₁.setTop (entryFrame m #[(.int p0), (.int p1), (.int p2), (.int p3)] maxLocals)) (s₁.setTop (mkF m 110 #[.val (.int p0), .val (.int p1), .val (.int p2), .val (.int p3), .val (.int x4_7), .val (.int x5_17), .val (.int x6_26), .val (.int x7_35), .val (.int m49_s0), .val (.int x9_60), .val (.int x10_69), .val (.int x11_78), .val (.int x12_86), .val (.int m97_s0), .unset, .unset, .unset, .unset, .unset, .unset, .unset, .unset, .unset, .unset, .unset, .unset, .unset, .unset, .unset, .unset, .unset, .unset, .unset] [(.int (1 : Int32))])) := fun t k => pre21 t (by
          show Steps p.tables e below (s₁.setTop (mkF m 102 #[.val (.int p0), .val (.int p1), .val (.int p2), .val (.int p3), .val (.int x4_7), .val (.int x5_17), .val (.int x6_26), .val (.int x7_35), .val (.int m49_s0), .val (.int x9_60), .val (.int x10_69), .val (.int x11_78), .val (.int x12_86), .val (.int m97_s0), .unset, .unset, .unset, .unset, .unset, .unset, .unset, .unset, .unset, .unset, .unset, .unset, .unset, .unset, .unset, .unset, .unset, .unset, .unset] [(.int (2 : Int32)), (.int x12_86)])) _
          refine XS.icmpNo X0.here hx rfl (hb hby at_102) rfl (flt hc102).1 ?_
          refine XS.iconst X0.here hx rfl (hb hby at_105) ?_
          refine XS.goto X0.here hx rfl (pc0 := 106) (pc' := 110) rfl (hb hby at_106) (by decide) (by decide) ?_
          exact k)
      refine ⟨_, ?_, pre23⟩
      all_goals (first | (simp only [own_m0_110_s0, if_neg hc102]; done) | (simp [own_m0_110_s0, if_neg hc102]; done))
  have pre26 : own_Pre p e below (s₁.setTop (entryFrame m #[(.int p0), (.int p1), (.int p2), (.int p3)] maxLocals)) (s₁.setTop (mkF m 114 #[.val (.int p0), .val (.int p1), .val (.int p2), .val (.int p3), .val (.int x4_7), .val (.int x5_17), .val (.int x6_26), .val (.int x7_35), .val (.int m49_s0), .val (.int x9_60), .val (.int x10_69), .val (.int x11_78), .val (.int x12_86), .val (.int m97_s0), .val (.int m110_s0), .unset, .unset, .unset, .unset, .unset, .unset, .unset, .unset, .unset, .unset, .unset, .unset, .unset, .unset, .unset, .unset, .unset, .unset] [(.int m49_s0)])) := fun t k => pre20 t (by
      show Steps p.tables e below (s₁.setTop (mkF m 110 #[.val (.int p0), .val (.int p1), .val (.int p2), .val (.int p3), .val (.int x4_7), .val (.int x5_17), .val (.int x6_26), .val (.int x7_35), .val (.int m49_s0), .val (.int x9_60), .val (.int x10_69), .val (.int x11_78), .val (.int x12_86), .val (.int m97_s0), .unset, .unset, .unset, .unset, .unset, .unset, .unset, .unset, .unset, .unset, .unset, .unset, .unset, .unset, .unset, .unset, .unset, .unset, .unset] [(.int m110_s0)])) _
      refine XS.istore X0.here hx rfl (hb hby at_110) rfl (l' := #[.val (.int p0), .val (.int p1), .val (.int p2), .val (.int p3), .val (.int x4_7), .val (.int x5_17), .val (.int x6_26), .val (.int x7_35), .val (.int m49_s0), .val (.int x9_60), .val (.int x10_69), .val (.int x11_78), .val (.int x12_86), .val (.int m97_s0), .val (.int m110_s0), .unset, .unset, .unset, .unset, .unset, .unset, .unset, .unset, .unset, .unset, .unset, .unset, .unset, .unset, .unset, .unset, .unset, .unset]) rfl ?_
      refine XS.iload X0.here hx rfl (hb hby at_112) rfl ?_
      exact k)
  obtain ⟨m126_s0, hm126_s0, pre25⟩ : ∃ (m126_s0 : Int32), m126_s0 = (own_m0_126_s0 m49_s0 x4_7) ∧ own_Pre p e below (s₁.setTop (entryFrame m #[(.int p0), (.int p1), (.int p2), (.int p3)] maxLocals)) (s₁.setTop (mkF m 126 #[.val (.int p0), .val (.int p1), .val (.int p2), .val (.int p3), .val (.int x4_7), .val (.int x5_17), .val (.int x6_26), .val (.int x7_35), .val (.int m49_s0), .val (.int x9_60), .val (.int x10_69), .val (.int x11_78), .val (.int x12_86), .val (.int m97_s0), .val (.int m110_s0), .unset, .unset, .unset, .unset, .unset, .unset, .unset, .unset, .unset, .unset, .unset, .unset, .unset, .unset, .unset, .unset, .unset, .unset] [(.int m126_s0)])) := by
    by_cases hc114 : m49_s0 = (0 : Int32)
    · have pre27 : own_Pre p e below (s₁.setTop (entryFrame m #[(.int p0), (.int p1), (.int p2), (.int p3)] maxLocals)) (s₁.setTop (mkF m 126 #[.val (.int p0), .val (.int p1), .val (.int p2), .val (.int p3), .val (.int x4_7), .val (.int x5_17), .val (.int x6_26), .val (.int x7_35), .val (.int m49_s0), .val (.int x9_60), .val (.int x10_69), .val (.int x11_78), .val (.int x12_86), .val (.int m97_s0), .val (.int m110_s0), .unset, .unset, .unset, .unset, .unset, .unset, .unset, .unset, .unset, .unset, .unset, .unset, .unset, .unset, .unset, .unset, .unset, .unset] [(.int (x4_7 + (1 : Int32)))])) := fun t k => pre26 t (by
          show Steps p.tables e below (s₁.setTop (mkF m 114 #[.val (.int p0), .val (.int p1), .val (.int p2), .val (.int p3), .val (.int x4_7), .val (.int x5_17), .val (.int x6_26), .val (.int x7_35), .val (.int m49_s0), .val (.int x9_60), .val (.int x10_69), .val (.int x11_78), .val (.int x12_86), .val (.int m97_s0), .val (.int m110_s0), .unset, .unset, .unset, .unset, .unset, .unset, .unset, .unset, .unset, .unset, .unset, .unset, .unset, .unset, .unset, .unset, .unset, .unset] [(.int m49_s0)])) _
          refine XS.ifYes X0.here hx rfl (pc0 := 114) (pc' := 122) rfl (hb hby at_114) rfl ((if0 _ _).trans (teq hc114).1) (by decide) (by decide) ?_
          refine XS.iload X0.here hx rfl (hb hby at_122) rfl ?_
          refine XS.iconst X0.here hx rfl (hb hby at_124) ?_
          refine XS.iadd X0.here hx rfl (hb hby at_125) rfl ?_
          exact k)
      refine ⟨_, ?_, pre27⟩
      all_goals (first | (simp only [own_m0_126_s0, if_pos hc114]; done) | (simp [own_m0_126_s0, if_pos hc114]; done))
    · have pre28 : own_Pre p e below (s₁.setTop (entryFrame m #[(.int p0), (.int p1), (.int p2), (.int p3)] maxLocals)) (s₁.setTop (mkF m 126 #[.val (.int p0), .val (.int p1), .val (.int p2), .val (.int p3), .val (.int x4_7), .val (.int x5_17), .val (.int x6_26), .val (.int x7_35), .val (.int m49_s0), .val (.int x9_60), .val (.int x10_69), .val (.int x11_78), .val (.int x12_86), .val (.int m97_s0), .val (.int m110_s0), .unset, .unset, .unset, .unset, .unset, .unset, .unset, .unset, .unset, .unset, .unset, .unset, .unset, .unset, .unset, .unset, .unset, .unset] [(.int x4_7)])) := fun t k => pre26 t (by
          show Steps p.tables e below (s₁.setTop (mkF m 114 #[.val (.int p0), .val (.int p1), .val (.int p2), .val (.int p3), .val (.int x4_7), .val (.int x5_17), .val (.int x6_26), .val (.int x7_35), .val (.int m49_s0), .val (.int x9_60), .val (.int x10_69), .val (.int x11_78), .val (.int x12_86), .val (.int m97_s0), .val (.int m110_s0), .unset, .unset, .unset, .unset, .unset, .unset, .unset, .unset, .unset, .unset, .unset, .unset, .unset, .unset, .unset, .unset, .unset, .unset] [(.int m49_s0)])) _
          refine XS.ifNo X0.here hx rfl (hb hby at_114) rfl ((if0 _ _).trans (feq hc114).1) ?_
          refine XS.iload X0.here hx rfl (hb hby at_117) rfl ?_
          refine XS.goto X0.here hx rfl (pc0 := 119) (pc' := 126) rfl (hb hby at_119) (by decide) (by decide) ?_
          exact k)
      refine ⟨_, ?_, pre28⟩
      all_goals (first | (simp only [own_m0_126_s0, if_neg hc114]; done) | (simp [own_m0_126_s0, if_neg hc114]; done))
  have pre31 : own_Pre p e below (s₁.setTop (entryFrame m #[(.int p0), (.int p1), (.int p2), (.int p3)] maxLocals)) (s₁.setTop (mkF m 130 #[.val (.int p0), .val (.int p1), .val (.int p2), .val (.int p3), .val (.int x4_7), .val (.int x5_17), .val (.int x6_26), .val (.int x7_35), .val (.int m49_s0), .val (.int x9_60), .val (.int x10_69), .val (.int x11_78), .val (.int x12_86), .val (.int m97_s0), .val (.int m110_s0), .val (.int m126_s0), .unset, .unset, .unset, .unset, .unset, .unset, .unset, .unset, .unset, .unset, .unset, .unset, .unset, .unset, .unset, .unset, .unset] [(.int m49_s0)])) := fun t k => pre25 t (by
      show Steps p.tables e below (s₁.setTop (mkF m 126 #[.val (.int p0), .val (.int p1), .val (.int p2), .val (.int p3), .val (.int x4_7), .val (.int x5_17), .val (.int x6_26), .val (.int x7_35), .val (.int m49_s0), .val (.int x9_60), .val (.int x10_69), .val (.int x11_78), .val (.int x12_86), .val (.int m97_s0), .val (.int m110_s0), .unset, .unset, .unset, .unset, .unset, .unset, .unset, .unset, .unset, .unset, .unset, .unset, .unset, .unset, .unset, .unset, .unset, .unset] [(.int m126_s0)])) _
      refine XS.istore X0.here hx rfl (hb hby at_126) rfl (l' := #[.val (.int p0), .val (.int p1), .val (.int p2), .val (.int p3), .val (.int x4_7), .val (.int x5_17), .val (.int x6_26), .val (.int x7_35), .val (.int m49_s0), .val (.int x9_60), .val (.int x10_69), .val (.int x11_78), .val (.int x12_86), .val (.int m97_s0), .val (.int m110_s0), .val (.int m126_s0), .unset, .unset, .unset, .unset, .unset, .unset, .unset, .unset, .unset, .unset, .unset, .unset, .unset, .unset, .unset, .unset, .unset]) rfl ?_
      refine XS.iload X0.here hx rfl (hb hby at_128) rfl ?_
      exact k)
  obtain ⟨m148_s0, hm148_s0, pre30⟩ : ∃ (m148_s0 : Int32), m148_s0 = (own_m0_148_s0 m49_s0 x9_60 x5_17 x6_26) ∧ own_Pre p e below (s₁.setTop (entryFrame m #[(.int p0), (.int p1), (.int p2), (.int p3)] maxLocals)) (s₁.setTop (mkF m 148 #[.val (.int p0), .val (.int p1), .val (.int p2), .val (.int p3), .val (.int x4_7), .val (.int x5_17), .val (.int x6_26), .val (.int x7_35), .val (.int m49_s0), .val (.int x9_60), .val (.int x10_69), .val (.int x11_78), .val (.int x12_86), .val (.int m97_s0), .val (.int m110_s0), .val (.int m126_s0), .unset, .unset, .unset, .unset, .unset, .unset, .unset, .unset, .unset, .unset, .unset, .unset, .unset, .unset, .unset, .unset, .unset] [(.int m148_s0)])) := by
    by_cases hc130 : m49_s0 = (0 : Int32)
    · have pre32 : own_Pre p e below (s₁.setTop (entryFrame m #[(.int p0), (.int p1), (.int p2), (.int p3)] maxLocals)) (s₁.setTop (mkF m 148 #[.val (.int p0), .val (.int p1), .val (.int p2), .val (.int p3), .val (.int x4_7), .val (.int x5_17), .val (.int x6_26), .val (.int x7_35), .val (.int m49_s0), .val (.int x9_60), .val (.int x10_69), .val (.int x11_78), .val (.int x12_86), .val (.int m97_s0), .val (.int m110_s0), .val (.int m126_s0), .unset, .unset, .unset, .unset, .unset, .unset, .unset, .unset, .unset, .unset, .unset, .unset, .unset, .unset, .unset, .unset, .unset] [(.int ((1 : Int32) + x9_60))])) := fun t k => pre31 t (by
          show Steps p.tables e below (s₁.setTop (mkF m 130 #[.val (.int p0), .val (.int p1), .val (.int p2), .val (.int p3), .val (.int x4_7), .val (.int x5_17), .val (.int x6_26), .val (.int x7_35), .val (.int m49_s0), .val (.int x9_60), .val (.int x10_69), .val (.int x11_78), .val (.int x12_86), .val (.int m97_s0), .val (.int m110_s0), .val (.int m126_s0), .unset, .unset, .unset, .unset, .unset, .unset, .unset, .unset, .unset, .unset, .unset, .unset, .unset, .unset, .unset, .unset, .unset] [(.int m49_s0)])) _
          refine XS.ifYes X0.here hx rfl (pc0 := 130) (pc' := 144) rfl (hb hby at_130) rfl ((if0 _ _).trans (teq hc130).1) (by decide) (by decide) ?_
          refine XS.iconst X0.here hx rfl (hb hby at_144) ?_
          refine XS.iload X0.here hx rfl (hb hby at_145) rfl ?_
          refine XS.iadd X0.here hx rfl (hb hby at_147) rfl ?_
          exact k)
      refine ⟨_, ?_, pre32⟩
      all_goals (first | (simp only [own_m0_148_s0, if_pos hc130]; done) | (simp [own_m0_148_s0, if_pos hc130]; done))
    · have pre33 : own_Pre p e below (s₁.setTop (entryFrame m #[(.int p0), (.int p1), (.int p2), (.int p3)] maxLocals)) (s₁.setTop (mkF m 148 #[.val (.int p0), .val (.int p1), .val (.int p2), .val (.int p3), .val (.int x4_7), .val (.int x5_17), .val (.int x6_26), .val (.int x7_35), .val (.int m49_s0), .val (.int x9_60), .val (.int x10_69), .val (.int x11_78), .val (.int x12_86), .val (.int m97_s0), .val (.int m110_s0), .val (.int m126_s0), .unset, .unset, .unset, .unset, .unset, .unset, .unset, .unset, .unset, .unset, .unset, .unset, .unset, .unset, .unset, .unset, .unset] [(.int ((x5_17 + x6_26) + x9_60))])) := fun t k => pre31 t (by
          show Steps p.tables e below (s₁.setTop (mkF m 130 #[.val (.int p0), .val (.int p1), .val (.int p2), .val (.int p3), .val (.int x4_7), .val (.int x5_17), .val (.int x6_26), .val (.int x7_35), .val (.int m49_s0), .val (.int x9_60), .val (.int x10_69), .val (.int x11_78), .val (.int x12_86), .val (.int m97_s0), .val (.int m110_s0), .val (.int m126_s0), .unset, .unset, .unset, .unset, .unset, .unset, .unset, .unset, .unset, .unset, .unset, .unset, .unset, .unset, .unset, .unset, .unset] [(.int m49_s0)])) _
          refine XS.ifNo X0.here hx rfl (hb hby at_130) rfl ((if0 _ _).trans (feq hc130).1) ?_
          refine XS.iload X0.here hx rfl (hb hby at_133) rfl ?_
          refine XS.iload X0.here hx rfl (hb hby at_135) rfl ?_
          refine XS.iadd X0.here hx rfl (hb hby at_137) rfl ?_
          refine XS.iload X0.here hx rfl (hb hby at_138) rfl ?_
          show Steps p.tables e below (s₁.setTop (mkF m 140 #[.val (.int p0), .val (.int p1), .val (.int p2), .val (.int p3), .val (.int x4_7), .val (.int x5_17), .val (.int x6_26), .val (.int x7_35), .val (.int m49_s0), .val (.int x9_60), .val (.int x10_69), .val (.int x11_78), .val (.int x12_86), .val (.int m97_s0), .val (.int m110_s0), .val (.int m126_s0), .unset, .unset, .unset, .unset, .unset, .unset, .unset, .unset, .unset, .unset, .unset, .unset, .unset, .unset, .unset, .unset, .unset] [(.int x9_60), (.int (x5_17 + x6_26))])) _
          refine XS.iadd X0.here hx rfl (hb hby at_140) rfl ?_
          refine XS.goto X0.here hx rfl (pc0 := 141) (pc' := 148) rfl (hb hby at_141) (by decide) (by decide) ?_
          exact k)
      refine ⟨_, ?_, pre33⟩
      all_goals (first | (simp only [own_m0_148_s0, if_neg hc130]; done) | (simp [own_m0_148_s0, if_neg hc130]; done))
  obtain ⟨x17_157, hx17_157, pre34⟩ : ∃ z : Int32, z = (x7_35 - x6_26) ∧ own_Pre p e below (s₁.setTop (entryFrame m #[(.int p0), (.int p1), (.int p2), (.int p3)] maxLocals)) (s₁.setTop (mkF m 157 #[.val (.int p0), .val (.int p1), .val (.int p2), .val (.int p3), .val (.int x4_7), .val (.int x5_17), .val (.int x6_26), .val (.int x7_35), .val (.int m49_s0), .val (.int x9_60), .val (.int x10_69), .val (.int x11_78), .val (.int x12_86), .val (.int m97_s0), .val (.int m110_s0), .val (.int m126_s0), .val (.int m148_s0), .val (.int z), .unset, .unset, .unset, .unset, .unset, .unset, .unset, .unset, .unset, .unset, .unset, .unset, .unset, .unset, .unset] [])) := ⟨_, rfl, fun t k => pre30 t (by
      show Steps p.tables e below (s₁.setTop (mkF m 148 #[.val (.int p0), .val (.int p1), .val (.int p2), .val (.int p3), .val (.int x4_7), .val (.int x5_17), .val (.int x6_26), .val (.int x7_35), .val (.int m49_s0), .val (.int x9_60), .val (.int x10_69), .val (.int x11_78), .val (.int x12_86), .val (.int m97_s0), .val (.int m110_s0), .val (.int m126_s0), .unset, .unset, .unset, .unset, .unset, .unset, .unset, .unset, .unset, .unset, .unset, .unset, .unset, .unset, .unset, .unset, .unset] [(.int m148_s0)])) _
      refine XS.istore X0.here hx rfl (hb hby at_148) rfl (l' := #[.val (.int p0), .val (.int p1), .val (.int p2), .val (.int p3), .val (.int x4_7), .val (.int x5_17), .val (.int x6_26), .val (.int x7_35), .val (.int m49_s0), .val (.int x9_60), .val (.int x10_69), .val (.int x11_78), .val (.int x12_86), .val (.int m97_s0), .val (.int m110_s0), .val (.int m126_s0), .val (.int m148_s0), .unset, .unset, .unset, .unset, .unset, .unset, .unset, .unset, .unset, .unset, .unset, .unset, .unset, .unset, .unset, .unset]) rfl ?_
      refine XS.iload X0.here hx rfl (hb hby at_150) rfl ?_
      refine XS.iload X0.here hx rfl (hb hby at_152) rfl ?_
      refine XS.isub X0.here hx rfl (hb hby at_154) rfl ?_
      refine XS.istore X0.here hx rfl (hb hby at_155) rfl (l' := #[.val (.int p0), .val (.int p1), .val (.int p2), .val (.int p3), .val (.int x4_7), .val (.int x5_17), .val (.int x6_26), .val (.int x7_35), .val (.int m49_s0), .val (.int x9_60), .val (.int x10_69), .val (.int x11_78), .val (.int x12_86), .val (.int m97_s0), .val (.int m110_s0), .val (.int m126_s0), .val (.int m148_s0), .val (.int (x7_35 - x6_26)), .unset, .unset, .unset, .unset, .unset, .unset, .unset, .unset, .unset, .unset, .unset, .unset, .unset, .unset, .unset]) rfl ?_
      exact k)⟩
  obtain ⟨x18_164, hx18_164, pre35⟩ : ∃ z : Int32, z = (x11_78 - x10_69) ∧ own_Pre p e below (s₁.setTop (entryFrame m #[(.int p0), (.int p1), (.int p2), (.int p3)] maxLocals)) (s₁.setTop (mkF m 164 #[.val (.int p0), .val (.int p1), .val (.int p2), .val (.int p3), .val (.int x4_7), .val (.int x5_17), .val (.int x6_26), .val (.int x7_35), .val (.int m49_s0), .val (.int x9_60), .val (.int x10_69), .val (.int x11_78), .val (.int x12_86), .val (.int m97_s0), .val (.int m110_s0), .val (.int m126_s0), .val (.int m148_s0), .val (.int x17_157), .val (.int z), .unset, .unset, .unset, .unset, .unset, .unset, .unset, .unset, .unset, .unset, .unset, .unset, .unset, .unset] [])) := ⟨_, rfl, fun t k => pre34 t (by
      show Steps p.tables e below (s₁.setTop (mkF m 157 #[.val (.int p0), .val (.int p1), .val (.int p2), .val (.int p3), .val (.int x4_7), .val (.int x5_17), .val (.int x6_26), .val (.int x7_35), .val (.int m49_s0), .val (.int x9_60), .val (.int x10_69), .val (.int x11_78), .val (.int x12_86), .val (.int m97_s0), .val (.int m110_s0), .val (.int m126_s0), .val (.int m148_s0), .val (.int x17_157), .unset, .unset, .unset, .unset, .unset, .unset, .unset, .unset, .unset, .unset, .unset, .unset, .unset, .unset, .unset] [])) _
      refine XS.iload X0.here hx rfl (hb hby at_157) rfl ?_
      refine XS.iload X0.here hx rfl (hb hby at_159) rfl ?_
      refine XS.isub X0.here hx rfl (hb hby at_161) rfl ?_
      refine XS.istore X0.here hx rfl (hb hby at_162) rfl (l' := #[.val (.int p0), .val (.int p1), .val (.int p2), .val (.int p3), .val (.int x4_7), .val (.int x5_17), .val (.int x6_26), .val (.int x7_35), .val (.int m49_s0), .val (.int x9_60), .val (.int x10_69), .val (.int x11_78), .val (.int x12_86), .val (.int m97_s0), .val (.int m110_s0), .val (.int m126_s0), .val (.int m148_s0), .val (.int x17_157), .val (.int (x11_78 - x10_69)), .unset, .unset, .unset, .unset, .unset, .unset, .unset, .unset, .unset, .unset, .unset, .unset, .unset, .unset]) rfl ?_
      exact k)⟩
  obtain ⟨x19_171, hx19_171, pre36⟩ : ∃ z : Int32, z = (x5_17 + x7_35) ∧ own_Pre p e below (s₁.setTop (entryFrame m #[(.int p0), (.int p1), (.int p2), (.int p3)] maxLocals)) (s₁.setTop (mkF m 171 #[.val (.int p0), .val (.int p1), .val (.int p2), .val (.int p3), .val (.int x4_7), .val (.int x5_17), .val (.int x6_26), .val (.int x7_35), .val (.int m49_s0), .val (.int x9_60), .val (.int x10_69), .val (.int x11_78), .val (.int x12_86), .val (.int m97_s0), .val (.int m110_s0), .val (.int m126_s0), .val (.int m148_s0), .val (.int x17_157), .val (.int x18_164), .val (.int z), .unset, .unset, .unset, .unset, .unset, .unset, .unset, .unset, .unset, .unset, .unset, .unset, .unset] [])) := ⟨_, rfl, fun t k => pre35 t (by
      show Steps p.tables e below (s₁.setTop (mkF m 164 #[.val (.int p0), .val (.int p1), .val (.int p2), .val (.int p3), .val (.int x4_7), .val (.int x5_17), .val (.int x6_26), .val (.int x7_35), .val (.int m49_s0), .val (.int x9_60), .val (.int x10_69), .val (.int x11_78), .val (.int x12_86), .val (.int m97_s0), .val (.int m110_s0), .val (.int m126_s0), .val (.int m148_s0), .val (.int x17_157), .val (.int x18_164), .unset, .unset, .unset, .unset, .unset, .unset, .unset, .unset, .unset, .unset, .unset, .unset, .unset, .unset] [])) _
      refine XS.iload X0.here hx rfl (hb hby at_164) rfl ?_
      refine XS.iload X0.here hx rfl (hb hby at_166) rfl ?_
      refine XS.iadd X0.here hx rfl (hb hby at_168) rfl ?_
      refine XS.istore X0.here hx rfl (hb hby at_169) rfl (l' := #[.val (.int p0), .val (.int p1), .val (.int p2), .val (.int p3), .val (.int x4_7), .val (.int x5_17), .val (.int x6_26), .val (.int x7_35), .val (.int m49_s0), .val (.int x9_60), .val (.int x10_69), .val (.int x11_78), .val (.int x12_86), .val (.int m97_s0), .val (.int m110_s0), .val (.int m126_s0), .val (.int m148_s0), .val (.int x17_157), .val (.int x18_164), .val (.int (x5_17 + x7_35)), .unset, .unset, .unset, .unset, .unset, .unset, .unset, .unset, .unset, .unset, .unset, .unset, .unset]) rfl ?_
      exact k)⟩
  have pre39 : own_Pre p e below (s₁.setTop (entryFrame m #[(.int p0), (.int p1), (.int p2), (.int p3)] maxLocals)) (s₁.setTop (mkF m 173 #[.val (.int p0), .val (.int p1), .val (.int p2), .val (.int p3), .val (.int x4_7), .val (.int x5_17), .val (.int x6_26), .val (.int x7_35), .val (.int m49_s0), .val (.int x9_60), .val (.int x10_69), .val (.int x11_78), .val (.int x12_86), .val (.int m97_s0), .val (.int m110_s0), .val (.int m126_s0), .val (.int m148_s0), .val (.int x17_157), .val (.int x18_164), .val (.int x19_171), .unset, .unset, .unset, .unset, .unset, .unset, .unset, .unset, .unset, .unset, .unset, .unset, .unset] [(.int m49_s0)])) := fun t k => pre36 t (by
      show Steps p.tables e below (s₁.setTop (mkF m 171 #[.val (.int p0), .val (.int p1), .val (.int p2), .val (.int p3), .val (.int x4_7), .val (.int x5_17), .val (.int x6_26), .val (.int x7_35), .val (.int m49_s0), .val (.int x9_60), .val (.int x10_69), .val (.int x11_78), .val (.int x12_86), .val (.int m97_s0), .val (.int m110_s0), .val (.int m126_s0), .val (.int m148_s0), .val (.int x17_157), .val (.int x18_164), .val (.int x19_171), .unset, .unset, .unset, .unset, .unset, .unset, .unset, .unset, .unset, .unset, .unset, .unset, .unset] [])) _
      refine XS.iload X0.here hx rfl (hb hby at_171) rfl ?_
      exact k)
  obtain ⟨m192_s0, hm192_s0, pre38⟩ : ∃ (m192_s0 : Int32), m192_s0 = (own_m0_192_s0 m49_s0 m148_s0 x11_78 x17_157) ∧ own_Pre p e below (s₁.setTop (entryFrame m #[(.int p0), (.int p1), (.int p2), (.int p3)] maxLocals)) (s₁.setTop (mkF m 192 #[.val (.int p0), .val (.int p1), .val (.int p2), .val (.int p3), .val (.int x4_7), .val (.int x5_17), .val (.int x6_26), .val (.int x7_35), .val (.int m49_s0), .val (.int x9_60), .val (.int x10_69), .val (.int x11_78), .val (.int x12_86), .val (.int m97_s0), .val (.int m110_s0), .val (.int m126_s0), .val (.int m148_s0), .val (.int x17_157), .val (.int x18_164), .val (.int x19_171), .unset, .unset, .unset, .unset, .unset, .unset, .unset, .unset, .unset, .unset, .unset, .unset, .unset] [(.int m192_s0)])) := by
    by_cases hc173 : m49_s0 = (0 : Int32)
    · have pre40 : own_Pre p e below (s₁.setTop (entryFrame m #[(.int p0), (.int p1), (.int p2), (.int p3)] maxLocals)) (s₁.setTop (mkF m 192 #[.val (.int p0), .val (.int p1), .val (.int p2), .val (.int p3), .val (.int x4_7), .val (.int x5_17), .val (.int x6_26), .val (.int x7_35), .val (.int m49_s0), .val (.int x9_60), .val (.int x10_69), .val (.int x11_78), .val (.int x12_86), .val (.int m97_s0), .val (.int m110_s0), .val (.int m126_s0), .val (.int m148_s0), .val (.int x17_157), .val (.int x18_164), .val (.int x19_171), .unset, .unset, .unset, .unset, .unset, .unset, .unset, .unset, .unset, .unset, .unset, .unset, .unset] [(.int (m148_s0 + x11_78))])) := fun t k => pre39 t (by
          show Steps p.tables e below (s₁.setTop (mkF m 173 #[.val (.int p0), .val (.int p1), .val (.int p2), .val (.int p3), .val (.int x4_7), .val (.int x5_17), .val (.int x6_26), .val (.int x7_35), .val (.int m49_s0), .val (.int x9_60), .val (.int x10_69), .val (.int x11_78), .val (.int x12_86), .val (.int m97_s0), .val (.int m110_s0), .val (.int m126_s0), .val (.int m148_s0), .val (.int x17_157), .val (.int x18_164), .val (.int x19_171), .unset, .unset, .unset, .unset, .unset, .unset, .unset, .unset, .unset, .unset, .unset, .unset, .unset] [(.int m49_s0)])) _
          refine XS.ifYes X0.here hx rfl (pc0 := 173) (pc' := 187) rfl (hb hby at_173) rfl ((if0 _ _).trans (teq hc173).1) (by decide) (by decide) ?_
          refine XS.iload X0.here hx rfl (hb hby at_187) rfl ?_
          refine XS.iload X0.here hx rfl (hb hby at_189) rfl ?_
          refine XS.iadd X0.here hx rfl (hb hby at_191) rfl ?_
          exact k)
      refine ⟨_, ?_, pre40⟩
      all_goals (first | (simp only [own_m0_192_s0, if_pos hc173]; done) | (simp [own_m0_192_s0, if_pos hc173]; done))
    · have pre41 : own_Pre p e below (s₁.setTop (entryFrame m #[(.int p0), (.int p1), (.int p2), (.int p3)] maxLocals)) (s₁.setTop (mkF m 192 #[.val (.int p0), .val (.int p1), .val (.int p2), .val (.int p3), .val (.int x4_7), .val (.int x5_17), .val (.int x6_26), .val (.int x7_35), .val (.int m49_s0), .val (.int x9_60), .val (.int x10_69), .val (.int x11_78), .val (.int x12_86), .val (.int m97_s0), .val (.int m110_s0), .val (.int m126_s0), .val (.int m148_s0), .val (.int x17_157), .val (.int x18_164), .val (.int x19_171), .unset, .unset, .unset, .unset, .unset, .unset, .unset, .unset, .unset, .unset, .unset, .unset, .unset] [(.int ((m148_s0 + x17_157) + x11_78))])) := fun t k => pre39 t (by
          show Steps p.tables e below (s₁.setTop (mkF m 173 #[.val (.int p0), .val (.int p1), .val (.int p2), .val (.int p3), .val (.int x4_7), .val (.int x5_17), .val (.int x6_26), .val (.int x7_35), .val (.int m49_s0), .val (.int x9_60), .val (.int x10_69), .val (.int x11_78), .val (.int x12_86), .val (.int m97_s0), .val (.int m110_s0), .val (.int m126_s0), .val (.int m148_s0), .val (.int x17_157), .val (.int x18_164), .val (.int x19_171), .unset, .unset, .unset, .unset, .unset, .unset, .unset, .unset, .unset, .unset, .unset, .unset, .unset] [(.int m49_s0)])) _
          refine XS.ifNo X0.here hx rfl (hb hby at_173) rfl ((if0 _ _).trans (feq hc173).1) ?_
          refine XS.iload X0.here hx rfl (hb hby at_176) rfl ?_
          refine XS.iload X0.here hx rfl (hb hby at_178) rfl ?_
          refine XS.iadd X0.here hx rfl (hb hby at_180) rfl ?_
          refine XS.iload X0.here hx rfl (hb hby at_181) rfl ?_
          show Steps p.tables e below (s₁.setTop (mkF m 183 #[.val (.int p0), .val (.int p1), .val (.int p2), .val (.int p3), .val (.int x4_7), .val (.int x5_17), .val (.int x6_26), .val (.int x7_35), .val (.int m49_s0), .val (.int x9_60), .val (.int x10_69), .val (.int x11_78), .val (.int x12_86), .val (.int m97_s0), .val (.int m110_s0), .val (.int m126_s0), .val (.int m148_s0), .val (.int x17_157), .val (.int x18_164), .val (.int x19_171), .unset, .unset, .unset, .unset, .unset, .unset, .unset, .unset, .unset, .unset, .unset, .unset, .unset] [(.int x11_78), (.int (m148_s0 + x17_157))])) _
          refine XS.iadd X0.here hx rfl (hb hby at_183) rfl ?_
          refine XS.goto X0.here hx rfl (pc0 := 184) (pc' := 192) rfl (hb hby at_184) (by decide) (by decide) ?_
          exact k)
      refine ⟨_, ?_, pre41⟩
      all_goals (first | (simp only [own_m0_192_s0, if_neg hc173]; done) | (simp [own_m0_192_s0, if_neg hc173]; done))
  obtain ⟨x21_202, hx21_202, pre42⟩ : ∃ z : Int32, z = ((p1 &&& (7 : Int32)) - (1 : Int32)) ∧ own_Pre p e below (s₁.setTop (entryFrame m #[(.int p0), (.int p1), (.int p2), (.int p3)] maxLocals)) (s₁.setTop (mkF m 202 #[.val (.int p0), .val (.int p1), .val (.int p2), .val (.int p3), .val (.int x4_7), .val (.int x5_17), .val (.int x6_26), .val (.int x7_35), .val (.int m49_s0), .val (.int x9_60), .val (.int x10_69), .val (.int x11_78), .val (.int x12_86), .val (.int m97_s0), .val (.int m110_s0), .val (.int m126_s0), .val (.int m148_s0), .val (.int x17_157), .val (.int x18_164), .val (.int x19_171), .val (.int m192_s0), .val (.int z), .unset, .unset, .unset, .unset, .unset, .unset, .unset, .unset, .unset, .unset, .unset] [])) := ⟨_, rfl, fun t k => pre38 t (by
      show Steps p.tables e below (s₁.setTop (mkF m 192 #[.val (.int p0), .val (.int p1), .val (.int p2), .val (.int p3), .val (.int x4_7), .val (.int x5_17), .val (.int x6_26), .val (.int x7_35), .val (.int m49_s0), .val (.int x9_60), .val (.int x10_69), .val (.int x11_78), .val (.int x12_86), .val (.int m97_s0), .val (.int m110_s0), .val (.int m126_s0), .val (.int m148_s0), .val (.int x17_157), .val (.int x18_164), .val (.int x19_171), .unset, .unset, .unset, .unset, .unset, .unset, .unset, .unset, .unset, .unset, .unset, .unset, .unset] [(.int m192_s0)])) _
      refine XS.istore X0.here hx rfl (hb hby at_192) rfl (l' := #[.val (.int p0), .val (.int p1), .val (.int p2), .val (.int p3), .val (.int x4_7), .val (.int x5_17), .val (.int x6_26), .val (.int x7_35), .val (.int m49_s0), .val (.int x9_60), .val (.int x10_69), .val (.int x11_78), .val (.int x12_86), .val (.int m97_s0), .val (.int m110_s0), .val (.int m126_s0), .val (.int m148_s0), .val (.int x17_157), .val (.int x18_164), .val (.int x19_171), .val (.int m192_s0), .unset, .unset, .unset, .unset, .unset, .unset, .unset, .unset, .unset, .unset, .unset, .unset]) rfl ?_
      refine XS.iloadN X0.here hx rfl (hb hby at_194) rfl ?_
      refine XS.bipush X0.here hx rfl (hb hby at_195) ?_
      refine XS.iand X0.here hx rfl (hb hby at_197) rfl ?_
      refine XS.iconst X0.here hx rfl (hb hby at_198) ?_
      show Steps p.tables e below (s₁.setTop (mkF m 199 #[.val (.int p0), .val (.int p1), .val (.int p2), .val (.int p3), .val (.int x4_7), .val (.int x5_17), .val (.int x6_26), .val (.int x7_35), .val (.int m49_s0), .val (.int x9_60), .val (.int x10_69), .val (.int x11_78), .val (.int x12_86), .val (.int m97_s0), .val (.int m110_s0), .val (.int m126_s0), .val (.int m148_s0), .val (.int x17_157), .val (.int x18_164), .val (.int x19_171), .val (.int m192_s0), .unset, .unset, .unset, .unset, .unset, .unset, .unset, .unset, .unset, .unset, .unset, .unset] [(.int (1 : Int32)), (.int (p1 &&& (7 : Int32)))])) _
      refine XS.isub X0.here hx rfl (hb hby at_199) rfl ?_
      refine XS.istore X0.here hx rfl (hb hby at_200) rfl (l' := #[.val (.int p0), .val (.int p1), .val (.int p2), .val (.int p3), .val (.int x4_7), .val (.int x5_17), .val (.int x6_26), .val (.int x7_35), .val (.int m49_s0), .val (.int x9_60), .val (.int x10_69), .val (.int x11_78), .val (.int x12_86), .val (.int m97_s0), .val (.int m110_s0), .val (.int m126_s0), .val (.int m148_s0), .val (.int x17_157), .val (.int x18_164), .val (.int x19_171), .val (.int m192_s0), .val (.int ((p1 &&& (7 : Int32)) - (1 : Int32))), .unset, .unset, .unset, .unset, .unset, .unset, .unset, .unset, .unset, .unset, .unset]) rfl ?_
      exact k)⟩
  obtain ⟨x22_209, hx22_209, pre43⟩ : ∃ z : Int32, z = (((p1).toUInt32 >>> ((3 : Int32) &&& 31).toUInt32).toInt32 &&& (3 : Int32)) ∧ own_Pre p e below (s₁.setTop (entryFrame m #[(.int p0), (.int p1), (.int p2), (.int p3)] maxLocals)) (s₁.setTop (mkF m 209 #[.val (.int p0), .val (.int p1), .val (.int p2), .val (.int p3), .val (.int x4_7), .val (.int x5_17), .val (.int x6_26), .val (.int x7_35), .val (.int m49_s0), .val (.int x9_60), .val (.int x10_69), .val (.int x11_78), .val (.int x12_86), .val (.int m97_s0), .val (.int m110_s0), .val (.int m126_s0), .val (.int m148_s0), .val (.int x17_157), .val (.int x18_164), .val (.int x19_171), .val (.int m192_s0), .val (.int x21_202), .val (.int z), .unset, .unset, .unset, .unset, .unset, .unset, .unset, .unset, .unset, .unset] [])) := ⟨_, rfl, fun t k => pre42 t (by
      show Steps p.tables e below (s₁.setTop (mkF m 202 #[.val (.int p0), .val (.int p1), .val (.int p2), .val (.int p3), .val (.int x4_7), .val (.int x5_17), .val (.int x6_26), .val (.int x7_35), .val (.int m49_s0), .val (.int x9_60), .val (.int x10_69), .val (.int x11_78), .val (.int x12_86), .val (.int m97_s0), .val (.int m110_s0), .val (.int m126_s0), .val (.int m148_s0), .val (.int x17_157), .val (.int x18_164), .val (.int x19_171), .val (.int m192_s0), .val (.int x21_202), .unset, .unset, .unset, .unset, .unset, .unset, .unset, .unset, .unset, .unset, .unset] [])) _
      refine XS.iloadN X0.here hx rfl (hb hby at_202) rfl ?_
      refine XS.iconst X0.here hx rfl (hb hby at_203) ?_
      refine XS.iushr X0.here hx rfl (hb hby at_204) rfl ?_
      refine XS.iconst X0.here hx rfl (hb hby at_205) ?_
      refine XS.iand X0.here hx rfl (hb hby at_206) rfl ?_
      show Steps p.tables e below (s₁.setTop (mkF m 207 #[.val (.int p0), .val (.int p1), .val (.int p2), .val (.int p3), .val (.int x4_7), .val (.int x5_17), .val (.int x6_26), .val (.int x7_35), .val (.int m49_s0), .val (.int x9_60), .val (.int x10_69), .val (.int x11_78), .val (.int x12_86), .val (.int m97_s0), .val (.int m110_s0), .val (.int m126_s0), .val (.int m148_s0), .val (.int x17_157), .val (.int x18_164), .val (.int x19_171), .val (.int m192_s0), .val (.int x21_202), .unset, .unset, .unset, .unset, .unset, .unset, .unset, .unset, .unset, .unset, .unset] [(.int (((p1).toUInt32 >>> ((3 : Int32) &&& 31).toUInt32).toInt32 &&& (3 : Int32)))])) _
      refine XS.istore X0.here hx rfl (hb hby at_207) rfl (l' := #[.val (.int p0), .val (.int p1), .val (.int p2), .val (.int p3), .val (.int x4_7), .val (.int x5_17), .val (.int x6_26), .val (.int x7_35), .val (.int m49_s0), .val (.int x9_60), .val (.int x10_69), .val (.int x11_78), .val (.int x12_86), .val (.int m97_s0), .val (.int m110_s0), .val (.int m126_s0), .val (.int m148_s0), .val (.int x17_157), .val (.int x18_164), .val (.int x19_171), .val (.int m192_s0), .val (.int x21_202), .val (.int (((p1).toUInt32 >>> ((3 : Int32) &&& 31).toUInt32).toInt32 &&& (3 : Int32))), .unset, .unset, .unset, .unset, .unset, .unset, .unset, .unset, .unset, .unset]) rfl ?_
      exact k)⟩
  obtain ⟨x23_216, hx23_216, pre44⟩ : ∃ z : Int32, z = (x21_202 + x22_209) ∧ own_Pre p e below (s₁.setTop (entryFrame m #[(.int p0), (.int p1), (.int p2), (.int p3)] maxLocals)) (s₁.setTop (mkF m 216 #[.val (.int p0), .val (.int p1), .val (.int p2), .val (.int p3), .val (.int x4_7), .val (.int x5_17), .val (.int x6_26), .val (.int x7_35), .val (.int m49_s0), .val (.int x9_60), .val (.int x10_69), .val (.int x11_78), .val (.int x12_86), .val (.int m97_s0), .val (.int m110_s0), .val (.int m126_s0), .val (.int m148_s0), .val (.int x17_157), .val (.int x18_164), .val (.int x19_171), .val (.int m192_s0), .val (.int x21_202), .val (.int x22_209), .val (.int z), .unset, .unset, .unset, .unset, .unset, .unset, .unset, .unset, .unset] [])) := ⟨_, rfl, fun t k => pre43 t (by
      show Steps p.tables e below (s₁.setTop (mkF m 209 #[.val (.int p0), .val (.int p1), .val (.int p2), .val (.int p3), .val (.int x4_7), .val (.int x5_17), .val (.int x6_26), .val (.int x7_35), .val (.int m49_s0), .val (.int x9_60), .val (.int x10_69), .val (.int x11_78), .val (.int x12_86), .val (.int m97_s0), .val (.int m110_s0), .val (.int m126_s0), .val (.int m148_s0), .val (.int x17_157), .val (.int x18_164), .val (.int x19_171), .val (.int m192_s0), .val (.int x21_202), .val (.int x22_209), .unset, .unset, .unset, .unset, .unset, .unset, .unset, .unset, .unset, .unset] [])) _
      refine XS.iload X0.here hx rfl (hb hby at_209) rfl ?_
      refine XS.iload X0.here hx rfl (hb hby at_211) rfl ?_
      refine XS.iadd X0.here hx rfl (hb hby at_213) rfl ?_
      refine XS.istore X0.here hx rfl (hb hby at_214) rfl (l' := #[.val (.int p0), .val (.int p1), .val (.int p2), .val (.int p3), .val (.int x4_7), .val (.int x5_17), .val (.int x6_26), .val (.int x7_35), .val (.int m49_s0), .val (.int x9_60), .val (.int x10_69), .val (.int x11_78), .val (.int x12_86), .val (.int m97_s0), .val (.int m110_s0), .val (.int m126_s0), .val (.int m148_s0), .val (.int x17_157), .val (.int x18_164), .val (.int x19_171), .val (.int m192_s0), .val (.int x21_202), .val (.int x22_209), .val (.int (x21_202 + x22_209)), .unset, .unset, .unset, .unset, .unset, .unset, .unset, .unset, .unset]) rfl ?_
      exact k)⟩
  have pre47 : own_Pre p e below (s₁.setTop (entryFrame m #[(.int p0), (.int p1), (.int p2), (.int p3)] maxLocals)) (s₁.setTop (mkF m 221 #[.val (.int p0), .val (.int p1), .val (.int p2), .val (.int p3), .val (.int x4_7), .val (.int x5_17), .val (.int x6_26), .val (.int x7_35), .val (.int m49_s0), .val (.int x9_60), .val (.int x10_69), .val (.int x11_78), .val (.int x12_86), .val (.int m97_s0), .val (.int m110_s0), .val (.int m126_s0), .val (.int m148_s0), .val (.int x17_157), .val (.int x18_164), .val (.int x19_171), .val (.int m192_s0), .val (.int x21_202), .val (.int x22_209), .val (.int x23_216), .unset, .unset, .unset, .unset, .unset, .unset, .unset, .unset, .unset] [(.int (((p1).toUInt32 >>> ((5 : Int32) &&& 31).toUInt32).toInt32 &&& (1 : Int32)))])) := fun t k => pre44 t (by
      show Steps p.tables e below (s₁.setTop (mkF m 216 #[.val (.int p0), .val (.int p1), .val (.int p2), .val (.int p3), .val (.int x4_7), .val (.int x5_17), .val (.int x6_26), .val (.int x7_35), .val (.int m49_s0), .val (.int x9_60), .val (.int x10_69), .val (.int x11_78), .val (.int x12_86), .val (.int m97_s0), .val (.int m110_s0), .val (.int m126_s0), .val (.int m148_s0), .val (.int x17_157), .val (.int x18_164), .val (.int x19_171), .val (.int m192_s0), .val (.int x21_202), .val (.int x22_209), .val (.int x23_216), .unset, .unset, .unset, .unset, .unset, .unset, .unset, .unset, .unset] [])) _
      refine XS.iloadN X0.here hx rfl (hb hby at_216) rfl ?_
      refine XS.iconst X0.here hx rfl (hb hby at_217) ?_
      refine XS.iushr X0.here hx rfl (hb hby at_218) rfl ?_
      refine XS.iconst X0.here hx rfl (hb hby at_219) ?_
      refine XS.iand X0.here hx rfl (hb hby at_220) rfl ?_
      exact k)
  obtain ⟨m235_s0, hm235_s0, pre46⟩ : ∃ (m235_s0 : Int32), m235_s0 = (own_m0_235_s0 p1 p2) ∧ own_Pre p e below (s₁.setTop (entryFrame m #[(.int p0), (.int p1), (.int p2), (.int p3)] maxLocals)) (s₁.setTop (mkF m 235 #[.val (.int p0), .val (.int p1), .val (.int p2), .val (.int p3), .val (.int x4_7), .val (.int x5_17), .val (.int x6_26), .val (.int x7_35), .val (.int m49_s0), .val (.int x9_60), .val (.int x10_69), .val (.int x11_78), .val (.int x12_86), .val (.int m97_s0), .val (.int m110_s0), .val (.int m126_s0), .val (.int m148_s0), .val (.int x17_157), .val (.int x18_164), .val (.int x19_171), .val (.int m192_s0), .val (.int x21_202), .val (.int x22_209), .val (.int x23_216), .unset, .unset, .unset, .unset, .unset, .unset, .unset, .unset, .unset] [(.int m235_s0)])) := by
    by_cases hc221 : (((p1).toUInt32 >>> ((5 : Int32) &&& 31).toUInt32).toInt32 &&& (1 : Int32)) = (0 : Int32)
    · have pre48 : own_Pre p e below (s₁.setTop (entryFrame m #[(.int p0), (.int p1), (.int p2), (.int p3)] maxLocals)) (s₁.setTop (mkF m 235 #[.val (.int p0), .val (.int p1), .val (.int p2), .val (.int p3), .val (.int x4_7), .val (.int x5_17), .val (.int x6_26), .val (.int x7_35), .val (.int m49_s0), .val (.int x9_60), .val (.int x10_69), .val (.int x11_78), .val (.int x12_86), .val (.int m97_s0), .val (.int m110_s0), .val (.int m126_s0), .val (.int m148_s0), .val (.int x17_157), .val (.int x18_164), .val (.int x19_171), .val (.int m192_s0), .val (.int x21_202), .val (.int x22_209), .val (.int x23_216), .unset, .unset, .unset, .unset, .unset, .unset, .unset, .unset, .unset] [(.int p2)])) := fun t k => pre47 t (by
          show Steps p.tables e below (s₁.setTop (mkF m 221 #[.val (.int p0), .val (.int p1), .val (.int p2), .val (.int p3), .val (.int x4_7), .val (.int x5_17), .val (.int x6_26), .val (.int x7_35), .val (.int m49_s0), .val (.int x9_60), .val (.int x10_69), .val (.int x11_78), .val (.int x12_86), .val (.int m97_s0), .val (.int m110_s0), .val (.int m126_s0), .val (.int m148_s0), .val (.int x17_157), .val (.int x18_164), .val (.int x19_171), .val (.int m192_s0), .val (.int x21_202), .val (.int x22_209), .val (.int x23_216), .unset, .unset, .unset, .unset, .unset, .unset, .unset, .unset, .unset] [(.int (((p1).toUInt32 >>> ((5 : Int32) &&& 31).toUInt32).toInt32 &&& (1 : Int32)))])) _
          refine XS.ifYes X0.here hx rfl (pc0 := 221) (pc' := 234) rfl (hb hby at_221) rfl ((if0 _ _).trans (teq hc221).1) (by decide) (by decide) ?_
          refine XS.iloadN X0.here hx rfl (hb hby at_234) rfl ?_
          exact k)
      refine ⟨_, ?_, pre48⟩
      all_goals (first | (simp only [own_m0_235_s0, if_pos hc221]; done) | (simp [own_m0_235_s0, if_pos hc221]; done))
    · have pre49 : own_Pre p e below (s₁.setTop (entryFrame m #[(.int p0), (.int p1), (.int p2), (.int p3)] maxLocals)) (s₁.setTop (mkF m 235 #[.val (.int p0), .val (.int p1), .val (.int p2), .val (.int p3), .val (.int x4_7), .val (.int x5_17), .val (.int x6_26), .val (.int x7_35), .val (.int m49_s0), .val (.int x9_60), .val (.int x10_69), .val (.int x11_78), .val (.int x12_86), .val (.int m97_s0), .val (.int m110_s0), .val (.int m126_s0), .val (.int m148_s0), .val (.int x17_157), .val (.int x18_164), .val (.int x19_171), .val (.int m192_s0), .val (.int x21_202), .val (.int x22_209), .val (.int x23_216), .unset, .unset, .unset, .unset, .unset, .unset, .unset, .unset, .unset] [(.int ((p2 &&& (63 : Int32)) - (8 : Int32)))])) := fun t k => pre47 t (by
          show Steps p.tables e below (s₁.setTop (mkF m 221 #[.val (.int p0), .val (.int p1), .val (.int p2), .val (.int p3), .val (.int x4_7), .val (.int x5_17), .val (.int x6_26), .val (.int x7_35), .val (.int m49_s0), .val (.int x9_60), .val (.int x10_69), .val (.int x11_78), .val (.int x12_86), .val (.int m97_s0), .val (.int m110_s0), .val (.int m126_s0), .val (.int m148_s0), .val (.int x17_157), .val (.int x18_164), .val (.int x19_171), .val (.int m192_s0), .val (.int x21_202), .val (.int x22_209), .val (.int x23_216), .unset, .unset, .unset, .unset, .unset, .unset, .unset, .unset, .unset] [(.int (((p1).toUInt32 >>> ((5 : Int32) &&& 31).toUInt32).toInt32 &&& (1 : Int32)))])) _
          refine XS.ifNo X0.here hx rfl (hb hby at_221) rfl ((if0 _ _).trans (feq hc221).1) ?_
          refine XS.iloadN X0.here hx rfl (hb hby at_224) rfl ?_
          refine XS.bipush X0.here hx rfl (hb hby at_225) ?_
          refine XS.iand X0.here hx rfl (hb hby at_227) rfl ?_
          refine XS.bipush X0.here hx rfl (hb hby at_228) ?_
          show Steps p.tables e below (s₁.setTop (mkF m 230 #[.val (.int p0), .val (.int p1), .val (.int p2), .val (.int p3), .val (.int x4_7), .val (.int x5_17), .val (.int x6_26), .val (.int x7_35), .val (.int m49_s0), .val (.int x9_60), .val (.int x10_69), .val (.int x11_78), .val (.int x12_86), .val (.int m97_s0), .val (.int m110_s0), .val (.int m126_s0), .val (.int m148_s0), .val (.int x17_157), .val (.int x18_164), .val (.int x19_171), .val (.int m192_s0), .val (.int x21_202), .val (.int x22_209), .val (.int x23_216), .unset, .unset, .unset, .unset, .unset, .unset, .unset, .unset, .unset] [(.int (8 : Int32)), (.int (p2 &&& (63 : Int32)))])) _
          refine XS.isub X0.here hx rfl (hb hby at_230) rfl ?_
          refine XS.goto X0.here hx rfl (pc0 := 231) (pc' := 235) rfl (hb hby at_231) (by decide) (by decide) ?_
          exact k)
      refine ⟨_, ?_, pre49⟩
      all_goals (first | (simp only [own_m0_235_s0, if_neg hc221]; done) | (simp [own_m0_235_s0, if_neg hc221]; done))
  have pre52 : own_Pre p e below (s₁.setTop (entryFrame m #[(.int p0), (.int p1), (.int p2), (.int p3)] maxLocals)) (s₁.setTop (mkF m 243 #[.val (.int p0), .val (.int p1), .val (.int p2), .val (.int p3), .val (.int x4_7), .val (.int x5_17), .val (.int x6_26), .val (.int x7_35), .val (.int m49_s0), .val (.int x9_60), .val (.int x10_69), .val (.int x11_78), .val (.int x12_86), .val (.int m97_s0), .val (.int m110_s0), .val (.int m126_s0), .val (.int m148_s0), .val (.int x17_157), .val (.int x18_164), .val (.int x19_171), .val (.int m192_s0), .val (.int x21_202), .val (.int x22_209), .val (.int x23_216), .val (.int m235_s0), .unset, .unset, .unset, .unset, .unset, .unset, .unset, .unset] [(.int (((p1).toUInt32 >>> ((6 : Int32) &&& 31).toUInt32).toInt32 &&& (1 : Int32)))])) := fun t k => pre46 t (by
      show Steps p.tables e below (s₁.setTop (mkF m 235 #[.val (.int p0), .val (.int p1), .val (.int p2), .val (.int p3), .val (.int x4_7), .val (.int x5_17), .val (.int x6_26), .val (.int x7_35), .val (.int m49_s0), .val (.int x9_60), .val (.int x10_69), .val (.int x11_78), .val (.int x12_86), .val (.int m97_s0), .val (.int m110_s0), .val (.int m126_s0), .val (.int m148_s0), .val (.int x17_157), .val (.int x18_164), .val (.int x19_171), .val (.int m192_s0), .val (.int x21_202), .val (.int x22_209), .val (.int x23_216), .unset, .unset, .unset, .unset, .unset, .unset, .unset, .unset, .unset] [(.int m235_s0)])) _
      refine XS.istore X0.here hx rfl (hb hby at_235) rfl (l' := #[.val (.int p0), .val (.int p1), .val (.int p2), .val (.int p3), .val (.int x4_7), .val (.int x5_17), .val (.int x6_26), .val (.int x7_35), .val (.int m49_s0), .val (.int x9_60), .val (.int x10_69), .val (.int x11_78), .val (.int x12_86), .val (.int m97_s0), .val (.int m110_s0), .val (.int m126_s0), .val (.int m148_s0), .val (.int x17_157), .val (.int x18_164), .val (.int x19_171), .val (.int m192_s0), .val (.int x21_202), .val (.int x22_209), .val (.int x23_216), .val (.int m235_s0), .unset, .unset, .unset, .unset, .unset, .unset, .unset, .unset]) rfl ?_
      refine XS.iloadN X0.here hx rfl (hb hby at_237) rfl ?_
      refine XS.bipush X0.here hx rfl (hb hby at_238) ?_
      refine XS.iushr X0.here hx rfl (hb hby at_240) rfl ?_
      refine XS.iconst X0.here hx rfl (hb hby at_241) ?_
      show Steps p.tables e below (s₁.setTop (mkF m 242 #[.val (.int p0), .val (.int p1), .val (.int p2), .val (.int p3), .val (.int x4_7), .val (.int x5_17), .val (.int x6_26), .val (.int x7_35), .val (.int m49_s0), .val (.int x9_60), .val (.int x10_69), .val (.int x11_78), .val (.int x12_86), .val (.int m97_s0), .val (.int m110_s0), .val (.int m126_s0), .val (.int m148_s0), .val (.int x17_157), .val (.int x18_164), .val (.int x19_171), .val (.int m192_s0), .val (.int x21_202), .val (.int x22_209), .val (.int x23_216), .val (.int m235_s0), .unset, .unset, .unset, .unset, .unset, .unset, .unset, .unset] [(.int (1 : Int32)), (.int ((p1).toUInt32 >>> ((6 : Int32) &&& 31).toUInt32).toInt32)])) _
      refine XS.iand X0.here hx rfl (hb hby at_242) rfl ?_
      exact k)
  obtain ⟨m257_s0, hm257_s0, pre51⟩ : ∃ (m257_s0 : Int32), m257_s0 = (own_m0_257_s0 p1 p3) ∧ own_Pre p e below (s₁.setTop (entryFrame m #[(.int p0), (.int p1), (.int p2), (.int p3)] maxLocals)) (s₁.setTop (mkF m 257 #[.val (.int p0), .val (.int p1), .val (.int p2), .val (.int p3), .val (.int x4_7), .val (.int x5_17), .val (.int x6_26), .val (.int x7_35), .val (.int m49_s0), .val (.int x9_60), .val (.int x10_69), .val (.int x11_78), .val (.int x12_86), .val (.int m97_s0), .val (.int m110_s0), .val (.int m126_s0), .val (.int m148_s0), .val (.int x17_157), .val (.int x18_164), .val (.int x19_171), .val (.int m192_s0), .val (.int x21_202), .val (.int x22_209), .val (.int x23_216), .val (.int m235_s0), .unset, .unset, .unset, .unset, .unset, .unset, .unset, .unset] [(.int m257_s0)])) := by
    by_cases hc243 : (((p1).toUInt32 >>> ((6 : Int32) &&& 31).toUInt32).toInt32 &&& (1 : Int32)) = (0 : Int32)
    · have pre53 : own_Pre p e below (s₁.setTop (entryFrame m #[(.int p0), (.int p1), (.int p2), (.int p3)] maxLocals)) (s₁.setTop (mkF m 257 #[.val (.int p0), .val (.int p1), .val (.int p2), .val (.int p3), .val (.int x4_7), .val (.int x5_17), .val (.int x6_26), .val (.int x7_35), .val (.int m49_s0), .val (.int x9_60), .val (.int x10_69), .val (.int x11_78), .val (.int x12_86), .val (.int m97_s0), .val (.int m110_s0), .val (.int m126_s0), .val (.int m148_s0), .val (.int x17_157), .val (.int x18_164), .val (.int x19_171), .val (.int m192_s0), .val (.int x21_202), .val (.int x22_209), .val (.int x23_216), .val (.int m235_s0), .unset, .unset, .unset, .unset, .unset, .unset, .unset, .unset] [(.int p3)])) := fun t k => pre52 t (by
          show Steps p.tables e below (s₁.setTop (mkF m 243 #[.val (.int p0), .val (.int p1), .val (.int p2), .val (.int p3), .val (.int x4_7), .val (.int x5_17), .val (.int x6_26), .val (.int x7_35), .val (.int m49_s0), .val (.int x9_60), .val (.int x10_69), .val (.int x11_78), .val (.int x12_86), .val (.int m97_s0), .val (.int m110_s0), .val (.int m126_s0), .val (.int m148_s0), .val (.int x17_157), .val (.int x18_164), .val (.int x19_171), .val (.int m192_s0), .val (.int x21_202), .val (.int x22_209), .val (.int x23_216), .val (.int m235_s0), .unset, .unset, .unset, .unset, .unset, .unset, .unset, .unset] [(.int (((p1).toUInt32 >>> ((6 : Int32) &&& 31).toUInt32).toInt32 &&& (1 : Int32)))])) _
          refine XS.ifYes X0.here hx rfl (pc0 := 243) (pc' := 256) rfl (hb hby at_243) rfl ((if0 _ _).trans (teq hc243).1) (by decide) (by decide) ?_
          refine XS.iloadN X0.here hx rfl (hb hby at_256) rfl ?_
          exact k)
      refine ⟨_, ?_, pre53⟩
      all_goals (first | (simp only [own_m0_257_s0, if_pos hc243]; done) | (simp [own_m0_257_s0, if_pos hc243]; done))
    · have pre54 : own_Pre p e below (s₁.setTop (entryFrame m #[(.int p0), (.int p1), (.int p2), (.int p3)] maxLocals)) (s₁.setTop (mkF m 257 #[.val (.int p0), .val (.int p1), .val (.int p2), .val (.int p3), .val (.int x4_7), .val (.int x5_17), .val (.int x6_26), .val (.int x7_35), .val (.int m49_s0), .val (.int x9_60), .val (.int x10_69), .val (.int x11_78), .val (.int x12_86), .val (.int m97_s0), .val (.int m110_s0), .val (.int m126_s0), .val (.int m148_s0), .val (.int x17_157), .val (.int x18_164), .val (.int x19_171), .val (.int m192_s0), .val (.int x21_202), .val (.int x22_209), .val (.int x23_216), .val (.int m235_s0), .unset, .unset, .unset, .unset, .unset, .unset, .unset, .unset] [(.int ((p3 &&& (63 : Int32)) - (8 : Int32)))])) := fun t k => pre52 t (by
          show Steps p.tables e below (s₁.setTop (mkF m 243 #[.val (.int p0), .val (.int p1), .val (.int p2), .val (.int p3), .val (.int x4_7), .val (.int x5_17), .val (.int x6_26), .val (.int x7_35), .val (.int m49_s0), .val (.int x9_60), .val (.int x10_69), .val (.int x11_78), .val (.int x12_86), .val (.int m97_s0), .val (.int m110_s0), .val (.int m126_s0), .val (.int m148_s0), .val (.int x17_157), .val (.int x18_164), .val (.int x19_171), .val (.int m192_s0), .val (.int x21_202), .val (.int x22_209), .val (.int x23_216), .val (.int m235_s0), .unset, .unset, .unset, .unset, .unset, .unset, .unset, .unset] [(.int (((p1).toUInt32 >>> ((6 : Int32) &&& 31).toUInt32).toInt32 &&& (1 : Int32)))])) _
          refine XS.ifNo X0.here hx rfl (hb hby at_243) rfl ((if0 _ _).trans (feq hc243).1) ?_
          refine XS.iloadN X0.here hx rfl (hb hby at_246) rfl ?_
          refine XS.bipush X0.here hx rfl (hb hby at_247) ?_
          refine XS.iand X0.here hx rfl (hb hby at_249) rfl ?_
          refine XS.bipush X0.here hx rfl (hb hby at_250) ?_
          show Steps p.tables e below (s₁.setTop (mkF m 252 #[.val (.int p0), .val (.int p1), .val (.int p2), .val (.int p3), .val (.int x4_7), .val (.int x5_17), .val (.int x6_26), .val (.int x7_35), .val (.int m49_s0), .val (.int x9_60), .val (.int x10_69), .val (.int x11_78), .val (.int x12_86), .val (.int m97_s0), .val (.int m110_s0), .val (.int m126_s0), .val (.int m148_s0), .val (.int x17_157), .val (.int x18_164), .val (.int x19_171), .val (.int m192_s0), .val (.int x21_202), .val (.int x22_209), .val (.int x23_216), .val (.int m235_s0), .unset, .unset, .unset, .unset, .unset, .unset, .unset, .unset] [(.int (8 : Int32)), (.int (p3 &&& (63 : Int32)))])) _
          refine XS.isub X0.here hx rfl (hb hby at_252) rfl ?_
          refine XS.goto X0.here hx rfl (pc0 := 253) (pc' := 257) rfl (hb hby at_253) (by decide) (by decide) ?_
          exact k)
      refine ⟨_, ?_, pre54⟩
      all_goals (first | (simp only [own_m0_257_s0, if_neg hc243]; done) | (simp [own_m0_257_s0, if_neg hc243]; done))
  have pre57 : own_Pre p e below (s₁.setTop (entryFrame m #[(.int p0), (.int p1), (.int p2), (.int p3)] maxLocals)) (s₁.setTop (mkF m 261 #[.val (.int p0), .val (.int p1), .val (.int p2), .val (.int p3), .val (.int x4_7), .val (.int x5_17), .val (.int x6_26), .val (.int x7_35), .val (.int m49_s0), .val (.int x9_60), .val (.int x10_69), .val (.int x11_78), .val (.int x12_86), .val (.int m97_s0), .val (.int m110_s0), .val (.int m126_s0), .val (.int m148_s0), .val (.int x17_157), .val (.int x18_164), .val (.int x19_171), .val (.int m192_s0), .val (.int x21_202), .val (.int x22_209), .val (.int x23_216), .val (.int m235_s0), .val (.int m257_s0), .unset, .unset, .unset, .unset, .unset, .unset, .unset] [(.int x22_209)])) := fun t k => pre51 t (by
      show Steps p.tables e below (s₁.setTop (mkF m 257 #[.val (.int p0), .val (.int p1), .val (.int p2), .val (.int p3), .val (.int x4_7), .val (.int x5_17), .val (.int x6_26), .val (.int x7_35), .val (.int m49_s0), .val (.int x9_60), .val (.int x10_69), .val (.int x11_78), .val (.int x12_86), .val (.int m97_s0), .val (.int m110_s0), .val (.int m126_s0), .val (.int m148_s0), .val (.int x17_157), .val (.int x18_164), .val (.int x19_171), .val (.int m192_s0), .val (.int x21_202), .val (.int x22_209), .val (.int x23_216), .val (.int m235_s0), .unset, .unset, .unset, .unset, .unset, .unset, .unset, .unset] [(.int m257_s0)])) _
      refine XS.istore X0.here hx rfl (hb hby at_257) rfl (l' := #[.val (.int p0), .val (.int p1), .val (.int p2), .val (.int p3), .val (.int x4_7), .val (.int x5_17), .val (.int x6_26), .val (.int x7_35), .val (.int m49_s0), .val (.int x9_60), .val (.int x10_69), .val (.int x11_78), .val (.int x12_86), .val (.int m97_s0), .val (.int m110_s0), .val (.int m126_s0), .val (.int m148_s0), .val (.int x17_157), .val (.int x18_164), .val (.int x19_171), .val (.int m192_s0), .val (.int x21_202), .val (.int x22_209), .val (.int x23_216), .val (.int m235_s0), .val (.int m257_s0), .unset, .unset, .unset, .unset, .unset, .unset, .unset]) rfl ?_
      refine XS.iload X0.here hx rfl (hb hby at_259) rfl ?_
      exact k)
  obtain ⟨m276_s0, T55, L55, X55, N55, e55, hm276_s0, pre56⟩ : ∃ (m276_s0 : Int32) (T55 : State) (L55 : List Loc), Stand p l e room_1 s m #[(.int p0), (.int p1), (.int p2), (.int p3)] below meth c T55 L55 0 0 ∧ Fr n0 L55 ∧ T55.heap = h0 ∧ m276_s0 = (own_m0_276_s0 x22_209 m235_s0 m257_s0) ∧ own_Pre p e below (s₁.setTop (entryFrame m #[(.int p0), (.int p1), (.int p2), (.int p3)] maxLocals)) (T55.setTop (mkF m 276 #[.val (.int p0), .val (.int p1), .val (.int p2), .val (.int p3), .val (.int x4_7), .val (.int x5_17), .val (.int x6_26), .val (.int x7_35), .val (.int m49_s0), .val (.int x9_60), .val (.int x10_69), .val (.int x11_78), .val (.int x12_86), .val (.int m97_s0), .val (.int m110_s0), .val (.int m126_s0), .val (.int m148_s0), .val (.int x17_157), .val (.int x18_164), .val (.int x19_171), .val (.int m192_s0), .val (.int x21_202), .val (.int x22_209), .val (.int x23_216), .val (.int m235_s0), .val (.int m257_s0), .unset, .unset, .unset, .unset, .unset, .unset, .unset] [(.int m276_s0)])) := by
    by_cases hc261 : x22_209 = (0 : Int32)
    · obtain ⟨_, _, ⟨T58, L58, k58, n58⟩, -, X58, ⟨Lc58, hQ58, l58, y58, z58⟩, st58⟩ := Jvm.LawKit.callS X0 hx (y := (⟨"java/lang/Math", "min", "(II)I"⟩ : MethodName)) hown (mvT hZ (hw _ (own_w 0 rfl))) (mvT hZ (hw _ (own_w 1 rfl))) (mvT hZ (hw _ (own_w 2 rfl))) (mvT hZ (hw _ (own_w 3 rfl))) (by decide) (backOf (W := 0) (rm1 l Z aw hw [] (m235_s0) (m257_s0) (h0) n0 Z0) hZ (hw _ (own_w 3 rfl)) (hw _ (own_w 2 rfl)) (by decide) (by decide)) (g := (mkF m 268 #[.val (.int p0), .val (.int p1), .val (.int p2), .val (.int p3), .val (.int x4_7), .val (.int x5_17), .val (.int x6_26), .val (.int x7_35), .val (.int m49_s0), .val (.int x9_60), .val (.int x10_69), .val (.int x11_78), .val (.int x12_86), .val (.int m97_s0), .val (.int m110_s0), .val (.int m126_s0), .val (.int m148_s0), .val (.int x17_157), .val (.int x18_164), .val (.int x19_171), .val (.int m192_s0), .val (.int x21_202), .val (.int x22_209), .val (.int x23_216), .val (.int m235_s0), .val (.int m257_s0), .unset, .unset, .unset, .unset, .unset, .unset, .unset] [(.int m257_s0), (.int m235_s0)])) rfl (by rw [hml]; rfl) (argsL := [(.int m235_s0), (.int m257_s0)]) (rest := []) (lenOf pd_0 rfl) rfl (by show 2 * 0 + _ ≤ _; exact Nat.le_of_eq rfl) (hb hby at_268) (fun _ _ => ⟨rfl, e0, (by decide : 0 + 0 ≤ _), (by decide : 0 + 0 ≤ _)⟩)
      dsimp only [Pt.U, Pt.locs, Pt.cells, Pt.slots] at X58 l58 y58 z58 st58 hQ58
      rw [l58, y58, z58] at X58
      obtain ⟨rfl, Nq58, eq58⟩ := hQ58
      have N58 := Fr.app N0 Nq58
      have pre59 : own_Pre p e below (s₁.setTop (entryFrame m #[(.int p0), (.int p1), (.int p2), (.int p3)] maxLocals)) (T58.setTop (mkF m 276 #[.val (.int p0), .val (.int p1), .val (.int p2), .val (.int p3), .val (.int x4_7), .val (.int x5_17), .val (.int x6_26), .val (.int x7_35), .val (.int m49_s0), .val (.int x9_60), .val (.int x10_69), .val (.int x11_78), .val (.int x12_86), .val (.int m97_s0), .val (.int m110_s0), .val (.int m126_s0), .val (.int m148_s0), .val (.int x17_157), .val (.int x18_164), .val (.int x19_171), .val (.int m192_s0), .val (.int x21_202), .val (.int x22_209), .val (.int x23_216), .val (.int m235_s0), .val (.int m257_s0), .unset, .unset, .unset, .unset, .unset, .unset, .unset] [(.int (own_f1 m235_s0 m257_s0))])) := fun t k => pre57 t (by
          show Steps p.tables e below (s₁.setTop (mkF m 261 #[.val (.int p0), .val (.int p1), .val (.int p2), .val (.int p3), .val (.int x4_7), .val (.int x5_17), .val (.int x6_26), .val (.int x7_35), .val (.int m49_s0), .val (.int x9_60), .val (.int x10_69), .val (.int x11_78), .val (.int x12_86), .val (.int m97_s0), .val (.int m110_s0), .val (.int m126_s0), .val (.int m148_s0), .val (.int x17_157), .val (.int x18_164), .val (.int x19_171), .val (.int m192_s0), .val (.int x21_202), .val (.int x22_209), .val (.int x23_216), .val (.int m235_s0), .val (.int m257_s0), .unset, .unset, .unset, .unset, .unset, .unset, .unset] [(.int x22_209)])) _
          refine XS.ifNo X0.here hx rfl (hb hby at_261) rfl ((if0 _ _).trans (teq hc261).2) ?_
          refine XS.iload X0.here hx rfl (hb hby at_264) rfl ?_
          refine XS.iload X0.here hx rfl (hb hby at_266) rfl ?_
          refine st58 _ ?_
          refine XS.goto X58.here hx rfl (pc0 := 271) (pc' := 276) rfl (hb hby at_271) (by decide) (by decide) ?_
          exact k)
      refine ⟨_, _, _, X58, N58, eq58, ?_, pre59⟩
      all_goals (first | (simp only [own_m0_276_s0, if_pos hc261]; done) | (simp [own_m0_276_s0, if_pos hc261]; done))
    · have pre60 : own_Pre p e below (s₁.setTop (entryFrame m #[(.int p0), (.int p1), (.int p2), (.int p3)] maxLocals)) (s₁.setTop (mkF m 276 #[.val (.int p0), .val (.int p1), .val (.int p2), .val (.int p3), .val (.int x4_7), .val (.int x5_17), .val (.int x6_26), .val (.int x7_35), .val (.int m49_s0), .val (.int x9_60), .val (.int x10_69), .val (.int x11_78), .val (.int x12_86), .val (.int m97_s0), .val (.int m110_s0), .val (.int m126_s0), .val (.int m148_s0), .val (.int x17_157), .val (.int x18_164), .val (.int x19_171), .val (.int m192_s0), .val (.int x21_202), .val (.int x22_209), .val (.int x23_216), .val (.int m235_s0), .val (.int m257_s0), .unset, .unset, .unset, .unset, .unset, .unset, .unset] [(.int m235_s0)])) := fun t k => pre57 t (by
          show Steps p.tables e below (s₁.setTop (mkF m 261 #[.val (.int p0), .val (.int p1), .val (.int p2), .val (.int p3), .val (.int x4_7), .val (.int x5_17), .val (.int x6_26), .val (.int x7_35), .val (.int m49_s0), .val (.int x9_60), .val (.int x10_69), .val (.int x11_78), .val (.int x12_86), .val (.int m97_s0), .val (.int m110_s0), .val (.int m126_s0), .val (.int m148_s0), .val (.int x17_157), .val (.int x18_164), .val (.int x19_171), .val (.int m192_s0), .val (.int x21_202), .val (.int x22_209), .val (.int x23_216), .val (.int m235_s0), .val (.int m257_s0), .unset, .unset, .unset, .unset, .unset, .unset, .unset] [(.int x22_209)])) _
          refine XS.ifYes X0.here hx rfl (pc0 := 261) (pc' := 274) rfl (hb hby at_261) rfl ((if0 _ _).trans (feq hc261).2) (by decide) (by decide) ?_
          refine XS.iload X0.here hx rfl (hb hby at_274) rfl ?_
          exact k)
      refine ⟨_, _, _, X0, N0, e0, ?_, pre60⟩
      all_goals (first | (simp only [own_m0_276_s0, if_neg hc261]; done) | (simp [own_m0_276_s0, if_neg hc261]; done))
  have pre63 : own_Pre p e below (s₁.setTop (entryFrame m #[(.int p0), (.int p1), (.int p2), (.int p3)] maxLocals)) (T55.setTop (mkF m 280 #[.val (.int p0), .val (.int p1), .val (.int p2), .val (.int p3), .val (.int x4_7), .val (.int x5_17), .val (.int x6_26), .val (.int x7_35), .val (.int m49_s0), .val (.int x9_60), .val (.int x10_69), .val (.int x11_78), .val (.int x12_86), .val (.int m97_s0), .val (.int m110_s0), .val (.int m126_s0), .val (.int m148_s0), .val (.int x17_157), .val (.int x18_164), .val (.int x19_171), .val (.int m192_s0), .val (.int x21_202), .val (.int x22_209), .val (.int x23_216), .val (.int m235_s0), .val (.int m257_s0), .val (.int m276_s0), .unset, .unset, .unset, .unset, .unset, .unset] [(.int x22_209)])) := fun t k => pre56 t (by
      show Steps p.tables e below (T55.setTop (mkF m 276 #[.val (.int p0), .val (.int p1), .val (.int p2), .val (.int p3), .val (.int x4_7), .val (.int x5_17), .val (.int x6_26), .val (.int x7_35), .val (.int m49_s0), .val (.int x9_60), .val (.int x10_69), .val (.int x11_78), .val (.int x12_86), .val (.int m97_s0), .val (.int m110_s0), .val (.int m126_s0), .val (.int m148_s0), .val (.int x17_157), .val (.int x18_164), .val (.int x19_171), .val (.int m192_s0), .val (.int x21_202), .val (.int x22_209), .val (.int x23_216), .val (.int m235_s0), .val (.int m257_s0), .unset, .unset, .unset, .unset, .unset, .unset, .unset] [(.int m276_s0)])) _
      refine XS.istore X55.here hx rfl (hb hby at_276) rfl (l' := #[.val (.int p0), .val (.int p1), .val (.int p2), .val (.int p3), .val (.int x4_7), .val (.int x5_17), .val (.int x6_26), .val (.int x7_35), .val (.int m49_s0), .val (.int x9_60), .val (.int x10_69), .val (.int x11_78), .val (.int x12_86), .val (.int m97_s0), .val (.int m110_s0), .val (.int m126_s0), .val (.int m148_s0), .val (.int x17_157), .val (.int x18_164), .val (.int x19_171), .val (.int m192_s0), .val (.int x21_202), .val (.int x22_209), .val (.int x23_216), .val (.int m235_s0), .val (.int m257_s0), .val (.int m276_s0), .unset, .unset, .unset, .unset, .unset, .unset]) rfl ?_
      refine XS.iload X55.here hx rfl (hb hby at_278) rfl ?_
      exact k)
  obtain ⟨m295_s0, T61, L61, X61, N61, e61, hm295_s0, pre62⟩ : ∃ (m295_s0 : Int32) (T61 : State) (L61 : List Loc), Stand p l e room_1 s m #[(.int p0), (.int p1), (.int p2), (.int p3)] below meth c T61 L61 0 0 ∧ Fr n0 L61 ∧ T61.heap = h0 ∧ m295_s0 = (own_m0_295_s0 x22_209 m235_s0 m257_s0) ∧ own_Pre p e below (s₁.setTop (entryFrame m #[(.int p0), (.int p1), (.int p2), (.int p3)] maxLocals)) (T61.setTop (mkF m 295 #[.val (.int p0), .val (.int p1), .val (.int p2), .val (.int p3), .val (.int x4_7), .val (.int x5_17), .val (.int x6_26), .val (.int x7_35), .val (.int m49_s0), .val (.int x9_60), .val (.int x10_69), .val (.int x11_78), .val (.int x12_86), .val (.int m97_s0), .val (.int m110_s0), .val (.int m126_s0), .val (.int m148_s0), .val (.int x17_157), .val (.int x18_164), .val (.int x19_171), .val (.int m192_s0), .val (.int x21_202), .val (.int x22_209), .val (.int x23_216), .val (.int m235_s0), .val (.int m257_s0), .val (.int m276_s0), .unset, .unset, .unset, .unset, .unset, .unset] [(.int m295_s0)])) := by
    by_cases hc280 : x22_209 = (0 : Int32)
    · obtain ⟨_, _, ⟨T64, L64, k64, n64⟩, -, X64, ⟨Lc64, hQ64, l64, y64, z64⟩, st64⟩ := Jvm.LawKit.callS X55 hx (y := (⟨"java/lang/Math", "max", "(II)I"⟩ : MethodName)) hown (mvT hZ (hw _ (own_w 4 rfl))) (mvT hZ (hw _ (own_w 5 rfl))) (mvT hZ (hw _ (own_w 2 rfl))) (mvT hZ (hw _ (own_w 6 rfl))) (by decide) (backOf (W := 0) (rm2 l Z aw hw [] (m235_s0) (m257_s0) (h0) n0 Z0) hZ (hw _ (own_w 6 rfl)) (hw _ (own_w 2 rfl)) (by decide) (by decide)) (g := (mkF m 287 #[.val (.int p0), .val (.int p1), .val (.int p2), .val (.int p3), .val (.int x4_7), .val (.int x5_17), .val (.int x6_26), .val (.int x7_35), .val (.int m49_s0), .val (.int x9_60), .val (.int x10_69), .val (.int x11_78), .val (.int x12_86), .val (.int m97_s0), .val (.int m110_s0), .val (.int m126_s0), .val (.int m148_s0), .val (.int x17_157), .val (.int x18_164), .val (.int x19_171), .val (.int m192_s0), .val (.int x21_202), .val (.int x22_209), .val (.int x23_216), .val (.int m235_s0), .val (.int m257_s0), .val (.int m276_s0), .unset, .unset, .unset, .unset, .unset, .unset] [(.int m257_s0), (.int m235_s0)])) rfl (by rw [hml]; rfl) (argsL := [(.int m235_s0), (.int m257_s0)]) (rest := []) (lenOf pd_0 rfl) rfl (by show 2 * 0 + _ ≤ _; exact Nat.le_of_eq rfl) (hb hby at_287) (fun _ _ => ⟨rfl, e55, (by decide : 0 + 0 ≤ _), (by decide : 0 + 0 ≤ _)⟩)
      dsimp only [Pt.U, Pt.locs, Pt.cells, Pt.slots] at X64 l64 y64 z64 st64 hQ64
      rw [l64, y64, z64] at X64
      obtain ⟨rfl, Nq64, eq64⟩ := hQ64
      have N64 := Fr.app N55 Nq64
      have pre65 : own_Pre p e below (s₁.setTop (entryFrame m #[(.int p0), (.int p1), (.int p2), (.int p3)] maxLocals)) (T64.setTop (mkF m 295 #[.val (.int p0), .val (.int p1), .val (.int p2), .val (.int p3), .val (.int x4_7), .val (.int x5_17), .val (.int x6_26), .val (.int x7_35), .val (.int m49_s0), .val (.int x9_60), .val (.int x10_69), .val (.int x11_78), .val (.int x12_86), .val (.int m97_s0), .val (.int m110_s0), .val (.int m126_s0), .val (.int m148_s0), .val (.int x17_157), .val (.int x18_164), .val (.int x19_171), .val (.int m192_s0), .val (.int x21_202), .val (.int x22_209), .val (.int x23_216), .val (.int m235_s0), .val (.int m257_s0), .val (.int m276_s0), .unset, .unset, .unset, .unset, .unset, .unset] [(.int (own_f2 m235_s0 m257_s0))])) := fun t k => pre63 t (by
          show Steps p.tables e below (T55.setTop (mkF m 280 #[.val (.int p0), .val (.int p1), .val (.int p2), .val (.int p3), .val (.int x4_7), .val (.int x5_17), .val (.int x6_26), .val (.int x7_35), .val (.int m49_s0), .val (.int x9_60), .val (.int x10_69), .val (.int x11_78), .val (.int x12_86), .val (.int m97_s0), .val (.int m110_s0), .val (.int m126_s0), .val (.int m148_s0), .val (.int x17_157), .val (.int x18_164), .val (.int x19_171), .val (.int m192_s0), .val (.int x21_202), .val (.int x22_209), .val (.int x23_216), .val (.int m235_s0), .val (.int m257_s0), .val (.int m276_s0), .unset, .unset, .unset, .unset, .unset, .unset] [(.int x22_209)])) _
          refine XS.ifNo X55.here hx rfl (hb hby at_280) rfl ((if0 _ _).trans (teq hc280).2) ?_
          refine XS.iload X55.here hx rfl (hb hby at_283) rfl ?_
          refine XS.iload X55.here hx rfl (hb hby at_285) rfl ?_
          refine st64 _ ?_
          refine XS.goto X64.here hx rfl (pc0 := 290) (pc' := 295) rfl (hb hby at_290) (by decide) (by decide) ?_
          exact k)
      refine ⟨_, _, _, X64, N64, eq64, ?_, pre65⟩
      all_goals (first | (simp only [own_m0_295_s0, if_pos hc280]; done) | (simp [own_m0_295_s0, if_pos hc280]; done))
    · have pre66 : own_Pre p e below (s₁.setTop (entryFrame m #[(.int p0), (.int p1), (.int p2), (.int p3)] maxLocals)) (T55.setTop (mkF m 295 #[.val (.int p0), .val (.int p1), .val (.int p2), .val (.int p3), .val (.int x4_7), .val (.int x5_17), .val (.int x6_26), .val (.int x7_35), .val (.int m49_s0), .val (.int x9_60), .val (.int x10_69), .val (.int x11_78), .val (.int x12_86), .val (.int m97_s0), .val (.int m110_s0), .val (.int m126_s0), .val (.int m148_s0), .val (.int x17_157), .val (.int x18_164), .val (.int x19_171), .val (.int m192_s0), .val (.int x21_202), .val (.int x22_209), .val (.int x23_216), .val (.int m235_s0), .val (.int m257_s0), .val (.int m276_s0), .unset, .unset, .unset, .unset, .unset, .unset] [(.int m257_s0)])) := fun t k => pre63 t (by
          show Steps p.tables e below (T55.setTop (mkF m 280 #[.val (.int p0), .val (.int p1), .val (.int p2), .val (.int p3), .val (.int x4_7), .val (.int x5_17), .val (.int x6_26), .val (.int x7_35), .val (.int m49_s0), .val (.int x9_60), .val (.int x10_69), .val (.int x11_78), .val (.int x12_86), .val (.int m97_s0), .val (.int m110_s0), .val (.int m126_s0), .val (.int m148_s0), .val (.int x17_157), .val (.int x18_164), .val (.int x19_171), .val (.int m192_s0), .val (.int x21_202), .val (.int x22_209), .val (.int x23_216), .val (.int m235_s0), .val (.int m257_s0), .val (.int m276_s0), .unset, .unset, .unset, .unset, .unset, .unset] [(.int x22_209)])) _
          refine XS.ifYes X55.here hx rfl (pc0 := 280) (pc' := 293) rfl (hb hby at_280) rfl ((if0 _ _).trans (feq hc280).2) (by decide) (by decide) ?_
          refine XS.iload X55.here hx rfl (hb hby at_293) rfl ?_
          exact k)
      refine ⟨_, _, _, X55, N55, e55, ?_, pre66⟩
      all_goals (first | (simp only [own_m0_295_s0, if_neg hc280]; done) | (simp [own_m0_295_s0, if_neg hc280]; done))
  obtain ⟨T67, h67, X67, e67, E67, A67, D67, -, st67⟩ := newO X61 hx hZ hown (hw _ (own_w 7 rfl)) (hw _ (own_w 8 rfl)) (hw _ (own_w 9 rfl)) e61 (g := (mkF m 297 #[.val (.int p0), .val (.int p1), .val (.int p2), .val (.int p3), .val (.int x4_7), .val (.int x5_17), .val (.int x6_26), .val (.int x7_35), .val (.int m49_s0), .val (.int x9_60), .val (.int x10_69), .val (.int x11_78), .val (.int x12_86), .val (.int m97_s0), .val (.int m110_s0), .val (.int m126_s0), .val (.int m148_s0), .val (.int x17_157), .val (.int x18_164), .val (.int x19_171), .val (.int m192_s0), .val (.int x21_202), .val (.int x22_209), .val (.int x23_216), .val (.int m235_s0), .val (.int m257_s0), .val (.int m276_s0), .val (.int m295_s0), .unset, .unset, .unset, .unset, .unset] [])) rfl (hb hby at_297) (by decide) (by decide)
  obtain ⟨b67, gq67⟩ : ∃ z, z = (h0).size := ⟨_, rfl⟩
  rw [← gq67] at A67 D67 st67
  have g_b67 : n0 ≤ b67 := Nat.le_trans Z0 (Nat.le_of_eq gq67.symm)
  have F_b67_lines : Fld Z h67 b67 "com/example/trawl/trawl/load/ColumnShifts" "lines" "[I" .null := D67 (Or.inl (hw _ (own_w 18 rfl))) (ty := (.array .int)) (by decide)
  have F_b67_ends : Fld Z h67 b67 "com/example/trawl/trawl/load/ColumnShifts" "ends" "[I" .null := D67 (Or.inl (hw _ (own_w 20 rfl))) (ty := (.array .int)) (by decide)
  have F_b67_changes : Fld Z h67 b67 "com/example/trawl/trawl/load/ColumnShifts" "changes" "[I" .null := D67 (Or.inl (hw _ (own_w 22 rfl))) (ty := (.array .int)) (by decide)
  have F_b67_askedLine : Fld Z h67 b67 "com/example/trawl/trawl/load/ColumnShifts" "askedLine" "I" (.int (0 : Int32)) := D67 (Or.inl (hw _ (own_w 29 rfl))) (ty := .int) (by decide)
  have F_b67_passedChange : Fld Z h67 b67 "com/example/trawl/trawl/load/ColumnShifts" "passedChange" "I" (.int (0 : Int32)) := D67 (Or.inl (hw _ (own_w 31 rfl))) (ty := .int) (by decide)
  have F_b67_first : Fld Z h67 b67 "com/example/trawl/trawl/load/ColumnShifts" "first" "I" (.int (0 : Int32)) := D67 (Or.inl (hw _ (own_w 33 rfl))) (ty := .int) (by decide)
  have F_b67_end : Fld Z h67 b67 "com/example/trawl/trawl/load/ColumnShifts" "end" "I" (.int (0 : Int32)) := D67 (Or.inl (hw _ (own_w 35 rfl))) (ty := .int) (by decide)
  have F_b67_recordedLine : Fld Z h67 b67 "com/example/trawl/trawl/load/ColumnShifts" "recordedLine" "I" (.int (0 : Int32)) := D67 (Or.inl (hw _ (own_w 46 rfl))) (ty := .int) (by decide)
  have F_b67_recordedChange : Fld Z h67 b67 "com/example/trawl/trawl/load/ColumnShifts" "recordedChange" "I" (.int (0 : Int32)) := D67 (Or.inl (hw _ (own_w 48 rfl))) (ty := .int) (by decide)
  have z69 : n0 ≤ (h67).size := (Nat.le_trans Z0 E67.1)
  obtain ⟨_, _, ⟨T68, L68, k68, n68⟩, -, X68, ⟨Lc68, hQ68, l68, y68, z68⟩, st68⟩ := X67.specialBack hx (y := (⟨"com/example/trawl/trawl/load/ColumnShifts", "<init>", "()V"⟩ : MethodName)) rfl hown (mvT hZ (hw _ (own_w 10 rfl))) (mvT hZ (hw _ (own_w 11 rfl))) (mvT hZ (hw _ (own_w 12 rfl))) (by decide) (backOf (W := 1) (rm3 l Z aw hw [] (b67) (h67) n0 z69 A67 F_b67_lines F_b67_ends F_b67_changes F_b67_first F_b67_end F_b67_recordedLine F_b67_recordedChange F_b67_askedLine F_b67_passedChange g_b67) hZ (hw _ (own_w 12 rfl)) (hw _ (own_w 9 rfl)) (by decide) (by decide)) (g := (mkF m 301 #[.val (.int p0), .val (.int p1), .val (.int p2), .val (.int p3), .val (.int x4_7), .val (.int x5_17), .val (.int x6_26), .val (.int x7_35), .val (.int m49_s0), .val (.int x9_60), .val (.int x10_69), .val (.int x11_78), .val (.int x12_86), .val (.int m97_s0), .val (.int m110_s0), .val (.int m126_s0), .val (.int m148_s0), .val (.int x17_157), .val (.int x18_164), .val (.int x19_171), .val (.int m192_s0), .val (.int x21_202), .val (.int x22_209), .val (.int x23_216), .val (.int m235_s0), .val (.int m257_s0), .val (.int m276_s0), .val (.int m295_s0), .unset, .unset, .unset, .unset, .unset] [(.ref b67), (.ref b67)])) rfl (by rw [hml]; rfl) (Steps.refl _) (a := b67) (argsL := []) (rest := [(.ref b67)]) (lenOf pd_1 rfl) rfl (by show 2 * 0 + _ ≤ _; exact Nat.le_of_eq rfl) (hb hby at_301) (fun _ _ => ⟨rfl, e67, (by decide : 1 + 3 ≤ _), (by decide : 9 + 12 ≤ _)⟩)
  dsimp only [Pt.U, Pt.locs, Pt.cells, Pt.slots] at X68 l68 y68 z68 st68 hQ68
  rw [l68, y68, z68] at X68
  obtain ⟨la68, ea68, ca68, kl68, ke68, kc68, rfl, Nq68, K68, po68_0, po68_1, po68_2, po68_3, po68_4, po68_5, po68_6, po68_7, po68_8, po68_9, po68_10, po68_11, po68_12, po68_13, po68_14, po68_15, po68_16, po68_17, po68_18⟩ := hQ68
  have N68 := Fr.app N61 Nq68
  have ne_b67_la68 : b67 ≠ la68 := Nat.ne_of_lt (Nat.lt_of_lt_of_le A67.lt po68_1)
  have g_la68 : n0 ≤ la68 := Nat.le_trans z69 po68_1
  have ne_b67_ea68 : b67 ≠ ea68 := Nat.ne_of_lt (Nat.lt_of_lt_of_le A67.lt po68_2)
  have g_ea68 : n0 ≤ ea68 := Nat.le_trans z69 po68_2
  have ne_b67_ca68 : b67 ≠ ca68 := Nat.ne_of_lt (Nat.lt_of_lt_of_le A67.lt po68_3)
  have g_ca68 : n0 ≤ ca68 := Nat.le_trans z69 po68_3
  obtain ⟨u68_l16, hu68_l16⟩ : ∃ z, z = (List.replicate 4 (0 : Int32)) := ⟨_, rfl⟩
  rw [← hu68_l16] at po68_16
  obtain ⟨u68_l17, hu68_l17⟩ : ∃ z, z = (List.replicate 4 (0 : Int32)) := ⟨_, rfl⟩
  rw [← hu68_l17] at po68_17
  obtain ⟨u68_l18, hu68_l18⟩ : ∃ z, z = (List.replicate 4 (0 : Int32)) := ⟨_, rfl⟩
  rw [← hu68_l18] at po68_18
  obtain ⟨⟨G1, G2, G3, G4, G5⟩, G6, G7⟩ := own_geo hx4_7 hx5_17 hx6_26 hx7_35 hx9_60 hx11_78 hm126_s0 hm148_s0 hx17_157 hx19_171 hm192_s0 hx21_202 hx22_209 hx23_216 hm276_s0 hm295_s0
  have pre70 : own_Pre p e below (s₁.setTop (entryFrame m #[(.int p0), (.int p1), (.int p2), (.int p3)] maxLocals)) (T68.setTop (mkF m 308 #[.val (.int p0), .val (.int p1), .val (.int p2), .val (.int p3), .val (.int x4_7), .val (.int x5_17), .val (.int x6_26), .val (.int x7_35), .val (.int m49_s0), .val (.int x9_60), .val (.int x10_69), .val (.int x11_78), .val (.int x12_86), .val (.int m97_s0), .val (.int m110_s0), .val (.int m126_s0), .val (.int m148_s0), .val (.int x17_157), .val (.int x18_164), .val (.int x19_171), .val (.int m192_s0), .val (.int x21_202), .val (.int x22_209), .val (.int x23_216), .val (.int m235_s0), .val (.int m257_s0), .val (.int m276_s0), .val (.int m295_s0), .val (.ref b67), .unset, .unset, .unset, .unset] [(.int m97_s0)])) := fun t k => pre62 t (by
      show Steps p.tables e below (T61.setTop (mkF m 295 #[.val (.int p0), .val (.int p1), .val (.int p2), .val (.int p3), .val (.int x4_7), .val (.int x5_17), .val (.int x6_26), .val (.int x7_35), .val (.int m49_s0), .val (.int x9_60), .val (.int x10_69), .val (.int x11_78), .val (.int x12_86), .val (.int m97_s0), .val (.int m110_s0), .val (.int m126_s0), .val (.int m148_s0), .val (.int x17_157), .val (.int x18_164), .val (.int x19_171), .val (.int m192_s0), .val (.int x21_202), .val (.int x22_209), .val (.int x23_216), .val (.int m235_s0), .val (.int m257_s0), .val (.int m276_s0), .unset, .unset, .unset, .unset, .unset, .unset] [(.int m295_s0)])) _
      refine XS.istore X61.here hx rfl (hb hby at_295) rfl (l' := #[.val (.int p0), .val (.int p1), .val (.int p2), .val (.int p3), .val (.int x4_7), .val (.int x5_17), .val (.int x6_26), .val (.int x7_35), .val (.int m49_s0), .val (.int x9_60), .val (.int x10_69), .val (.int x11_78), .val (.int x12_86), .val (.int m97_s0), .val (.int m110_s0), .val (.int m126_s0), .val (.int m148_s0), .val (.int x17_157), .val (.int x18_164), .val (.int x19_171), .val (.int m192_s0), .val (.int x21_202), .val (.int x22_209), .val (.int x23_216), .val (.int m235_s0), .val (.int m257_s0), .val (.int m276_s0), .val (.int m295_s0), .unset, .unset, .unset, .unset, .unset]) rfl ?_
      refine st67 _ ?_
      refine XS.dup X67.here hx rfl (hb hby at_300) rfl rfl ?_
      refine st68.trans ?_
      refine XS.astore X68.here hx rfl (hb hby at_304) rfl rfl (l' := #[.val (.int p0), .val (.int p1), .val (.int p2), .val (.int p3), .val (.int x4_7), .val (.int x5_17), .val (.int x6_26), .val (.int x7_35), .val (.int m49_s0), .val (.int x9_60), .val (.int x10_69), .val (.int x11_78), .val (.int x12_86), .val (.int m97_s0), .val (.int m110_s0), .val (.int m126_s0), .val (.int m148_s0), .val (.int x17_157), .val (.int x18_164), .val (.int x19_171), .val (.int m192_s0), .val (.int x21_202), .val (.int x22_209), .val (.int x23_216), .val (.int m235_s0), .val (.int m257_s0), .val (.int m276_s0), .val (.int m295_s0), .val (.ref b67), .unset, .unset, .unset, .unset]) rfl ?_
      show Steps p.tables e below (T68.setTop (mkF m 306 #[.val (.int p0), .val (.int p1), .val (.int p2), .val (.int p3), .val (.int x4_7), .val (.int x5_17), .val (.int x6_26), .val (.int x7_35), .val (.int m49_s0), .val (.int x9_60), .val (.int x10_69), .val (.int x11_78), .val (.int x12_86), .val (.int m97_s0), .val (.int m110_s0), .val (.int m126_s0), .val (.int m148_s0), .val (.int x17_157), .val (.int x18_164), .val (.int x19_171), .val (.int m192_s0), .val (.int x21_202), .val (.int x22_209), .val (.int x23_216), .val (.int m235_s0), .val (.int m257_s0), .val (.int m276_s0), .val (.int m295_s0), .val (.ref b67), .unset, .unset, .unset, .unset] [])) _
      refine XS.iload X68.here hx rfl (hb hby at_306) rfl ?_
      exact k)
  by_cases hc308 : m97_s0 = (0 : Int32)
  · have hc326 : (m110_s0 = (0 : Int32)) := own_has hm97_s0 hm110_s0 hc308
    have z72 : n0 ≤ (T68.heap).size := (Nat.le_trans z69 K68.1)
    obtain ⟨cq71, kq71, q71a, q71b, q71c⟩ := isOf hZ rfl po68_0
    obtain ⟨_, _, ⟨T71, L71, k71, n71⟩, -, X71, ⟨Lc71, hQ71, l71, y71, z71⟩, st71⟩ := X68.virtualBack hx (y := (⟨"com/example/trawl/trawl/load/ColumnShifts", "columnInText", "(II)I"⟩ : MethodName)) (z := (⟨"com/example/trawl/trawl/load/ColumnShifts", "columnInText", "(II)I"⟩ : MethodName)) hown (mvT hZ (hw _ (own_w 23 rfl))) (mvT hZ (hw _ (own_w 24 rfl))) (notFace_of_selects (args := #[]) (mvT hZ (hw _ (own_w 26 rfl)))) (mvT hZ (hw _ (own_w 26 rfl))) (mvT hZ (hw _ (own_w 25 rfl))) (by decide) (backOf (W := 0) (rm5_0_0 l Z aw hw [] (b67) (x21_202) (m276_s0) (la68) (ea68) (ca68) (kl68) (ke68) (kc68) (u68_l16) (u68_l17) (u68_l18) ((0 : Int32)) ((0 : Int32)) (T68.heap) n0 z72 po68_0 po68_7 po68_8 po68_9 po68_16 po68_17 po68_18 po68_4 po68_5 po68_6 ne_b67_la68 ne_b67_ea68 ne_b67_ca68 g_b67 po68_10 po68_11 po68_14 po68_15) hZ (hw _ (own_w 27 rfl)) (hw _ (own_w 9 rfl)) (by decide) (by decide)) q71a q71c (g := (mkF m 348 #[.val (.int p0), .val (.int p1), .val (.int p2), .val (.int p3), .val (.int x4_7), .val (.int x5_17), .val (.int x6_26), .val (.int x7_35), .val (.int m49_s0), .val (.int x9_60), .val (.int x10_69), .val (.int x11_78), .val (.int x12_86), .val (.int m97_s0), .val (.int m110_s0), .val (.int m126_s0), .val (.int m148_s0), .val (.int x17_157), .val (.int x18_164), .val (.int x19_171), .val (.int m192_s0), .val (.int x21_202), .val (.int x22_209), .val (.int x23_216), .val (.int m235_s0), .val (.int m257_s0), .val (.int m276_s0), .val (.int m295_s0), .val (.ref b67), .unset, .unset, .unset, .unset] [(.int m276_s0), (.int x21_202), (.ref b67)])) rfl (by rw [hml]; rfl) (Steps.refl _) (argsL := [(.int x21_202), (.int m276_s0)]) (rest := []) (lenOf pd_0 rfl) rfl (by show 2 * 0 + _ ≤ _; exact Nat.le_of_eq rfl) (hb hby at_348) (fun _ _ => ⟨rfl, rfl, (by decide : 4 + 0 ≤ _), (by decide : 21 + 0 ≤ _)⟩)
    dsimp only [Pt.U, Pt.locs, Pt.cells, Pt.slots] at X71 l71 y71 z71 st71 hQ71
    rw [l71, y71, z71] at X71
    obtain ⟨rfl, Nq71, K71, po71_0, po71_1, po71_2, po71_3, po71_4, po71_5, po71_6, po71_7⟩ := hQ71
    have N71 := Fr.app N68 Nq71
    obtain ⟨u71_askedLine, hu71_askedLine⟩ : ∃ z, z = (own_p5_0_0_askedLine x21_202 m276_s0 (0 : Int32)) := ⟨_, rfl⟩
    rw [← hu71_askedLine] at po71_6
    obtain ⟨u71_passedChange, hu71_passedChange⟩ : ∃ z, z = (own_p5_0_0_passedChange x21_202 m276_s0 (0 : Int32) (0 : Int32)) := ⟨_, rfl⟩
    rw [← hu71_passedChange] at po71_7
    obtain ⟨x29_353, hx29_353, pre73⟩ : ∃ z : Int32, z = (own_f5_0_0 x21_202 m276_s0 ((0 : Int32)) ((0 : Int32))) ∧ own_Pre p e below (s₁.setTop (entryFrame m #[(.int p0), (.int p1), (.int p2), (.int p3)] maxLocals)) (T71.setTop (mkF m 353 #[.val (.int p0), .val (.int p1), .val (.int p2), .val (.int p3), .val (.int x4_7), .val (.int x5_17), .val (.int x6_26), .val (.int x7_35), .val (.int m49_s0), .val (.int x9_60), .val (.int x10_69), .val (.int x11_78), .val (.int x12_86), .val (.int m97_s0), .val (.int m110_s0), .val (.int m126_s0), .val (.int m148_s0), .val (.int x17_157), .val (.int x18_164), .val (.int x19_171), .val (.int m192_s0), .val (.int x21_202), .val (.int x22_209), .val (.int x23_216), .val (.int m235_s0), .val (.int m257_s0), .val (.int m276_s0), .val (.int m295_s0), .val (.ref b67), .val (.int z), .unset, .unset, .unset] [])) := ⟨_, rfl, fun t k => pre70 t (by
        show Steps p.tables e below (T68.setTop (mkF m 308 #[.val (.int p0), .val (.int p1), .val (.int p2), .val (.int p3), .val (.int x4_7), .val (.int x5_17), .val (.int x6_26), .val (.int x7_35), .val (.int m49_s0), .val (.int x9_60), .val (.int x10_69), .val (.int x11_78), .val (.int x12_86), .val (.int m97_s0), .val (.int m110_s0), .val (.int m126_s0), .val (.int m148_s0), .val (.int x17_157), .val (.int x18_164), .val (.int x19_171), .val (.int m192_s0), .val (.int x21_202), .val (.int x22_209), .val (.int x23_216), .val (.int m235_s0), .val (.int m257_s0), .val (.int m276_s0), .val (.int m295_s0), .val (.ref b67), .unset, .unset, .unset, .unset] [(.int m97_s0)])) _
        refine XS.ifYes X68.here hx rfl (pc0 := 308) (pc' := 324) rfl (hb hby at_308) rfl ((if0 _ _).trans (teq hc308).1) (by decide) (by decide) ?_
        refine XS.iload X68.here hx rfl (hb hby at_324) rfl ?_
        refine XS.ifYes X68.here hx rfl (pc0 := 326) (pc' := 342) rfl (hb hby at_326) rfl ((if0 _ _).trans (teq hc326).1) (by decide) (by decide) ?_
        refine XS.aload X68.here hx rfl (hb hby at_342) rfl rfl ?_
        refine XS.iload X68.here hx rfl (hb hby at_344) rfl ?_
        show Steps p.tables e below (T68.setTop (mkF m 346 #[.val (.int p0), .val (.int p1), .val (.int p2), .val (.int p3), .val (.int x4_7), .val (.int x5_17), .val (.int x6_26), .val (.int x7_35), .val (.int m49_s0), .val (.int x9_60), .val (.int x10_69), .val (.int x11_78), .val (.int x12_86), .val (.int m97_s0), .val (.int m110_s0), .val (.int m126_s0), .val (.int m148_s0), .val (.int x17_157), .val (.int x18_164), .val (.int x19_171), .val (.int m192_s0), .val (.int x21_202), .val (.int x22_209), .val (.int x23_216), .val (.int m235_s0), .val (.int m257_s0), .val (.int m276_s0), .val (.int m295_s0), .val (.ref b67), .unset, .unset, .unset, .unset] [(.int x21_202), (.ref b67)])) _
        refine XS.iload X68.here hx rfl (hb hby at_346) rfl ?_
        refine st71.trans ?_
        refine XS.istore X71.here hx rfl (hb hby at_351) rfl (l' := #[.val (.int p0), .val (.int p1), .val (.int p2), .val (.int p3), .val (.int x4_7), .val (.int x5_17), .val (.int x6_26), .val (.int x7_35), .val (.int m49_s0), .val (.int x9_60), .val (.int x10_69), .val (.int x11_78), .val (.int x12_86), .val (.int m97_s0), .val (.int m110_s0), .val (.int m126_s0), .val (.int m148_s0), .val (.int x17_157), .val (.int x18_164), .val (.int x19_171), .val (.int m192_s0), .val (.int x21_202), .val (.int x22_209), .val (.int x23_216), .val (.int m235_s0), .val (.int m257_s0), .val (.int m276_s0), .val (.int m295_s0), .val (.ref b67), .val (.int (own_f5_0_0 x21_202 m276_s0 ((0 : Int32)) ((0 : Int32)))), .unset, .unset, .unset]) rfl ?_
        exact k)⟩
    have f75 := (po68_16.keep K71 (ninS (Ne.symm ne_b67_la68) nin0))
    have f76 := (po68_17.keep K71 (ninS (Ne.symm ne_b67_ea68) nin0))
    have f77 := (po68_18.keep K71 (ninS (Ne.symm ne_b67_ca68) nin0))
    have z78 : n0 ≤ (T71.heap).size := (Nat.le_trans z72 K71.1)
    obtain ⟨cq74, kq74, q74a, q74b, q74c⟩ := isOf hZ rfl po71_0
    obtain ⟨_, _, ⟨T74, L74, k74, n74⟩, -, X74, ⟨Lc74, hQ74, l74, y74, z74⟩, st74⟩ := X71.virtualBack hx (y := (⟨"com/example/trawl/trawl/load/ColumnShifts", "columnInText", "(II)I"⟩ : MethodName)) (z := (⟨"com/example/trawl/trawl/load/ColumnShifts", "columnInText", "(II)I"⟩ : MethodName)) hown (mvT hZ (hw _ (own_w 23 rfl))) (mvT hZ (hw _ (own_w 24 rfl))) (notFace_of_selects (args := #[]) (mvT hZ (hw _ (own_w 26 rfl)))) (mvT hZ (hw _ (own_w 26 rfl))) (mvT hZ (hw _ (own_w 25 rfl))) (by decide) (backOf (W := 0) (rm5_0_0 l Z aw hw [] (b67) (x23_216) (m295_s0) (la68) (ea68) (ca68) (kl68) (ke68) (kc68) (u68_l16) (u68_l17) (u68_l18) (u71_askedLine) (u71_passedChange) (T71.heap) n0 z78 po71_0 po71_1 po71_2 po71_3 f75 f76 f77 po68_4 po68_5 po68_6 ne_b67_la68 ne_b67_ea68 ne_b67_ca68 g_b67 po71_4 po71_5 po71_6 po71_7) hZ (hw _ (own_w 27 rfl)) (hw _ (own_w 9 rfl)) (by decide) (by decide)) q74a q74c (g := (mkF m 359 #[.val (.int p0), .val (.int p1), .val (.int p2), .val (.int p3), .val (.int x4_7), .val (.int x5_17), .val (.int x6_26), .val (.int x7_35), .val (.int m49_s0), .val (.int x9_60), .val (.int x10_69), .val (.int x11_78), .val (.int x12_86), .val (.int m97_s0), .val (.int m110_s0), .val (.int m126_s0), .val (.int m148_s0), .val (.int x17_157), .val (.int x18_164), .val (.int x19_171), .val (.int m192_s0), .val (.int x21_202), .val (.int x22_209), .val (.int x23_216), .val (.int m235_s0), .val (.int m257_s0), .val (.int m276_s0), .val (.int m295_s0), .val (.ref b67), .val (.int x29_353), .unset, .unset, .unset] [(.int m295_s0), (.int x23_216), (.ref b67)])) rfl (by rw [hml]; rfl) (Steps.refl _) (argsL := [(.int x23_216), (.int m295_s0)]) (rest := []) (lenOf pd_0 rfl) rfl (by show 2 * 0 + _ ≤ _; exact Nat.le_of_eq rfl) (hb hby at_359) (fun _ _ => ⟨rfl, rfl, (by decide : 4 + 0 ≤ _), (by decide : 21 + 0 ≤ _)⟩)
    dsimp only [Pt.U, Pt.locs, Pt.cells, Pt.slots] at X74 l74 y74 z74 st74 hQ74
    rw [l74, y74, z74] at X74
    obtain ⟨rfl, Nq74, K74, po74_0, po74_1, po74_2, po74_3, po74_4, po74_5, po74_6, po74_7⟩ := hQ74
    have N74 := Fr.app N71 Nq74
    obtain ⟨u74_askedLine, hu74_askedLine⟩ : ∃ z, z = (own_p5_0_0_askedLine x23_216 m295_s0 u71_askedLine) := ⟨_, rfl⟩
    rw [← hu74_askedLine] at po74_6
    obtain ⟨u74_passedChange, hu74_passedChange⟩ : ∃ z, z = (own_p5_0_0_passedChange x23_216 m295_s0 u71_askedLine u71_passedChange) := ⟨_, rfl⟩
    rw [← hu74_passedChange] at po74_7
    obtain ⟨x30_364, hx30_364, pre79⟩ : ∃ z : Int32, z = (own_f5_0_0 x23_216 m295_s0 u71_askedLine u71_passedChange) ∧ own_Pre p e below (s₁.setTop (entryFrame m #[(.int p0), (.int p1), (.int p2), (.int p3)] maxLocals)) (T74.setTop (mkF m 364 #[.val (.int p0), .val (.int p1), .val (.int p2), .val (.int p3), .val (.int x4_7), .val (.int x5_17), .val (.int x6_26), .val (.int x7_35), .val (.int m49_s0), .val (.int x9_60), .val (.int x10_69), .val (.int x11_78), .val (.int x12_86), .val (.int m97_s0), .val (.int m110_s0), .val (.int m126_s0), .val (.int m148_s0), .val (.int x17_157), .val (.int x18_164), .val (.int x19_171), .val (.int m192_s0), .val (.int x21_202), .val (.int x22_209), .val (.int x23_216), .val (.int m235_s0), .val (.int m257_s0), .val (.int m276_s0), .val (.int m295_s0), .val (.ref b67), .val (.int x29_353), .val (.int z), .unset, .unset] [])) := ⟨_, rfl, fun t k => pre73 t (by
        show Steps p.tables e below (T71.setTop (mkF m 353 #[.val (.int p0), .val (.int p1), .val (.int p2), .val (.int p3), .val (.int x4_7), .val (.int x5_17), .val (.int x6_26), .val (.int x7_35), .val (.int m49_s0), .val (.int x9_60), .val (.int x10_69), .val (.int x11_78), .val (.int x12_86), .val (.int m97_s0), .val (.int m110_s0), .val (.int m126_s0), .val (.int m148_s0), .val (.int x17_157), .val (.int x18_164), .val (.int x19_171), .val (.int m192_s0), .val (.int x21_202), .val (.int x22_209), .val (.int x23_216), .val (.int m235_s0), .val (.int m257_s0), .val (.int m276_s0), .val (.int m295_s0), .val (.ref b67), .val (.int x29_353), .unset, .unset, .unset] [])) _
        refine XS.aload X71.here hx rfl (hb hby at_353) rfl rfl ?_
        refine XS.iload X71.here hx rfl (hb hby at_355) rfl ?_
        refine XS.iload X71.here hx rfl (hb hby at_357) rfl ?_
        refine st74.trans ?_
        refine XS.istore X74.here hx rfl (hb hby at_362) rfl (l' := #[.val (.int p0), .val (.int p1), .val (.int p2), .val (.int p3), .val (.int x4_7), .val (.int x5_17), .val (.int x6_26), .val (.int x7_35), .val (.int m49_s0), .val (.int x9_60), .val (.int x10_69), .val (.int x11_78), .val (.int x12_86), .val (.int m97_s0), .val (.int m110_s0), .val (.int m126_s0), .val (.int m148_s0), .val (.int x17_157), .val (.int x18_164), .val (.int x19_171), .val (.int m192_s0), .val (.int x21_202), .val (.int x22_209), .val (.int x23_216), .val (.int m235_s0), .val (.int m257_s0), .val (.int m276_s0), .val (.int m295_s0), .val (.ref b67), .val (.int x29_353), .val (.int (own_f5_0_0 x23_216 m295_s0 u71_askedLine u71_passedChange)), .unset, .unset]) rfl ?_
        exact k)⟩
    have hc366 : (m97_s0 = (0 : Int32)) := hc308
    have hc379 : (m110_s0 = (0 : Int32)) := hc326
    have z81 : n0 ≤ (T74.heap).size := (Nat.le_trans z78 K74.1)
    obtain ⟨_, _, ⟨T80, L80, k80, n80⟩, -, X80, ⟨Lc80, hQ80, l80, y80, z80⟩, st80⟩ := Jvm.LawKit.callS X74 hx (y := (⟨"com/example/trawl/trawl/load/ColumnShiftsColumnInTextPinLaw", "expected", "(IIIIIIII)I"⟩ : MethodName)) hown (mvT hZ (hw _ (own_w 36 rfl))) (mvT hZ (hw _ (own_w 37 rfl))) (mvT hZ (hw _ (own_w 38 rfl))) (mvT hZ (hw _ (own_w 39 rfl))) (by decide) (backOf (W := 1) (rm6 l Z aw hw [] (x21_202) (m276_s0) ((0 : Int32)) (x19_171) (x17_157) ((0 : Int32)) (m192_s0) (x18_164) (T74.heap) n0 z81) hZ (hw _ (own_w 39 rfl)) (hw _ (own_w 38 rfl)) (by decide) (by decide)) (g := (mkF m 408 #[.val (.int p0), .val (.int p1), .val (.int p2), .val (.int p3), .val (.int x4_7), .val (.int x5_17), .val (.int x6_26), .val (.int x7_35), .val (.int m49_s0), .val (.int x9_60), .val (.int x10_69), .val (.int x11_78), .val (.int x12_86), .val (.int m97_s0), .val (.int m110_s0), .val (.int m126_s0), .val (.int m148_s0), .val (.int x17_157), .val (.int x18_164), .val (.int x19_171), .val (.int m192_s0), .val (.int x21_202), .val (.int x22_209), .val (.int x23_216), .val (.int m235_s0), .val (.int m257_s0), .val (.int m276_s0), .val (.int m295_s0), .val (.ref b67), .val (.int x29_353), .val (.int x30_364), .val (.int (0 : Int32)), .val (.int (0 : Int32))] [(.int x18_164), (.int m192_s0), (.int (0 : Int32)), (.int x17_157), (.int x19_171), (.int (0 : Int32)), (.int m276_s0), (.int x21_202), (.int x29_353)])) rfl (by rw [hml]; rfl) (argsL := [(.int x21_202), (.int m276_s0), (.int (0 : Int32)), (.int x19_171), (.int x17_157), (.int (0 : Int32)), (.int m192_s0), (.int x18_164)]) (rest := [(.int x29_353)]) (lenOf pd_2 rfl) rfl (by show 2 * 0 + _ ≤ _; exact Nat.le_of_eq rfl) (hb hby at_408) (fun _ _ => ⟨rfl, rfl, (by decide : 4 + 0 ≤ _), (by decide : 21 + 0 ≤ _)⟩)
    dsimp only [Pt.U, Pt.locs, Pt.cells, Pt.slots] at X80 l80 y80 z80 st80 hQ80
    rw [l80, y80, z80] at X80
    obtain ⟨rfl, Nq80, eq80⟩ := hQ80
    have N80 := Fr.app N74 Nq80
    have hc411 : (x29_353 = (own_f6 x21_202 m276_s0 ((0 : Int32)) x19_171 x17_157 ((0 : Int32)) m192_s0 x18_164)) := by rw [hx29_353]; exact own_none _ _ _ _ _ _ _
    obtain ⟨_, _, ⟨T82, L82, k82, n82⟩, -, X82, ⟨Lc82, hQ82, l82, y82, z82⟩, st82⟩ := Jvm.LawKit.callS X80 hx (y := (⟨"com/example/trawl/trawl/load/ColumnShiftsColumnInTextPinLaw", "expected", "(IIIIIIII)I"⟩ : MethodName)) hown (mvT hZ (hw _ (own_w 36 rfl))) (mvT hZ (hw _ (own_w 37 rfl))) (mvT hZ (hw _ (own_w 38 rfl))) (mvT hZ (hw _ (own_w 39 rfl))) (by decide) (backOf (W := 1) (rm6 l Z aw hw [] (x23_216) (m295_s0) ((0 : Int32)) (x19_171) (x17_157) ((0 : Int32)) (m192_s0) (x18_164) (T74.heap) n0 z81) hZ (hw _ (own_w 39 rfl)) (hw _ (own_w 38 rfl)) (by decide) (by decide)) (g := (mkF m 432 #[.val (.int p0), .val (.int p1), .val (.int p2), .val (.int p3), .val (.int x4_7), .val (.int x5_17), .val (.int x6_26), .val (.int x7_35), .val (.int m49_s0), .val (.int x9_60), .val (.int x10_69), .val (.int x11_78), .val (.int x12_86), .val (.int m97_s0), .val (.int m110_s0), .val (.int m126_s0), .val (.int m148_s0), .val (.int x17_157), .val (.int x18_164), .val (.int x19_171), .val (.int m192_s0), .val (.int x21_202), .val (.int x22_209), .val (.int x23_216), .val (.int m235_s0), .val (.int m257_s0), .val (.int m276_s0), .val (.int m295_s0), .val (.ref b67), .val (.int x29_353), .val (.int x30_364), .val (.int (0 : Int32)), .val (.int (0 : Int32))] [(.int x18_164), (.int m192_s0), (.int (0 : Int32)), (.int x17_157), (.int x19_171), (.int (0 : Int32)), (.int m295_s0), (.int x23_216), (.int x30_364)])) rfl (by rw [hml]; rfl) (argsL := [(.int x23_216), (.int m295_s0), (.int (0 : Int32)), (.int x19_171), (.int x17_157), (.int (0 : Int32)), (.int m192_s0), (.int x18_164)]) (rest := [(.int x30_364)]) (lenOf pd_2 rfl) rfl (by show 2 * 0 + _ ≤ _; exact Nat.le_of_eq rfl) (hb hby at_432) (fun _ _ => ⟨rfl, eq80, (by decide : 4 + 0 ≤ _), (by decide : 21 + 0 ≤ _)⟩)
    dsimp only [Pt.U, Pt.locs, Pt.cells, Pt.slots] at X82 l82 y82 z82 st82 hQ82
    rw [l82, y82, z82] at X82
    obtain ⟨rfl, Nq82, eq82⟩ := hQ82
    have N82 := Fr.app N80 Nq82
    have hc435 : (x30_364 = (own_f6 x23_216 m295_s0 ((0 : Int32)) x19_171 x17_157 ((0 : Int32)) m192_s0 x18_164)) := by rw [hx30_364, hu71_passedChange, own_pc0]; exact own_none _ _ _ _ _ _ _
    obtain ⟨fs, hr, hrun, hended, hW, hsame⟩ := X82.leave (v := some (.int (1 : Int32))) (fun h => by rw [Bd.returns] at h; cases h)
    refine ⟨_, _, pre79 _ ?_, hrun, hended, _, _, rfl, ?_, ⟨_, rfl⟩, hW, hsame.mono (by decide) (by decide)⟩
    · show Steps p.tables e below (T74.setTop (mkF m 364 #[.val (.int p0), .val (.int p1), .val (.int p2), .val (.int p3), .val (.int x4_7), .val (.int x5_17), .val (.int x6_26), .val (.int x7_35), .val (.int m49_s0), .val (.int x9_60), .val (.int x10_69), .val (.int x11_78), .val (.int x12_86), .val (.int m97_s0), .val (.int m110_s0), .val (.int m126_s0), .val (.int m148_s0), .val (.int x17_157), .val (.int x18_164), .val (.int x19_171), .val (.int m192_s0), .val (.int x21_202), .val (.int x22_209), .val (.int x23_216), .val (.int m235_s0), .val (.int m257_s0), .val (.int m276_s0), .val (.int m295_s0), .val (.ref b67), .val (.int x29_353), .val (.int x30_364), .unset, .unset] [])) _
      refine XS.iload X74.here hx rfl (hb hby at_364) rfl ?_
      refine XS.ifYes X74.here hx rfl (pc0 := 366) (pc' := 374) rfl (hb hby at_366) rfl ((if0 _ _).trans (teq hc366).1) (by decide) (by decide) ?_
      refine XS.iconst X74.here hx rfl (hb hby at_374) ?_
      refine XS.istore X74.here hx rfl (hb hby at_375) rfl (l' := #[.val (.int p0), .val (.int p1), .val (.int p2), .val (.int p3), .val (.int x4_7), .val (.int x5_17), .val (.int x6_26), .val (.int x7_35), .val (.int m49_s0), .val (.int x9_60), .val (.int x10_69), .val (.int x11_78), .val (.int x12_86), .val (.int m97_s0), .val (.int m110_s0), .val (.int m126_s0), .val (.int m148_s0), .val (.int x17_157), .val (.int x18_164), .val (.int x19_171), .val (.int m192_s0), .val (.int x21_202), .val (.int x22_209), .val (.int x23_216), .val (.int m235_s0), .val (.int m257_s0), .val (.int m276_s0), .val (.int m295_s0), .val (.ref b67), .val (.int x29_353), .val (.int x30_364), .val (.int (0 : Int32)), .unset]) rfl ?_
      refine XS.iload X74.here hx rfl (hb hby at_377) rfl ?_
      show Steps p.tables e below (T74.setTop (mkF m 379 #[.val (.int p0), .val (.int p1), .val (.int p2), .val (.int p3), .val (.int x4_7), .val (.int x5_17), .val (.int x6_26), .val (.int x7_35), .val (.int m49_s0), .val (.int x9_60), .val (.int x10_69), .val (.int x11_78), .val (.int x12_86), .val (.int m97_s0), .val (.int m110_s0), .val (.int m126_s0), .val (.int m148_s0), .val (.int x17_157), .val (.int x18_164), .val (.int x19_171), .val (.int m192_s0), .val (.int x21_202), .val (.int x22_209), .val (.int x23_216), .val (.int m235_s0), .val (.int m257_s0), .val (.int m276_s0), .val (.int m295_s0), .val (.ref b67), .val (.int x29_353), .val (.int x30_364), .val (.int (0 : Int32)), .unset] [(.int m110_s0)])) _
      refine XS.ifYes X74.here hx rfl (pc0 := 379) (pc' := 387) rfl (hb hby at_379) rfl ((if0 _ _).trans (teq hc379).1) (by decide) (by decide) ?_
      refine XS.iconst X74.here hx rfl (hb hby at_387) ?_
      refine XS.istore X74.here hx rfl (hb hby at_388) rfl (l' := #[.val (.int p0), .val (.int p1), .val (.int p2), .val (.int p3), .val (.int x4_7), .val (.int x5_17), .val (.int x6_26), .val (.int x7_35), .val (.int m49_s0), .val (.int x9_60), .val (.int x10_69), .val (.int x11_78), .val (.int x12_86), .val (.int m97_s0), .val (.int m110_s0), .val (.int m126_s0), .val (.int m148_s0), .val (.int x17_157), .val (.int x18_164), .val (.int x19_171), .val (.int m192_s0), .val (.int x21_202), .val (.int x22_209), .val (.int x23_216), .val (.int m235_s0), .val (.int m257_s0), .val (.int m276_s0), .val (.int m295_s0), .val (.ref b67), .val (.int x29_353), .val (.int x30_364), .val (.int (0 : Int32)), .val (.int (0 : Int32))]) rfl ?_
      refine XS.iload X74.here hx rfl (hb hby at_390) rfl ?_
      refine XS.iload X74.here hx rfl (hb hby at_392) rfl ?_
      show Steps p.tables e below (T74.setTop (mkF m 394 #[.val (.int p0), .val (.int p1), .val (.int p2), .val (.int p3), .val (.int x4_7), .val (.int x5_17), .val (.int x6_26), .val (.int x7_35), .val (.int m49_s0), .val (.int x9_60), .val (.int x10_69), .val (.int x11_78), .val (.int x12_86), .val (.int m97_s0), .val (.int m110_s0), .val (.int m126_s0), .val (.int m148_s0), .val (.int x17_157), .val (.int x18_164), .val (.int x19_171), .val (.int m192_s0), .val (.int x21_202), .val (.int x22_209), .val (.int x23_216), .val (.int m235_s0), .val (.int m257_s0), .val (.int m276_s0), .val (.int m295_s0), .val (.ref b67), .val (.int x29_353), .val (.int x30_364), .val (.int (0 : Int32)), .val (.int (0 : Int32))] [(.int x21_202), (.int x29_353)])) _
      refine XS.iload X74.here hx rfl (hb hby at_394) rfl ?_
      refine XS.iload X74.here hx rfl (hb hby at_396) rfl ?_
      refine XS.iload X74.here hx rfl (hb hby at_398) rfl ?_
      refine XS.iload X74.here hx rfl (hb hby at_400) rfl ?_
      refine XS.iload X74.here hx rfl (hb hby at_402) rfl ?_
      show Steps p.tables e below (T74.setTop (mkF m 404 #[.val (.int p0), .val (.int p1), .val (.int p2), .val (.int p3), .val (.int x4_7), .val (.int x5_17), .val (.int x6_26), .val (.int x7_35), .val (.int m49_s0), .val (.int x9_60), .val (.int x10_69), .val (.int x11_78), .val (.int x12_86), .val (.int m97_s0), .val (.int m110_s0), .val (.int m126_s0), .val (.int m148_s0), .val (.int x17_157), .val (.int x18_164), .val (.int x19_171), .val (.int m192_s0), .val (.int x21_202), .val (.int x22_209), .val (.int x23_216), .val (.int m235_s0), .val (.int m257_s0), .val (.int m276_s0), .val (.int m295_s0), .val (.ref b67), .val (.int x29_353), .val (.int x30_364), .val (.int (0 : Int32)), .val (.int (0 : Int32))] [(.int (0 : Int32)), (.int x17_157), (.int x19_171), (.int (0 : Int32)), (.int m276_s0), (.int x21_202), (.int x29_353)])) _
      refine XS.iload X74.here hx rfl (hb hby at_404) rfl ?_
      refine XS.iload X74.here hx rfl (hb hby at_406) rfl ?_
      refine st80 _ ?_
      refine XS.icmpNo X80.here hx rfl (hb hby at_411) rfl (teq hc411).2 ?_
      refine XS.iload X80.here hx rfl (hb hby at_414) rfl ?_
      show Steps p.tables e below (T80.setTop (mkF m 416 #[.val (.int p0), .val (.int p1), .val (.int p2), .val (.int p3), .val (.int x4_7), .val (.int x5_17), .val (.int x6_26), .val (.int x7_35), .val (.int m49_s0), .val (.int x9_60), .val (.int x10_69), .val (.int x11_78), .val (.int x12_86), .val (.int m97_s0), .val (.int m110_s0), .val (.int m126_s0), .val (.int m148_s0), .val (.int x17_157), .val (.int x18_164), .val (.int x19_171), .val (.int m192_s0), .val (.int x21_202), .val (.int x22_209), .val (.int x23_216), .val (.int m235_s0), .val (.int m257_s0), .val (.int m276_s0), .val (.int m295_s0), .val (.ref b67), .val (.int x29_353), .val (.int x30_364), .val (.int (0 : Int32)), .val (.int (0 : Int32))] [(.int x30_364)])) _
      refine XS.iload X80.here hx rfl (hb hby at_416) rfl ?_
      refine XS.iload X80.here hx rfl (hb hby at_418) rfl ?_
      refine XS.iload X80.here hx rfl (hb hby at_420) rfl ?_
      refine XS.iload X80.here hx rfl (hb hby at_422) rfl ?_
      refine XS.iload X80.here hx rfl (hb hby at_424) rfl ?_
      show Steps p.tables e below (T80.setTop (mkF m 426 #[.val (.int p0), .val (.int p1), .val (.int p2), .val (.int p3), .val (.int x4_7), .val (.int x5_17), .val (.int x6_26), .val (.int x7_35), .val (.int m49_s0), .val (.int x9_60), .val (.int x10_69), .val (.int x11_78), .val (.int x12_86), .val (.int m97_s0), .val (.int m110_s0), .val (.int m126_s0), .val (.int m148_s0), .val (.int x17_157), .val (.int x18_164), .val (.int x19_171), .val (.int m192_s0), .val (.int x21_202), .val (.int x22_209), .val (.int x23_216), .val (.int m235_s0), .val (.int m257_s0), .val (.int m276_s0), .val (.int m295_s0), .val (.ref b67), .val (.int x29_353), .val (.int x30_364), .val (.int (0 : Int32)), .val (.int (0 : Int32))] [(.int x17_157), (.int x19_171), (.int (0 : Int32)), (.int m295_s0), (.int x23_216), (.int x30_364)])) _
      refine XS.iload X80.here hx rfl (hb hby at_426) rfl ?_
      refine XS.iload X80.here hx rfl (hb hby at_428) rfl ?_
      refine XS.iload X80.here hx rfl (hb hby at_430) rfl ?_
      refine st82 _ ?_
      refine XS.icmpNo X82.here hx rfl (hb hby at_435) rfl (teq hc435).2 ?_
      show Steps p.tables e below (T82.setTop (mkF m 438 #[.val (.int p0), .val (.int p1), .val (.int p2), .val (.int p3), .val (.int x4_7), .val (.int x5_17), .val (.int x6_26), .val (.int x7_35), .val (.int m49_s0), .val (.int x9_60), .val (.int x10_69), .val (.int x11_78), .val (.int x12_86), .val (.int m97_s0), .val (.int m110_s0), .val (.int m126_s0), .val (.int m148_s0), .val (.int x17_157), .val (.int x18_164), .val (.int x19_171), .val (.int m192_s0), .val (.int x21_202), .val (.int x22_209), .val (.int x23_216), .val (.int m235_s0), .val (.int m257_s0), .val (.int m276_s0), .val (.int m295_s0), .val (.ref b67), .val (.int x29_353), .val (.int x30_364), .val (.int (0 : Int32)), .val (.int (0 : Int32))] [])) _
      refine XS.iconst X82.here hx rfl (hb hby at_438) ?_
      refine XS.goto X82.here hx rfl (pc0 := 439) (pc' := 443) rfl (hb hby at_439) (by decide) (by decide) ?_
      show Steps p.tables e below (T82.setTop (mkF m 443 #[.val (.int p0), .val (.int p1), .val (.int p2), .val (.int p3), .val (.int x4_7), .val (.int x5_17), .val (.int x6_26), .val (.int x7_35), .val (.int m49_s0), .val (.int x9_60), .val (.int x10_69), .val (.int x11_78), .val (.int x12_86), .val (.int m97_s0), .val (.int m110_s0), .val (.int m126_s0), .val (.int m148_s0), .val (.int x17_157), .val (.int x18_164), .val (.int x19_171), .val (.int m192_s0), .val (.int x21_202), .val (.int x22_209), .val (.int x23_216), .val (.int m235_s0), .val (.int m257_s0), .val (.int m276_s0), .val (.int m295_s0), .val (.ref b67), .val (.int x29_353), .val (.int x30_364), .val (.int (0 : Int32)), .val (.int (0 : Int32))] [(.int (1 : Int32))])) _
      exact retN X82 hx (t := .boolean) Bd.returns (by simp) (hb hby at_443) hr
    · show Q0 Z p0 p1 p2 p3 h0 n0 _ T82.heap _
      rw [eq82]
      unfold Q0
      refine ⟨rfl, N82⟩
  · have z84 : n0 ≤ (T68.heap).size := (Nat.le_trans z69 K68.1)
    obtain ⟨cq83, kq83, q83a, q83b, q83c⟩ := isOf hZ rfl po68_0
    obtain ⟨_, _, ⟨T83, L83, k83, n83⟩, -, X83, ⟨Lc83, hQ83, l83, y83, z83⟩, st83⟩ := X68.virtualBack hx (y := (⟨"com/example/trawl/trawl/load/ColumnShifts", "add", "(IIII)V"⟩ : MethodName)) (z := (⟨"com/example/trawl/trawl/load/ColumnShifts", "add", "(IIII)V"⟩ : MethodName)) hown (mvT hZ (hw _ (own_w 40 rfl))) (mvT hZ (hw _ (own_w 41 rfl))) (notFace_of_selects (args := #[]) (mvT hZ (hw _ (own_w 43 rfl)))) (mvT hZ (hw _ (own_w 43 rfl))) (mvT hZ (hw _ (own_w 42 rfl))) (by decide) (backOf (W := 0) (rm7_0 l Z aw hw [] (b67) (x4_7) (x5_17) (x6_26) (x7_35) (la68) (ea68) (ca68) (kl68) (ke68) (kc68) (u68_l16) (u68_l17) (u68_l18) ((0 : Int32)) ((0 : Int32)) (T68.heap) n0 z84 po68_0 po68_7 po68_8 po68_9 po68_16 po68_17 po68_18 po68_4 po68_5 po68_6 ne_b67_la68 ne_b67_ea68 ne_b67_ca68 g_b67 g_la68 g_ea68 g_ca68 po68_10 po68_11 po68_12 po68_13 po68_14 po68_15) hZ (hw _ (own_w 44 rfl)) (hw _ (own_w 9 rfl)) (by decide) (by decide)) q83a q83c (g := (mkF m 321 #[.val (.int p0), .val (.int p1), .val (.int p2), .val (.int p3), .val (.int x4_7), .val (.int x5_17), .val (.int x6_26), .val (.int x7_35), .val (.int m49_s0), .val (.int x9_60), .val (.int x10_69), .val (.int x11_78), .val (.int x12_86), .val (.int m97_s0), .val (.int m110_s0), .val (.int m126_s0), .val (.int m148_s0), .val (.int x17_157), .val (.int x18_164), .val (.int x19_171), .val (.int m192_s0), .val (.int x21_202), .val (.int x22_209), .val (.int x23_216), .val (.int m235_s0), .val (.int m257_s0), .val (.int m276_s0), .val (.int m295_s0), .val (.ref b67), .unset, .unset, .unset, .unset] [(.int x7_35), (.int x6_26), (.int x5_17), (.int x4_7), (.ref b67)])) rfl (by rw [hml]; rfl) (Steps.refl _) (argsL := [(.int x4_7), (.int x5_17), (.int x6_26), (.int x7_35)]) (rest := []) (lenOf pd_3 rfl) rfl (by show 2 * 0 + _ ≤ _; exact Nat.le_of_eq rfl) (hb hby at_321) (fun _ _ => ⟨rfl, rfl, (by decide : 4 + 0 ≤ _), (by decide : 21 + 0 ≤ _)⟩)
    dsimp only [Pt.U, Pt.locs, Pt.cells, Pt.slots] at X83 l83 y83 z83 st83 hQ83
    rw [l83, y83, z83] at X83
    obtain ⟨rfl, Nq83, K83, po83_0, po83_1, po83_2, po83_3, po83_4, po83_5, po83_6, po83_7, po83_8, po83_9, po83_10, po83_11, po83_12⟩ := hQ83
    have N83 := Fr.app N68 Nq83
    obtain ⟨u83_l4, hu83_l4⟩ : ∃ z, z = (own_p7_0_la x4_7 u68_l16) := ⟨_, rfl⟩
    rw [← hu83_l4] at po83_4
    obtain ⟨u83_l5, hu83_l5⟩ : ∃ z, z = (own_p7_0_ea x4_7 x5_17 x7_35 u68_l17 ((0 : Int32)) ((0 : Int32))) := ⟨_, rfl⟩
    rw [← hu83_l5] at po83_5
    obtain ⟨u83_l6, hu83_l6⟩ : ∃ z, z = (own_p7_0_ca x6_26 x7_35 u68_l18) := ⟨_, rfl⟩
    rw [← hu83_l6] at po83_6
    obtain ⟨u83_recordedChange, hu83_recordedChange⟩ : ∃ z, z = (own_p7_0_recordedChange x4_7 x6_26 x7_35 (0 : Int32) (0 : Int32)) := ⟨_, rfl⟩
    rw [← hu83_recordedChange] at po83_10
    have pre85 : own_Pre p e below (s₁.setTop (entryFrame m #[(.int p0), (.int p1), (.int p2), (.int p3)] maxLocals)) (T83.setTop (mkF m 326 #[.val (.int p0), .val (.int p1), .val (.int p2), .val (.int p3), .val (.int x4_7), .val (.int x5_17), .val (.int x6_26), .val (.int x7_35), .val (.int m49_s0), .val (.int x9_60), .val (.int x10_69), .val (.int x11_78), .val (.int x12_86), .val (.int m97_s0), .val (.int m110_s0), .val (.int m126_s0), .val (.int m148_s0), .val (.int x17_157), .val (.int x18_164), .val (.int x19_171), .val (.int m192_s0), .val (.int x21_202), .val (.int x22_209), .val (.int x23_216), .val (.int m235_s0), .val (.int m257_s0), .val (.int m276_s0), .val (.int m295_s0), .val (.ref b67), .unset, .unset, .unset, .unset] [(.int m110_s0)])) := fun t k => pre70 t (by
        show Steps p.tables e below (T68.setTop (mkF m 308 #[.val (.int p0), .val (.int p1), .val (.int p2), .val (.int p3), .val (.int x4_7), .val (.int x5_17), .val (.int x6_26), .val (.int x7_35), .val (.int m49_s0), .val (.int x9_60), .val (.int x10_69), .val (.int x11_78), .val (.int x12_86), .val (.int m97_s0), .val (.int m110_s0), .val (.int m126_s0), .val (.int m148_s0), .val (.int x17_157), .val (.int x18_164), .val (.int x19_171), .val (.int m192_s0), .val (.int x21_202), .val (.int x22_209), .val (.int x23_216), .val (.int m235_s0), .val (.int m257_s0), .val (.int m276_s0), .val (.int m295_s0), .val (.ref b67), .unset, .unset, .unset, .unset] [(.int m97_s0)])) _
        refine XS.ifNo X68.here hx rfl (hb hby at_308) rfl ((if0 _ _).trans (feq hc308).1) ?_
        refine XS.aload X68.here hx rfl (hb hby at_311) rfl rfl ?_
        refine XS.iload X68.here hx rfl (hb hby at_313) rfl ?_
        refine XS.iload X68.here hx rfl (hb hby at_315) rfl ?_
        refine XS.iload X68.here hx rfl (hb hby at_317) rfl ?_
        show Steps p.tables e below (T68.setTop (mkF m 319 #[.val (.int p0), .val (.int p1), .val (.int p2), .val (.int p3), .val (.int x4_7), .val (.int x5_17), .val (.int x6_26), .val (.int x7_35), .val (.int m49_s0), .val (.int x9_60), .val (.int x10_69), .val (.int x11_78), .val (.int x12_86), .val (.int m97_s0), .val (.int m110_s0), .val (.int m126_s0), .val (.int m148_s0), .val (.int x17_157), .val (.int x18_164), .val (.int x19_171), .val (.int m192_s0), .val (.int x21_202), .val (.int x22_209), .val (.int x23_216), .val (.int m235_s0), .val (.int m257_s0), .val (.int m276_s0), .val (.int m295_s0), .val (.ref b67), .unset, .unset, .unset, .unset] [(.int x6_26), (.int x5_17), (.int x4_7), (.ref b67)])) _
        refine XS.iload X68.here hx rfl (hb hby at_319) rfl ?_
        refine st83.trans ?_
        refine XS.iload X83.here hx rfl (hb hby at_324) rfl ?_
        exact k)
    by_cases hc326 : m110_s0 = (0 : Int32)
    · have z87 : n0 ≤ (T83.heap).size := (Nat.le_trans z84 K83.1)
      obtain ⟨cq86, kq86, q86a, q86b, q86c⟩ := isOf hZ rfl po83_0
      obtain ⟨_, _, ⟨T86, L86, k86, n86⟩, -, X86, ⟨Lc86, hQ86, l86, y86, z86⟩, st86⟩ := X83.virtualBack hx (y := (⟨"com/example/trawl/trawl/load/ColumnShifts", "columnInText", "(II)I"⟩ : MethodName)) (z := (⟨"com/example/trawl/trawl/load/ColumnShifts", "columnInText", "(II)I"⟩ : MethodName)) hown (mvT hZ (hw _ (own_w 23 rfl))) (mvT hZ (hw _ (own_w 24 rfl))) (notFace_of_selects (args := #[]) (mvT hZ (hw _ (own_w 26 rfl)))) (mvT hZ (hw _ (own_w 26 rfl))) (mvT hZ (hw _ (own_w 25 rfl))) (by decide) (backOf (W := 0) (rm5_0_1 l Z aw hw [] (b67) (x21_202) (m276_s0) (la68) (ea68) (ca68) (kl68) (ke68) (kc68) (u83_l4) (u83_l5) (u83_l6) ((0 : Int32)) ((0 : Int32)) (T83.heap) n0 z87 po83_0 po83_1 po83_2 po83_3 po83_4 po83_5 po83_6 po68_4 po68_5 po68_6 ne_b67_la68 ne_b67_ea68 ne_b67_ca68 g_b67 po83_7 po83_8 po83_11 po83_12) hZ (hw _ (own_w 27 rfl)) (hw _ (own_w 9 rfl)) (by decide) (by decide)) q86a q86c (g := (mkF m 348 #[.val (.int p0), .val (.int p1), .val (.int p2), .val (.int p3), .val (.int x4_7), .val (.int x5_17), .val (.int x6_26), .val (.int x7_35), .val (.int m49_s0), .val (.int x9_60), .val (.int x10_69), .val (.int x11_78), .val (.int x12_86), .val (.int m97_s0), .val (.int m110_s0), .val (.int m126_s0), .val (.int m148_s0), .val (.int x17_157), .val (.int x18_164), .val (.int x19_171), .val (.int m192_s0), .val (.int x21_202), .val (.int x22_209), .val (.int x23_216), .val (.int m235_s0), .val (.int m257_s0), .val (.int m276_s0), .val (.int m295_s0), .val (.ref b67), .unset, .unset, .unset, .unset] [(.int m276_s0), (.int x21_202), (.ref b67)])) rfl (by rw [hml]; rfl) (Steps.refl _) (argsL := [(.int x21_202), (.int m276_s0)]) (rest := []) (lenOf pd_0 rfl) rfl (by show 2 * 0 + _ ≤ _; exact Nat.le_of_eq rfl) (hb hby at_348) (fun _ _ => ⟨rfl, rfl, (by decide : 4 + 0 ≤ _), (by decide : 21 + 0 ≤ _)⟩)
      dsimp only [Pt.U, Pt.locs, Pt.cells, Pt.slots] at X86 l86 y86 z86 st86 hQ86
      rw [l86, y86, z86] at X86
      obtain ⟨rfl, Nq86, K86, po86_0, po86_1, po86_2, po86_3, po86_4, po86_5, po86_6, po86_7⟩ := hQ86
      have N86 := Fr.app N83 Nq86
      obtain ⟨u86_first, hu86_first⟩ : ∃ z, z = (own_p5_0_1_first x21_202 m276_s0 u83_l4 u83_l5) := ⟨_, rfl⟩
      rw [← hu86_first] at po86_4
      obtain ⟨u86_askedLine, hu86_askedLine⟩ : ∃ z, z = (own_p5_0_1_askedLine x21_202 m276_s0 (0 : Int32)) := ⟨_, rfl⟩
      rw [← hu86_askedLine] at po86_6
      obtain ⟨u86_passedChange, hu86_passedChange⟩ : ∃ z, z = (own_p5_0_1_passedChange x21_202 m276_s0 u83_l4 u83_l5 u83_l6 (0 : Int32) (0 : Int32)) := ⟨_, rfl⟩
      rw [← hu86_passedChange] at po86_7
      have pre88 : own_Pre p e below (s₁.setTop (entryFrame m #[(.int p0), (.int p1), (.int p2), (.int p3)] maxLocals)) (T86.setTop (mkF m 351 #[.val (.int p0), .val (.int p1), .val (.int p2), .val (.int p3), .val (.int x4_7), .val (.int x5_17), .val (.int x6_26), .val (.int x7_35), .val (.int m49_s0), .val (.int x9_60), .val (.int x10_69), .val (.int x11_78), .val (.int x12_86), .val (.int m97_s0), .val (.int m110_s0), .val (.int m126_s0), .val (.int m148_s0), .val (.int x17_157), .val (.int x18_164), .val (.int x19_171), .val (.int m192_s0), .val (.int x21_202), .val (.int x22_209), .val (.int x23_216), .val (.int m235_s0), .val (.int m257_s0), .val (.int m276_s0), .val (.int m295_s0), .val (.ref b67), .unset, .unset, .unset, .unset] [(.int (own_f5_0_1 x21_202 m276_s0 u83_l4 u83_l5 u83_l6 ((0 : Int32)) ((0 : Int32))))])) := fun t k => pre85 t (by
          show Steps p.tables e below (T83.setTop (mkF m 326 #[.val (.int p0), .val (.int p1), .val (.int p2), .val (.int p3), .val (.int x4_7), .val (.int x5_17), .val (.int x6_26), .val (.int x7_35), .val (.int m49_s0), .val (.int x9_60), .val (.int x10_69), .val (.int x11_78), .val (.int x12_86), .val (.int m97_s0), .val (.int m110_s0), .val (.int m126_s0), .val (.int m148_s0), .val (.int x17_157), .val (.int x18_164), .val (.int x19_171), .val (.int m192_s0), .val (.int x21_202), .val (.int x22_209), .val (.int x23_216), .val (.int m235_s0), .val (.int m257_s0), .val (.int m276_s0), .val (.int m295_s0), .val (.ref b67), .unset, .unset, .unset, .unset] [(.int m110_s0)])) _
          refine XS.ifYes X83.here hx rfl (pc0 := 326) (pc' := 342) rfl (hb hby at_326) rfl ((if0 _ _).trans (teq hc326).1) (by decide) (by decide) ?_
          refine XS.aload X83.here hx rfl (hb hby at_342) rfl rfl ?_
          refine XS.iload X83.here hx rfl (hb hby at_344) rfl ?_
          refine XS.iload X83.here hx rfl (hb hby at_346) rfl ?_
          refine st86.trans ?_
          exact k)
      by_cases hf0 : u86_first = (0 : Int32)
      · have ff89 := po86_4
        rw [hf0] at ff89
        obtain ⟨x29_353, hx29_353, pre90⟩ : ∃ z : Int32, z = (own_f5_0_1 x21_202 m276_s0 u83_l4 u83_l5 u83_l6 ((0 : Int32)) ((0 : Int32))) ∧ own_Pre p e below (s₁.setTop (entryFrame m #[(.int p0), (.int p1), (.int p2), (.int p3)] maxLocals)) (T86.setTop (mkF m 353 #[.val (.int p0), .val (.int p1), .val (.int p2), .val (.int p3), .val (.int x4_7), .val (.int x5_17), .val (.int x6_26), .val (.int x7_35), .val (.int m49_s0), .val (.int x9_60), .val (.int x10_69), .val (.int x11_78), .val (.int x12_86), .val (.int m97_s0), .val (.int m110_s0), .val (.int m126_s0), .val (.int m148_s0), .val (.int x17_157), .val (.int x18_164), .val (.int x19_171), .val (.int m192_s0), .val (.int x21_202), .val (.int x22_209), .val (.int x23_216), .val (.int m235_s0), .val (.int m257_s0), .val (.int m276_s0), .val (.int m295_s0), .val (.ref b67), .val (.int z), .unset, .unset, .unset] [])) := ⟨_, rfl, fun t k => pre88 t (by
            show Steps p.tables e below (T86.setTop (mkF m 351 #[.val (.int p0), .val (.int p1), .val (.int p2), .val (.int p3), .val (.int x4_7), .val (.int x5_17), .val (.int x6_26), .val (.int x7_35), .val (.int m49_s0), .val (.int x9_60), .val (.int x10_69), .val (.int x11_78), .val (.int x12_86), .val (.int m97_s0), .val (.int m110_s0), .val (.int m126_s0), .val (.int m148_s0), .val (.int x17_157), .val (.int x18_164), .val (.int x19_171), .val (.int m192_s0), .val (.int x21_202), .val (.int x22_209), .val (.int x23_216), .val (.int m235_s0), .val (.int m257_s0), .val (.int m276_s0), .val (.int m295_s0), .val (.ref b67), .unset, .unset, .unset, .unset] [(.int (own_f5_0_1 x21_202 m276_s0 u83_l4 u83_l5 u83_l6 ((0 : Int32)) ((0 : Int32))))])) _
            refine XS.istore X86.here hx rfl (hb hby at_351) rfl (l' := #[.val (.int p0), .val (.int p1), .val (.int p2), .val (.int p3), .val (.int x4_7), .val (.int x5_17), .val (.int x6_26), .val (.int x7_35), .val (.int m49_s0), .val (.int x9_60), .val (.int x10_69), .val (.int x11_78), .val (.int x12_86), .val (.int m97_s0), .val (.int m110_s0), .val (.int m126_s0), .val (.int m148_s0), .val (.int x17_157), .val (.int x18_164), .val (.int x19_171), .val (.int m192_s0), .val (.int x21_202), .val (.int x22_209), .val (.int x23_216), .val (.int m235_s0), .val (.int m257_s0), .val (.int m276_s0), .val (.int m295_s0), .val (.ref b67), .val (.int (own_f5_0_1 x21_202 m276_s0 u83_l4 u83_l5 u83_l6 ((0 : Int32)) ((0 : Int32)))), .unset, .unset, .unset]) rfl ?_
            exact k)⟩
        have f92 := (po83_4.keep K86 (ninS (Ne.symm ne_b67_la68) nin0))
        have f93 := (po83_5.keep K86 (ninS (Ne.symm ne_b67_ea68) nin0))
        have f94 := (po83_6.keep K86 (ninS (Ne.symm ne_b67_ca68) nin0))
        have z95 : n0 ≤ (T86.heap).size := (Nat.le_trans z87 K86.1)
        obtain ⟨cq91, kq91, q91a, q91b, q91c⟩ := isOf hZ rfl po86_0
        obtain ⟨_, _, ⟨T91, L91, k91, n91⟩, -, X91, ⟨Lc91, hQ91, l91, y91, z91⟩, st91⟩ := X86.virtualBack hx (y := (⟨"com/example/trawl/trawl/load/ColumnShifts", "columnInText", "(II)I"⟩ : MethodName)) (z := (⟨"com/example/trawl/trawl/load/ColumnShifts", "columnInText", "(II)I"⟩ : MethodName)) hown (mvT hZ (hw _ (own_w 23 rfl))) (mvT hZ (hw _ (own_w 24 rfl))) (notFace_of_selects (args := #[]) (mvT hZ (hw _ (own_w 26 rfl)))) (mvT hZ (hw _ (own_w 26 rfl))) (mvT hZ (hw _ (own_w 25 rfl))) (by decide) (backOf (W := 0) (rm5_0_1 l Z aw hw [] (b67) (x23_216) (m295_s0) (la68) (ea68) (ca68) (kl68) (ke68) (kc68) (u83_l4) (u83_l5) (u83_l6) (u86_askedLine) (u86_passedChange) (T86.heap) n0 z95 po86_0 po86_1 po86_2 po86_3 f92 f93 f94 po68_4 po68_5 po68_6 ne_b67_la68 ne_b67_ea68 ne_b67_ca68 g_b67 ff89 po86_5 po86_6 po86_7) hZ (hw _ (own_w 27 rfl)) (hw _ (own_w 9 rfl)) (by decide) (by decide)) q91a q91c (g := (mkF m 359 #[.val (.int p0), .val (.int p1), .val (.int p2), .val (.int p3), .val (.int x4_7), .val (.int x5_17), .val (.int x6_26), .val (.int x7_35), .val (.int m49_s0), .val (.int x9_60), .val (.int x10_69), .val (.int x11_78), .val (.int x12_86), .val (.int m97_s0), .val (.int m110_s0), .val (.int m126_s0), .val (.int m148_s0), .val (.int x17_157), .val (.int x18_164), .val (.int x19_171), .val (.int m192_s0), .val (.int x21_202), .val (.int x22_209), .val (.int x23_216), .val (.int m235_s0), .val (.int m257_s0), .val (.int m276_s0), .val (.int m295_s0), .val (.ref b67), .val (.int x29_353), .unset, .unset, .unset] [(.int m295_s0), (.int x23_216), (.ref b67)])) rfl (by rw [hml]; rfl) (Steps.refl _) (argsL := [(.int x23_216), (.int m295_s0)]) (rest := []) (lenOf pd_0 rfl) rfl (by show 2 * 0 + _ ≤ _; exact Nat.le_of_eq rfl) (hb hby at_359) (fun _ _ => ⟨rfl, rfl, (by decide : 4 + 0 ≤ _), (by decide : 21 + 0 ≤ _)⟩)
        dsimp only [Pt.U, Pt.locs, Pt.cells, Pt.slots] at X91 l91 y91 z91 st91 hQ91
        rw [l91, y91, z91] at X91
        obtain ⟨rfl, Nq91, K91, po91_0, po91_1, po91_2, po91_3, po91_4, po91_5, po91_6, po91_7⟩ := hQ91
        have N91 := Fr.app N86 Nq91
        obtain ⟨u91_first, hu91_first⟩ : ∃ z, z = (own_p5_0_1_first x23_216 m295_s0 u83_l4 u83_l5) := ⟨_, rfl⟩
        rw [← hu91_first] at po91_4
        obtain ⟨u91_askedLine, hu91_askedLine⟩ : ∃ z, z = (own_p5_0_1_askedLine x23_216 m295_s0 u86_askedLine) := ⟨_, rfl⟩
        rw [← hu91_askedLine] at po91_6
        obtain ⟨u91_passedChange, hu91_passedChange⟩ : ∃ z, z = (own_p5_0_1_passedChange x23_216 m295_s0 u83_l4 u83_l5 u83_l6 u86_askedLine u86_passedChange) := ⟨_, rfl⟩
        rw [← hu91_passedChange] at po91_7
        obtain ⟨x30_364, hx30_364, pre96⟩ : ∃ z : Int32, z = (own_f5_0_1 x23_216 m295_s0 u83_l4 u83_l5 u83_l6 u86_askedLine u86_passedChange) ∧ own_Pre p e below (s₁.setTop (entryFrame m #[(.int p0), (.int p1), (.int p2), (.int p3)] maxLocals)) (T91.setTop (mkF m 364 #[.val (.int p0), .val (.int p1), .val (.int p2), .val (.int p3), .val (.int x4_7), .val (.int x5_17), .val (.int x6_26), .val (.int x7_35), .val (.int m49_s0), .val (.int x9_60), .val (.int x10_69), .val (.int x11_78), .val (.int x12_86), .val (.int m97_s0), .val (.int m110_s0), .val (.int m126_s0), .val (.int m148_s0), .val (.int x17_157), .val (.int x18_164), .val (.int x19_171), .val (.int m192_s0), .val (.int x21_202), .val (.int x22_209), .val (.int x23_216), .val (.int m235_s0), .val (.int m257_s0), .val (.int m276_s0), .val (.int m295_s0), .val (.ref b67), .val (.int x29_353), .val (.int z), .unset, .unset] [])) := ⟨_, rfl, fun t k => pre90 t (by
            show Steps p.tables e below (T86.setTop (mkF m 353 #[.val (.int p0), .val (.int p1), .val (.int p2), .val (.int p3), .val (.int x4_7), .val (.int x5_17), .val (.int x6_26), .val (.int x7_35), .val (.int m49_s0), .val (.int x9_60), .val (.int x10_69), .val (.int x11_78), .val (.int x12_86), .val (.int m97_s0), .val (.int m110_s0), .val (.int m126_s0), .val (.int m148_s0), .val (.int x17_157), .val (.int x18_164), .val (.int x19_171), .val (.int m192_s0), .val (.int x21_202), .val (.int x22_209), .val (.int x23_216), .val (.int m235_s0), .val (.int m257_s0), .val (.int m276_s0), .val (.int m295_s0), .val (.ref b67), .val (.int x29_353), .unset, .unset, .unset] [])) _
            refine XS.aload X86.here hx rfl (hb hby at_353) rfl rfl ?_
            refine XS.iload X86.here hx rfl (hb hby at_355) rfl ?_
            refine XS.iload X86.here hx rfl (hb hby at_357) rfl ?_
            refine st91.trans ?_
            refine XS.istore X91.here hx rfl (hb hby at_362) rfl (l' := #[.val (.int p0), .val (.int p1), .val (.int p2), .val (.int p3), .val (.int x4_7), .val (.int x5_17), .val (.int x6_26), .val (.int x7_35), .val (.int m49_s0), .val (.int x9_60), .val (.int x10_69), .val (.int x11_78), .val (.int x12_86), .val (.int m97_s0), .val (.int m110_s0), .val (.int m126_s0), .val (.int m148_s0), .val (.int x17_157), .val (.int x18_164), .val (.int x19_171), .val (.int m192_s0), .val (.int x21_202), .val (.int x22_209), .val (.int x23_216), .val (.int m235_s0), .val (.int m257_s0), .val (.int m276_s0), .val (.int m295_s0), .val (.ref b67), .val (.int x29_353), .val (.int (own_f5_0_1 x23_216 m295_s0 u83_l4 u83_l5 u83_l6 u86_askedLine u86_passedChange)), .unset, .unset]) rfl ?_
            exact k)⟩
        have hc366 : ¬ (m97_s0 = (0 : Int32)) := hc308
        have hc379 : (m110_s0 = (0 : Int32)) := hc326
        have z98 : n0 ≤ (T91.heap).size := (Nat.le_trans z95 K91.1)
        obtain ⟨_, _, ⟨T97, L97, k97, n97⟩, -, X97, ⟨Lc97, hQ97, l97, y97, z97⟩, st97⟩ := Jvm.LawKit.callS X91 hx (y := (⟨"com/example/trawl/trawl/load/ColumnShiftsColumnInTextPinLaw", "expected", "(IIIIIIII)I"⟩ : MethodName)) hown (mvT hZ (hw _ (own_w 36 rfl))) (mvT hZ (hw _ (own_w 37 rfl))) (mvT hZ (hw _ (own_w 38 rfl))) (mvT hZ (hw _ (own_w 39 rfl))) (by decide) (backOf (W := 1) (rm6 l Z aw hw [] (x21_202) (m276_s0) (x4_7) (x19_171) (x17_157) ((0 : Int32)) (m192_s0) (x18_164) (T91.heap) n0 z98) hZ (hw _ (own_w 39 rfl)) (hw _ (own_w 38 rfl)) (by decide) (by decide)) (g := (mkF m 408 #[.val (.int p0), .val (.int p1), .val (.int p2), .val (.int p3), .val (.int x4_7), .val (.int x5_17), .val (.int x6_26), .val (.int x7_35), .val (.int m49_s0), .val (.int x9_60), .val (.int x10_69), .val (.int x11_78), .val (.int x12_86), .val (.int m97_s0), .val (.int m110_s0), .val (.int m126_s0), .val (.int m148_s0), .val (.int x17_157), .val (.int x18_164), .val (.int x19_171), .val (.int m192_s0), .val (.int x21_202), .val (.int x22_209), .val (.int x23_216), .val (.int m235_s0), .val (.int m257_s0), .val (.int m276_s0), .val (.int m295_s0), .val (.ref b67), .val (.int x29_353), .val (.int x30_364), .val (.int x4_7), .val (.int (0 : Int32))] [(.int x18_164), (.int m192_s0), (.int (0 : Int32)), (.int x17_157), (.int x19_171), (.int x4_7), (.int m276_s0), (.int x21_202), (.int x29_353)])) rfl (by rw [hml]; rfl) (argsL := [(.int x21_202), (.int m276_s0), (.int x4_7), (.int x19_171), (.int x17_157), (.int (0 : Int32)), (.int m192_s0), (.int x18_164)]) (rest := [(.int x29_353)]) (lenOf pd_2 rfl) rfl (by show 2 * 0 + _ ≤ _; exact Nat.le_of_eq rfl) (hb hby at_408) (fun _ _ => ⟨rfl, rfl, (by decide : 4 + 0 ≤ _), (by decide : 21 + 0 ≤ _)⟩)
        dsimp only [Pt.U, Pt.locs, Pt.cells, Pt.slots] at X97 l97 y97 z97 st97 hQ97
        rw [l97, y97, z97] at X97
        obtain ⟨rfl, Nq97, eq97⟩ := hQ97
        have N97 := Fr.app N91 Nq97
        have hc411 : (x29_353 = (own_f6 x21_202 m276_s0 x4_7 x19_171 x17_157 ((0 : Int32)) m192_s0 x18_164)) := by have A := own_add0 hu68_l16 hu68_l17 hu68_l18 hu83_l4 hu83_l5 hu83_l6 G7; have a1 := A.1; have a2 := A.2.1.trans hx19_171.symm; have a3 := A.2.2.1.trans hx17_157.symm; rw [hx29_353]; exact own_one0 _ _ _ _ _ _ _ _ _ _ _ a1 a2 a3
        obtain ⟨_, _, ⟨T99, L99, k99, n99⟩, -, X99, ⟨Lc99, hQ99, l99, y99, z99⟩, st99⟩ := Jvm.LawKit.callS X97 hx (y := (⟨"com/example/trawl/trawl/load/ColumnShiftsColumnInTextPinLaw", "expected", "(IIIIIIII)I"⟩ : MethodName)) hown (mvT hZ (hw _ (own_w 36 rfl))) (mvT hZ (hw _ (own_w 37 rfl))) (mvT hZ (hw _ (own_w 38 rfl))) (mvT hZ (hw _ (own_w 39 rfl))) (by decide) (backOf (W := 1) (rm6 l Z aw hw [] (x23_216) (m295_s0) (x4_7) (x19_171) (x17_157) ((0 : Int32)) (m192_s0) (x18_164) (T91.heap) n0 z98) hZ (hw _ (own_w 39 rfl)) (hw _ (own_w 38 rfl)) (by decide) (by decide)) (g := (mkF m 432 #[.val (.int p0), .val (.int p1), .val (.int p2), .val (.int p3), .val (.int x4_7), .val (.int x5_17), .val (.int x6_26), .val (.int x7_35), .val (.int m49_s0), .val (.int x9_60), .val (.int x10_69), .val (.int x11_78), .val (.int x12_86), .val (.int m97_s0), .val (.int m110_s0), .val (.int m126_s0), .val (.int m148_s0), .val (.int x17_157), .val (.int x18_164), .val (.int x19_171), .val (.int m192_s0), .val (.int x21_202), .val (.int x22_209), .val (.int x23_216), .val (.int m235_s0), .val (.int m257_s0), .val (.int m276_s0), .val (.int m295_s0), .val (.ref b67), .val (.int x29_353), .val (.int x30_364), .val (.int x4_7), .val (.int (0 : Int32))] [(.int x18_164), (.int m192_s0), (.int (0 : Int32)), (.int x17_157), (.int x19_171), (.int x4_7), (.int m295_s0), (.int x23_216), (.int x30_364)])) rfl (by rw [hml]; rfl) (argsL := [(.int x23_216), (.int m295_s0), (.int x4_7), (.int x19_171), (.int x17_157), (.int (0 : Int32)), (.int m192_s0), (.int x18_164)]) (rest := [(.int x30_364)]) (lenOf pd_2 rfl) rfl (by show 2 * 0 + _ ≤ _; exact Nat.le_of_eq rfl) (hb hby at_432) (fun _ _ => ⟨rfl, eq97, (by decide : 4 + 0 ≤ _), (by decide : 21 + 0 ≤ _)⟩)
        dsimp only [Pt.U, Pt.locs, Pt.cells, Pt.slots] at X99 l99 y99 z99 st99 hQ99
        rw [l99, y99, z99] at X99
        obtain ⟨rfl, Nq99, eq99⟩ := hQ99
        have N99 := Fr.app N97 Nq99
        have hc435 : (x30_364 = (own_f6 x23_216 m295_s0 x4_7 x19_171 x17_157 ((0 : Int32)) m192_s0 x18_164)) := by have A := own_add0 hu68_l16 hu68_l17 hu68_l18 hu83_l4 hu83_l5 hu83_l6 G7; have a1 := A.1; have a2 := A.2.1.trans hx19_171.symm; have a3 := A.2.2.1.trans hx17_157.symm; rw [hx30_364, hu86_passedChange, (own_st1 a1 a2 a3 G1).1 (hu86_first.symm.trans hf0)]; exact own_one0 _ _ _ _ _ _ _ _ _ _ _ a1 a2 a3
        obtain ⟨fs, hr, hrun, hended, hW, hsame⟩ := X99.leave (v := some (.int (1 : Int32))) (fun h => by rw [Bd.returns] at h; cases h)
        refine ⟨_, _, pre96 _ ?_, hrun, hended, _, _, rfl, ?_, ⟨_, rfl⟩, hW, hsame.mono (by decide) (by decide)⟩
        · show Steps p.tables e below (T91.setTop (mkF m 364 #[.val (.int p0), .val (.int p1), .val (.int p2), .val (.int p3), .val (.int x4_7), .val (.int x5_17), .val (.int x6_26), .val (.int x7_35), .val (.int m49_s0), .val (.int x9_60), .val (.int x10_69), .val (.int x11_78), .val (.int x12_86), .val (.int m97_s0), .val (.int m110_s0), .val (.int m126_s0), .val (.int m148_s0), .val (.int x17_157), .val (.int x18_164), .val (.int x19_171), .val (.int m192_s0), .val (.int x21_202), .val (.int x22_209), .val (.int x23_216), .val (.int m235_s0), .val (.int m257_s0), .val (.int m276_s0), .val (.int m295_s0), .val (.ref b67), .val (.int x29_353), .val (.int x30_364), .unset, .unset] [])) _
          refine XS.iload X91.here hx rfl (hb hby at_364) rfl ?_
          refine XS.ifNo X91.here hx rfl (hb hby at_366) rfl ((if0 _ _).trans (feq hc366).1) ?_
          refine XS.iload X91.here hx rfl (hb hby at_369) rfl ?_
          refine XS.goto X91.here hx rfl (pc0 := 371) (pc' := 375) rfl (hb hby at_371) (by decide) (by decide) ?_
          refine XS.istore X91.here hx rfl (hb hby at_375) rfl (l' := #[.val (.int p0), .val (.int p1), .val (.int p2), .val (.int p3), .val (.int x4_7), .val (.int x5_17), .val (.int x6_26), .val (.int x7_35), .val (.int m49_s0), .val (.int x9_60), .val (.int x10_69), .val (.int x11_78), .val (.int x12_86), .val (.int m97_s0), .val (.int m110_s0), .val (.int m126_s0), .val (.int m148_s0), .val (.int x17_157), .val (.int x18_164), .val (.int x19_171), .val (.int m192_s0), .val (.int x21_202), .val (.int x22_209), .val (.int x23_216), .val (.int m235_s0), .val (.int m257_s0), .val (.int m276_s0), .val (.int m295_s0), .val (.ref b67), .val (.int x29_353), .val (.int x30_364), .val (.int x4_7), .unset]) rfl ?_
          show Steps p.tables e below (T91.setTop (mkF m 377 #[.val (.int p0), .val (.int p1), .val (.int p2), .val (.int p3), .val (.int x4_7), .val (.int x5_17), .val (.int x6_26), .val (.int x7_35), .val (.int m49_s0), .val (.int x9_60), .val (.int x10_69), .val (.int x11_78), .val (.int x12_86), .val (.int m97_s0), .val (.int m110_s0), .val (.int m126_s0), .val (.int m148_s0), .val (.int x17_157), .val (.int x18_164), .val (.int x19_171), .val (.int m192_s0), .val (.int x21_202), .val (.int x22_209), .val (.int x23_216), .val (.int m235_s0), .val (.int m257_s0), .val (.int m276_s0), .val (.int m295_s0), .val (.ref b67), .val (.int x29_353), .val (.int x30_364), .val (.int x4_7), .unset] [])) _
          refine XS.iload X91.here hx rfl (hb hby at_377) rfl ?_
          refine XS.ifYes X91.here hx rfl (pc0 := 379) (pc' := 387) rfl (hb hby at_379) rfl ((if0 _ _).trans (teq hc379).1) (by decide) (by decide) ?_
          refine XS.iconst X91.here hx rfl (hb hby at_387) ?_
          refine XS.istore X91.here hx rfl (hb hby at_388) rfl (l' := #[.val (.int p0), .val (.int p1), .val (.int p2), .val (.int p3), .val (.int x4_7), .val (.int x5_17), .val (.int x6_26), .val (.int x7_35), .val (.int m49_s0), .val (.int x9_60), .val (.int x10_69), .val (.int x11_78), .val (.int x12_86), .val (.int m97_s0), .val (.int m110_s0), .val (.int m126_s0), .val (.int m148_s0), .val (.int x17_157), .val (.int x18_164), .val (.int x19_171), .val (.int m192_s0), .val (.int x21_202), .val (.int x22_209), .val (.int x23_216), .val (.int m235_s0), .val (.int m257_s0), .val (.int m276_s0), .val (.int m295_s0), .val (.ref b67), .val (.int x29_353), .val (.int x30_364), .val (.int x4_7), .val (.int (0 : Int32))]) rfl ?_
          refine XS.iload X91.here hx rfl (hb hby at_390) rfl ?_
          show Steps p.tables e below (T91.setTop (mkF m 392 #[.val (.int p0), .val (.int p1), .val (.int p2), .val (.int p3), .val (.int x4_7), .val (.int x5_17), .val (.int x6_26), .val (.int x7_35), .val (.int m49_s0), .val (.int x9_60), .val (.int x10_69), .val (.int x11_78), .val (.int x12_86), .val (.int m97_s0), .val (.int m110_s0), .val (.int m126_s0), .val (.int m148_s0), .val (.int x17_157), .val (.int x18_164), .val (.int x19_171), .val (.int m192_s0), .val (.int x21_202), .val (.int x22_209), .val (.int x23_216), .val (.int m235_s0), .val (.int m257_s0), .val (.int m276_s0), .val (.int m295_s0), .val (.ref b67), .val (.int x29_353), .val (.int x30_364), .val (.int x4_7), .val (.int (0 : Int32))] [(.int x29_353)])) _
          refine XS.iload X91.here hx rfl (hb hby at_392) rfl ?_
          refine XS.iload X91.here hx rfl (hb hby at_394) rfl ?_
          refine XS.iload X91.here hx rfl (hb hby at_396) rfl ?_
          refine XS.iload X91.here hx rfl (hb hby at_398) rfl ?_
          refine XS.iload X91.here hx rfl (hb hby at_400) rfl ?_
          show Steps p.tables e below (T91.setTop (mkF m 402 #[.val (.int p0), .val (.int p1), .val (.int p2), .val (.int p3), .val (.int x4_7), .val (.int x5_17), .val (.int x6_26), .val (.int x7_35), .val (.int m49_s0), .val (.int x9_60), .val (.int x10_69), .val (.int x11_78), .val (.int x12_86), .val (.int m97_s0), .val (.int m110_s0), .val (.int m126_s0), .val (.int m148_s0), .val (.int x17_157), .val (.int x18_164), .val (.int x19_171), .val (.int m192_s0), .val (.int x21_202), .val (.int x22_209), .val (.int x23_216), .val (.int m235_s0), .val (.int m257_s0), .val (.int m276_s0), .val (.int m295_s0), .val (.ref b67), .val (.int x29_353), .val (.int x30_364), .val (.int x4_7), .val (.int (0 : Int32))] [(.int x17_157), (.int x19_171), (.int x4_7), (.int m276_s0), (.int x21_202), (.int x29_353)])) _
          refine XS.iload X91.here hx rfl (hb hby at_402) rfl ?_
          refine XS.iload X91.here hx rfl (hb hby at_404) rfl ?_
          refine XS.iload X91.here hx rfl (hb hby at_406) rfl ?_
          refine st97 _ ?_
          refine XS.icmpNo X97.here hx rfl (hb hby at_411) rfl (teq hc411).2 ?_
          show Steps p.tables e below (T97.setTop (mkF m 414 #[.val (.int p0), .val (.int p1), .val (.int p2), .val (.int p3), .val (.int x4_7), .val (.int x5_17), .val (.int x6_26), .val (.int x7_35), .val (.int m49_s0), .val (.int x9_60), .val (.int x10_69), .val (.int x11_78), .val (.int x12_86), .val (.int m97_s0), .val (.int m110_s0), .val (.int m126_s0), .val (.int m148_s0), .val (.int x17_157), .val (.int x18_164), .val (.int x19_171), .val (.int m192_s0), .val (.int x21_202), .val (.int x22_209), .val (.int x23_216), .val (.int m235_s0), .val (.int m257_s0), .val (.int m276_s0), .val (.int m295_s0), .val (.ref b67), .val (.int x29_353), .val (.int x30_364), .val (.int x4_7), .val (.int (0 : Int32))] [])) _
          refine XS.iload X97.here hx rfl (hb hby at_414) rfl ?_
          refine XS.iload X97.here hx rfl (hb hby at_416) rfl ?_
          refine XS.iload X97.here hx rfl (hb hby at_418) rfl ?_
          refine XS.iload X97.here hx rfl (hb hby at_420) rfl ?_
          refine XS.iload X97.here hx rfl (hb hby at_422) rfl ?_
          show Steps p.tables e below (T97.setTop (mkF m 424 #[.val (.int p0), .val (.int p1), .val (.int p2), .val (.int p3), .val (.int x4_7), .val (.int x5_17), .val (.int x6_26), .val (.int x7_35), .val (.int m49_s0), .val (.int x9_60), .val (.int x10_69), .val (.int x11_78), .val (.int x12_86), .val (.int m97_s0), .val (.int m110_s0), .val (.int m126_s0), .val (.int m148_s0), .val (.int x17_157), .val (.int x18_164), .val (.int x19_171), .val (.int m192_s0), .val (.int x21_202), .val (.int x22_209), .val (.int x23_216), .val (.int m235_s0), .val (.int m257_s0), .val (.int m276_s0), .val (.int m295_s0), .val (.ref b67), .val (.int x29_353), .val (.int x30_364), .val (.int x4_7), .val (.int (0 : Int32))] [(.int x19_171), (.int x4_7), (.int m295_s0), (.int x23_216), (.int x30_364)])) _
          refine XS.iload X97.here hx rfl (hb hby at_424) rfl ?_
          refine XS.iload X97.here hx rfl (hb hby at_426) rfl ?_
          refine XS.iload X97.here hx rfl (hb hby at_428) rfl ?_
          refine XS.iload X97.here hx rfl (hb hby at_430) rfl ?_
          refine st99 _ ?_
          show Steps p.tables e below (T99.setTop (mkF m 435 #[.val (.int p0), .val (.int p1), .val (.int p2), .val (.int p3), .val (.int x4_7), .val (.int x5_17), .val (.int x6_26), .val (.int x7_35), .val (.int m49_s0), .val (.int x9_60), .val (.int x10_69), .val (.int x11_78), .val (.int x12_86), .val (.int m97_s0), .val (.int m110_s0), .val (.int m126_s0), .val (.int m148_s0), .val (.int x17_157), .val (.int x18_164), .val (.int x19_171), .val (.int m192_s0), .val (.int x21_202), .val (.int x22_209), .val (.int x23_216), .val (.int m235_s0), .val (.int m257_s0), .val (.int m276_s0), .val (.int m295_s0), .val (.ref b67), .val (.int x29_353), .val (.int x30_364), .val (.int x4_7), .val (.int (0 : Int32))] [(.int (own_f6 x23_216 m295_s0 x4_7 x19_171 x17_157 ((0 : Int32)) m192_s0 x18_164)), (.int x30_364)])) _
          refine XS.icmpNo X99.here hx rfl (hb hby at_435) rfl (teq hc435).2 ?_
          refine XS.iconst X99.here hx rfl (hb hby at_438) ?_
          refine XS.goto X99.here hx rfl (pc0 := 439) (pc' := 443) rfl (hb hby at_439) (by decide) (by decide) ?_
          show Steps p.tables e below (T99.setTop (mkF m 443 #[.val (.int p0), .val (.int p1), .val (.int p2), .val (.int p3), .val (.int x4_7), .val (.int x5_17), .val (.int x6_26), .val (.int x7_35), .val (.int m49_s0), .val (.int x9_60), .val (.int x10_69), .val (.int x11_78), .val (.int x12_86), .val (.int m97_s0), .val (.int m110_s0), .val (.int m126_s0), .val (.int m148_s0), .val (.int x17_157), .val (.int x18_164), .val (.int x19_171), .val (.int m192_s0), .val (.int x21_202), .val (.int x22_209), .val (.int x23_216), .val (.int m235_s0), .val (.int m257_s0), .val (.int m276_s0), .val (.int m295_s0), .val (.ref b67), .val (.int x29_353), .val (.int x30_364), .val (.int x4_7), .val (.int (0 : Int32))] [(.int (1 : Int32))])) _
          exact retN X99 hx (t := .boolean) Bd.returns (by simp) (hb hby at_443) hr
        · show Q0 Z p0 p1 p2 p3 h0 n0 _ T99.heap _
          rw [eq99]
          unfold Q0
          refine ⟨rfl, N99⟩
      · have hf1 : u86_first = (1 : Int32) := by rw [hu86_first]; exact own_fst1 (by rw [← hu86_first]; exact hf0)
        have ff100 := po86_4
        rw [hf1] at ff100
        obtain ⟨x29_353, hx29_353, pre101⟩ : ∃ z : Int32, z = (own_f5_0_1 x21_202 m276_s0 u83_l4 u83_l5 u83_l6 ((0 : Int32)) ((0 : Int32))) ∧ own_Pre p e below (s₁.setTop (entryFrame m #[(.int p0), (.int p1), (.int p2), (.int p3)] maxLocals)) (T86.setTop (mkF m 353 #[.val (.int p0), .val (.int p1), .val (.int p2), .val (.int p3), .val (.int x4_7), .val (.int x5_17), .val (.int x6_26), .val (.int x7_35), .val (.int m49_s0), .val (.int x9_60), .val (.int x10_69), .val (.int x11_78), .val (.int x12_86), .val (.int m97_s0), .val (.int m110_s0), .val (.int m126_s0), .val (.int m148_s0), .val (.int x17_157), .val (.int x18_164), .val (.int x19_171), .val (.int m192_s0), .val (.int x21_202), .val (.int x22_209), .val (.int x23_216), .val (.int m235_s0), .val (.int m257_s0), .val (.int m276_s0), .val (.int m295_s0), .val (.ref b67), .val (.int z), .unset, .unset, .unset] [])) := ⟨_, rfl, fun t k => pre88 t (by
            show Steps p.tables e below (T86.setTop (mkF m 351 #[.val (.int p0), .val (.int p1), .val (.int p2), .val (.int p3), .val (.int x4_7), .val (.int x5_17), .val (.int x6_26), .val (.int x7_35), .val (.int m49_s0), .val (.int x9_60), .val (.int x10_69), .val (.int x11_78), .val (.int x12_86), .val (.int m97_s0), .val (.int m110_s0), .val (.int m126_s0), .val (.int m148_s0), .val (.int x17_157), .val (.int x18_164), .val (.int x19_171), .val (.int m192_s0), .val (.int x21_202), .val (.int x22_209), .val (.int x23_216), .val (.int m235_s0), .val (.int m257_s0), .val (.int m276_s0), .val (.int m295_s0), .val (.ref b67), .unset, .unset, .unset, .unset] [(.int (own_f5_0_1 x21_202 m276_s0 u83_l4 u83_l5 u83_l6 ((0 : Int32)) ((0 : Int32))))])) _
            refine XS.istore X86.here hx rfl (hb hby at_351) rfl (l' := #[.val (.int p0), .val (.int p1), .val (.int p2), .val (.int p3), .val (.int x4_7), .val (.int x5_17), .val (.int x6_26), .val (.int x7_35), .val (.int m49_s0), .val (.int x9_60), .val (.int x10_69), .val (.int x11_78), .val (.int x12_86), .val (.int m97_s0), .val (.int m110_s0), .val (.int m126_s0), .val (.int m148_s0), .val (.int x17_157), .val (.int x18_164), .val (.int x19_171), .val (.int m192_s0), .val (.int x21_202), .val (.int x22_209), .val (.int x23_216), .val (.int m235_s0), .val (.int m257_s0), .val (.int m276_s0), .val (.int m295_s0), .val (.ref b67), .val (.int (own_f5_0_1 x21_202 m276_s0 u83_l4 u83_l5 u83_l6 ((0 : Int32)) ((0 : Int32)))), .unset, .unset, .unset]) rfl ?_
            exact k)⟩
        have f103 := (po83_4.keep K86 (ninS (Ne.symm ne_b67_la68) nin0))
        have f104 := (po83_5.keep K86 (ninS (Ne.symm ne_b67_ea68) nin0))
        have f105 := (po83_6.keep K86 (ninS (Ne.symm ne_b67_ca68) nin0))
        have z106 : n0 ≤ (T86.heap).size := (Nat.le_trans z87 K86.1)
        obtain ⟨cq102, kq102, q102a, q102b, q102c⟩ := isOf hZ rfl po86_0
        obtain ⟨_, _, ⟨T102, L102, k102, n102⟩, -, X102, ⟨Lc102, hQ102, l102, y102, z102⟩, st102⟩ := X86.virtualBack hx (y := (⟨"com/example/trawl/trawl/load/ColumnShifts", "columnInText", "(II)I"⟩ : MethodName)) (z := (⟨"com/example/trawl/trawl/load/ColumnShifts", "columnInText", "(II)I"⟩ : MethodName)) hown (mvT hZ (hw _ (own_w 23 rfl))) (mvT hZ (hw _ (own_w 24 rfl))) (notFace_of_selects (args := #[]) (mvT hZ (hw _ (own_w 26 rfl)))) (mvT hZ (hw _ (own_w 26 rfl))) (mvT hZ (hw _ (own_w 25 rfl))) (by decide) (backOf (W := 0) (rm5_1_1 l Z aw hw [] (b67) (x23_216) (m295_s0) (la68) (ea68) (ca68) (kl68) (ke68) (kc68) (u83_l4) (u83_l5) (u83_l6) (u86_askedLine) (u86_passedChange) (T86.heap) n0 z106 po86_0 po86_1 po86_2 po86_3 f103 f104 f105 po68_4 po68_5 po68_6 ne_b67_la68 ne_b67_ea68 ne_b67_ca68 g_b67 ff100 po86_5 po86_6 po86_7) hZ (hw _ (own_w 27 rfl)) (hw _ (own_w 9 rfl)) (by decide) (by decide)) q102a q102c (g := (mkF m 359 #[.val (.int p0), .val (.int p1), .val (.int p2), .val (.int p3), .val (.int x4_7), .val (.int x5_17), .val (.int x6_26), .val (.int x7_35), .val (.int m49_s0), .val (.int x9_60), .val (.int x10_69), .val (.int x11_78), .val (.int x12_86), .val (.int m97_s0), .val (.int m110_s0), .val (.int m126_s0), .val (.int m148_s0), .val (.int x17_157), .val (.int x18_164), .val (.int x19_171), .val (.int m192_s0), .val (.int x21_202), .val (.int x22_209), .val (.int x23_216), .val (.int m235_s0), .val (.int m257_s0), .val (.int m276_s0), .val (.int m295_s0), .val (.ref b67), .val (.int x29_353), .unset, .unset, .unset] [(.int m295_s0), (.int x23_216), (.ref b67)])) rfl (by rw [hml]; rfl) (Steps.refl _) (argsL := [(.int x23_216), (.int m295_s0)]) (rest := []) (lenOf pd_0 rfl) rfl (by show 2 * 0 + _ ≤ _; exact Nat.le_of_eq rfl) (hb hby at_359) (fun _ _ => ⟨rfl, rfl, (by decide : 4 + 0 ≤ _), (by decide : 21 + 0 ≤ _)⟩)
        dsimp only [Pt.U, Pt.locs, Pt.cells, Pt.slots] at X102 l102 y102 z102 st102 hQ102
        rw [l102, y102, z102] at X102
        obtain ⟨rfl, Nq102, K102, po102_0, po102_1, po102_2, po102_3, po102_4, po102_5, po102_6, po102_7⟩ := hQ102
        have N102 := Fr.app N86 Nq102
        obtain ⟨u102_askedLine, hu102_askedLine⟩ : ∃ z, z = (own_p5_1_1_askedLine x23_216 m295_s0 u86_askedLine) := ⟨_, rfl⟩
        rw [← hu102_askedLine] at po102_6
        obtain ⟨u102_passedChange, hu102_passedChange⟩ : ∃ z, z = (own_p5_1_1_passedChange x23_216 m295_s0 u86_askedLine u86_passedChange) := ⟨_, rfl⟩
        rw [← hu102_passedChange] at po102_7
        obtain ⟨x30_364, hx30_364, pre107⟩ : ∃ z : Int32, z = (own_f5_1_1 x23_216 m295_s0 u86_askedLine u86_passedChange) ∧ own_Pre p e below (s₁.setTop (entryFrame m #[(.int p0), (.int p1), (.int p2), (.int p3)] maxLocals)) (T102.setTop (mkF m 364 #[.val (.int p0), .val (.int p1), .val (.int p2), .val (.int p3), .val (.int x4_7), .val (.int x5_17), .val (.int x6_26), .val (.int x7_35), .val (.int m49_s0), .val (.int x9_60), .val (.int x10_69), .val (.int x11_78), .val (.int x12_86), .val (.int m97_s0), .val (.int m110_s0), .val (.int m126_s0), .val (.int m148_s0), .val (.int x17_157), .val (.int x18_164), .val (.int x19_171), .val (.int m192_s0), .val (.int x21_202), .val (.int x22_209), .val (.int x23_216), .val (.int m235_s0), .val (.int m257_s0), .val (.int m276_s0), .val (.int m295_s0), .val (.ref b67), .val (.int x29_353), .val (.int z), .unset, .unset] [])) := ⟨_, rfl, fun t k => pre101 t (by
            show Steps p.tables e below (T86.setTop (mkF m 353 #[.val (.int p0), .val (.int p1), .val (.int p2), .val (.int p3), .val (.int x4_7), .val (.int x5_17), .val (.int x6_26), .val (.int x7_35), .val (.int m49_s0), .val (.int x9_60), .val (.int x10_69), .val (.int x11_78), .val (.int x12_86), .val (.int m97_s0), .val (.int m110_s0), .val (.int m126_s0), .val (.int m148_s0), .val (.int x17_157), .val (.int x18_164), .val (.int x19_171), .val (.int m192_s0), .val (.int x21_202), .val (.int x22_209), .val (.int x23_216), .val (.int m235_s0), .val (.int m257_s0), .val (.int m276_s0), .val (.int m295_s0), .val (.ref b67), .val (.int x29_353), .unset, .unset, .unset] [])) _
            refine XS.aload X86.here hx rfl (hb hby at_353) rfl rfl ?_
            refine XS.iload X86.here hx rfl (hb hby at_355) rfl ?_
            refine XS.iload X86.here hx rfl (hb hby at_357) rfl ?_
            refine st102.trans ?_
            refine XS.istore X102.here hx rfl (hb hby at_362) rfl (l' := #[.val (.int p0), .val (.int p1), .val (.int p2), .val (.int p3), .val (.int x4_7), .val (.int x5_17), .val (.int x6_26), .val (.int x7_35), .val (.int m49_s0), .val (.int x9_60), .val (.int x10_69), .val (.int x11_78), .val (.int x12_86), .val (.int m97_s0), .val (.int m110_s0), .val (.int m126_s0), .val (.int m148_s0), .val (.int x17_157), .val (.int x18_164), .val (.int x19_171), .val (.int m192_s0), .val (.int x21_202), .val (.int x22_209), .val (.int x23_216), .val (.int m235_s0), .val (.int m257_s0), .val (.int m276_s0), .val (.int m295_s0), .val (.ref b67), .val (.int x29_353), .val (.int (own_f5_1_1 x23_216 m295_s0 u86_askedLine u86_passedChange)), .unset, .unset]) rfl ?_
            exact k)⟩
        have hc366 : ¬ (m97_s0 = (0 : Int32)) := hc308
        have hc379 : (m110_s0 = (0 : Int32)) := hc326
        have z109 : n0 ≤ (T102.heap).size := (Nat.le_trans z106 K102.1)
        obtain ⟨_, _, ⟨T108, L108, k108, n108⟩, -, X108, ⟨Lc108, hQ108, l108, y108, z108⟩, st108⟩ := Jvm.LawKit.callS X102 hx (y := (⟨"com/example/trawl/trawl/load/ColumnShiftsColumnInTextPinLaw", "expected", "(IIIIIIII)I"⟩ : MethodName)) hown (mvT hZ (hw _ (own_w 36 rfl))) (mvT hZ (hw _ (own_w 37 rfl))) (mvT hZ (hw _ (own_w 38 rfl))) (mvT hZ (hw _ (own_w 39 rfl))) (by decide) (backOf (W := 1) (rm6 l Z aw hw [] (x21_202) (m276_s0) (x4_7) (x19_171) (x17_157) ((0 : Int32)) (m192_s0) (x18_164) (T102.heap) n0 z109) hZ (hw _ (own_w 39 rfl)) (hw _ (own_w 38 rfl)) (by decide) (by decide)) (g := (mkF m 408 #[.val (.int p0), .val (.int p1), .val (.int p2), .val (.int p3), .val (.int x4_7), .val (.int x5_17), .val (.int x6_26), .val (.int x7_35), .val (.int m49_s0), .val (.int x9_60), .val (.int x10_69), .val (.int x11_78), .val (.int x12_86), .val (.int m97_s0), .val (.int m110_s0), .val (.int m126_s0), .val (.int m148_s0), .val (.int x17_157), .val (.int x18_164), .val (.int x19_171), .val (.int m192_s0), .val (.int x21_202), .val (.int x22_209), .val (.int x23_216), .val (.int m235_s0), .val (.int m257_s0), .val (.int m276_s0), .val (.int m295_s0), .val (.ref b67), .val (.int x29_353), .val (.int x30_364), .val (.int x4_7), .val (.int (0 : Int32))] [(.int x18_164), (.int m192_s0), (.int (0 : Int32)), (.int x17_157), (.int x19_171), (.int x4_7), (.int m276_s0), (.int x21_202), (.int x29_353)])) rfl (by rw [hml]; rfl) (argsL := [(.int x21_202), (.int m276_s0), (.int x4_7), (.int x19_171), (.int x17_157), (.int (0 : Int32)), (.int m192_s0), (.int x18_164)]) (rest := [(.int x29_353)]) (lenOf pd_2 rfl) rfl (by show 2 * 0 + _ ≤ _; exact Nat.le_of_eq rfl) (hb hby at_408) (fun _ _ => ⟨rfl, rfl, (by decide : 4 + 0 ≤ _), (by decide : 21 + 0 ≤ _)⟩)
        dsimp only [Pt.U, Pt.locs, Pt.cells, Pt.slots] at X108 l108 y108 z108 st108 hQ108
        rw [l108, y108, z108] at X108
        obtain ⟨rfl, Nq108, eq108⟩ := hQ108
        have N108 := Fr.app N102 Nq108
        have hc411 : (x29_353 = (own_f6 x21_202 m276_s0 x4_7 x19_171 x17_157 ((0 : Int32)) m192_s0 x18_164)) := by have A := own_add0 hu68_l16 hu68_l17 hu68_l18 hu83_l4 hu83_l5 hu83_l6 G7; have a1 := A.1; have a2 := A.2.1.trans hx19_171.symm; have a3 := A.2.2.1.trans hx17_157.symm; rw [hx29_353]; exact own_one0 _ _ _ _ _ _ _ _ _ _ _ a1 a2 a3
        obtain ⟨_, _, ⟨T110, L110, k110, n110⟩, -, X110, ⟨Lc110, hQ110, l110, y110, z110⟩, st110⟩ := Jvm.LawKit.callS X108 hx (y := (⟨"com/example/trawl/trawl/load/ColumnShiftsColumnInTextPinLaw", "expected", "(IIIIIIII)I"⟩ : MethodName)) hown (mvT hZ (hw _ (own_w 36 rfl))) (mvT hZ (hw _ (own_w 37 rfl))) (mvT hZ (hw _ (own_w 38 rfl))) (mvT hZ (hw _ (own_w 39 rfl))) (by decide) (backOf (W := 1) (rm6 l Z aw hw [] (x23_216) (m295_s0) (x4_7) (x19_171) (x17_157) ((0 : Int32)) (m192_s0) (x18_164) (T102.heap) n0 z109) hZ (hw _ (own_w 39 rfl)) (hw _ (own_w 38 rfl)) (by decide) (by decide)) (g := (mkF m 432 #[.val (.int p0), .val (.int p1), .val (.int p2), .val (.int p3), .val (.int x4_7), .val (.int x5_17), .val (.int x6_26), .val (.int x7_35), .val (.int m49_s0), .val (.int x9_60), .val (.int x10_69), .val (.int x11_78), .val (.int x12_86), .val (.int m97_s0), .val (.int m110_s0), .val (.int m126_s0), .val (.int m148_s0), .val (.int x17_157), .val (.int x18_164), .val (.int x19_171), .val (.int m192_s0), .val (.int x21_202), .val (.int x22_209), .val (.int x23_216), .val (.int m235_s0), .val (.int m257_s0), .val (.int m276_s0), .val (.int m295_s0), .val (.ref b67), .val (.int x29_353), .val (.int x30_364), .val (.int x4_7), .val (.int (0 : Int32))] [(.int x18_164), (.int m192_s0), (.int (0 : Int32)), (.int x17_157), (.int x19_171), (.int x4_7), (.int m295_s0), (.int x23_216), (.int x30_364)])) rfl (by rw [hml]; rfl) (argsL := [(.int x23_216), (.int m295_s0), (.int x4_7), (.int x19_171), (.int x17_157), (.int (0 : Int32)), (.int m192_s0), (.int x18_164)]) (rest := [(.int x30_364)]) (lenOf pd_2 rfl) rfl (by show 2 * 0 + _ ≤ _; exact Nat.le_of_eq rfl) (hb hby at_432) (fun _ _ => ⟨rfl, eq108, (by decide : 4 + 0 ≤ _), (by decide : 21 + 0 ≤ _)⟩)
        dsimp only [Pt.U, Pt.locs, Pt.cells, Pt.slots] at X110 l110 y110 z110 st110 hQ110
        rw [l110, y110, z110] at X110
        obtain ⟨rfl, Nq110, eq110⟩ := hQ110
        have N110 := Fr.app N108 Nq110
        have hc435 : (x30_364 = (own_f6 x23_216 m295_s0 x4_7 x19_171 x17_157 ((0 : Int32)) m192_s0 x18_164)) := by have A := own_add0 hu68_l16 hu68_l17 hu68_l18 hu83_l4 hu83_l5 hu83_l6 G7; have a1 := A.1; have a2 := A.2.1.trans hx19_171.symm; have a3 := A.2.2.1.trans hx17_157.symm; rw [hx30_364]; exact own_one1 a1 a2 a3 G1 G4 G5 hu86_askedLine hu86_passedChange (hu86_first.symm.trans hf1)
        obtain ⟨fs, hr, hrun, hended, hW, hsame⟩ := X110.leave (v := some (.int (1 : Int32))) (fun h => by rw [Bd.returns] at h; cases h)
        refine ⟨_, _, pre107 _ ?_, hrun, hended, _, _, rfl, ?_, ⟨_, rfl⟩, hW, hsame.mono (by decide) (by decide)⟩
        · show Steps p.tables e below (T102.setTop (mkF m 364 #[.val (.int p0), .val (.int p1), .val (.int p2), .val (.int p3), .val (.int x4_7), .val (.int x5_17), .val (.int x6_26), .val (.int x7_35), .val (.int m49_s0), .val (.int x9_60), .val (.int x10_69), .val (.int x11_78), .val (.int x12_86), .val (.int m97_s0), .val (.int m110_s0), .val (.int m126_s0), .val (.int m148_s0), .val (.int x17_157), .val (.int x18_164), .val (.int x19_171), .val (.int m192_s0), .val (.int x21_202), .val (.int x22_209), .val (.int x23_216), .val (.int m235_s0), .val (.int m257_s0), .val (.int m276_s0), .val (.int m295_s0), .val (.ref b67), .val (.int x29_353), .val (.int x30_364), .unset, .unset] [])) _
          refine XS.iload X102.here hx rfl (hb hby at_364) rfl ?_
          refine XS.ifNo X102.here hx rfl (hb hby at_366) rfl ((if0 _ _).trans (feq hc366).1) ?_
          refine XS.iload X102.here hx rfl (hb hby at_369) rfl ?_
          refine XS.goto X102.here hx rfl (pc0 := 371) (pc' := 375) rfl (hb hby at_371) (by decide) (by decide) ?_
          refine XS.istore X102.here hx rfl (hb hby at_375) rfl (l' := #[.val (.int p0), .val (.int p1), .val (.int p2), .val (.int p3), .val (.int x4_7), .val (.int x5_17), .val (.int x6_26), .val (.int x7_35), .val (.int m49_s0), .val (.int x9_60), .val (.int x10_69), .val (.int x11_78), .val (.int x12_86), .val (.int m97_s0), .val (.int m110_s0), .val (.int m126_s0), .val (.int m148_s0), .val (.int x17_157), .val (.int x18_164), .val (.int x19_171), .val (.int m192_s0), .val (.int x21_202), .val (.int x22_209), .val (.int x23_216), .val (.int m235_s0), .val (.int m257_s0), .val (.int m276_s0), .val (.int m295_s0), .val (.ref b67), .val (.int x29_353), .val (.int x30_364), .val (.int x4_7), .unset]) rfl ?_
          show Steps p.tables e below (T102.setTop (mkF m 377 #[.val (.int p0), .val (.int p1), .val (.int p2), .val (.int p3), .val (.int x4_7), .val (.int x5_17), .val (.int x6_26), .val (.int x7_35), .val (.int m49_s0), .val (.int x9_60), .val (.int x10_69), .val (.int x11_78), .val (.int x12_86), .val (.int m97_s0), .val (.int m110_s0), .val (.int m126_s0), .val (.int m148_s0), .val (.int x17_157), .val (.int x18_164), .val (.int x19_171), .val (.int m192_s0), .val (.int x21_202), .val (.int x22_209), .val (.int x23_216), .val (.int m235_s0), .val (.int m257_s0), .val (.int m276_s0), .val (.int m295_s0), .val (.ref b67), .val (.int x29_353), .val (.int x30_364), .val (.int x4_7), .unset] [])) _
          refine XS.iload X102.here hx rfl (hb hby at_377) rfl ?_
          refine XS.ifYes X102.here hx rfl (pc0 := 379) (pc' := 387) rfl (hb hby at_379) rfl ((if0 _ _).trans (teq hc379).1) (by decide) (by decide) ?_
          refine XS.iconst X102.here hx rfl (hb hby at_387) ?_
          refine XS.istore X102.here hx rfl (hb hby at_388) rfl (l' := #[.val (.int p0), .val (.int p1), .val (.int p2), .val (.int p3), .val (.int x4_7), .val (.int x5_17), .val (.int x6_26), .val (.int x7_35), .val (.int m49_s0), .val (.int x9_60), .val (.int x10_69), .val (.int x11_78), .val (.int x12_86), .val (.int m97_s0), .val (.int m110_s0), .val (.int m126_s0), .val (.int m148_s0), .val (.int x17_157), .val (.int x18_164), .val (.int x19_171), .val (.int m192_s0), .val (.int x21_202), .val (.int x22_209), .val (.int x23_216), .val (.int m235_s0), .val (.int m257_s0), .val (.int m276_s0), .val (.int m295_s0), .val (.ref b67), .val (.int x29_353), .val (.int x30_364), .val (.int x4_7), .val (.int (0 : Int32))]) rfl ?_
          refine XS.iload X102.here hx rfl (hb hby at_390) rfl ?_
          show Steps p.tables e below (T102.setTop (mkF m 392 #[.val (.int p0), .val (.int p1), .val (.int p2), .val (.int p3), .val (.int x4_7), .val (.int x5_17), .val (.int x6_26), .val (.int x7_35), .val (.int m49_s0), .val (.int x9_60), .val (.int x10_69), .val (.int x11_78), .val (.int x12_86), .val (.int m97_s0), .val (.int m110_s0), .val (.int m126_s0), .val (.int m148_s0), .val (.int x17_157), .val (.int x18_164), .val (.int x19_171), .val (.int m192_s0), .val (.int x21_202), .val (.int x22_209), .val (.int x23_216), .val (.int m235_s0), .val (.int m257_s0), .val (.int m276_s0), .val (.int m295_s0), .val (.ref b67), .val (.int x29_353), .val (.int x30_364), .val (.int x4_7), .val (.int (0 : Int32))] [(.int x29_353)])) _
          refine XS.iload X102.here hx rfl (hb hby at_392) rfl ?_
          refine XS.iload X102.here hx rfl (hb hby at_394) rfl ?_
          refine XS.iload X102.here hx rfl (hb hby at_396) rfl ?_
          refine XS.iload X102.here hx rfl (hb hby at_398) rfl ?_
          refine XS.iload X102.here hx rfl (hb hby at_400) rfl ?_
          show Steps p.tables e below (T102.setTop (mkF m 402 #[.val (.int p0), .val (.int p1), .val (.int p2), .val (.int p3), .val (.int x4_7), .val (.int x5_17), .val (.int x6_26), .val (.int x7_35), .val (.int m49_s0), .val (.int x9_60), .val (.int x10_69), .val (.int x11_78), .val (.int x12_86), .val (.int m97_s0), .val (.int m110_s0), .val (.int m126_s0), .val (.int m148_s0), .val (.int x17_157), .val (.int x18_164), .val (.int x19_171), .val (.int m192_s0), .val (.int x21_202), .val (.int x22_209), .val (.int x23_216), .val (.int m235_s0), .val (.int m257_s0), .val (.int m276_s0), .val (.int m295_s0), .val (.ref b67), .val (.int x29_353), .val (.int x30_364), .val (.int x4_7), .val (.int (0 : Int32))] [(.int x17_157), (.int x19_171), (.int x4_7), (.int m276_s0), (.int x21_202), (.int x29_353)])) _
          refine XS.iload X102.here hx rfl (hb hby at_402) rfl ?_
          refine XS.iload X102.here hx rfl (hb hby at_404) rfl ?_
          refine XS.iload X102.here hx rfl (hb hby at_406) rfl ?_
          refine st108 _ ?_
          refine XS.icmpNo X108.here hx rfl (hb hby at_411) rfl (teq hc411).2 ?_
          show Steps p.tables e below (T108.setTop (mkF m 414 #[.val (.int p0), .val (.int p1), .val (.int p2), .val (.int p3), .val (.int x4_7), .val (.int x5_17), .val (.int x6_26), .val (.int x7_35), .val (.int m49_s0), .val (.int x9_60), .val (.int x10_69), .val (.int x11_78), .val (.int x12_86), .val (.int m97_s0), .val (.int m110_s0), .val (.int m126_s0), .val (.int m148_s0), .val (.int x17_157), .val (.int x18_164), .val (.int x19_171), .val (.int m192_s0), .val (.int x21_202), .val (.int x22_209), .val (.int x23_216), .val (.int m235_s0), .val (.int m257_s0), .val (.int m276_s0), .val (.int m295_s0), .val (.ref b67), .val (.int x29_353), .val (.int x30_364), .val (.int x4_7), .val (.int (0 : Int32))] [])) _
          refine XS.iload X108.here hx rfl (hb hby at_414) rfl ?_
          refine XS.iload X108.here hx rfl (hb hby at_416) rfl ?_
          refine XS.iload X108.here hx rfl (hb hby at_418) rfl ?_
          refine XS.iload X108.here hx rfl (hb hby at_420) rfl ?_
          refine XS.iload X108.here hx rfl (hb hby at_422) rfl ?_
          show Steps p.tables e below (T108.setTop (mkF m 424 #[.val (.int p0), .val (.int p1), .val (.int p2), .val (.int p3), .val (.int x4_7), .val (.int x5_17), .val (.int x6_26), .val (.int x7_35), .val (.int m49_s0), .val (.int x9_60), .val (.int x10_69), .val (.int x11_78), .val (.int x12_86), .val (.int m97_s0), .val (.int m110_s0), .val (.int m126_s0), .val (.int m148_s0), .val (.int x17_157), .val (.int x18_164), .val (.int x19_171), .val (.int m192_s0), .val (.int x21_202), .val (.int x22_209), .val (.int x23_216), .val (.int m235_s0), .val (.int m257_s0), .val (.int m276_s0), .val (.int m295_s0), .val (.ref b67), .val (.int x29_353), .val (.int x30_364), .val (.int x4_7), .val (.int (0 : Int32))] [(.int x19_171), (.int x4_7), (.int m295_s0), (.int x23_216), (.int x30_364)])) _
          refine XS.iload X108.here hx rfl (hb hby at_424) rfl ?_
          refine XS.iload X108.here hx rfl (hb hby at_426) rfl ?_
          refine XS.iload X108.here hx rfl (hb hby at_428) rfl ?_
          refine XS.iload X108.here hx rfl (hb hby at_430) rfl ?_
          refine st110 _ ?_
          show Steps p.tables e below (T110.setTop (mkF m 435 #[.val (.int p0), .val (.int p1), .val (.int p2), .val (.int p3), .val (.int x4_7), .val (.int x5_17), .val (.int x6_26), .val (.int x7_35), .val (.int m49_s0), .val (.int x9_60), .val (.int x10_69), .val (.int x11_78), .val (.int x12_86), .val (.int m97_s0), .val (.int m110_s0), .val (.int m126_s0), .val (.int m148_s0), .val (.int x17_157), .val (.int x18_164), .val (.int x19_171), .val (.int m192_s0), .val (.int x21_202), .val (.int x22_209), .val (.int x23_216), .val (.int m235_s0), .val (.int m257_s0), .val (.int m276_s0), .val (.int m295_s0), .val (.ref b67), .val (.int x29_353), .val (.int x30_364), .val (.int x4_7), .val (.int (0 : Int32))] [(.int (own_f6 x23_216 m295_s0 x4_7 x19_171 x17_157 ((0 : Int32)) m192_s0 x18_164)), (.int x30_364)])) _
          refine XS.icmpNo X110.here hx rfl (hb hby at_435) rfl (teq hc435).2 ?_
          refine XS.iconst X110.here hx rfl (hb hby at_438) ?_
          refine XS.goto X110.here hx rfl (pc0 := 439) (pc' := 443) rfl (hb hby at_439) (by decide) (by decide) ?_
          show Steps p.tables e below (T110.setTop (mkF m 443 #[.val (.int p0), .val (.int p1), .val (.int p2), .val (.int p3), .val (.int x4_7), .val (.int x5_17), .val (.int x6_26), .val (.int x7_35), .val (.int m49_s0), .val (.int x9_60), .val (.int x10_69), .val (.int x11_78), .val (.int x12_86), .val (.int m97_s0), .val (.int m110_s0), .val (.int m126_s0), .val (.int m148_s0), .val (.int x17_157), .val (.int x18_164), .val (.int x19_171), .val (.int m192_s0), .val (.int x21_202), .val (.int x22_209), .val (.int x23_216), .val (.int m235_s0), .val (.int m257_s0), .val (.int m276_s0), .val (.int m295_s0), .val (.ref b67), .val (.int x29_353), .val (.int x30_364), .val (.int x4_7), .val (.int (0 : Int32))] [(.int (1 : Int32))])) _
          exact retN X110 hx (t := .boolean) Bd.returns (by simp) (hb hby at_443) hr
        · show Q0 Z p0 p1 p2 p3 h0 n0 _ T110.heap _
          rw [eq110]
          unfold Q0
          refine ⟨rfl, N110⟩
    · have z112 : n0 ≤ (T83.heap).size := (Nat.le_trans z84 K83.1)
      obtain ⟨cq111, kq111, q111a, q111b, q111c⟩ := isOf hZ rfl po83_0
      obtain ⟨_, _, ⟨T111, L111, k111, n111⟩, -, X111, ⟨Lc111, hQ111, l111, y111, z111⟩, st111⟩ := X83.virtualBack hx (y := (⟨"com/example/trawl/trawl/load/ColumnShifts", "add", "(IIII)V"⟩ : MethodName)) (z := (⟨"com/example/trawl/trawl/load/ColumnShifts", "add", "(IIII)V"⟩ : MethodName)) hown (mvT hZ (hw _ (own_w 40 rfl))) (mvT hZ (hw _ (own_w 41 rfl))) (notFace_of_selects (args := #[]) (mvT hZ (hw _ (own_w 43 rfl)))) (mvT hZ (hw _ (own_w 43 rfl))) (mvT hZ (hw _ (own_w 42 rfl))) (by decide) (backOf (W := 0) (rm7_1 l Z aw hw [] (b67) (m126_s0) (m148_s0) (x10_69) (x11_78) (la68) (ea68) (ca68) (kl68) (ke68) (kc68) (u83_l4) (u83_l5) (u83_l6) (x4_7) (u83_recordedChange) (T83.heap) n0 z112 po83_0 po83_1 po83_2 po83_3 po83_4 po83_5 po83_6 po68_4 po68_5 po68_6 ne_b67_la68 ne_b67_ea68 ne_b67_ca68 g_b67 g_la68 g_ea68 g_ca68 po83_7 po83_8 po83_9 po83_10 po83_11 po83_12) hZ (hw _ (own_w 44 rfl)) (hw _ (own_w 9 rfl)) (by decide) (by decide)) q111a q111c (g := (mkF m 339 #[.val (.int p0), .val (.int p1), .val (.int p2), .val (.int p3), .val (.int x4_7), .val (.int x5_17), .val (.int x6_26), .val (.int x7_35), .val (.int m49_s0), .val (.int x9_60), .val (.int x10_69), .val (.int x11_78), .val (.int x12_86), .val (.int m97_s0), .val (.int m110_s0), .val (.int m126_s0), .val (.int m148_s0), .val (.int x17_157), .val (.int x18_164), .val (.int x19_171), .val (.int m192_s0), .val (.int x21_202), .val (.int x22_209), .val (.int x23_216), .val (.int m235_s0), .val (.int m257_s0), .val (.int m276_s0), .val (.int m295_s0), .val (.ref b67), .unset, .unset, .unset, .unset] [(.int x11_78), (.int x10_69), (.int m148_s0), (.int m126_s0), (.ref b67)])) rfl (by rw [hml]; rfl) (Steps.refl _) (argsL := [(.int m126_s0), (.int m148_s0), (.int x10_69), (.int x11_78)]) (rest := []) (lenOf pd_3 rfl) rfl (by show 2 * 0 + _ ≤ _; exact Nat.le_of_eq rfl) (hb hby at_339) (fun _ _ => ⟨rfl, rfl, (by decide : 4 + 0 ≤ _), (by decide : 21 + 0 ≤ _)⟩)
      dsimp only [Pt.U, Pt.locs, Pt.cells, Pt.slots] at X111 l111 y111 z111 st111 hQ111
      rw [l111, y111, z111] at X111
      obtain ⟨rfl, Nq111, K111, po111_0, po111_1, po111_2, po111_3, po111_4, po111_5, po111_6, po111_7, po111_8, po111_9, po111_10, po111_11, po111_12⟩ := hQ111
      have N111 := Fr.app N83 Nq111
      obtain ⟨u111_l4, hu111_l4⟩ : ∃ z, z = (own_p7_1_la m126_s0 u83_l4) := ⟨_, rfl⟩
      rw [← hu111_l4] at po111_4
      obtain ⟨u111_l5, hu111_l5⟩ : ∃ z, z = (own_p7_1_ea m126_s0 m148_s0 x11_78 u83_l5 x4_7 u83_recordedChange) := ⟨_, rfl⟩
      rw [← hu111_l5] at po111_5
      obtain ⟨u111_l6, hu111_l6⟩ : ∃ z, z = (own_p7_1_ca x10_69 x11_78 u83_l6) := ⟨_, rfl⟩
      rw [← hu111_l6] at po111_6
      obtain ⟨u111_recordedChange, hu111_recordedChange⟩ : ∃ z, z = (own_p7_1_recordedChange m126_s0 x10_69 x11_78 x4_7 u83_recordedChange) := ⟨_, rfl⟩
      rw [← hu111_recordedChange] at po111_10
      have z114 : n0 ≤ (T111.heap).size := (Nat.le_trans z112 K111.1)
      obtain ⟨cq113, kq113, q113a, q113b, q113c⟩ := isOf hZ rfl po111_0
      obtain ⟨_, _, ⟨T113, L113, k113, n113⟩, -, X113, ⟨Lc113, hQ113, l113, y113, z113⟩, st113⟩ := X111.virtualBack hx (y := (⟨"com/example/trawl/trawl/load/ColumnShifts", "columnInText", "(II)I"⟩ : MethodName)) (z := (⟨"com/example/trawl/trawl/load/ColumnShifts", "columnInText", "(II)I"⟩ : MethodName)) hown (mvT hZ (hw _ (own_w 23 rfl))) (mvT hZ (hw _ (own_w 24 rfl))) (notFace_of_selects (args := #[]) (mvT hZ (hw _ (own_w 26 rfl)))) (mvT hZ (hw _ (own_w 26 rfl))) (mvT hZ (hw _ (own_w 25 rfl))) (by decide) (backOf (W := 0) (rm5_0_2 l Z aw hw [] (b67) (x21_202) (m276_s0) (la68) (ea68) (ca68) (kl68) (ke68) (kc68) (u111_l4) (u111_l5) (u111_l6) ((0 : Int32)) ((0 : Int32)) (T111.heap) n0 z114 po111_0 po111_1 po111_2 po111_3 po111_4 po111_5 po111_6 po68_4 po68_5 po68_6 ne_b67_la68 ne_b67_ea68 ne_b67_ca68 g_b67 po111_7 po111_8 po111_11 po111_12) hZ (hw _ (own_w 27 rfl)) (hw _ (own_w 9 rfl)) (by decide) (by decide)) q113a q113c (g := (mkF m 348 #[.val (.int p0), .val (.int p1), .val (.int p2), .val (.int p3), .val (.int x4_7), .val (.int x5_17), .val (.int x6_26), .val (.int x7_35), .val (.int m49_s0), .val (.int x9_60), .val (.int x10_69), .val (.int x11_78), .val (.int x12_86), .val (.int m97_s0), .val (.int m110_s0), .val (.int m126_s0), .val (.int m148_s0), .val (.int x17_157), .val (.int x18_164), .val (.int x19_171), .val (.int m192_s0), .val (.int x21_202), .val (.int x22_209), .val (.int x23_216), .val (.int m235_s0), .val (.int m257_s0), .val (.int m276_s0), .val (.int m295_s0), .val (.ref b67), .unset, .unset, .unset, .unset] [(.int m276_s0), (.int x21_202), (.ref b67)])) rfl (by rw [hml]; rfl) (Steps.refl _) (argsL := [(.int x21_202), (.int m276_s0)]) (rest := []) (lenOf pd_0 rfl) rfl (by show 2 * 0 + _ ≤ _; exact Nat.le_of_eq rfl) (hb hby at_348) (fun _ _ => ⟨rfl, rfl, (by decide : 4 + 0 ≤ _), (by decide : 21 + 0 ≤ _)⟩)
      dsimp only [Pt.U, Pt.locs, Pt.cells, Pt.slots] at X113 l113 y113 z113 st113 hQ113
      rw [l113, y113, z113] at X113
      obtain ⟨rfl, Nq113, K113, po113_0, po113_1, po113_2, po113_3, po113_4, po113_5, po113_6, po113_7⟩ := hQ113
      have N113 := Fr.app N111 Nq113
      obtain ⟨u113_first, hu113_first⟩ : ∃ z, z = (own_p5_0_2_first x21_202 m276_s0 u111_l4 u111_l5) := ⟨_, rfl⟩
      rw [← hu113_first] at po113_4
      obtain ⟨u113_askedLine, hu113_askedLine⟩ : ∃ z, z = (own_p5_0_2_askedLine x21_202 m276_s0 (0 : Int32)) := ⟨_, rfl⟩
      rw [← hu113_askedLine] at po113_6
      obtain ⟨u113_passedChange, hu113_passedChange⟩ : ∃ z, z = (own_p5_0_2_passedChange x21_202 m276_s0 u111_l4 u111_l5 u111_l6 (0 : Int32) (0 : Int32)) := ⟨_, rfl⟩
      rw [← hu113_passedChange] at po113_7
      have pre115 : own_Pre p e below (s₁.setTop (entryFrame m #[(.int p0), (.int p1), (.int p2), (.int p3)] maxLocals)) (T113.setTop (mkF m 351 #[.val (.int p0), .val (.int p1), .val (.int p2), .val (.int p3), .val (.int x4_7), .val (.int x5_17), .val (.int x6_26), .val (.int x7_35), .val (.int m49_s0), .val (.int x9_60), .val (.int x10_69), .val (.int x11_78), .val (.int x12_86), .val (.int m97_s0), .val (.int m110_s0), .val (.int m126_s0), .val (.int m148_s0), .val (.int x17_157), .val (.int x18_164), .val (.int x19_171), .val (.int m192_s0), .val (.int x21_202), .val (.int x22_209), .val (.int x23_216), .val (.int m235_s0), .val (.int m257_s0), .val (.int m276_s0), .val (.int m295_s0), .val (.ref b67), .unset, .unset, .unset, .unset] [(.int (own_f5_0_2 x21_202 m276_s0 u111_l4 u111_l5 u111_l6 ((0 : Int32)) ((0 : Int32))))])) := fun t k => pre85 t (by
          show Steps p.tables e below (T83.setTop (mkF m 326 #[.val (.int p0), .val (.int p1), .val (.int p2), .val (.int p3), .val (.int x4_7), .val (.int x5_17), .val (.int x6_26), .val (.int x7_35), .val (.int m49_s0), .val (.int x9_60), .val (.int x10_69), .val (.int x11_78), .val (.int x12_86), .val (.int m97_s0), .val (.int m110_s0), .val (.int m126_s0), .val (.int m148_s0), .val (.int x17_157), .val (.int x18_164), .val (.int x19_171), .val (.int m192_s0), .val (.int x21_202), .val (.int x22_209), .val (.int x23_216), .val (.int m235_s0), .val (.int m257_s0), .val (.int m276_s0), .val (.int m295_s0), .val (.ref b67), .unset, .unset, .unset, .unset] [(.int m110_s0)])) _
          refine XS.ifNo X83.here hx rfl (hb hby at_326) rfl ((if0 _ _).trans (feq hc326).1) ?_
          refine XS.aload X83.here hx rfl (hb hby at_329) rfl rfl ?_
          refine XS.iload X83.here hx rfl (hb hby at_331) rfl ?_
          refine XS.iload X83.here hx rfl (hb hby at_333) rfl ?_
          refine XS.iload X83.here hx rfl (hb hby at_335) rfl ?_
          show Steps p.tables e below (T83.setTop (mkF m 337 #[.val (.int p0), .val (.int p1), .val (.int p2), .val (.int p3), .val (.int x4_7), .val (.int x5_17), .val (.int x6_26), .val (.int x7_35), .val (.int m49_s0), .val (.int x9_60), .val (.int x10_69), .val (.int x11_78), .val (.int x12_86), .val (.int m97_s0), .val (.int m110_s0), .val (.int m126_s0), .val (.int m148_s0), .val (.int x17_157), .val (.int x18_164), .val (.int x19_171), .val (.int m192_s0), .val (.int x21_202), .val (.int x22_209), .val (.int x23_216), .val (.int m235_s0), .val (.int m257_s0), .val (.int m276_s0), .val (.int m295_s0), .val (.ref b67), .unset, .unset, .unset, .unset] [(.int x10_69), (.int m148_s0), (.int m126_s0), (.ref b67)])) _
          refine XS.iload X83.here hx rfl (hb hby at_337) rfl ?_
          refine st111.trans ?_
          refine XS.aload X111.here hx rfl (hb hby at_342) rfl rfl ?_
          refine XS.iload X111.here hx rfl (hb hby at_344) rfl ?_
          refine XS.iload X111.here hx rfl (hb hby at_346) rfl ?_
          show Steps p.tables e below (T111.setTop (mkF m 348 #[.val (.int p0), .val (.int p1), .val (.int p2), .val (.int p3), .val (.int x4_7), .val (.int x5_17), .val (.int x6_26), .val (.int x7_35), .val (.int m49_s0), .val (.int x9_60), .val (.int x10_69), .val (.int x11_78), .val (.int x12_86), .val (.int m97_s0), .val (.int m110_s0), .val (.int m126_s0), .val (.int m148_s0), .val (.int x17_157), .val (.int x18_164), .val (.int x19_171), .val (.int m192_s0), .val (.int x21_202), .val (.int x22_209), .val (.int x23_216), .val (.int m235_s0), .val (.int m257_s0), .val (.int m276_s0), .val (.int m295_s0), .val (.ref b67), .unset, .unset, .unset, .unset] [(.int m276_s0), (.int x21_202), (.ref b67)])) _
          refine st113.trans ?_
          exact k)
      by_cases hf0 : u113_first = (0 : Int32)
      · have ff116 := po113_4
        rw [hf0] at ff116
        obtain ⟨x29_353, hx29_353, pre117⟩ : ∃ z : Int32, z = (own_f5_0_2 x21_202 m276_s0 u111_l4 u111_l5 u111_l6 ((0 : Int32)) ((0 : Int32))) ∧ own_Pre p e below (s₁.setTop (entryFrame m #[(.int p0), (.int p1), (.int p2), (.int p3)] maxLocals)) (T113.setTop (mkF m 353 #[.val (.int p0), .val (.int p1), .val (.int p2), .val (.int p3), .val (.int x4_7), .val (.int x5_17), .val (.int x6_26), .val (.int x7_35), .val (.int m49_s0), .val (.int x9_60), .val (.int x10_69), .val (.int x11_78), .val (.int x12_86), .val (.int m97_s0), .val (.int m110_s0), .val (.int m126_s0), .val (.int m148_s0), .val (.int x17_157), .val (.int x18_164), .val (.int x19_171), .val (.int m192_s0), .val (.int x21_202), .val (.int x22_209), .val (.int x23_216), .val (.int m235_s0), .val (.int m257_s0), .val (.int m276_s0), .val (.int m295_s0), .val (.ref b67), .val (.int z), .unset, .unset, .unset] [])) := ⟨_, rfl, fun t k => pre115 t (by
            show Steps p.tables e below (T113.setTop (mkF m 351 #[.val (.int p0), .val (.int p1), .val (.int p2), .val (.int p3), .val (.int x4_7), .val (.int x5_17), .val (.int x6_26), .val (.int x7_35), .val (.int m49_s0), .val (.int x9_60), .val (.int x10_69), .val (.int x11_78), .val (.int x12_86), .val (.int m97_s0), .val (.int m110_s0), .val (.int m126_s0), .val (.int m148_s0), .val (.int x17_157), .val (.int x18_164), .val (.int x19_171), .val (.int m192_s0), .val (.int x21_202), .val (.int x22_209), .val (.int x23_216), .val (.int m235_s0), .val (.int m257_s0), .val (.int m276_s0), .val (.int m295_s0), .val (.ref b67), .unset, .unset, .unset, .unset] [(.int (own_f5_0_2 x21_202 m276_s0 u111_l4 u111_l5 u111_l6 ((0 : Int32)) ((0 : Int32))))])) _
            refine XS.istore X113.here hx rfl (hb hby at_351) rfl (l' := #[.val (.int p0), .val (.int p1), .val (.int p2), .val (.int p3), .val (.int x4_7), .val (.int x5_17), .val (.int x6_26), .val (.int x7_35), .val (.int m49_s0), .val (.int x9_60), .val (.int x10_69), .val (.int x11_78), .val (.int x12_86), .val (.int m97_s0), .val (.int m110_s0), .val (.int m126_s0), .val (.int m148_s0), .val (.int x17_157), .val (.int x18_164), .val (.int x19_171), .val (.int m192_s0), .val (.int x21_202), .val (.int x22_209), .val (.int x23_216), .val (.int m235_s0), .val (.int m257_s0), .val (.int m276_s0), .val (.int m295_s0), .val (.ref b67), .val (.int (own_f5_0_2 x21_202 m276_s0 u111_l4 u111_l5 u111_l6 ((0 : Int32)) ((0 : Int32)))), .unset, .unset, .unset]) rfl ?_
            exact k)⟩
        have f119 := (po111_4.keep K113 (ninS (Ne.symm ne_b67_la68) nin0))
        have f120 := (po111_5.keep K113 (ninS (Ne.symm ne_b67_ea68) nin0))
        have f121 := (po111_6.keep K113 (ninS (Ne.symm ne_b67_ca68) nin0))
        have z122 : n0 ≤ (T113.heap).size := (Nat.le_trans z114 K113.1)
        obtain ⟨cq118, kq118, q118a, q118b, q118c⟩ := isOf hZ rfl po113_0
        obtain ⟨_, _, ⟨T118, L118, k118, n118⟩, -, X118, ⟨Lc118, hQ118, l118, y118, z118⟩, st118⟩ := X113.virtualBack hx (y := (⟨"com/example/trawl/trawl/load/ColumnShifts", "columnInText", "(II)I"⟩ : MethodName)) (z := (⟨"com/example/trawl/trawl/load/ColumnShifts", "columnInText", "(II)I"⟩ : MethodName)) hown (mvT hZ (hw _ (own_w 23 rfl))) (mvT hZ (hw _ (own_w 24 rfl))) (notFace_of_selects (args := #[]) (mvT hZ (hw _ (own_w 26 rfl)))) (mvT hZ (hw _ (own_w 26 rfl))) (mvT hZ (hw _ (own_w 25 rfl))) (by decide) (backOf (W := 0) (rm5_0_2 l Z aw hw [] (b67) (x23_216) (m295_s0) (la68) (ea68) (ca68) (kl68) (ke68) (kc68) (u111_l4) (u111_l5) (u111_l6) (u113_askedLine) (u113_passedChange) (T113.heap) n0 z122 po113_0 po113_1 po113_2 po113_3 f119 f120 f121 po68_4 po68_5 po68_6 ne_b67_la68 ne_b67_ea68 ne_b67_ca68 g_b67 ff116 po113_5 po113_6 po113_7) hZ (hw _ (own_w 27 rfl)) (hw _ (own_w 9 rfl)) (by decide) (by decide)) q118a q118c (g := (mkF m 359 #[.val (.int p0), .val (.int p1), .val (.int p2), .val (.int p3), .val (.int x4_7), .val (.int x5_17), .val (.int x6_26), .val (.int x7_35), .val (.int m49_s0), .val (.int x9_60), .val (.int x10_69), .val (.int x11_78), .val (.int x12_86), .val (.int m97_s0), .val (.int m110_s0), .val (.int m126_s0), .val (.int m148_s0), .val (.int x17_157), .val (.int x18_164), .val (.int x19_171), .val (.int m192_s0), .val (.int x21_202), .val (.int x22_209), .val (.int x23_216), .val (.int m235_s0), .val (.int m257_s0), .val (.int m276_s0), .val (.int m295_s0), .val (.ref b67), .val (.int x29_353), .unset, .unset, .unset] [(.int m295_s0), (.int x23_216), (.ref b67)])) rfl (by rw [hml]; rfl) (Steps.refl _) (argsL := [(.int x23_216), (.int m295_s0)]) (rest := []) (lenOf pd_0 rfl) rfl (by show 2 * 0 + _ ≤ _; exact Nat.le_of_eq rfl) (hb hby at_359) (fun _ _ => ⟨rfl, rfl, (by decide : 4 + 0 ≤ _), (by decide : 21 + 0 ≤ _)⟩)
        dsimp only [Pt.U, Pt.locs, Pt.cells, Pt.slots] at X118 l118 y118 z118 st118 hQ118
        rw [l118, y118, z118] at X118
        obtain ⟨rfl, Nq118, K118, po118_0, po118_1, po118_2, po118_3, po118_4, po118_5, po118_6, po118_7⟩ := hQ118
        have N118 := Fr.app N113 Nq118
        obtain ⟨u118_first, hu118_first⟩ : ∃ z, z = (own_p5_0_2_first x23_216 m295_s0 u111_l4 u111_l5) := ⟨_, rfl⟩
        rw [← hu118_first] at po118_4
        obtain ⟨u118_askedLine, hu118_askedLine⟩ : ∃ z, z = (own_p5_0_2_askedLine x23_216 m295_s0 u113_askedLine) := ⟨_, rfl⟩
        rw [← hu118_askedLine] at po118_6
        obtain ⟨u118_passedChange, hu118_passedChange⟩ : ∃ z, z = (own_p5_0_2_passedChange x23_216 m295_s0 u111_l4 u111_l5 u111_l6 u113_askedLine u113_passedChange) := ⟨_, rfl⟩
        rw [← hu118_passedChange] at po118_7
        obtain ⟨x30_364, hx30_364, pre123⟩ : ∃ z : Int32, z = (own_f5_0_2 x23_216 m295_s0 u111_l4 u111_l5 u111_l6 u113_askedLine u113_passedChange) ∧ own_Pre p e below (s₁.setTop (entryFrame m #[(.int p0), (.int p1), (.int p2), (.int p3)] maxLocals)) (T118.setTop (mkF m 364 #[.val (.int p0), .val (.int p1), .val (.int p2), .val (.int p3), .val (.int x4_7), .val (.int x5_17), .val (.int x6_26), .val (.int x7_35), .val (.int m49_s0), .val (.int x9_60), .val (.int x10_69), .val (.int x11_78), .val (.int x12_86), .val (.int m97_s0), .val (.int m110_s0), .val (.int m126_s0), .val (.int m148_s0), .val (.int x17_157), .val (.int x18_164), .val (.int x19_171), .val (.int m192_s0), .val (.int x21_202), .val (.int x22_209), .val (.int x23_216), .val (.int m235_s0), .val (.int m257_s0), .val (.int m276_s0), .val (.int m295_s0), .val (.ref b67), .val (.int x29_353), .val (.int z), .unset, .unset] [])) := ⟨_, rfl, fun t k => pre117 t (by
            show Steps p.tables e below (T113.setTop (mkF m 353 #[.val (.int p0), .val (.int p1), .val (.int p2), .val (.int p3), .val (.int x4_7), .val (.int x5_17), .val (.int x6_26), .val (.int x7_35), .val (.int m49_s0), .val (.int x9_60), .val (.int x10_69), .val (.int x11_78), .val (.int x12_86), .val (.int m97_s0), .val (.int m110_s0), .val (.int m126_s0), .val (.int m148_s0), .val (.int x17_157), .val (.int x18_164), .val (.int x19_171), .val (.int m192_s0), .val (.int x21_202), .val (.int x22_209), .val (.int x23_216), .val (.int m235_s0), .val (.int m257_s0), .val (.int m276_s0), .val (.int m295_s0), .val (.ref b67), .val (.int x29_353), .unset, .unset, .unset] [])) _
            refine XS.aload X113.here hx rfl (hb hby at_353) rfl rfl ?_
            refine XS.iload X113.here hx rfl (hb hby at_355) rfl ?_
            refine XS.iload X113.here hx rfl (hb hby at_357) rfl ?_
            refine st118.trans ?_
            refine XS.istore X118.here hx rfl (hb hby at_362) rfl (l' := #[.val (.int p0), .val (.int p1), .val (.int p2), .val (.int p3), .val (.int x4_7), .val (.int x5_17), .val (.int x6_26), .val (.int x7_35), .val (.int m49_s0), .val (.int x9_60), .val (.int x10_69), .val (.int x11_78), .val (.int x12_86), .val (.int m97_s0), .val (.int m110_s0), .val (.int m126_s0), .val (.int m148_s0), .val (.int x17_157), .val (.int x18_164), .val (.int x19_171), .val (.int m192_s0), .val (.int x21_202), .val (.int x22_209), .val (.int x23_216), .val (.int m235_s0), .val (.int m257_s0), .val (.int m276_s0), .val (.int m295_s0), .val (.ref b67), .val (.int x29_353), .val (.int (own_f5_0_2 x23_216 m295_s0 u111_l4 u111_l5 u111_l6 u113_askedLine u113_passedChange)), .unset, .unset]) rfl ?_
            exact k)⟩
        have hc366 : ¬ (m97_s0 = (0 : Int32)) := hc308
        have hc379 : ¬ (m110_s0 = (0 : Int32)) := hc326
        have z125 : n0 ≤ (T118.heap).size := (Nat.le_trans z122 K118.1)
        obtain ⟨_, _, ⟨T124, L124, k124, n124⟩, -, X124, ⟨Lc124, hQ124, l124, y124, z124⟩, st124⟩ := Jvm.LawKit.callS X118 hx (y := (⟨"com/example/trawl/trawl/load/ColumnShiftsColumnInTextPinLaw", "expected", "(IIIIIIII)I"⟩ : MethodName)) hown (mvT hZ (hw _ (own_w 36 rfl))) (mvT hZ (hw _ (own_w 37 rfl))) (mvT hZ (hw _ (own_w 38 rfl))) (mvT hZ (hw _ (own_w 39 rfl))) (by decide) (backOf (W := 1) (rm6 l Z aw hw [] (x21_202) (m276_s0) (x4_7) (x19_171) (x17_157) (m126_s0) (m192_s0) (x18_164) (T118.heap) n0 z125) hZ (hw _ (own_w 39 rfl)) (hw _ (own_w 38 rfl)) (by decide) (by decide)) (g := (mkF m 408 #[.val (.int p0), .val (.int p1), .val (.int p2), .val (.int p3), .val (.int x4_7), .val (.int x5_17), .val (.int x6_26), .val (.int x7_35), .val (.int m49_s0), .val (.int x9_60), .val (.int x10_69), .val (.int x11_78), .val (.int x12_86), .val (.int m97_s0), .val (.int m110_s0), .val (.int m126_s0), .val (.int m148_s0), .val (.int x17_157), .val (.int x18_164), .val (.int x19_171), .val (.int m192_s0), .val (.int x21_202), .val (.int x22_209), .val (.int x23_216), .val (.int m235_s0), .val (.int m257_s0), .val (.int m276_s0), .val (.int m295_s0), .val (.ref b67), .val (.int x29_353), .val (.int x30_364), .val (.int x4_7), .val (.int m126_s0)] [(.int x18_164), (.int m192_s0), (.int m126_s0), (.int x17_157), (.int x19_171), (.int x4_7), (.int m276_s0), (.int x21_202), (.int x29_353)])) rfl (by rw [hml]; rfl) (argsL := [(.int x21_202), (.int m276_s0), (.int x4_7), (.int x19_171), (.int x17_157), (.int m126_s0), (.int m192_s0), (.int x18_164)]) (rest := [(.int x29_353)]) (lenOf pd_2 rfl) rfl (by show 2 * 0 + _ ≤ _; exact Nat.le_of_eq rfl) (hb hby at_408) (fun _ _ => ⟨rfl, rfl, (by decide : 4 + 0 ≤ _), (by decide : 21 + 0 ≤ _)⟩)
        dsimp only [Pt.U, Pt.locs, Pt.cells, Pt.slots] at X124 l124 y124 z124 st124 hQ124
        rw [l124, y124, z124] at X124
        obtain ⟨rfl, Nq124, eq124⟩ := hQ124
        have N124 := Fr.app N118 Nq124
        have hc411 : (x29_353 = (own_f6 x21_202 m276_s0 x4_7 x19_171 x17_157 m126_s0 m192_s0 x18_164)) := by have A := own_add0 hu68_l16 hu68_l17 hu68_l18 hu83_l4 hu83_l5 hu83_l6 G7; have a1 := A.1; have a2 := A.2.1.trans hx19_171.symm; have a3 := A.2.2.1.trans hx17_157.symm; have B := own_add1 A.2.2.2.1 A.2.2.2.2.1 A.2.2.2.2.2 hu83_recordedChange G7 hu111_l4 hu111_l5 hu111_l6 G6 hm192_s0 hx17_157; have b1 := B.1.trans a1; have b2 := B.2.1.trans a2; have b3 := B.2.2.1.trans a3; have b4 := B.2.2.2.1; have b5 := B.2.2.2.2.1; have b6 := B.2.2.2.2.2.trans hx18_164.symm; rw [hx29_353]; exact own_two0 _ _ _ _ _ _ _ _ _ _ _ _ b1 b2 b3 b4 b5 b6 G2 G3
        obtain ⟨_, _, ⟨T126, L126, k126, n126⟩, -, X126, ⟨Lc126, hQ126, l126, y126, z126⟩, st126⟩ := Jvm.LawKit.callS X124 hx (y := (⟨"com/example/trawl/trawl/load/ColumnShiftsColumnInTextPinLaw", "expected", "(IIIIIIII)I"⟩ : MethodName)) hown (mvT hZ (hw _ (own_w 36 rfl))) (mvT hZ (hw _ (own_w 37 rfl))) (mvT hZ (hw _ (own_w 38 rfl))) (mvT hZ (hw _ (own_w 39 rfl))) (by decide) (backOf (W := 1) (rm6 l Z aw hw [] (x23_216) (m295_s0) (x4_7) (x19_171) (x17_157) (m126_s0) (m192_s0) (x18_164) (T118.heap) n0 z125) hZ (hw _ (own_w 39 rfl)) (hw _ (own_w 38 rfl)) (by decide) (by decide)) (g := (mkF m 432 #[.val (.int p0), .val (.int p1), .val (.int p2), .val (.int p3), .val (.int x4_7), .val (.int x5_17), .val (.int x6_26), .val (.int x7_35), .val (.int m49_s0), .val (.int x9_60), .val (.int x10_69), .val (.int x11_78), .val (.int x12_86), .val (.int m97_s0), .val (.int m110_s0), .val (.int m126_s0), .val (.int m148_s0), .val (.int x17_157), .val (.int x18_164), .val (.int x19_171), .val (.int m192_s0), .val (.int x21_202), .val (.int x22_209), .val (.int x23_216), .val (.int m235_s0), .val (.int m257_s0), .val (.int m276_s0), .val (.int m295_s0), .val (.ref b67), .val (.int x29_353), .val (.int x30_364), .val (.int x4_7), .val (.int m126_s0)] [(.int x18_164), (.int m192_s0), (.int m126_s0), (.int x17_157), (.int x19_171), (.int x4_7), (.int m295_s0), (.int x23_216), (.int x30_364)])) rfl (by rw [hml]; rfl) (argsL := [(.int x23_216), (.int m295_s0), (.int x4_7), (.int x19_171), (.int x17_157), (.int m126_s0), (.int m192_s0), (.int x18_164)]) (rest := [(.int x30_364)]) (lenOf pd_2 rfl) rfl (by show 2 * 0 + _ ≤ _; exact Nat.le_of_eq rfl) (hb hby at_432) (fun _ _ => ⟨rfl, eq124, (by decide : 4 + 0 ≤ _), (by decide : 21 + 0 ≤ _)⟩)
        dsimp only [Pt.U, Pt.locs, Pt.cells, Pt.slots] at X126 l126 y126 z126 st126 hQ126
        rw [l126, y126, z126] at X126
        obtain ⟨rfl, Nq126, eq126⟩ := hQ126
        have N126 := Fr.app N124 Nq126
        have hc435 : (x30_364 = (own_f6 x23_216 m295_s0 x4_7 x19_171 x17_157 m126_s0 m192_s0 x18_164)) := by have A := own_add0 hu68_l16 hu68_l17 hu68_l18 hu83_l4 hu83_l5 hu83_l6 G7; have a1 := A.1; have a2 := A.2.1.trans hx19_171.symm; have a3 := A.2.2.1.trans hx17_157.symm; have B := own_add1 A.2.2.2.1 A.2.2.2.2.1 A.2.2.2.2.2 hu83_recordedChange G7 hu111_l4 hu111_l5 hu111_l6 G6 hm192_s0 hx17_157; have b1 := B.1.trans a1; have b2 := B.2.1.trans a2; have b3 := B.2.2.1.trans a3; have b4 := B.2.2.2.1; have b5 := B.2.2.2.2.1; have b6 := B.2.2.2.2.2.trans hx18_164.symm; rw [hx30_364, hu113_passedChange, (own_st2 b1 b2 b3 b4 b5 b6 G2).1 (hu113_first.symm.trans hf0)]; exact own_two0 _ _ _ _ _ _ _ _ _ _ _ _ b1 b2 b3 b4 b5 b6 G2 G3
        obtain ⟨fs, hr, hrun, hended, hW, hsame⟩ := X126.leave (v := some (.int (1 : Int32))) (fun h => by rw [Bd.returns] at h; cases h)
        refine ⟨_, _, pre123 _ ?_, hrun, hended, _, _, rfl, ?_, ⟨_, rfl⟩, hW, hsame.mono (by decide) (by decide)⟩
        · show Steps p.tables e below (T118.setTop (mkF m 364 #[.val (.int p0), .val (.int p1), .val (.int p2), .val (.int p3), .val (.int x4_7), .val (.int x5_17), .val (.int x6_26), .val (.int x7_35), .val (.int m49_s0), .val (.int x9_60), .val (.int x10_69), .val (.int x11_78), .val (.int x12_86), .val (.int m97_s0), .val (.int m110_s0), .val (.int m126_s0), .val (.int m148_s0), .val (.int x17_157), .val (.int x18_164), .val (.int x19_171), .val (.int m192_s0), .val (.int x21_202), .val (.int x22_209), .val (.int x23_216), .val (.int m235_s0), .val (.int m257_s0), .val (.int m276_s0), .val (.int m295_s0), .val (.ref b67), .val (.int x29_353), .val (.int x30_364), .unset, .unset] [])) _
          refine XS.iload X118.here hx rfl (hb hby at_364) rfl ?_
          refine XS.ifNo X118.here hx rfl (hb hby at_366) rfl ((if0 _ _).trans (feq hc366).1) ?_
          refine XS.iload X118.here hx rfl (hb hby at_369) rfl ?_
          refine XS.goto X118.here hx rfl (pc0 := 371) (pc' := 375) rfl (hb hby at_371) (by decide) (by decide) ?_
          refine XS.istore X118.here hx rfl (hb hby at_375) rfl (l' := #[.val (.int p0), .val (.int p1), .val (.int p2), .val (.int p3), .val (.int x4_7), .val (.int x5_17), .val (.int x6_26), .val (.int x7_35), .val (.int m49_s0), .val (.int x9_60), .val (.int x10_69), .val (.int x11_78), .val (.int x12_86), .val (.int m97_s0), .val (.int m110_s0), .val (.int m126_s0), .val (.int m148_s0), .val (.int x17_157), .val (.int x18_164), .val (.int x19_171), .val (.int m192_s0), .val (.int x21_202), .val (.int x22_209), .val (.int x23_216), .val (.int m235_s0), .val (.int m257_s0), .val (.int m276_s0), .val (.int m295_s0), .val (.ref b67), .val (.int x29_353), .val (.int x30_364), .val (.int x4_7), .unset]) rfl ?_
          show Steps p.tables e below (T118.setTop (mkF m 377 #[.val (.int p0), .val (.int p1), .val (.int p2), .val (.int p3), .val (.int x4_7), .val (.int x5_17), .val (.int x6_26), .val (.int x7_35), .val (.int m49_s0), .val (.int x9_60), .val (.int x10_69), .val (.int x11_78), .val (.int x12_86), .val (.int m97_s0), .val (.int m110_s0), .val (.int m126_s0), .val (.int m148_s0), .val (.int x17_157), .val (.int x18_164), .val (.int x19_171), .val (.int m192_s0), .val (.int x21_202), .val (.int x22_209), .val (.int x23_216), .val (.int m235_s0), .val (.int m257_s0), .val (.int m276_s0), .val (.int m295_s0), .val (.ref b67), .val (.int x29_353), .val (.int x30_364), .val (.int x4_7), .unset] [])) _
          refine XS.iload X118.here hx rfl (hb hby at_377) rfl ?_
          refine XS.ifNo X118.here hx rfl (hb hby at_379) rfl ((if0 _ _).trans (feq hc379).1) ?_
          refine XS.iload X118.here hx rfl (hb hby at_382) rfl ?_
          refine XS.goto X118.here hx rfl (pc0 := 384) (pc' := 388) rfl (hb hby at_384) (by decide) (by decide) ?_
          refine XS.istore X118.here hx rfl (hb hby at_388) rfl (l' := #[.val (.int p0), .val (.int p1), .val (.int p2), .val (.int p3), .val (.int x4_7), .val (.int x5_17), .val (.int x6_26), .val (.int x7_35), .val (.int m49_s0), .val (.int x9_60), .val (.int x10_69), .val (.int x11_78), .val (.int x12_86), .val (.int m97_s0), .val (.int m110_s0), .val (.int m126_s0), .val (.int m148_s0), .val (.int x17_157), .val (.int x18_164), .val (.int x19_171), .val (.int m192_s0), .val (.int x21_202), .val (.int x22_209), .val (.int x23_216), .val (.int m235_s0), .val (.int m257_s0), .val (.int m276_s0), .val (.int m295_s0), .val (.ref b67), .val (.int x29_353), .val (.int x30_364), .val (.int x4_7), .val (.int m126_s0)]) rfl ?_
          show Steps p.tables e below (T118.setTop (mkF m 390 #[.val (.int p0), .val (.int p1), .val (.int p2), .val (.int p3), .val (.int x4_7), .val (.int x5_17), .val (.int x6_26), .val (.int x7_35), .val (.int m49_s0), .val (.int x9_60), .val (.int x10_69), .val (.int x11_78), .val (.int x12_86), .val (.int m97_s0), .val (.int m110_s0), .val (.int m126_s0), .val (.int m148_s0), .val (.int x17_157), .val (.int x18_164), .val (.int x19_171), .val (.int m192_s0), .val (.int x21_202), .val (.int x22_209), .val (.int x23_216), .val (.int m235_s0), .val (.int m257_s0), .val (.int m276_s0), .val (.int m295_s0), .val (.ref b67), .val (.int x29_353), .val (.int x30_364), .val (.int x4_7), .val (.int m126_s0)] [])) _
          refine XS.iload X118.here hx rfl (hb hby at_390) rfl ?_
          refine XS.iload X118.here hx rfl (hb hby at_392) rfl ?_
          refine XS.iload X118.here hx rfl (hb hby at_394) rfl ?_
          refine XS.iload X118.here hx rfl (hb hby at_396) rfl ?_
          refine XS.iload X118.here hx rfl (hb hby at_398) rfl ?_
          show Steps p.tables e below (T118.setTop (mkF m 400 #[.val (.int p0), .val (.int p1), .val (.int p2), .val (.int p3), .val (.int x4_7), .val (.int x5_17), .val (.int x6_26), .val (.int x7_35), .val (.int m49_s0), .val (.int x9_60), .val (.int x10_69), .val (.int x11_78), .val (.int x12_86), .val (.int m97_s0), .val (.int m110_s0), .val (.int m126_s0), .val (.int m148_s0), .val (.int x17_157), .val (.int x18_164), .val (.int x19_171), .val (.int m192_s0), .val (.int x21_202), .val (.int x22_209), .val (.int x23_216), .val (.int m235_s0), .val (.int m257_s0), .val (.int m276_s0), .val (.int m295_s0), .val (.ref b67), .val (.int x29_353), .val (.int x30_364), .val (.int x4_7), .val (.int m126_s0)] [(.int x19_171), (.int x4_7), (.int m276_s0), (.int x21_202), (.int x29_353)])) _
          refine XS.iload X118.here hx rfl (hb hby at_400) rfl ?_
          refine XS.iload X118.here hx rfl (hb hby at_402) rfl ?_
          refine XS.iload X118.here hx rfl (hb hby at_404) rfl ?_
          refine XS.iload X118.here hx rfl (hb hby at_406) rfl ?_
          refine st124 _ ?_
          show Steps p.tables e below (T124.setTop (mkF m 411 #[.val (.int p0), .val (.int p1), .val (.int p2), .val (.int p3), .val (.int x4_7), .val (.int x5_17), .val (.int x6_26), .val (.int x7_35), .val (.int m49_s0), .val (.int x9_60), .val (.int x10_69), .val (.int x11_78), .val (.int x12_86), .val (.int m97_s0), .val (.int m110_s0), .val (.int m126_s0), .val (.int m148_s0), .val (.int x17_157), .val (.int x18_164), .val (.int x19_171), .val (.int m192_s0), .val (.int x21_202), .val (.int x22_209), .val (.int x23_216), .val (.int m235_s0), .val (.int m257_s0), .val (.int m276_s0), .val (.int m295_s0), .val (.ref b67), .val (.int x29_353), .val (.int x30_364), .val (.int x4_7), .val (.int m126_s0)] [(.int (own_f6 x21_202 m276_s0 x4_7 x19_171 x17_157 m126_s0 m192_s0 x18_164)), (.int x29_353)])) _
          refine XS.icmpNo X124.here hx rfl (hb hby at_411) rfl (teq hc411).2 ?_
          refine XS.iload X124.here hx rfl (hb hby at_414) rfl ?_
          refine XS.iload X124.here hx rfl (hb hby at_416) rfl ?_
          refine XS.iload X124.here hx rfl (hb hby at_418) rfl ?_
          refine XS.iload X124.here hx rfl (hb hby at_420) rfl ?_
          show Steps p.tables e below (T124.setTop (mkF m 422 #[.val (.int p0), .val (.int p1), .val (.int p2), .val (.int p3), .val (.int x4_7), .val (.int x5_17), .val (.int x6_26), .val (.int x7_35), .val (.int m49_s0), .val (.int x9_60), .val (.int x10_69), .val (.int x11_78), .val (.int x12_86), .val (.int m97_s0), .val (.int m110_s0), .val (.int m126_s0), .val (.int m148_s0), .val (.int x17_157), .val (.int x18_164), .val (.int x19_171), .val (.int m192_s0), .val (.int x21_202), .val (.int x22_209), .val (.int x23_216), .val (.int m235_s0), .val (.int m257_s0), .val (.int m276_s0), .val (.int m295_s0), .val (.ref b67), .val (.int x29_353), .val (.int x30_364), .val (.int x4_7), .val (.int m126_s0)] [(.int x4_7), (.int m295_s0), (.int x23_216), (.int x30_364)])) _
          refine XS.iload X124.here hx rfl (hb hby at_422) rfl ?_
          refine XS.iload X124.here hx rfl (hb hby at_424) rfl ?_
          refine XS.iload X124.here hx rfl (hb hby at_426) rfl ?_
          refine XS.iload X124.here hx rfl (hb hby at_428) rfl ?_
          refine XS.iload X124.here hx rfl (hb hby at_430) rfl ?_
          show Steps p.tables e below (T124.setTop (mkF m 432 #[.val (.int p0), .val (.int p1), .val (.int p2), .val (.int p3), .val (.int x4_7), .val (.int x5_17), .val (.int x6_26), .val (.int x7_35), .val (.int m49_s0), .val (.int x9_60), .val (.int x10_69), .val (.int x11_78), .val (.int x12_86), .val (.int m97_s0), .val (.int m110_s0), .val (.int m126_s0), .val (.int m148_s0), .val (.int x17_157), .val (.int x18_164), .val (.int x19_171), .val (.int m192_s0), .val (.int x21_202), .val (.int x22_209), .val (.int x23_216), .val (.int m235_s0), .val (.int m257_s0), .val (.int m276_s0), .val (.int m295_s0), .val (.ref b67), .val (.int x29_353), .val (.int x30_364), .val (.int x4_7), .val (.int m126_s0)] [(.int x18_164), (.int m192_s0), (.int m126_s0), (.int x17_157), (.int x19_171), (.int x4_7), (.int m295_s0), (.int x23_216), (.int x30_364)])) _
          refine st126 _ ?_
          refine XS.icmpNo X126.here hx rfl (hb hby at_435) rfl (teq hc435).2 ?_
          refine XS.iconst X126.here hx rfl (hb hby at_438) ?_
          refine XS.goto X126.here hx rfl (pc0 := 439) (pc' := 443) rfl (hb hby at_439) (by decide) (by decide) ?_
          show Steps p.tables e below (T126.setTop (mkF m 443 #[.val (.int p0), .val (.int p1), .val (.int p2), .val (.int p3), .val (.int x4_7), .val (.int x5_17), .val (.int x6_26), .val (.int x7_35), .val (.int m49_s0), .val (.int x9_60), .val (.int x10_69), .val (.int x11_78), .val (.int x12_86), .val (.int m97_s0), .val (.int m110_s0), .val (.int m126_s0), .val (.int m148_s0), .val (.int x17_157), .val (.int x18_164), .val (.int x19_171), .val (.int m192_s0), .val (.int x21_202), .val (.int x22_209), .val (.int x23_216), .val (.int m235_s0), .val (.int m257_s0), .val (.int m276_s0), .val (.int m295_s0), .val (.ref b67), .val (.int x29_353), .val (.int x30_364), .val (.int x4_7), .val (.int m126_s0)] [(.int (1 : Int32))])) _
          exact retN X126 hx (t := .boolean) Bd.returns (by simp) (hb hby at_443) hr
        · show Q0 Z p0 p1 p2 p3 h0 n0 _ T126.heap _
          rw [eq126]
          unfold Q0
          refine ⟨rfl, N126⟩
      · by_cases hf1 : u113_first = (1 : Int32)
        · have ff127 := po113_4
          rw [hf1] at ff127
          obtain ⟨x29_353, hx29_353, pre128⟩ : ∃ z : Int32, z = (own_f5_0_2 x21_202 m276_s0 u111_l4 u111_l5 u111_l6 ((0 : Int32)) ((0 : Int32))) ∧ own_Pre p e below (s₁.setTop (entryFrame m #[(.int p0), (.int p1), (.int p2), (.int p3)] maxLocals)) (T113.setTop (mkF m 353 #[.val (.int p0), .val (.int p1), .val (.int p2), .val (.int p3), .val (.int x4_7), .val (.int x5_17), .val (.int x6_26), .val (.int x7_35), .val (.int m49_s0), .val (.int x9_60), .val (.int x10_69), .val (.int x11_78), .val (.int x12_86), .val (.int m97_s0), .val (.int m110_s0), .val (.int m126_s0), .val (.int m148_s0), .val (.int x17_157), .val (.int x18_164), .val (.int x19_171), .val (.int m192_s0), .val (.int x21_202), .val (.int x22_209), .val (.int x23_216), .val (.int m235_s0), .val (.int m257_s0), .val (.int m276_s0), .val (.int m295_s0), .val (.ref b67), .val (.int z), .unset, .unset, .unset] [])) := ⟨_, rfl, fun t k => pre115 t (by
              show Steps p.tables e below (T113.setTop (mkF m 351 #[.val (.int p0), .val (.int p1), .val (.int p2), .val (.int p3), .val (.int x4_7), .val (.int x5_17), .val (.int x6_26), .val (.int x7_35), .val (.int m49_s0), .val (.int x9_60), .val (.int x10_69), .val (.int x11_78), .val (.int x12_86), .val (.int m97_s0), .val (.int m110_s0), .val (.int m126_s0), .val (.int m148_s0), .val (.int x17_157), .val (.int x18_164), .val (.int x19_171), .val (.int m192_s0), .val (.int x21_202), .val (.int x22_209), .val (.int x23_216), .val (.int m235_s0), .val (.int m257_s0), .val (.int m276_s0), .val (.int m295_s0), .val (.ref b67), .unset, .unset, .unset, .unset] [(.int (own_f5_0_2 x21_202 m276_s0 u111_l4 u111_l5 u111_l6 ((0 : Int32)) ((0 : Int32))))])) _
              refine XS.istore X113.here hx rfl (hb hby at_351) rfl (l' := #[.val (.int p0), .val (.int p1), .val (.int p2), .val (.int p3), .val (.int x4_7), .val (.int x5_17), .val (.int x6_26), .val (.int x7_35), .val (.int m49_s0), .val (.int x9_60), .val (.int x10_69), .val (.int x11_78), .val (.int x12_86), .val (.int m97_s0), .val (.int m110_s0), .val (.int m126_s0), .val (.int m148_s0), .val (.int x17_157), .val (.int x18_164), .val (.int x19_171), .val (.int m192_s0), .val (.int x21_202), .val (.int x22_209), .val (.int x23_216), .val (.int m235_s0), .val (.int m257_s0), .val (.int m276_s0), .val (.int m295_s0), .val (.ref b67), .val (.int (own_f5_0_2 x21_202 m276_s0 u111_l4 u111_l5 u111_l6 ((0 : Int32)) ((0 : Int32)))), .unset, .unset, .unset]) rfl ?_
              exact k)⟩
          have f130 := (po111_4.keep K113 (ninS (Ne.symm ne_b67_la68) nin0))
          have f131 := (po111_5.keep K113 (ninS (Ne.symm ne_b67_ea68) nin0))
          have f132 := (po111_6.keep K113 (ninS (Ne.symm ne_b67_ca68) nin0))
          have z133 : n0 ≤ (T113.heap).size := (Nat.le_trans z114 K113.1)
          obtain ⟨cq129, kq129, q129a, q129b, q129c⟩ := isOf hZ rfl po113_0
          obtain ⟨_, _, ⟨T129, L129, k129, n129⟩, -, X129, ⟨Lc129, hQ129, l129, y129, z129⟩, st129⟩ := X113.virtualBack hx (y := (⟨"com/example/trawl/trawl/load/ColumnShifts", "columnInText", "(II)I"⟩ : MethodName)) (z := (⟨"com/example/trawl/trawl/load/ColumnShifts", "columnInText", "(II)I"⟩ : MethodName)) hown (mvT hZ (hw _ (own_w 23 rfl))) (mvT hZ (hw _ (own_w 24 rfl))) (notFace_of_selects (args := #[]) (mvT hZ (hw _ (own_w 26 rfl)))) (mvT hZ (hw _ (own_w 26 rfl))) (mvT hZ (hw _ (own_w 25 rfl))) (by decide) (backOf (W := 0) (rm5_1_2 l Z aw hw [] (b67) (x23_216) (m295_s0) (la68) (ea68) (ca68) (kl68) (ke68) (kc68) (u111_l4) (u111_l5) (u111_l6) (u113_askedLine) (u113_passedChange) (T113.heap) n0 z133 po113_0 po113_1 po113_2 po113_3 f130 f131 f132 po68_4 po68_5 po68_6 ne_b67_la68 ne_b67_ea68 ne_b67_ca68 g_b67 ff127 po113_5 po113_6 po113_7) hZ (hw _ (own_w 27 rfl)) (hw _ (own_w 9 rfl)) (by decide) (by decide)) q129a q129c (g := (mkF m 359 #[.val (.int p0), .val (.int p1), .val (.int p2), .val (.int p3), .val (.int x4_7), .val (.int x5_17), .val (.int x6_26), .val (.int x7_35), .val (.int m49_s0), .val (.int x9_60), .val (.int x10_69), .val (.int x11_78), .val (.int x12_86), .val (.int m97_s0), .val (.int m110_s0), .val (.int m126_s0), .val (.int m148_s0), .val (.int x17_157), .val (.int x18_164), .val (.int x19_171), .val (.int m192_s0), .val (.int x21_202), .val (.int x22_209), .val (.int x23_216), .val (.int m235_s0), .val (.int m257_s0), .val (.int m276_s0), .val (.int m295_s0), .val (.ref b67), .val (.int x29_353), .unset, .unset, .unset] [(.int m295_s0), (.int x23_216), (.ref b67)])) rfl (by rw [hml]; rfl) (Steps.refl _) (argsL := [(.int x23_216), (.int m295_s0)]) (rest := []) (lenOf pd_0 rfl) rfl (by show 2 * 0 + _ ≤ _; exact Nat.le_of_eq rfl) (hb hby at_359) (fun _ _ => ⟨rfl, rfl, (by decide : 4 + 0 ≤ _), (by decide : 21 + 0 ≤ _)⟩)
          dsimp only [Pt.U, Pt.locs, Pt.cells, Pt.slots] at X129 l129 y129 z129 st129 hQ129
          rw [l129, y129, z129] at X129
          obtain ⟨rfl, Nq129, K129, po129_0, po129_1, po129_2, po129_3, po129_4, po129_5, po129_6, po129_7⟩ := hQ129
          have N129 := Fr.app N113 Nq129
          obtain ⟨u129_first, hu129_first⟩ : ∃ z, z = (own_p5_1_2_first x23_216 m295_s0 u111_l4 u111_l5) := ⟨_, rfl⟩
          rw [← hu129_first] at po129_4
          obtain ⟨u129_askedLine, hu129_askedLine⟩ : ∃ z, z = (own_p5_1_2_askedLine x23_216 m295_s0 u113_askedLine) := ⟨_, rfl⟩
          rw [← hu129_askedLine] at po129_6
          obtain ⟨u129_passedChange, hu129_passedChange⟩ : ∃ z, z = (own_p5_1_2_passedChange x23_216 m295_s0 u111_l4 u111_l5 u111_l6 u113_askedLine u113_passedChange) := ⟨_, rfl⟩
          rw [← hu129_passedChange] at po129_7
          obtain ⟨x30_364, hx30_364, pre134⟩ : ∃ z : Int32, z = (own_f5_1_2 x23_216 m295_s0 u111_l4 u111_l5 u111_l6 u113_askedLine u113_passedChange) ∧ own_Pre p e below (s₁.setTop (entryFrame m #[(.int p0), (.int p1), (.int p2), (.int p3)] maxLocals)) (T129.setTop (mkF m 364 #[.val (.int p0), .val (.int p1), .val (.int p2), .val (.int p3), .val (.int x4_7), .val (.int x5_17), .val (.int x6_26), .val (.int x7_35), .val (.int m49_s0), .val (.int x9_60), .val (.int x10_69), .val (.int x11_78), .val (.int x12_86), .val (.int m97_s0), .val (.int m110_s0), .val (.int m126_s0), .val (.int m148_s0), .val (.int x17_157), .val (.int x18_164), .val (.int x19_171), .val (.int m192_s0), .val (.int x21_202), .val (.int x22_209), .val (.int x23_216), .val (.int m235_s0), .val (.int m257_s0), .val (.int m276_s0), .val (.int m295_s0), .val (.ref b67), .val (.int x29_353), .val (.int z), .unset, .unset] [])) := ⟨_, rfl, fun t k => pre128 t (by
              show Steps p.tables e below (T113.setTop (mkF m 353 #[.val (.int p0), .val (.int p1), .val (.int p2), .val (.int p3), .val (.int x4_7), .val (.int x5_17), .val (.int x6_26), .val (.int x7_35), .val (.int m49_s0), .val (.int x9_60), .val (.int x10_69), .val (.int x11_78), .val (.int x12_86), .val (.int m97_s0), .val (.int m110_s0), .val (.int m126_s0), .val (.int m148_s0), .val (.int x17_157), .val (.int x18_164), .val (.int x19_171), .val (.int m192_s0), .val (.int x21_202), .val (.int x22_209), .val (.int x23_216), .val (.int m235_s0), .val (.int m257_s0), .val (.int m276_s0), .val (.int m295_s0), .val (.ref b67), .val (.int x29_353), .unset, .unset, .unset] [])) _
              refine XS.aload X113.here hx rfl (hb hby at_353) rfl rfl ?_
              refine XS.iload X113.here hx rfl (hb hby at_355) rfl ?_
              refine XS.iload X113.here hx rfl (hb hby at_357) rfl ?_
              refine st129.trans ?_
              refine XS.istore X129.here hx rfl (hb hby at_362) rfl (l' := #[.val (.int p0), .val (.int p1), .val (.int p2), .val (.int p3), .val (.int x4_7), .val (.int x5_17), .val (.int x6_26), .val (.int x7_35), .val (.int m49_s0), .val (.int x9_60), .val (.int x10_69), .val (.int x11_78), .val (.int x12_86), .val (.int m97_s0), .val (.int m110_s0), .val (.int m126_s0), .val (.int m148_s0), .val (.int x17_157), .val (.int x18_164), .val (.int x19_171), .val (.int m192_s0), .val (.int x21_202), .val (.int x22_209), .val (.int x23_216), .val (.int m235_s0), .val (.int m257_s0), .val (.int m276_s0), .val (.int m295_s0), .val (.ref b67), .val (.int x29_353), .val (.int (own_f5_1_2 x23_216 m295_s0 u111_l4 u111_l5 u111_l6 u113_askedLine u113_passedChange)), .unset, .unset]) rfl ?_
              exact k)⟩
          have hc366 : ¬ (m97_s0 = (0 : Int32)) := hc308
          have hc379 : ¬ (m110_s0 = (0 : Int32)) := hc326
          have z136 : n0 ≤ (T129.heap).size := (Nat.le_trans z133 K129.1)
          obtain ⟨_, _, ⟨T135, L135, k135, n135⟩, -, X135, ⟨Lc135, hQ135, l135, y135, z135⟩, st135⟩ := Jvm.LawKit.callS X129 hx (y := (⟨"com/example/trawl/trawl/load/ColumnShiftsColumnInTextPinLaw", "expected", "(IIIIIIII)I"⟩ : MethodName)) hown (mvT hZ (hw _ (own_w 36 rfl))) (mvT hZ (hw _ (own_w 37 rfl))) (mvT hZ (hw _ (own_w 38 rfl))) (mvT hZ (hw _ (own_w 39 rfl))) (by decide) (backOf (W := 1) (rm6 l Z aw hw [] (x21_202) (m276_s0) (x4_7) (x19_171) (x17_157) (m126_s0) (m192_s0) (x18_164) (T129.heap) n0 z136) hZ (hw _ (own_w 39 rfl)) (hw _ (own_w 38 rfl)) (by decide) (by decide)) (g := (mkF m 408 #[.val (.int p0), .val (.int p1), .val (.int p2), .val (.int p3), .val (.int x4_7), .val (.int x5_17), .val (.int x6_26), .val (.int x7_35), .val (.int m49_s0), .val (.int x9_60), .val (.int x10_69), .val (.int x11_78), .val (.int x12_86), .val (.int m97_s0), .val (.int m110_s0), .val (.int m126_s0), .val (.int m148_s0), .val (.int x17_157), .val (.int x18_164), .val (.int x19_171), .val (.int m192_s0), .val (.int x21_202), .val (.int x22_209), .val (.int x23_216), .val (.int m235_s0), .val (.int m257_s0), .val (.int m276_s0), .val (.int m295_s0), .val (.ref b67), .val (.int x29_353), .val (.int x30_364), .val (.int x4_7), .val (.int m126_s0)] [(.int x18_164), (.int m192_s0), (.int m126_s0), (.int x17_157), (.int x19_171), (.int x4_7), (.int m276_s0), (.int x21_202), (.int x29_353)])) rfl (by rw [hml]; rfl) (argsL := [(.int x21_202), (.int m276_s0), (.int x4_7), (.int x19_171), (.int x17_157), (.int m126_s0), (.int m192_s0), (.int x18_164)]) (rest := [(.int x29_353)]) (lenOf pd_2 rfl) rfl (by show 2 * 0 + _ ≤ _; exact Nat.le_of_eq rfl) (hb hby at_408) (fun _ _ => ⟨rfl, rfl, (by decide : 4 + 0 ≤ _), (by decide : 21 + 0 ≤ _)⟩)
          dsimp only [Pt.U, Pt.locs, Pt.cells, Pt.slots] at X135 l135 y135 z135 st135 hQ135
          rw [l135, y135, z135] at X135
          obtain ⟨rfl, Nq135, eq135⟩ := hQ135
          have N135 := Fr.app N129 Nq135
          have hc411 : (x29_353 = (own_f6 x21_202 m276_s0 x4_7 x19_171 x17_157 m126_s0 m192_s0 x18_164)) := by have A := own_add0 hu68_l16 hu68_l17 hu68_l18 hu83_l4 hu83_l5 hu83_l6 G7; have a1 := A.1; have a2 := A.2.1.trans hx19_171.symm; have a3 := A.2.2.1.trans hx17_157.symm; have B := own_add1 A.2.2.2.1 A.2.2.2.2.1 A.2.2.2.2.2 hu83_recordedChange G7 hu111_l4 hu111_l5 hu111_l6 G6 hm192_s0 hx17_157; have b1 := B.1.trans a1; have b2 := B.2.1.trans a2; have b3 := B.2.2.1.trans a3; have b4 := B.2.2.2.1; have b5 := B.2.2.2.2.1; have b6 := B.2.2.2.2.2.trans hx18_164.symm; rw [hx29_353]; exact own_two0 _ _ _ _ _ _ _ _ _ _ _ _ b1 b2 b3 b4 b5 b6 G2 G3
          obtain ⟨_, _, ⟨T137, L137, k137, n137⟩, -, X137, ⟨Lc137, hQ137, l137, y137, z137⟩, st137⟩ := Jvm.LawKit.callS X135 hx (y := (⟨"com/example/trawl/trawl/load/ColumnShiftsColumnInTextPinLaw", "expected", "(IIIIIIII)I"⟩ : MethodName)) hown (mvT hZ (hw _ (own_w 36 rfl))) (mvT hZ (hw _ (own_w 37 rfl))) (mvT hZ (hw _ (own_w 38 rfl))) (mvT hZ (hw _ (own_w 39 rfl))) (by decide) (backOf (W := 1) (rm6 l Z aw hw [] (x23_216) (m295_s0) (x4_7) (x19_171) (x17_157) (m126_s0) (m192_s0) (x18_164) (T129.heap) n0 z136) hZ (hw _ (own_w 39 rfl)) (hw _ (own_w 38 rfl)) (by decide) (by decide)) (g := (mkF m 432 #[.val (.int p0), .val (.int p1), .val (.int p2), .val (.int p3), .val (.int x4_7), .val (.int x5_17), .val (.int x6_26), .val (.int x7_35), .val (.int m49_s0), .val (.int x9_60), .val (.int x10_69), .val (.int x11_78), .val (.int x12_86), .val (.int m97_s0), .val (.int m110_s0), .val (.int m126_s0), .val (.int m148_s0), .val (.int x17_157), .val (.int x18_164), .val (.int x19_171), .val (.int m192_s0), .val (.int x21_202), .val (.int x22_209), .val (.int x23_216), .val (.int m235_s0), .val (.int m257_s0), .val (.int m276_s0), .val (.int m295_s0), .val (.ref b67), .val (.int x29_353), .val (.int x30_364), .val (.int x4_7), .val (.int m126_s0)] [(.int x18_164), (.int m192_s0), (.int m126_s0), (.int x17_157), (.int x19_171), (.int x4_7), (.int m295_s0), (.int x23_216), (.int x30_364)])) rfl (by rw [hml]; rfl) (argsL := [(.int x23_216), (.int m295_s0), (.int x4_7), (.int x19_171), (.int x17_157), (.int m126_s0), (.int m192_s0), (.int x18_164)]) (rest := [(.int x30_364)]) (lenOf pd_2 rfl) rfl (by show 2 * 0 + _ ≤ _; exact Nat.le_of_eq rfl) (hb hby at_432) (fun _ _ => ⟨rfl, eq135, (by decide : 4 + 0 ≤ _), (by decide : 21 + 0 ≤ _)⟩)
          dsimp only [Pt.U, Pt.locs, Pt.cells, Pt.slots] at X137 l137 y137 z137 st137 hQ137
          rw [l137, y137, z137] at X137
          obtain ⟨rfl, Nq137, eq137⟩ := hQ137
          have N137 := Fr.app N135 Nq137
          have hc435 : (x30_364 = (own_f6 x23_216 m295_s0 x4_7 x19_171 x17_157 m126_s0 m192_s0 x18_164)) := by have A := own_add0 hu68_l16 hu68_l17 hu68_l18 hu83_l4 hu83_l5 hu83_l6 G7; have a1 := A.1; have a2 := A.2.1.trans hx19_171.symm; have a3 := A.2.2.1.trans hx17_157.symm; have B := own_add1 A.2.2.2.1 A.2.2.2.2.1 A.2.2.2.2.2 hu83_recordedChange G7 hu111_l4 hu111_l5 hu111_l6 G6 hm192_s0 hx17_157; have b1 := B.1.trans a1; have b2 := B.2.1.trans a2; have b3 := B.2.2.1.trans a3; have b4 := B.2.2.2.1; have b5 := B.2.2.2.2.1; have b6 := B.2.2.2.2.2.trans hx18_164.symm; rw [hx30_364]; exact own_two1 b1 b2 b3 b4 b5 b6 G2 G4 G5 hu113_askedLine hu113_passedChange (hu113_first.symm.trans hf1)
          obtain ⟨fs, hr, hrun, hended, hW, hsame⟩ := X137.leave (v := some (.int (1 : Int32))) (fun h => by rw [Bd.returns] at h; cases h)
          refine ⟨_, _, pre134 _ ?_, hrun, hended, _, _, rfl, ?_, ⟨_, rfl⟩, hW, hsame.mono (by decide) (by decide)⟩
          · show Steps p.tables e below (T129.setTop (mkF m 364 #[.val (.int p0), .val (.int p1), .val (.int p2), .val (.int p3), .val (.int x4_7), .val (.int x5_17), .val (.int x6_26), .val (.int x7_35), .val (.int m49_s0), .val (.int x9_60), .val (.int x10_69), .val (.int x11_78), .val (.int x12_86), .val (.int m97_s0), .val (.int m110_s0), .val (.int m126_s0), .val (.int m148_s0), .val (.int x17_157), .val (.int x18_164), .val (.int x19_171), .val (.int m192_s0), .val (.int x21_202), .val (.int x22_209), .val (.int x23_216), .val (.int m235_s0), .val (.int m257_s0), .val (.int m276_s0), .val (.int m295_s0), .val (.ref b67), .val (.int x29_353), .val (.int x30_364), .unset, .unset] [])) _
            refine XS.iload X129.here hx rfl (hb hby at_364) rfl ?_
            refine XS.ifNo X129.here hx rfl (hb hby at_366) rfl ((if0 _ _).trans (feq hc366).1) ?_
            refine XS.iload X129.here hx rfl (hb hby at_369) rfl ?_
            refine XS.goto X129.here hx rfl (pc0 := 371) (pc' := 375) rfl (hb hby at_371) (by decide) (by decide) ?_
            refine XS.istore X129.here hx rfl (hb hby at_375) rfl (l' := #[.val (.int p0), .val (.int p1), .val (.int p2), .val (.int p3), .val (.int x4_7), .val (.int x5_17), .val (.int x6_26), .val (.int x7_35), .val (.int m49_s0), .val (.int x9_60), .val (.int x10_69), .val (.int x11_78), .val (.int x12_86), .val (.int m97_s0), .val (.int m110_s0), .val (.int m126_s0), .val (.int m148_s0), .val (.int x17_157), .val (.int x18_164), .val (.int x19_171), .val (.int m192_s0), .val (.int x21_202), .val (.int x22_209), .val (.int x23_216), .val (.int m235_s0), .val (.int m257_s0), .val (.int m276_s0), .val (.int m295_s0), .val (.ref b67), .val (.int x29_353), .val (.int x30_364), .val (.int x4_7), .unset]) rfl ?_
            show Steps p.tables e below (T129.setTop (mkF m 377 #[.val (.int p0), .val (.int p1), .val (.int p2), .val (.int p3), .val (.int x4_7), .val (.int x5_17), .val (.int x6_26), .val (.int x7_35), .val (.int m49_s0), .val (.int x9_60), .val (.int x10_69), .val (.int x11_78), .val (.int x12_86), .val (.int m97_s0), .val (.int m110_s0), .val (.int m126_s0), .val (.int m148_s0), .val (.int x17_157), .val (.int x18_164), .val (.int x19_171), .val (.int m192_s0), .val (.int x21_202), .val (.int x22_209), .val (.int x23_216), .val (.int m235_s0), .val (.int m257_s0), .val (.int m276_s0), .val (.int m295_s0), .val (.ref b67), .val (.int x29_353), .val (.int x30_364), .val (.int x4_7), .unset] [])) _
            refine XS.iload X129.here hx rfl (hb hby at_377) rfl ?_
            refine XS.ifNo X129.here hx rfl (hb hby at_379) rfl ((if0 _ _).trans (feq hc379).1) ?_
            refine XS.iload X129.here hx rfl (hb hby at_382) rfl ?_
            refine XS.goto X129.here hx rfl (pc0 := 384) (pc' := 388) rfl (hb hby at_384) (by decide) (by decide) ?_
            refine XS.istore X129.here hx rfl (hb hby at_388) rfl (l' := #[.val (.int p0), .val (.int p1), .val (.int p2), .val (.int p3), .val (.int x4_7), .val (.int x5_17), .val (.int x6_26), .val (.int x7_35), .val (.int m49_s0), .val (.int x9_60), .val (.int x10_69), .val (.int x11_78), .val (.int x12_86), .val (.int m97_s0), .val (.int m110_s0), .val (.int m126_s0), .val (.int m148_s0), .val (.int x17_157), .val (.int x18_164), .val (.int x19_171), .val (.int m192_s0), .val (.int x21_202), .val (.int x22_209), .val (.int x23_216), .val (.int m235_s0), .val (.int m257_s0), .val (.int m276_s0), .val (.int m295_s0), .val (.ref b67), .val (.int x29_353), .val (.int x30_364), .val (.int x4_7), .val (.int m126_s0)]) rfl ?_
            show Steps p.tables e below (T129.setTop (mkF m 390 #[.val (.int p0), .val (.int p1), .val (.int p2), .val (.int p3), .val (.int x4_7), .val (.int x5_17), .val (.int x6_26), .val (.int x7_35), .val (.int m49_s0), .val (.int x9_60), .val (.int x10_69), .val (.int x11_78), .val (.int x12_86), .val (.int m97_s0), .val (.int m110_s0), .val (.int m126_s0), .val (.int m148_s0), .val (.int x17_157), .val (.int x18_164), .val (.int x19_171), .val (.int m192_s0), .val (.int x21_202), .val (.int x22_209), .val (.int x23_216), .val (.int m235_s0), .val (.int m257_s0), .val (.int m276_s0), .val (.int m295_s0), .val (.ref b67), .val (.int x29_353), .val (.int x30_364), .val (.int x4_7), .val (.int m126_s0)] [])) _
            refine XS.iload X129.here hx rfl (hb hby at_390) rfl ?_
            refine XS.iload X129.here hx rfl (hb hby at_392) rfl ?_
            refine XS.iload X129.here hx rfl (hb hby at_394) rfl ?_
            refine XS.iload X129.here hx rfl (hb hby at_396) rfl ?_
            refine XS.iload X129.here hx rfl (hb hby at_398) rfl ?_
            show Steps p.tables e below (T129.setTop (mkF m 400 #[.val (.int p0), .val (.int p1), .val (.int p2), .val (.int p3), .val (.int x4_7), .val (.int x5_17), .val (.int x6_26), .val (.int x7_35), .val (.int m49_s0), .val (.int x9_60), .val (.int x10_69), .val (.int x11_78), .val (.int x12_86), .val (.int m97_s0), .val (.int m110_s0), .val (.int m126_s0), .val (.int m148_s0), .val (.int x17_157), .val (.int x18_164), .val (.int x19_171), .val (.int m192_s0), .val (.int x21_202), .val (.int x22_209), .val (.int x23_216), .val (.int m235_s0), .val (.int m257_s0), .val (.int m276_s0), .val (.int m295_s0), .val (.ref b67), .val (.int x29_353), .val (.int x30_364), .val (.int x4_7), .val (.int m126_s0)] [(.int x19_171), (.int x4_7), (.int m276_s0), (.int x21_202), (.int x29_353)])) _
            refine XS.iload X129.here hx rfl (hb hby at_400) rfl ?_
            refine XS.iload X129.here hx rfl (hb hby at_402) rfl ?_
            refine XS.iload X129.here hx rfl (hb hby at_404) rfl ?_
            refine XS.iload X129.here hx rfl (hb hby at_406) rfl ?_
            refine st135 _ ?_
            show Steps p.tables e below (T135.setTop (mkF m 411 #[.val (.int p0), .val (.int p1), .val (.int p2), .val (.int p3), .val (.int x4_7), .val (.int x5_17), .val (.int x6_26), .val (.int x7_35), .val (.int m49_s0), .val (.int x9_60), .val (.int x10_69), .val (.int x11_78), .val (.int x12_86), .val (.int m97_s0), .val (.int m110_s0), .val (.int m126_s0), .val (.int m148_s0), .val (.int x17_157), .val (.int x18_164), .val (.int x19_171), .val (.int m192_s0), .val (.int x21_202), .val (.int x22_209), .val (.int x23_216), .val (.int m235_s0), .val (.int m257_s0), .val (.int m276_s0), .val (.int m295_s0), .val (.ref b67), .val (.int x29_353), .val (.int x30_364), .val (.int x4_7), .val (.int m126_s0)] [(.int (own_f6 x21_202 m276_s0 x4_7 x19_171 x17_157 m126_s0 m192_s0 x18_164)), (.int x29_353)])) _
            refine XS.icmpNo X135.here hx rfl (hb hby at_411) rfl (teq hc411).2 ?_
            refine XS.iload X135.here hx rfl (hb hby at_414) rfl ?_
            refine XS.iload X135.here hx rfl (hb hby at_416) rfl ?_
            refine XS.iload X135.here hx rfl (hb hby at_418) rfl ?_
            refine XS.iload X135.here hx rfl (hb hby at_420) rfl ?_
            show Steps p.tables e below (T135.setTop (mkF m 422 #[.val (.int p0), .val (.int p1), .val (.int p2), .val (.int p3), .val (.int x4_7), .val (.int x5_17), .val (.int x6_26), .val (.int x7_35), .val (.int m49_s0), .val (.int x9_60), .val (.int x10_69), .val (.int x11_78), .val (.int x12_86), .val (.int m97_s0), .val (.int m110_s0), .val (.int m126_s0), .val (.int m148_s0), .val (.int x17_157), .val (.int x18_164), .val (.int x19_171), .val (.int m192_s0), .val (.int x21_202), .val (.int x22_209), .val (.int x23_216), .val (.int m235_s0), .val (.int m257_s0), .val (.int m276_s0), .val (.int m295_s0), .val (.ref b67), .val (.int x29_353), .val (.int x30_364), .val (.int x4_7), .val (.int m126_s0)] [(.int x4_7), (.int m295_s0), (.int x23_216), (.int x30_364)])) _
            refine XS.iload X135.here hx rfl (hb hby at_422) rfl ?_
            refine XS.iload X135.here hx rfl (hb hby at_424) rfl ?_
            refine XS.iload X135.here hx rfl (hb hby at_426) rfl ?_
            refine XS.iload X135.here hx rfl (hb hby at_428) rfl ?_
            refine XS.iload X135.here hx rfl (hb hby at_430) rfl ?_
            show Steps p.tables e below (T135.setTop (mkF m 432 #[.val (.int p0), .val (.int p1), .val (.int p2), .val (.int p3), .val (.int x4_7), .val (.int x5_17), .val (.int x6_26), .val (.int x7_35), .val (.int m49_s0), .val (.int x9_60), .val (.int x10_69), .val (.int x11_78), .val (.int x12_86), .val (.int m97_s0), .val (.int m110_s0), .val (.int m126_s0), .val (.int m148_s0), .val (.int x17_157), .val (.int x18_164), .val (.int x19_171), .val (.int m192_s0), .val (.int x21_202), .val (.int x22_209), .val (.int x23_216), .val (.int m235_s0), .val (.int m257_s0), .val (.int m276_s0), .val (.int m295_s0), .val (.ref b67), .val (.int x29_353), .val (.int x30_364), .val (.int x4_7), .val (.int m126_s0)] [(.int x18_164), (.int m192_s0), (.int m126_s0), (.int x17_157), (.int x19_171), (.int x4_7), (.int m295_s0), (.int x23_216), (.int x30_364)])) _
            refine st137 _ ?_
            refine XS.icmpNo X137.here hx rfl (hb hby at_435) rfl (teq hc435).2 ?_
            refine XS.iconst X137.here hx rfl (hb hby at_438) ?_
            refine XS.goto X137.here hx rfl (pc0 := 439) (pc' := 443) rfl (hb hby at_439) (by decide) (by decide) ?_
            show Steps p.tables e below (T137.setTop (mkF m 443 #[.val (.int p0), .val (.int p1), .val (.int p2), .val (.int p3), .val (.int x4_7), .val (.int x5_17), .val (.int x6_26), .val (.int x7_35), .val (.int m49_s0), .val (.int x9_60), .val (.int x10_69), .val (.int x11_78), .val (.int x12_86), .val (.int m97_s0), .val (.int m110_s0), .val (.int m126_s0), .val (.int m148_s0), .val (.int x17_157), .val (.int x18_164), .val (.int x19_171), .val (.int m192_s0), .val (.int x21_202), .val (.int x22_209), .val (.int x23_216), .val (.int m235_s0), .val (.int m257_s0), .val (.int m276_s0), .val (.int m295_s0), .val (.ref b67), .val (.int x29_353), .val (.int x30_364), .val (.int x4_7), .val (.int m126_s0)] [(.int (1 : Int32))])) _
            exact retN X137 hx (t := .boolean) Bd.returns (by simp) (hb hby at_443) hr
          · show Q0 Z p0 p1 p2 p3 h0 n0 _ T137.heap _
            rw [eq137]
            unfold Q0
            refine ⟨rfl, N137⟩
        · have hf2 : u113_first = (2 : Int32) := by rw [hu113_first]; exact own_fst2 (by rw [← hu113_first]; exact hf0) (by rw [← hu113_first]; exact hf1)
          have ff138 := po113_4
          rw [hf2] at ff138
          obtain ⟨x29_353, hx29_353, pre139⟩ : ∃ z : Int32, z = (own_f5_0_2 x21_202 m276_s0 u111_l4 u111_l5 u111_l6 ((0 : Int32)) ((0 : Int32))) ∧ own_Pre p e below (s₁.setTop (entryFrame m #[(.int p0), (.int p1), (.int p2), (.int p3)] maxLocals)) (T113.setTop (mkF m 353 #[.val (.int p0), .val (.int p1), .val (.int p2), .val (.int p3), .val (.int x4_7), .val (.int x5_17), .val (.int x6_26), .val (.int x7_35), .val (.int m49_s0), .val (.int x9_60), .val (.int x10_69), .val (.int x11_78), .val (.int x12_86), .val (.int m97_s0), .val (.int m110_s0), .val (.int m126_s0), .val (.int m148_s0), .val (.int x17_157), .val (.int x18_164), .val (.int x19_171), .val (.int m192_s0), .val (.int x21_202), .val (.int x22_209), .val (.int x23_216), .val (.int m235_s0), .val (.int m257_s0), .val (.int m276_s0), .val (.int m295_s0), .val (.ref b67), .val (.int z), .unset, .unset, .unset] [])) := ⟨_, rfl, fun t k => pre115 t (by
              show Steps p.tables e below (T113.setTop (mkF m 351 #[.val (.int p0), .val (.int p1), .val (.int p2), .val (.int p3), .val (.int x4_7), .val (.int x5_17), .val (.int x6_26), .val (.int x7_35), .val (.int m49_s0), .val (.int x9_60), .val (.int x10_69), .val (.int x11_78), .val (.int x12_86), .val (.int m97_s0), .val (.int m110_s0), .val (.int m126_s0), .val (.int m148_s0), .val (.int x17_157), .val (.int x18_164), .val (.int x19_171), .val (.int m192_s0), .val (.int x21_202), .val (.int x22_209), .val (.int x23_216), .val (.int m235_s0), .val (.int m257_s0), .val (.int m276_s0), .val (.int m295_s0), .val (.ref b67), .unset, .unset, .unset, .unset] [(.int (own_f5_0_2 x21_202 m276_s0 u111_l4 u111_l5 u111_l6 ((0 : Int32)) ((0 : Int32))))])) _
              refine XS.istore X113.here hx rfl (hb hby at_351) rfl (l' := #[.val (.int p0), .val (.int p1), .val (.int p2), .val (.int p3), .val (.int x4_7), .val (.int x5_17), .val (.int x6_26), .val (.int x7_35), .val (.int m49_s0), .val (.int x9_60), .val (.int x10_69), .val (.int x11_78), .val (.int x12_86), .val (.int m97_s0), .val (.int m110_s0), .val (.int m126_s0), .val (.int m148_s0), .val (.int x17_157), .val (.int x18_164), .val (.int x19_171), .val (.int m192_s0), .val (.int x21_202), .val (.int x22_209), .val (.int x23_216), .val (.int m235_s0), .val (.int m257_s0), .val (.int m276_s0), .val (.int m295_s0), .val (.ref b67), .val (.int (own_f5_0_2 x21_202 m276_s0 u111_l4 u111_l5 u111_l6 ((0 : Int32)) ((0 : Int32)))), .unset, .unset, .unset]) rfl ?_
              exact k)⟩
          have f141 := (po111_4.keep K113 (ninS (Ne.symm ne_b67_la68) nin0))
          have f142 := (po111_5.keep K113 (ninS (Ne.symm ne_b67_ea68) nin0))
          have f143 := (po111_6.keep K113 (ninS (Ne.symm ne_b67_ca68) nin0))
          have z144 : n0 ≤ (T113.heap).size := (Nat.le_trans z114 K113.1)
          obtain ⟨cq140, kq140, q140a, q140b, q140c⟩ := isOf hZ rfl po113_0
          obtain ⟨_, _, ⟨T140, L140, k140, n140⟩, -, X140, ⟨Lc140, hQ140, l140, y140, z140⟩, st140⟩ := X113.virtualBack hx (y := (⟨"com/example/trawl/trawl/load/ColumnShifts", "columnInText", "(II)I"⟩ : MethodName)) (z := (⟨"com/example/trawl/trawl/load/ColumnShifts", "columnInText", "(II)I"⟩ : MethodName)) hown (mvT hZ (hw _ (own_w 23 rfl))) (mvT hZ (hw _ (own_w 24 rfl))) (notFace_of_selects (args := #[]) (mvT hZ (hw _ (own_w 26 rfl)))) (mvT hZ (hw _ (own_w 26 rfl))) (mvT hZ (hw _ (own_w 25 rfl))) (by decide) (backOf (W := 0) (rm5_2_2 l Z aw hw [] (b67) (x23_216) (m295_s0) (la68) (ea68) (ca68) (kl68) (ke68) (kc68) (u111_l4) (u111_l5) (u111_l6) (u113_askedLine) (u113_passedChange) (T113.heap) n0 z144 po113_0 po113_1 po113_2 po113_3 f141 f142 f143 po68_4 po68_5 po68_6 ne_b67_la68 ne_b67_ea68 ne_b67_ca68 g_b67 ff138 po113_5 po113_6 po113_7) hZ (hw _ (own_w 27 rfl)) (hw _ (own_w 9 rfl)) (by decide) (by decide)) q140a q140c (g := (mkF m 359 #[.val (.int p0), .val (.int p1), .val (.int p2), .val (.int p3), .val (.int x4_7), .val (.int x5_17), .val (.int x6_26), .val (.int x7_35), .val (.int m49_s0), .val (.int x9_60), .val (.int x10_69), .val (.int x11_78), .val (.int x12_86), .val (.int m97_s0), .val (.int m110_s0), .val (.int m126_s0), .val (.int m148_s0), .val (.int x17_157), .val (.int x18_164), .val (.int x19_171), .val (.int m192_s0), .val (.int x21_202), .val (.int x22_209), .val (.int x23_216), .val (.int m235_s0), .val (.int m257_s0), .val (.int m276_s0), .val (.int m295_s0), .val (.ref b67), .val (.int x29_353), .unset, .unset, .unset] [(.int m295_s0), (.int x23_216), (.ref b67)])) rfl (by rw [hml]; rfl) (Steps.refl _) (argsL := [(.int x23_216), (.int m295_s0)]) (rest := []) (lenOf pd_0 rfl) rfl (by show 2 * 0 + _ ≤ _; exact Nat.le_of_eq rfl) (hb hby at_359) (fun _ _ => ⟨rfl, rfl, (by decide : 4 + 0 ≤ _), (by decide : 21 + 0 ≤ _)⟩)
          dsimp only [Pt.U, Pt.locs, Pt.cells, Pt.slots] at X140 l140 y140 z140 st140 hQ140
          rw [l140, y140, z140] at X140
          obtain ⟨rfl, Nq140, K140, po140_0, po140_1, po140_2, po140_3, po140_4, po140_5, po140_6, po140_7⟩ := hQ140
          have N140 := Fr.app N113 Nq140
          obtain ⟨u140_askedLine, hu140_askedLine⟩ : ∃ z, z = (own_p5_2_2_askedLine x23_216 m295_s0 u113_askedLine) := ⟨_, rfl⟩
          rw [← hu140_askedLine] at po140_6
          obtain ⟨u140_passedChange, hu140_passedChange⟩ : ∃ z, z = (own_p5_2_2_passedChange x23_216 m295_s0 u113_askedLine u113_passedChange) := ⟨_, rfl⟩
          rw [← hu140_passedChange] at po140_7
          obtain ⟨x30_364, hx30_364, pre145⟩ : ∃ z : Int32, z = (own_f5_2_2 x23_216 m295_s0 u113_askedLine u113_passedChange) ∧ own_Pre p e below (s₁.setTop (entryFrame m #[(.int p0), (.int p1), (.int p2), (.int p3)] maxLocals)) (T140.setTop (mkF m 364 #[.val (.int p0), .val (.int p1), .val (.int p2), .val (.int p3), .val (.int x4_7), .val (.int x5_17), .val (.int x6_26), .val (.int x7_35), .val (.int m49_s0), .val (.int x9_60), .val (.int x10_69), .val (.int x11_78), .val (.int x12_86), .val (.int m97_s0), .val (.int m110_s0), .val (.int m126_s0), .val (.int m148_s0), .val (.int x17_157), .val (.int x18_164), .val (.int x19_171), .val (.int m192_s0), .val (.int x21_202), .val (.int x22_209), .val (.int x23_216), .val (.int m235_s0), .val (.int m257_s0), .val (.int m276_s0), .val (.int m295_s0), .val (.ref b67), .val (.int x29_353), .val (.int z), .unset, .unset] [])) := ⟨_, rfl, fun t k => pre139 t (by
              show Steps p.tables e below (T113.setTop (mkF m 353 #[.val (.int p0), .val (.int p1), .val (.int p2), .val (.int p3), .val (.int x4_7), .val (.int x5_17), .val (.int x6_26), .val (.int x7_35), .val (.int m49_s0), .val (.int x9_60), .val (.int x10_69), .val (.int x11_78), .val (.int x12_86), .val (.int m97_s0), .val (.int m110_s0), .val (.int m126_s0), .val (.int m148_s0), .val (.int x17_157), .val (.int x18_164), .val (.int x19_171), .val (.int m192_s0), .val (.int x21_202), .val (.int x22_209), .val (.int x23_216), .val (.int m235_s0), .val (.int m257_s0), .val (.int m276_s0), .val (.int m295_s0), .val (.ref b67), .val (.int x29_353), .unset, .unset, .unset] [])) _
              refine XS.aload X113.here hx rfl (hb hby at_353) rfl rfl ?_
              refine XS.iload X113.here hx rfl (hb hby at_355) rfl ?_
              refine XS.iload X113.here hx rfl (hb hby at_357) rfl ?_
              refine st140.trans ?_
              refine XS.istore X140.here hx rfl (hb hby at_362) rfl (l' := #[.val (.int p0), .val (.int p1), .val (.int p2), .val (.int p3), .val (.int x4_7), .val (.int x5_17), .val (.int x6_26), .val (.int x7_35), .val (.int m49_s0), .val (.int x9_60), .val (.int x10_69), .val (.int x11_78), .val (.int x12_86), .val (.int m97_s0), .val (.int m110_s0), .val (.int m126_s0), .val (.int m148_s0), .val (.int x17_157), .val (.int x18_164), .val (.int x19_171), .val (.int m192_s0), .val (.int x21_202), .val (.int x22_209), .val (.int x23_216), .val (.int m235_s0), .val (.int m257_s0), .val (.int m276_s0), .val (.int m295_s0), .val (.ref b67), .val (.int x29_353), .val (.int (own_f5_2_2 x23_216 m295_s0 u113_askedLine u113_passedChange)), .unset, .unset]) rfl ?_
              exact k)⟩
          have hc366 : ¬ (m97_s0 = (0 : Int32)) := hc308
          have hc379 : ¬ (m110_s0 = (0 : Int32)) := hc326
          have z147 : n0 ≤ (T140.heap).size := (Nat.le_trans z144 K140.1)
          obtain ⟨_, _, ⟨T146, L146, k146, n146⟩, -, X146, ⟨Lc146, hQ146, l146, y146, z146⟩, st146⟩ := Jvm.LawKit.callS X140 hx (y := (⟨"com/example/trawl/trawl/load/ColumnShiftsColumnInTextPinLaw", "expected", "(IIIIIIII)I"⟩ : MethodName)) hown (mvT hZ (hw _ (own_w 36 rfl))) (mvT hZ (hw _ (own_w 37 rfl))) (mvT hZ (hw _ (own_w 38 rfl))) (mvT hZ (hw _ (own_w 39 rfl))) (by decide) (backOf (W := 1) (rm6 l Z aw hw [] (x21_202) (m276_s0) (x4_7) (x19_171) (x17_157) (m126_s0) (m192_s0) (x18_164) (T140.heap) n0 z147) hZ (hw _ (own_w 39 rfl)) (hw _ (own_w 38 rfl)) (by decide) (by decide)) (g := (mkF m 408 #[.val (.int p0), .val (.int p1), .val (.int p2), .val (.int p3), .val (.int x4_7), .val (.int x5_17), .val (.int x6_26), .val (.int x7_35), .val (.int m49_s0), .val (.int x9_60), .val (.int x10_69), .val (.int x11_78), .val (.int x12_86), .val (.int m97_s0), .val (.int m110_s0), .val (.int m126_s0), .val (.int m148_s0), .val (.int x17_157), .val (.int x18_164), .val (.int x19_171), .val (.int m192_s0), .val (.int x21_202), .val (.int x22_209), .val (.int x23_216), .val (.int m235_s0), .val (.int m257_s0), .val (.int m276_s0), .val (.int m295_s0), .val (.ref b67), .val (.int x29_353), .val (.int x30_364), .val (.int x4_7), .val (.int m126_s0)] [(.int x18_164), (.int m192_s0), (.int m126_s0), (.int x17_157), (.int x19_171), (.int x4_7), (.int m276_s0), (.int x21_202), (.int x29_353)])) rfl (by rw [hml]; rfl) (argsL := [(.int x21_202), (.int m276_s0), (.int x4_7), (.int x19_171), (.int x17_157), (.int m126_s0), (.int m192_s0), (.int x18_164)]) (rest := [(.int x29_353)]) (lenOf pd_2 rfl) rfl (by show 2 * 0 + _ ≤ _; exact Nat.le_of_eq rfl) (hb hby at_408) (fun _ _ => ⟨rfl, rfl, (by decide : 4 + 0 ≤ _), (by decide : 21 + 0 ≤ _)⟩)
          dsimp only [Pt.U, Pt.locs, Pt.cells, Pt.slots] at X146 l146 y146 z146 st146 hQ146
          rw [l146, y146, z146] at X146
          obtain ⟨rfl, Nq146, eq146⟩ := hQ146
          have N146 := Fr.app N140 Nq146
          have hc411 : (x29_353 = (own_f6 x21_202 m276_s0 x4_7 x19_171 x17_157 m126_s0 m192_s0 x18_164)) := by have A := own_add0 hu68_l16 hu68_l17 hu68_l18 hu83_l4 hu83_l5 hu83_l6 G7; have a1 := A.1; have a2 := A.2.1.trans hx19_171.symm; have a3 := A.2.2.1.trans hx17_157.symm; have B := own_add1 A.2.2.2.1 A.2.2.2.2.1 A.2.2.2.2.2 hu83_recordedChange G7 hu111_l4 hu111_l5 hu111_l6 G6 hm192_s0 hx17_157; have b1 := B.1.trans a1; have b2 := B.2.1.trans a2; have b3 := B.2.2.1.trans a3; have b4 := B.2.2.2.1; have b5 := B.2.2.2.2.1; have b6 := B.2.2.2.2.2.trans hx18_164.symm; rw [hx29_353]; exact own_two0 _ _ _ _ _ _ _ _ _ _ _ _ b1 b2 b3 b4 b5 b6 G2 G3
          obtain ⟨_, _, ⟨T148, L148, k148, n148⟩, -, X148, ⟨Lc148, hQ148, l148, y148, z148⟩, st148⟩ := Jvm.LawKit.callS X146 hx (y := (⟨"com/example/trawl/trawl/load/ColumnShiftsColumnInTextPinLaw", "expected", "(IIIIIIII)I"⟩ : MethodName)) hown (mvT hZ (hw _ (own_w 36 rfl))) (mvT hZ (hw _ (own_w 37 rfl))) (mvT hZ (hw _ (own_w 38 rfl))) (mvT hZ (hw _ (own_w 39 rfl))) (by decide) (backOf (W := 1) (rm6 l Z aw hw [] (x23_216) (m295_s0) (x4_7) (x19_171) (x17_157) (m126_s0) (m192_s0) (x18_164) (T140.heap) n0 z147) hZ (hw _ (own_w 39 rfl)) (hw _ (own_w 38 rfl)) (by decide) (by decide)) (g := (mkF m 432 #[.val (.int p0), .val (.int p1), .val (.int p2), .val (.int p3), .val (.int x4_7), .val (.int x5_17), .val (.int x6_26), .val (.int x7_35), .val (.int m49_s0), .val (.int x9_60), .val (.int x10_69), .val (.int x11_78), .val (.int x12_86), .val (.int m97_s0), .val (.int m110_s0), .val (.int m126_s0), .val (.int m148_s0), .val (.int x17_157), .val (.int x18_164), .val (.int x19_171), .val (.int m192_s0), .val (.int x21_202), .val (.int x22_209), .val (.int x23_216), .val (.int m235_s0), .val (.int m257_s0), .val (.int m276_s0), .val (.int m295_s0), .val (.ref b67), .val (.int x29_353), .val (.int x30_364), .val (.int x4_7), .val (.int m126_s0)] [(.int x18_164), (.int m192_s0), (.int m126_s0), (.int x17_157), (.int x19_171), (.int x4_7), (.int m295_s0), (.int x23_216), (.int x30_364)])) rfl (by rw [hml]; rfl) (argsL := [(.int x23_216), (.int m295_s0), (.int x4_7), (.int x19_171), (.int x17_157), (.int m126_s0), (.int m192_s0), (.int x18_164)]) (rest := [(.int x30_364)]) (lenOf pd_2 rfl) rfl (by show 2 * 0 + _ ≤ _; exact Nat.le_of_eq rfl) (hb hby at_432) (fun _ _ => ⟨rfl, eq146, (by decide : 4 + 0 ≤ _), (by decide : 21 + 0 ≤ _)⟩)
          dsimp only [Pt.U, Pt.locs, Pt.cells, Pt.slots] at X148 l148 y148 z148 st148 hQ148
          rw [l148, y148, z148] at X148
          obtain ⟨rfl, Nq148, eq148⟩ := hQ148
          have N148 := Fr.app N146 Nq148
          have hc435 : (x30_364 = (own_f6 x23_216 m295_s0 x4_7 x19_171 x17_157 m126_s0 m192_s0 x18_164)) := by have A := own_add0 hu68_l16 hu68_l17 hu68_l18 hu83_l4 hu83_l5 hu83_l6 G7; have a1 := A.1; have a2 := A.2.1.trans hx19_171.symm; have a3 := A.2.2.1.trans hx17_157.symm; have B := own_add1 A.2.2.2.1 A.2.2.2.2.1 A.2.2.2.2.2 hu83_recordedChange G7 hu111_l4 hu111_l5 hu111_l6 G6 hm192_s0 hx17_157; have b1 := B.1.trans a1; have b2 := B.2.1.trans a2; have b3 := B.2.2.1.trans a3; have b4 := B.2.2.2.1; have b5 := B.2.2.2.2.1; have b6 := B.2.2.2.2.2.trans hx18_164.symm; rw [hx30_364]; exact own_two2 b1 b2 b3 b4 b5 b6 G2 G4 G5 hu113_askedLine hu113_passedChange (hu113_first.symm.trans hf2)
          obtain ⟨fs, hr, hrun, hended, hW, hsame⟩ := X148.leave (v := some (.int (1 : Int32))) (fun h => by rw [Bd.returns] at h; cases h)
          refine ⟨_, _, pre145 _ ?_, hrun, hended, _, _, rfl, ?_, ⟨_, rfl⟩, hW, hsame.mono (by decide) (by decide)⟩
          · show Steps p.tables e below (T140.setTop (mkF m 364 #[.val (.int p0), .val (.int p1), .val (.int p2), .val (.int p3), .val (.int x4_7), .val (.int x5_17), .val (.int x6_26), .val (.int x7_35), .val (.int m49_s0), .val (.int x9_60), .val (.int x10_69), .val (.int x11_78), .val (.int x12_86), .val (.int m97_s0), .val (.int m110_s0), .val (.int m126_s0), .val (.int m148_s0), .val (.int x17_157), .val (.int x18_164), .val (.int x19_171), .val (.int m192_s0), .val (.int x21_202), .val (.int x22_209), .val (.int x23_216), .val (.int m235_s0), .val (.int m257_s0), .val (.int m276_s0), .val (.int m295_s0), .val (.ref b67), .val (.int x29_353), .val (.int x30_364), .unset, .unset] [])) _
            refine XS.iload X140.here hx rfl (hb hby at_364) rfl ?_
            refine XS.ifNo X140.here hx rfl (hb hby at_366) rfl ((if0 _ _).trans (feq hc366).1) ?_
            refine XS.iload X140.here hx rfl (hb hby at_369) rfl ?_
            refine XS.goto X140.here hx rfl (pc0 := 371) (pc' := 375) rfl (hb hby at_371) (by decide) (by decide) ?_
            refine XS.istore X140.here hx rfl (hb hby at_375) rfl (l' := #[.val (.int p0), .val (.int p1), .val (.int p2), .val (.int p3), .val (.int x4_7), .val (.int x5_17), .val (.int x6_26), .val (.int x7_35), .val (.int m49_s0), .val (.int x9_60), .val (.int x10_69), .val (.int x11_78), .val (.int x12_86), .val (.int m97_s0), .val (.int m110_s0), .val (.int m126_s0), .val (.int m148_s0), .val (.int x17_157), .val (.int x18_164), .val (.int x19_171), .val (.int m192_s0), .val (.int x21_202), .val (.int x22_209), .val (.int x23_216), .val (.int m235_s0), .val (.int m257_s0), .val (.int m276_s0), .val (.int m295_s0), .val (.ref b67), .val (.int x29_353), .val (.int x30_364), .val (.int x4_7), .unset]) rfl ?_
            show Steps p.tables e below (T140.setTop (mkF m 377 #[.val (.int p0), .val (.int p1), .val (.int p2), .val (.int p3), .val (.int x4_7), .val (.int x5_17), .val (.int x6_26), .val (.int x7_35), .val (.int m49_s0), .val (.int x9_60), .val (.int x10_69), .val (.int x11_78), .val (.int x12_86), .val (.int m97_s0), .val (.int m110_s0), .val (.int m126_s0), .val (.int m148_s0), .val (.int x17_157), .val (.int x18_164), .val (.int x19_171), .val (.int m192_s0), .val (.int x21_202), .val (.int x22_209), .val (.int x23_216), .val (.int m235_s0), .val (.int m257_s0), .val (.int m276_s0), .val (.int m295_s0), .val (.ref b67), .val (.int x29_353), .val (.int x30_364), .val (.int x4_7), .unset] [])) _
            refine XS.iload X140.here hx rfl (hb hby at_377) rfl ?_
            refine XS.ifNo X140.here hx rfl (hb hby at_379) rfl ((if0 _ _).trans (feq hc379).1) ?_
            refine XS.iload X140.here hx rfl (hb hby at_382) rfl ?_
            refine XS.goto X140.here hx rfl (pc0 := 384) (pc' := 388) rfl (hb hby at_384) (by decide) (by decide) ?_
            refine XS.istore X140.here hx rfl (hb hby at_388) rfl (l' := #[.val (.int p0), .val (.int p1), .val (.int p2), .val (.int p3), .val (.int x4_7), .val (.int x5_17), .val (.int x6_26), .val (.int x7_35), .val (.int m49_s0), .val (.int x9_60), .val (.int x10_69), .val (.int x11_78), .val (.int x12_86), .val (.int m97_s0), .val (.int m110_s0), .val (.int m126_s0), .val (.int m148_s0), .val (.int x17_157), .val (.int x18_164), .val (.int x19_171), .val (.int m192_s0), .val (.int x21_202), .val (.int x22_209), .val (.int x23_216), .val (.int m235_s0), .val (.int m257_s0), .val (.int m276_s0), .val (.int m295_s0), .val (.ref b67), .val (.int x29_353), .val (.int x30_364), .val (.int x4_7), .val (.int m126_s0)]) rfl ?_
            show Steps p.tables e below (T140.setTop (mkF m 390 #[.val (.int p0), .val (.int p1), .val (.int p2), .val (.int p3), .val (.int x4_7), .val (.int x5_17), .val (.int x6_26), .val (.int x7_35), .val (.int m49_s0), .val (.int x9_60), .val (.int x10_69), .val (.int x11_78), .val (.int x12_86), .val (.int m97_s0), .val (.int m110_s0), .val (.int m126_s0), .val (.int m148_s0), .val (.int x17_157), .val (.int x18_164), .val (.int x19_171), .val (.int m192_s0), .val (.int x21_202), .val (.int x22_209), .val (.int x23_216), .val (.int m235_s0), .val (.int m257_s0), .val (.int m276_s0), .val (.int m295_s0), .val (.ref b67), .val (.int x29_353), .val (.int x30_364), .val (.int x4_7), .val (.int m126_s0)] [])) _
            refine XS.iload X140.here hx rfl (hb hby at_390) rfl ?_
            refine XS.iload X140.here hx rfl (hb hby at_392) rfl ?_
            refine XS.iload X140.here hx rfl (hb hby at_394) rfl ?_
            refine XS.iload X140.here hx rfl (hb hby at_396) rfl ?_
            refine XS.iload X140.here hx rfl (hb hby at_398) rfl ?_
            show Steps p.tables e below (T140.setTop (mkF m 400 #[.val (.int p0), .val (.int p1), .val (.int p2), .val (.int p3), .val (.int x4_7), .val (.int x5_17), .val (.int x6_26), .val (.int x7_35), .val (.int m49_s0), .val (.int x9_60), .val (.int x10_69), .val (.int x11_78), .val (.int x12_86), .val (.int m97_s0), .val (.int m110_s0), .val (.int m126_s0), .val (.int m148_s0), .val (.int x17_157), .val (.int x18_164), .val (.int x19_171), .val (.int m192_s0), .val (.int x21_202), .val (.int x22_209), .val (.int x23_216), .val (.int m235_s0), .val (.int m257_s0), .val (.int m276_s0), .val (.int m295_s0), .val (.ref b67), .val (.int x29_353), .val (.int x30_364), .val (.int x4_7), .val (.int m126_s0)] [(.int x19_171), (.int x4_7), (.int m276_s0), (.int x21_202), (.int x29_353)])) _
            refine XS.iload X140.here hx rfl (hb hby at_400) rfl ?_
            refine XS.iload X140.here hx rfl (hb hby at_402) rfl ?_
            refine XS.iload X140.here hx rfl (hb hby at_404) rfl ?_
            refine XS.iload X140.here hx rfl (hb hby at_406) rfl ?_
            refine st146 _ ?_
            show Steps p.tables e below (T146.setTop (mkF m 411 #[.val (.int p0), .val (.int p1), .val (.int p2), .val (.int p3), .val (.int x4_7), .val (.int x5_17), .val (.int x6_26), .val (.int x7_35), .val (.int m49_s0), .val (.int x9_60), .val (.int x10_69), .val (.int x11_78), .val (.int x12_86), .val (.int m97_s0), .val (.int m110_s0), .val (.int m126_s0), .val (.int m148_s0), .val (.int x17_157), .val (.int x18_164), .val (.int x19_171), .val (.int m192_s0), .val (.int x21_202), .val (.int x22_209), .val (.int x23_216), .val (.int m235_s0), .val (.int m257_s0), .val (.int m276_s0), .val (.int m295_s0), .val (.ref b67), .val (.int x29_353), .val (.int x30_364), .val (.int x4_7), .val (.int m126_s0)] [(.int (own_f6 x21_202 m276_s0 x4_7 x19_171 x17_157 m126_s0 m192_s0 x18_164)), (.int x29_353)])) _
            refine XS.icmpNo X146.here hx rfl (hb hby at_411) rfl (teq hc411).2 ?_
            refine XS.iload X146.here hx rfl (hb hby at_414) rfl ?_
            refine XS.iload X146.here hx rfl (hb hby at_416) rfl ?_
            refine XS.iload X146.here hx rfl (hb hby at_418) rfl ?_
            refine XS.iload X146.here hx rfl (hb hby at_420) rfl ?_
            show Steps p.tables e below (T146.setTop (mkF m 422 #[.val (.int p0), .val (.int p1), .val (.int p2), .val (.int p3), .val (.int x4_7), .val (.int x5_17), .val (.int x6_26), .val (.int x7_35), .val (.int m49_s0), .val (.int x9_60), .val (.int x10_69), .val (.int x11_78), .val (.int x12_86), .val (.int m97_s0), .val (.int m110_s0), .val (.int m126_s0), .val (.int m148_s0), .val (.int x17_157), .val (.int x18_164), .val (.int x19_171), .val (.int m192_s0), .val (.int x21_202), .val (.int x22_209), .val (.int x23_216), .val (.int m235_s0), .val (.int m257_s0), .val (.int m276_s0), .val (.int m295_s0), .val (.ref b67), .val (.int x29_353), .val (.int x30_364), .val (.int x4_7), .val (.int m126_s0)] [(.int x4_7), (.int m295_s0), (.int x23_216), (.int x30_364)])) _
            refine XS.iload X146.here hx rfl (hb hby at_422) rfl ?_
            refine XS.iload X146.here hx rfl (hb hby at_424) rfl ?_
            refine XS.iload X146.here hx rfl (hb hby at_426) rfl ?_
            refine XS.iload X146.here hx rfl (hb hby at_428) rfl ?_
            refine XS.iload X146.here hx rfl (hb hby at_430) rfl ?_
            show Steps p.tables e below (T146.setTop (mkF m 432 #[.val (.int p0), .val (.int p1), .val (.int p2), .val (.int p3), .val (.int x4_7), .val (.int x5_17), .val (.int x6_26), .val (.int x7_35), .val (.int m49_s0), .val (.int x9_60), .val (.int x10_69), .val (.int x11_78), .val (.int x12_86), .val (.int m97_s0), .val (.int m110_s0), .val (.int m126_s0), .val (.int m148_s0), .val (.int x17_157), .val (.int x18_164), .val (.int x19_171), .val (.int m192_s0), .val (.int x21_202), .val (.int x22_209), .val (.int x23_216), .val (.int m235_s0), .val (.int m257_s0), .val (.int m276_s0), .val (.int m295_s0), .val (.ref b67), .val (.int x29_353), .val (.int x30_364), .val (.int x4_7), .val (.int m126_s0)] [(.int x18_164), (.int m192_s0), (.int m126_s0), (.int x17_157), (.int x19_171), (.int x4_7), (.int m295_s0), (.int x23_216), (.int x30_364)])) _
            refine st148 _ ?_
            refine XS.icmpNo X148.here hx rfl (hb hby at_435) rfl (teq hc435).2 ?_
            refine XS.iconst X148.here hx rfl (hb hby at_438) ?_
            refine XS.goto X148.here hx rfl (pc0 := 439) (pc' := 443) rfl (hb hby at_439) (by decide) (by decide) ?_
            show Steps p.tables e below (T148.setTop (mkF m 443 #[.val (.int p0), .val (.int p1), .val (.int p2), .val (.int p3), .val (.int x4_7), .val (.int x5_17), .val (.int x6_26), .val (.int x7_35), .val (.int m49_s0), .val (.int x9_60), .val (.int x10_69), .val (.int x11_78), .val (.int x12_86), .val (.int m97_s0), .val (.int m110_s0), .val (.int m126_s0), .val (.int m148_s0), .val (.int x17_157), .val (.int x18_164), .val (.int x19_171), .val (.int m192_s0), .val (.int x21_202), .val (.int x22_209), .val (.int x23_216), .val (.int m235_s0), .val (.int m257_s0), .val (.int m276_s0), .val (.int m295_s0), .val (.ref b67), .val (.int x29_353), .val (.int x30_364), .val (.int x4_7), .val (.int m126_s0)] [(.int (1 : Int32))])) _
            exact retN X148 hx (t := .boolean) Bd.returns (by simp) (hb hby at_443) hr
          · show Q0 Z p0 p1 p2 p3 h0 n0 _ T148.heap _
            rw [eq148]
            unfold Q0
            refine ⟨rfl, N148⟩
set_option maxRecDepth 65536 in
set_option maxHeartbeats 40000000 in
theorem comes_1 {Post : Tables → Env → Array Value → State → Outcome → State → Prop} (hpost : ∀ tb e args s v u, (limb_1_1.after args s (.returned v) u = true ∧ limb_1_2.after args s (.returned v) u = true ∧ True) → FrameEnd s (.returned v) u (Jvm.fieldLocs frame_1_writes args s ++ Jvm.arrayLocs frame_1_arrays args s ++ Jvm.staticLocs frame_1_statics s) 16 128 → Post tb e args s (.returned v) u) :
    ArmFor flags0 classFile x code maxLocals ret World_1 tables_1 room_1 Calls_1 rest_1 Pre_1 Post := by
  intro l hfl _ _ p e ha hc hk s m args below hf hA hF happ hP
  obtain ⟨hcalls, hrest, hpre⟩ := hP
  obtain ⟨-, -, -, hnamed, -, -, -, hat⟩ := (Spec.applies_iff hf).mp happ
  obtain ⟨hg, hn⟩ := and_e (Cond.before_iff.mp (show (Jvm.Cond.and given_1 narrow_1).before args s = true from hpre))
  obtain ⟨gv1, gv2⟩ := and_e hg
  obtain ⟨gv3, gv4⟩ := and_e gv2
  obtain ⟨gv5, gv6⟩ := and_e gv4
  obtain ⟨gv7, gv8⟩ := and_e gv6
  obtain ⟨w0, w1, w2, w3, rfl⟩ : ∃ w0 w1 w2 w3 : Value, args = #[w0, w1, w2, w3] := by
    have hs : args.size = 4 := by simpa [Cond.value, given_1] using gv1
    obtain ⟨L⟩ := args
    match L, hs with
    | [w0, w1, w2, w3], _ => exact ⟨w0, w1, w2, w3, rfl⟩
  have hw := fun d (hd : d ∈ tables_1) => atoms_spec (ws := Jvm.Cond.code x code maxLocals ret :: tables_1) hat d (List.mem_cons_of_mem _ hd)
  obtain ⟨i0, ei0⟩ := is_v gv3
  obtain rfl : w0 = (.int i0) := Option.some.inj ei0
  obtain ⟨i1, ei1⟩ := is_v gv5
  obtain rfl : w1 = (.int i1) := Option.some.inj ei1
  obtain ⟨i2, ei2⟩ := is_v gv7
  obtain rfl : w2 = (.int i2) := Option.some.inj ei2
  obtain ⟨i3, ei3⟩ := is_v gv8
  obtain rfl : w3 = (.int i3) := Option.some.inj ei3
  obtain ⟨n, o, h1, h2, h3, _, L, rfl, ⟨rfl, N⟩, hq⟩ := rm0 l s _ hw tables_1 i0 i1 i2 i3 s.heap s.heap.size (Nat.le_refl _) p e ha hc hk s m _ below hf ((Spec.applies_iff_loose hf).mp happ).1 ⟨rfl, State.Warmed39.refl s, rfl⟩ trivial
  refine ⟨n, _, h1, h2, h3, hpost _ _ _ _ _ _ ⟨Cond.after_iff.mpr rfl, Cond.after_iff.mpr (eq_i res_at (Term.int_eval (1)) rfl), trivial⟩ ⟨hq.1, hq.2.1, (hq.2.2.sift fun y hy => Or.inr (N y hy)).mono (by decide) (by decide)⟩⟩
theorem main_1_1 : Claimed_1_1 := comes_1 fun _ _ _ _ _ _ h hF => ⟨h.1, hF⟩
theorem main_1_2 : Claimed_1_2 := comes_1 fun _ _ _ _ _ _ h hF => ⟨h.2.1, hF⟩
end Jvm.Pilot.@@N@@
namespace Jvm.Pilot.@@N@@
open Jvm Jvm.ClassFile Sem Op Lib Jvm.Free Jvm.Stand Jvm.Pilot.@@N@@.Jvm.D
/-! MADE BY PROGRAM (witnessworld.py) out of the Statement's table words and the real class files: 10 classes; the members and pool entries that the words name. The judged class is class 1, her method 2. -/
namespace start1
open Jvm.ClassFile
def u (s : String) : CpInfo := .utf8 (stringToUtf16 s)
/-- a pool by its gaps: so many unusable entries, then the entry; so many at the end -/
def gap : Nat → List CpInfo → List CpInfo
  | 0, r => r
  | n + 1, r => .unusable :: gap n r
def poolList (es : List (Nat × CpInfo)) (last : Nat) : List CpInfo := es.foldr (fun e r => gap e.1 (e.2 :: r)) (gap last [])
def pool (es : List (Nat × CpInfo)) (last : Nat) : Array CpInfo := ⟨poolList es last⟩
def fileOf (pool : Array CpInfo) (this : Nat) (attrs : Array Attribute := #[]) (ms : Array MethodInfo := #[]) (fl : Nat := 33) (sup : Nat := 0) (ifs : Array Nat := #[]) (fds : Array FieldInfo := #[]) : ClassFile where
  minorVersion := 0
  majorVersion := 65
  constantPool := pool
  accessFlags := fl
  thisClass := this
  superClass := sup
  interfaces := ifs
  fields := fds
  methods := ms
  attributes := attrs
def plain (name : String) (sup : Option ClassId) : Class where
  name := name
  kind := .ordinary
  loader := none
  accessFlags := 33
  super := sup
  interfaces := #[]
  cf := none
  fields := #[]
  methods := #[]
  instanceTypes := #[]
  staticTypes := #[]
  resolved := #[]
  callSites := []
  init := .initialized
  statics := none
  mirror := none

def pool0 : Array CpInfo := pool [(5, u "<init>"), (0, u "()V"), (1, .class_ 10), (1, u "java/lang/Object")] 113

def k0c0 : Code := { maxStack := 0, maxLocals := 1, code := object_method_1_code, exceptionTable := #[], attributes := #[] }
def k0m0 : Method := { name := "<init>", desc := "()V", sig := { parameters := [], returnType := none }, accessFlags := 1, code := some k0c0 }
/-- java/lang/Object -/
def k0 : Class := { plain "java/lang/Object" none with
  accessFlags := 33
  interfaces := #[]
  cf := some (fileOf pool0 8 #[] #[{ accessFlags := 1, nameIndex := 5, descriptorIndex := 6, attributes := #[] }] 33 0 #[] #[])
  fields := #[]
  methods := #[k0m0]
  instanceTypes := #[]
  staticTypes := #[]
  resolved := Array.replicate 124 none
  statics := none }

def pool1 : Array CpInfo := pool [(2, .class_ 4), (0, .nameAndType 5 6), (0, u "java/lang/Object"), (0, u "<init>"), (0, u "()V"), (0, .methodref 8 9), (0, .class_ 10), (0, .nameAndType 11 12), (0, u "java/lang/Math"), (0, u "min"), (0, u "(II)I"), (0, .methodref 8 14), (0, .nameAndType 15 12), (0, u "max"), (0, .class_ 17), (0, u "com/example/trawl/trawl/load/ColumnShifts"), (0, .methodref 16 3), (0, .methodref 16 20), (0, .nameAndType 21 22), (0, u "add"), (0, u "(IIII)V"), (0, .methodref 16 24), (0, .nameAndType 25 12), (0, u "columnInText"), (0, .methodref 27 28), (0, .class_ 29), (0, .nameAndType 30 31), (0, u "com/example/trawl/trawl/load/ColumnShiftsColumnInTextPinLaw"), (0, u "expected"), (0, u "(IIIIIIII)I"), (3, u "law"), (0, u "(IIII)Z")] 2

def k1m0 : Method := { name := "<init>", desc := "()V", sig := { parameters := [], returnType := none }, accessFlags := 1, code := none }
def k1c1 : Code := { maxStack := 2, maxLocals := 9, code := method_2_code, exceptionTable := #[], attributes := #[] }
def k1m1 : Method := { name := "expected", desc := "(IIIIIIII)I", sig := { parameters := [.int, .int, .int, .int, .int, .int, .int, .int], returnType := some .int }, accessFlags := 10, code := some k1c1 }
def k1c2 : Code := { maxStack := 9, maxLocals := 33, code := code, exceptionTable := #[], attributes := #[] }
def k1m2 : Method := { name := "law", desc := "(IIII)Z", sig := { parameters := [.int, .int, .int, .int], returnType := some .boolean }, accessFlags := 9, code := some k1c2 }
/-- com/example/trawl/trawl/load/ColumnShiftsColumnInTextPinLaw -/
def k1 : Class := { plain "com/example/trawl/trawl/load/ColumnShiftsColumnInTextPinLaw" (some 0) with
  accessFlags := 49
  interfaces := #[]
  cf := some (fileOf pool1 27 #[] #[{ accessFlags := 1, nameIndex := 5, descriptorIndex := 6, attributes := #[] }, { accessFlags := 10, nameIndex := 30, descriptorIndex := 31, attributes := #[] }, { accessFlags := 9, nameIndex := 35, descriptorIndex := 36, attributes := #[] }] 49 2 #[] #[])
  fields := #[]
  methods := #[k1m0, k1m1, k1m2]
  instanceTypes := #[]
  staticTypes := #[]
  resolved := Array.replicate 39 none
  statics := none }

def pool2 : Array CpInfo := pool [(1, .class_ 2), (0, u "java/lang/Math"), (1, .class_ 6), (1, u "java/lang/Object"), (0, u "<init>"), (0, u "()V"), (89, .class_ 100), (1, u "java/lang/Math$RandomNumberGeneratorHolder"), (71, u "negativeZeroFloatBits"), (0, u "J"), (2, u "negativeZeroDoubleBits"), (21, u "max"), (2, u "min"), (43, u "$assertionsDisabled"), (0, u "Z"), (88, u "(II)I"), (2, u "twoToTheDoubleScaleDown"), (0, u "D"), (4, u "twoToTheDoubleScaleUp"), (9, u "E"), (3, u "PI"), (2, u "TAU"), (2, u "DEGREES_TO_RADIANS"), (0, u "RADIANS_TO_DEGREES")] 94

def k2m0 : Method := { name := "<init>", desc := "()V", sig := { parameters := [], returnType := none }, accessFlags := 2, code := none }
def k2c1 : Code := { maxStack := 2, maxLocals := 2, code := jdk_29_method_65_code, exceptionTable := #[], attributes := #[] }
def k2m1 : Method := { name := "max", desc := "(II)I", sig := { parameters := [.int, .int], returnType := some .int }, accessFlags := 9, code := some k2c1 }
def k2c2 : Code := { maxStack := 2, maxLocals := 2, code := jdk_29_method_69_code, exceptionTable := #[], attributes := #[] }
def k2m2 : Method := { name := "min", desc := "(II)I", sig := { parameters := [.int, .int], returnType := some .int }, accessFlags := 9, code := some k2c2 }
/-- java/lang/Math -/
def k2 : Class := { plain "java/lang/Math" (some 0) with
  accessFlags := 49
  interfaces := #[]
  cf := some (fileOf pool2 1 #[.nestMembers #[98]] #[{ accessFlags := 2, nameIndex := 7, descriptorIndex := 8, attributes := #[] }, { accessFlags := 9, nameIndex := 198, descriptorIndex := 335, attributes := #[] }, { accessFlags := 9, nameIndex := 201, descriptorIndex := 335, attributes := #[] }] 49 4 #[] #[{ accessFlags := 25, nameIndex := 354, descriptorIndex := 339, attributes := #[] }, { accessFlags := 25, nameIndex := 358, descriptorIndex := 339, attributes := #[] }, { accessFlags := 25, nameIndex := 361, descriptorIndex := 339, attributes := #[] }, { accessFlags := 26, nameIndex := 364, descriptorIndex := 339, attributes := #[] }, { accessFlags := 26, nameIndex := 365, descriptorIndex := 339, attributes := #[] }, { accessFlags := 26, nameIndex := 172, descriptorIndex := 173, attributes := #[] }, { accessFlags := 26, nameIndex := 176, descriptorIndex := 173, attributes := #[] }, { accessFlags := 8, nameIndex := 344, descriptorIndex := 339, attributes := #[] }, { accessFlags := 8, nameIndex := 338, descriptorIndex := 339, attributes := #[] }, { accessFlags := 4120, nameIndex := 245, descriptorIndex := 246, attributes := #[] }])
  fields := #[{ name := "E", type := .double, accessFlags := 25, slot := 0, constantValue := 0 }, { name := "PI", type := .double, accessFlags := 25, slot := 1, constantValue := 0 }, { name := "TAU", type := .double, accessFlags := 25, slot := 2, constantValue := 0 }, { name := "DEGREES_TO_RADIANS", type := .double, accessFlags := 26, slot := 3, constantValue := 0 }, { name := "RADIANS_TO_DEGREES", type := .double, accessFlags := 26, slot := 4, constantValue := 0 }, { name := "negativeZeroFloatBits", type := .long, accessFlags := 26, slot := 5, constantValue := 0 }, { name := "negativeZeroDoubleBits", type := .long, accessFlags := 26, slot := 6, constantValue := 0 }, { name := "twoToTheDoubleScaleUp", type := .double, accessFlags := 8, slot := 7, constantValue := 0 }, { name := "twoToTheDoubleScaleDown", type := .double, accessFlags := 8, slot := 8, constantValue := 0 }, { name := "$assertionsDisabled", type := .boolean, accessFlags := 4120, slot := 9, constantValue := 0 }]
  methods := #[k2m0, k2m1, k2m2]
  instanceTypes := #[]
  staticTypes := #[.double, .double, .double, .double, .double, .long, .long, .double, .double, .boolean]
  resolved := Array.replicate 460 none
  statics := none }

def pool3 : Array CpInfo := pool [(1, .methodref 2 3), (0, .class_ 4), (0, .nameAndType 5 6), (0, u "java/lang/Object"), (0, u "<init>"), (0, u "()V"), (0, .fieldref 8 9), (0, .class_ 10), (0, .nameAndType 11 12), (0, u "com/example/trawl/trawl/load/ColumnShifts"), (0, u "lines"), (0, u "[I"), (0, .fieldref 8 14), (0, .nameAndType 15 12), (0, u "ends"), (0, .fieldref 8 17), (0, .nameAndType 18 12), (0, u "changes"), (0, .fieldref 8 20), (0, .nameAndType 21 22), (0, u "recordedLine"), (0, u "I"), (0, .fieldref 8 24), (0, .nameAndType 25 22), (0, u "recordedChange"), (0, .fieldref 8 27), (0, .nameAndType 28 22), (0, u "end"), (3, .fieldref 8 33), (0, .nameAndType 34 22), (0, u "askedLine"), (0, .fieldref 8 36), (0, .nameAndType 37 22), (0, u "passedChange"), (0, .fieldref 8 39), (0, .nameAndType 40 22), (0, u "first"), (14, u "add"), (0, u "(IIII)V"), (1, u "columnInText"), (0, u "(II)I")] 2

def k3c0 : Code := { maxStack := 2, maxLocals := 1, code := prog_28_method_1_code, exceptionTable := #[], attributes := #[] }
def k3m0 : Method := { name := "<init>", desc := "()V", sig := { parameters := [], returnType := none }, accessFlags := 0, code := some k3c0 }
def k3c1 : Code := { maxStack := 4, maxLocals := 5, code := prog_28_method_2_code, exceptionTable := #[], attributes := #[] }
def k3m1 : Method := { name := "add", desc := "(IIII)V", sig := { parameters := [.int, .int, .int, .int], returnType := none }, accessFlags := 0, code := some k3c1 }
def k3c2 : Code := { maxStack := 4, maxLocals := 3, code := prog_28_method_3_code, exceptionTable := #[], attributes := #[] }
def k3m2 : Method := { name := "columnInText", desc := "(II)I", sig := { parameters := [.int, .int], returnType := some .int }, accessFlags := 0, code := some k3c2 }
/-- com/example/trawl/trawl/load/ColumnShifts -/
def k3 : Class := { plain "com/example/trawl/trawl/load/ColumnShifts" (some 0) with
  accessFlags := 48
  interfaces := #[]
  cf := some (fileOf pool3 8 #[] #[{ accessFlags := 0, nameIndex := 5, descriptorIndex := 6, attributes := #[] }, { accessFlags := 0, nameIndex := 55, descriptorIndex := 56, attributes := #[] }, { accessFlags := 0, nameIndex := 58, descriptorIndex := 59, attributes := #[] }] 48 2 #[] #[{ accessFlags := 2, nameIndex := 11, descriptorIndex := 12, attributes := #[] }, { accessFlags := 2, nameIndex := 15, descriptorIndex := 12, attributes := #[] }, { accessFlags := 2, nameIndex := 18, descriptorIndex := 12, attributes := #[] }, { accessFlags := 2, nameIndex := 40, descriptorIndex := 22, attributes := #[] }, { accessFlags := 2, nameIndex := 28, descriptorIndex := 22, attributes := #[] }, { accessFlags := 2, nameIndex := 21, descriptorIndex := 22, attributes := #[] }, { accessFlags := 2, nameIndex := 25, descriptorIndex := 22, attributes := #[] }, { accessFlags := 2, nameIndex := 34, descriptorIndex := 22, attributes := #[] }, { accessFlags := 2, nameIndex := 37, descriptorIndex := 22, attributes := #[] }])
  fields := #[{ name := "lines", type := (.array .int), accessFlags := 2, slot := 0, constantValue := 0 }, { name := "ends", type := (.array .int), accessFlags := 2, slot := 1, constantValue := 0 }, { name := "changes", type := (.array .int), accessFlags := 2, slot := 2, constantValue := 0 }, { name := "first", type := .int, accessFlags := 2, slot := 3, constantValue := 0 }, { name := "end", type := .int, accessFlags := 2, slot := 4, constantValue := 0 }, { name := "recordedLine", type := .int, accessFlags := 2, slot := 5, constantValue := 0 }, { name := "recordedChange", type := .int, accessFlags := 2, slot := 6, constantValue := 0 }, { name := "askedLine", type := .int, accessFlags := 2, slot := 7, constantValue := 0 }, { name := "passedChange", type := .int, accessFlags := 2, slot := 8, constantValue := 0 }]
  methods := #[k3m0, k3m1, k3m2]
  instanceTypes := #[(.array .int), (.array .int), (.array .int), .int, .int, .int, .int, .int, .int]
  staticTypes := #[]
  resolved := Array.replicate 62 none
  statics := none }

def pool4 : Array CpInfo := pool [(1, u "java/lang/Cloneable"), (0, .class_ 1), (0, u "java/lang/Object"), (0, .class_ 3)] 3

/-- java/lang/Cloneable -/
def k4 : Class := { plain "java/lang/Cloneable" (some 0) with
  accessFlags := 1537
  interfaces := #[]
  cf := some (fileOf pool4 2 #[] #[] 1537 4 #[] #[])
  fields := #[]
  methods := #[]
  instanceTypes := #[]
  staticTypes := #[]
  resolved := Array.replicate 8 none
  statics := none }

def pool5 : Array CpInfo := pool [(1, u "java/io/Serializable"), (0, .class_ 1), (0, u "java/lang/Object"), (0, .class_ 3)] 3

/-- java/io/Serializable -/
def k5 : Class := { plain "java/io/Serializable" (some 0) with
  accessFlags := 1537
  interfaces := #[]
  cf := some (fileOf pool5 2 #[] #[] 1537 4 #[] #[])
  fields := #[]
  methods := #[]
  instanceTypes := #[]
  staticTypes := #[]
  resolved := Array.replicate 8 none
  statics := none }

/-- the primitive byte -/
def k6 : Class := { plain "byte" none with kind := .primitive 'B', accessFlags := 0x411 }
/-- [B -/
def k7 : Class := { plain "[B" (some 0) with kind := .array 6 .byte, interfaces := #[4, 5], accessFlags := 1041 }

/-- the primitive int -/
def k8 : Class := { plain "int" none with kind := .primitive 'I', accessFlags := 0x411 }
/-- [I -/
def k9 : Class := { plain "[I" (some 0) with kind := .array 8 .int, interfaces := #[4, 5], accessFlags := 1041 }

def heap : Heap := #[]
def classes : Array Class := #[k0, k1, k2, k3, k4, k5, k6, k7, k8, k9]
def interned : List (Array UInt16 × Addr) := []
def slotsUsed : Nat := 0
def theMethod : MethodId := ⟨1, 2⟩
def args0 : Array Value := #[.int 5, .int 6, .int 7, .int 8]
def aboutOver (below : List Frame) : State where
  vm := { classes := classes, interned := interned.toArray }
  heap := heap
  slotsUsed := slotsUsed
  threads := #[{ frames := .invoking theMethod args0 :: below }]
def below0 : List Frame := [.native { method := ⟨0, 0⟩, args := #[] }]
def about1 : State := aboutOver below0
def p0 : Program := .bare "" "" ""
def e0 : Env := launch0.env 0 0 0
theorem w_frames : about1.frames = Frame.invoking theMethod args0 :: below0 := rfl
set_option maxRecDepth 65536 in
theorem w_args : argsFit about1.vm theMethod args0 = true := by decide +kernel
set_option maxRecDepth 65536 in
theorem w_heap : heapFits about1 = true := by decide +kernel
set_option maxRecDepth 65536 in
theorem w_runnable : about1.curStatus? = some .runnable := by decide +kernel
set_option maxRecDepth 65536 in
theorem w_alone : about1.alone = true := by decide +kernel
set_option maxRecDepth 65536 in
theorem w_named : about1.methodNamed? x = some theMethod := by decide +kernel
set_option maxRecDepth 65536 in
theorem w_hears : about1.hears theMethod below0 = true := by decide +kernel
set_option maxRecDepth 65536 in
theorem w_ripe : about1.ripe theMethod args0 below0 = true := by decide +kernel
theorem w_running : about1.status = .running := rfl
set_option maxRecDepth 65536 in
theorem w_room : about1.hasRoom e0.platform room_1 = true :=
  launch0.hasRoom_least _ room_1 (by decide +kernel) (by decide +kernel) (by decide +kernel) (by decide +kernel) (by decide +kernel) (by decide +kernel)
theorem allAtoms_all (ts : List Jvm.Cond) (a : Array Jvm.Value) (st : Jvm.State) : (allAtoms ts).before a st = ts.all (fun c => c.before a st) := by
  induction ts with
  | nil => rfl
  | cons c t ih =>
    show (Jvm.Cond.and c (allAtoms t)).before a st = _
    rw [Jvm.Cond.before_and, ih, List.all_cons]
def words1 : List Jvm.Cond := Jvm.Cond.code x code maxLocals ret :: tables_1
/-- a 'code' word, met by the world's own term for the bytes: nothing is compared byte by byte -/
theorem code_word {y : MethodName} {bytes : ByteArray} {mx : Nat} {rt : Option FieldType} {a : Array Value} {s : State} {m : MethodId} {meth : Method} {c : Code} (h1 : s.methodNamed? y = some m) (h2 : s.vm.method? m = some meth) (h3 : meth.code = some c) (h4 : c.code = bytes)
    (h5 : (c.maxLocals == mx && c.exceptionTable.isEmpty && decide (c.maxStack ≤ mostOperands) && decide (meth.sig.returnType = rt) && !meth.locks && decide (parseMethodDescriptor y.desc = some meth.sig)) = true) : (Jvm.Cond.code y bytes mx rt).before a s = true := by
  simp only [Bool.and_eq_true, beq_iff_eq, Bool.not_eq_true', decide_eq_true_eq] at h5
  obtain ⟨⟨⟨⟨⟨g1, g2⟩, g3⟩, g4⟩, g5⟩, g6⟩ := h5
  simp [Cond.before, Cond.holds, Cond.value, h1, h2, h3, h4, g1, g2, g3, g4, g5, g6]
def isCode : Jvm.Cond → Bool
  | .code _ _ _ _ => true
  | _ => false
theorem all_split {L : List Jvm.Cond} {P : Jvm.Cond → Bool} (h1 : L.all (fun c => isCode c || P c) = true) (h2 : ∀ c ∈ L.filter isCode, P c = true) : L.all P = true := by
  refine List.all_eq_true.mpr fun c hc => ?_
  have h := List.all_eq_true.mp h1 c hc
  rcases Bool.eq_false_or_eq_true (isCode c) with hi | hi
  · exact h2 c (List.mem_filter.mpr ⟨hc, hi⟩)
  · simpa [hi] using h
set_option maxRecDepth 65536 in
theorem w_c0 : (Jvm.Cond.code x code maxLocals ret).before args0 about1 = true := code_word (m := ⟨1, 2⟩) (meth := k1m2) (c := k1c2) (by decide +kernel) rfl rfl rfl (by decide +kernel)
set_option maxRecDepth 65536 in
theorem w_c1 : (Jvm.Cond.code ({ cls := "java/lang/Math", name := "min", desc := "(II)I" } : Jvm.MethodName) jdk_29_method_69_code (2 : Nat) (Option.some Jvm.ClassFile.FieldType.int)).before args0 about1 = true := code_word (m := ⟨2, 2⟩) (meth := k2m2) (c := k2c2) (by decide +kernel) rfl rfl rfl (by decide +kernel)
set_option maxRecDepth 65536 in
theorem w_c2 : (Jvm.Cond.code ({ cls := "java/lang/Math", name := "max", desc := "(II)I" } : Jvm.MethodName) jdk_29_method_65_code (2 : Nat) (Option.some Jvm.ClassFile.FieldType.int)).before args0 about1 = true := code_word (m := ⟨2, 1⟩) (meth := k2m1) (c := k2c1) (by decide +kernel) rfl rfl rfl (by decide +kernel)
set_option maxRecDepth 65536 in
theorem w_c3 : (Jvm.Cond.code ({ cls := "com/example/trawl/trawl/load/ColumnShifts", name := "<init>", desc := "()V" } : Jvm.MethodName) prog_28_method_1_code (1 : Nat) (Option.none : Option Jvm.ClassFile.FieldType)).before args0 about1 = true := code_word (m := ⟨3, 0⟩) (meth := k3m0) (c := k3c0) (by decide +kernel) rfl rfl rfl (by decide +kernel)
set_option maxRecDepth 65536 in
theorem w_c4 : (Jvm.Cond.code ({ cls := "java/lang/Object", name := "<init>", desc := "()V" } : Jvm.MethodName) object_method_1_code (1 : Nat) (Option.none : Option Jvm.ClassFile.FieldType)).before args0 about1 = true := code_word (m := ⟨0, 0⟩) (meth := k0m0) (c := k0c0) (by decide +kernel) rfl rfl rfl (by decide +kernel)
set_option maxRecDepth 65536 in
theorem w_c5 : (Jvm.Cond.code ({ cls := "com/example/trawl/trawl/load/ColumnShifts", name := "columnInText", desc := "(II)I" } : Jvm.MethodName) prog_28_method_3_code (3 : Nat) (Option.some Jvm.ClassFile.FieldType.int)).before args0 about1 = true := code_word (m := ⟨3, 2⟩) (meth := k3m2) (c := k3c2) (by decide +kernel) rfl rfl rfl (by decide +kernel)
set_option maxRecDepth 65536 in
theorem w_c6 : (Jvm.Cond.code ({ cls := "com/example/trawl/trawl/load/ColumnShiftsColumnInTextPinLaw", name := "expected", desc := "(IIIIIIII)I" } : Jvm.MethodName) method_2_code (9 : Nat) (Option.some Jvm.ClassFile.FieldType.int)).before args0 about1 = true := code_word (m := ⟨1, 1⟩) (meth := k1m1) (c := k1c1) (by decide +kernel) rfl rfl rfl (by decide +kernel)
set_option maxRecDepth 65536 in
theorem w_c7 : (Jvm.Cond.code ({ cls := "com/example/trawl/trawl/load/ColumnShifts", name := "add", desc := "(IIII)V" } : Jvm.MethodName) prog_28_method_2_code (5 : Nat) (Option.none : Option Jvm.ClassFile.FieldType)).before args0 about1 = true := code_word (m := ⟨3, 1⟩) (meth := k3m1) (c := k3c1) (by decide +kernel) rfl rfl rfl (by decide +kernel)
def codes1 : List Jvm.Cond := [Jvm.Cond.code x code maxLocals ret, Jvm.Cond.code ({ cls := "java/lang/Math", name := "min", desc := "(II)I" } : Jvm.MethodName) jdk_29_method_69_code (2 : Nat) (Option.some Jvm.ClassFile.FieldType.int), Jvm.Cond.code ({ cls := "java/lang/Math", name := "max", desc := "(II)I" } : Jvm.MethodName) jdk_29_method_65_code (2 : Nat) (Option.some Jvm.ClassFile.FieldType.int), Jvm.Cond.code ({ cls := "com/example/trawl/trawl/load/ColumnShifts", name := "<init>", desc := "()V" } : Jvm.MethodName) prog_28_method_1_code (1 : Nat) (Option.none : Option Jvm.ClassFile.FieldType), Jvm.Cond.code ({ cls := "java/lang/Object", name := "<init>", desc := "()V" } : Jvm.MethodName) object_method_1_code (1 : Nat) (Option.none : Option Jvm.ClassFile.FieldType), Jvm.Cond.code ({ cls := "com/example/trawl/trawl/load/ColumnShifts", name := "columnInText", desc := "(II)I" } : Jvm.MethodName) prog_28_method_3_code (3 : Nat) (Option.some Jvm.ClassFile.FieldType.int), Jvm.Cond.code ({ cls := "com/example/trawl/trawl/load/ColumnShiftsColumnInTextPinLaw", name := "expected", desc := "(IIIIIIII)I" } : Jvm.MethodName) method_2_code (9 : Nat) (Option.some Jvm.ClassFile.FieldType.int), Jvm.Cond.code ({ cls := "com/example/trawl/trawl/load/ColumnShifts", name := "add", desc := "(IIII)V" } : Jvm.MethodName) prog_28_method_2_code (5 : Nat) (Option.none : Option Jvm.ClassFile.FieldType)]
set_option maxRecDepth 65536 in
theorem codes_eq : words1.filter isCode = codes1 := rfl
theorem w_codes : ∀ c ∈ words1.filter isCode, c.before args0 about1 = true := by
  rw [codes_eq]
  intro c hc
  simp only [codes1, List.mem_cons, List.not_mem_nil, or_false] at hc
  rcases hc with rfl | rfl | rfl | rfl | rfl | rfl | rfl | rfl
  · exact w_c0
  · exact w_c1
  · exact w_c2
  · exact w_c3
  · exact w_c4
  · exact w_c5
  · exact w_c6
  · exact w_c7
set_option maxRecDepth 65536 in
theorem w_t1 : (words1.take 24).all (fun c => isCode c || c.before args0 about1) = true := by decide +kernel
set_option maxRecDepth 65536 in
theorem w_t2 : ((words1.drop 24).take 24).all (fun c => isCode c || c.before args0 about1) = true := by decide +kernel
set_option maxRecDepth 65536 in
theorem w_t3 : ((words1.drop 24).drop 24).all (fun c => isCode c || c.before args0 about1) = true := by decide +kernel
theorem w_tables : (allAtoms (Jvm.Cond.code x code maxLocals ret :: tables_1)).before args0 about1 = true := by
  rw [allAtoms_all]
  show words1.all (fun c => c.before args0 about1) = true
  refine all_split ?_ w_codes
  rw [← List.take_append_drop 24 words1, List.all_append, w_t1, ← List.take_append_drop 24 (words1.drop 24), List.all_append, w_t2, w_t3]
  rfl
set_option maxRecDepth 65536 in
theorem w_case : (Jvm.Cond.and given_1 narrow_1).before args0 about1 = true := by decide +kernel
theorem w_applies : (headSpec (Jvm.Cond.code x code maxLocals ret :: tables_1) room_1).applies x e0.platform about1 = true :=
  (Spec.applies_iff w_frames).mpr ⟨w_running, w_runnable, w_alone, w_named, w_hears, w_ripe, w_room, w_tables⟩
theorem atStart : AtStart classFile x code maxLocals ret World_1 tables_1 room_1 Calls_1 rest_1 Pre_1 launch0 p0 e0 about1 theMethod args0 below0 :=
  ⟨lists_1, trivial, launch0.admits_env _ _ _, launch0.least_env, fairChoices_fair.cas, fairChoices_fair.clock, w_frames, w_args, w_heap, w_applies, trivial, trivial, w_case⟩
end start1
theorem witness_1 : WitnessClaimed_1 := ⟨start1.p0, start1.e0, start1.about1, start1.theMethod, start1.args0, start1.below0, start1.atStart⟩
end Jvm.Pilot.@@N@@
