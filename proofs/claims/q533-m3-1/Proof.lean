import JvmDerived
import JvmDerived.Pilot.@@N@@Statement
import JvmDerived.Pilot.@@N@@Code
set_option linter.unusedVariables false
set_option linter.unusedSimpArgs false
namespace Jvm.RoadKit
open Sem ClassFile Op Lib Jvm.Stand Jvm.Free Jvm.LawKit
section New
variable {p : Program} {l : Launch} {e : Env} {R : Room} {s : State} {m : MethodId} {args : Array Value} {below : List Frame} {meth : Method} {c : Code} {T : State} {locs : List Loc} {cells slots : Nat}
theorem retI (X : Stand p l e R s m args below meth c T locs cells slots) (hx : p.tables.exec = Jvm.exec) {pc : Nat} {Ls : Array Slot} {z : Int32} {rest : List Value} (hret : meth.sig.returnType = some .int) (hd : decode c.code pc = .ok (.ireturn, 1)) {fs : List Frame}
    (hl : ∀ (f : JFrame) (acts : List Action), f.method = m → f.locked = none → f.entered = [] → (doReturn e (T.setTop f) acts (some (.int z))).1 = T.setFrames fs) : Steps p.tables e below (T.setTop (mkF m pc Ls (.int z :: rest))) (T.setFrames fs) := by
  have hm' : T.vm.method? m = some meth := X.method'
  have hn : narrow .int (.int z) = .int z := rfl
  show Steps p.tables e below (T.setTop { method := m, pc := pc, locals := Ls, stack := _ :: rest, locked := none }) _
  jvm_step X.here [X.here.top, hx, hd, hm', hret, hn]
  first | (intro acts; rw [hl _ acts rfl rfl rfl]) | rw [hl _ _ rfl rfl rfl]
  exact Steps.refl _
theorem retJ (X : Stand p l e R s m args below meth c T locs cells slots) (hx : p.tables.exec = Jvm.exec) {pc : Nat} {Ls : Array Slot} {z : Int64} {rest : List Value} (hret : meth.sig.returnType = some .long) (hd : decode c.code pc = .ok (.lreturn, 1)) {fs : List Frame}
    (hl : ∀ (f : JFrame) (acts : List Action), f.method = m → f.locked = none → f.entered = [] → (doReturn e (T.setTop f) acts (some (.long z))).1 = T.setFrames fs) : Steps p.tables e below (T.setTop (mkF m pc Ls (.long z :: rest))) (T.setFrames fs) := by
  have hm' : T.vm.method? m = some meth := X.method'
  have hn : narrow .long (.long z) = .long z := rfl
  show Steps p.tables e below (T.setTop { method := m, pc := pc, locals := Ls, stack := _ :: rest, locked := none }) _
  jvm_step X.here [X.here.top, hx, hd, hm', hret, hn]
  first | (intro acts; rw [hl _ acts rfl rfl rfl]) | rw [hl _ _ rfl rfl rfl]
  exact Steps.refl _
theorem retR (X : Stand p l e R s m args below meth c T locs cells slots) (hx : p.tables.exec = Jvm.exec) {pc : Nat} {Ls : Array Slot} {v : Value} {rest : List Value} (hv : v.isRef = true) {ty : FieldType} (hret : meth.sig.returnType = some ty) (ht : ty.isReference = true) (hd : decode c.code pc = .ok (.areturn, 1)) {fs : List Frame}
    (hl : ∀ (f : JFrame) (acts : List Action), f.method = m → f.locked = none → f.entered = [] → (doReturn e (T.setTop f) acts (some v)).1 = T.setFrames fs) : Steps p.tables e below (T.setTop (mkF m pc Ls (v :: rest))) (T.setFrames fs) := by
  have hm' : T.vm.method? m = some meth := X.method'
  show Steps p.tables e below (T.setTop { method := m, pc := pc, locals := Ls, stack := _ :: rest, locked := none }) _
  jvm_step X.here [X.here.top, hx, hd, hm', hret, hv, ht]
  first | (intro acts; rw [hl _ acts rfl rfl rfl]) | rw [hl _ _ rfl rfl rfl]
  exact Steps.refl _
end New
end Jvm.RoadKit
namespace Jvm.Pilot.@@N@@
open Jvm Jvm.ClassFile Sem Op Lib Jvm.Free Jvm.Stand Jvm.LawKit Jvm.RoadKit Bundle Jvm.Pilot.@@N@@.Jvm.D
/-- from the state 'cur' on is enough -/
def own_Pre (p : Program) (e : Env) (below : List Frame) (start cur : State) : Prop := ∀ t, Steps p.tables e below cur t → Steps p.tables e below start t
/-- an array of ints (bytes, chars, booleans): its length z, its components ws (at least so many) -/
def own_AI (Z : State) (h : Heap) (a : Addr) (k : ClassId) (ty : FieldType) (z : Int32) (ws : List Int32) : Prop := Arv Z h a k ty z (ws.map Value.int) (.int 0) ∧ z.toNatClampNeg ≤ ws.length
def own_AJ (Z : State) (h : Heap) (a : Addr) (k : ClassId) (ty : FieldType) (z : Int32) (ws : List Int64) : Prop := Arv Z h a k ty z (ws.map Value.long) (.long 0) ∧ z.toNatClampNeg ≤ ws.length
section OwnA
variable {Z : State} {h h' : Heap} {a b : Addr} {k : ClassId} {ty : FieldType} {z : Int32} {ws : List Int32} {wl : List Int64} {sl : Nat} {v : Value} {L : List Addr}
theorem own_AI.lt (F : own_AI Z h a k ty z ws) : a < h.size := Arv.lt F.1
theorem own_AI.ext (F : own_AI Z h a k ty z ws) (E : Ext h h') : own_AI Z h' a k ty z ws := ⟨Arv.ext F.1 E, F.2⟩
theorem own_AI.other (F : own_AI Z h b k ty z ws) (W : Wr h h' a sl v) (q : b ≠ a) : own_AI Z h' b k ty z ws := ⟨Arv.other F.1 W q, F.2⟩
theorem own_AI.keep (F : own_AI Z h a k ty z ws) (K : Keep h h' L) (q : a ∉ L) : own_AI Z h' a k ty z ws := ⟨Arv.keep F.1 K q, F.2⟩
theorem own_AJ.lt (F : own_AJ Z h a k ty z wl) : a < h.size := Arv.lt F.1
theorem own_AJ.ext (F : own_AJ Z h a k ty z wl) (E : Ext h h') : own_AJ Z h' a k ty z wl := ⟨Arv.ext F.1 E, F.2⟩
theorem own_AJ.other (F : own_AJ Z h b k ty z wl) (W : Wr h h' a sl v) (q : b ≠ a) : own_AJ Z h' b k ty z wl := ⟨Arv.other F.1 W q, F.2⟩
theorem own_AJ.keep (F : own_AJ Z h a k ty z wl) (K : Keep h h' L) (q : a ∉ L) : own_AJ Z h' a k ty z wl := ⟨Arv.keep F.1 K q, F.2⟩
theorem own_AI.new (n : Nat) (A : Arr Z h a (newA k ty z) ty) (q : ¬ z < 0) (hn : z.toNatClampNeg ≤ n) (hd : defaultValue ty = .int 0) : own_AI Z h a k ty z (List.replicate n (0 : Int32)) := by
  have := Arv.new A q
  rw [hd] at this
  have r := this.pad (pad_rep [] (.int 0) n)
  exact ⟨by simpa [List.map_replicate] using r, by simpa using hn⟩
theorem own_AJ.new (n : Nat) (A : Arr Z h a (newA k ty z) ty) (q : ¬ z < 0) (hn : z.toNatClampNeg ≤ n) (hd : defaultValue ty = .long 0) : own_AJ Z h a k ty z (List.replicate n (0 : Int64)) := by
  have := Arv.new A q
  rw [hd] at this
  have r := this.pad (pad_rep [] (.long 0) n)
  exact ⟨by simpa [List.map_replicate] using r, by simpa using hn⟩
theorem own_getI (ws : List Int32) (i : Nat) : (ws.map Value.int).getD i (.int 0) = .int (ws.getD i 0) := by
  simp only [List.getD_eq_getElem?_getD, List.getElem?_map]
  cases ws[i]? <;> rfl
theorem own_getJ (ws : List Int64) (i : Nat) : (ws.map Value.long).getD i (.long 0) = .long (ws.getD i 0) := by
  simp only [List.getD_eq_getElem?_getD, List.getElem?_map]
  cases ws[i]? <;> rfl
theorem own_AI.at (F : own_AI Z h a k ty z ws) {j : Int32} (q : ¬ j < 0 ∧ j < z) : ∃ cl : Cell, Arr Z h a cl ty ∧ ¬ (j < 0 ∨ cl.slots.size ≤ j.toNatClampNeg) ∧ cl.slots[j.toNatClampNeg]? = some (.int (ws.getD j.toNatClampNeg 0)) := by
  obtain ⟨⟨cl, A, -, S, -, H, -⟩, -⟩ := F
  have hin := inb_of S q
  exact ⟨cl, A, hin, H.at hin (own_getI _ _)⟩
theorem own_AJ.at (F : own_AJ Z h a k ty z wl) {j : Int32} (q : ¬ j < 0 ∧ j < z) : ∃ cl : Cell, Arr Z h a cl ty ∧ ¬ (j < 0 ∨ cl.slots.size ≤ j.toNatClampNeg) ∧ cl.slots[j.toNatClampNeg]? = some (.long (wl.getD j.toNatClampNeg 0)) := by
  obtain ⟨⟨cl, A, -, S, -, H, -⟩, -⟩ := F
  have hin := inb_of S q
  exact ⟨cl, A, hin, H.at hin (own_getJ _ _)⟩
theorem own_AI.arr (F : own_AI Z h a k ty z ws) {j : Int32} (q : ¬ j < 0 ∧ j < z) : ∃ cl : Cell, Arr Z h a cl ty ∧ ¬ (j < 0 ∨ cl.slots.size ≤ j.toNatClampNeg) ∧ ∀ (h' : Heap) (x : Int32), fits ty (.int x) = true → Wr h h' a j.toNatClampNeg (.int x) → own_AI Z h' a k ty z (ws.set j.toNatClampNeg x) := by
  obtain ⟨⟨cl, A, q1, S, q3, H, G⟩, ln⟩ := F
  have hin := inb_of S q
  refine ⟨cl, A, hin, fun h' x hv W => ?_⟩
  have hl : j.toNatClampNeg < ws.length := by
    rcases Nat.lt_or_ge j.toNatClampNeg ws.length with u | u
    · exact u
    · exact absurd (Or.inr (by omega)) hin
  have := Arv.set A q1 S q3 H G hv W _ rfl (by simpa using hl)
  rw [← List.map_set] at this
  exact ⟨this, by simpa using ln⟩
theorem own_AJ.arr (F : own_AJ Z h a k ty z wl) {j : Int32} (q : ¬ j < 0 ∧ j < z) : ∃ cl : Cell, Arr Z h a cl ty ∧ ¬ (j < 0 ∨ cl.slots.size ≤ j.toNatClampNeg) ∧ ∀ (h' : Heap) (x : Int64), fits ty (.long x) = true → Wr h h' a j.toNatClampNeg (.long x) → own_AJ Z h' a k ty z (wl.set j.toNatClampNeg x) := by
  obtain ⟨⟨cl, A, q1, S, q3, H, G⟩, ln⟩ := F
  have hin := inb_of S q
  refine ⟨cl, A, hin, fun h' x hv W => ?_⟩
  have hl : j.toNatClampNeg < wl.length := by
    rcases Nat.lt_or_ge j.toNatClampNeg wl.length with u | u
    · exact u
    · exact absurd (Or.inr (by omega)) hin
  have := Arv.set A q1 S q3 H G hv W _ rfl (by simpa using hl)
  rw [← List.map_set] at this
  exact ⟨this, by simpa using ln⟩
theorem own_AI.len (F : own_AI Z h a k ty z ws) : ∃ cl : Cell, Arr Z h a cl ty ∧ cl.slots.size = z.toNatClampNeg ∧ ¬ z < 0 := by
  obtain ⟨⟨cl, A, -, S, q3, -, -⟩, -⟩ := F
  exact ⟨cl, A, S, q3⟩
theorem own_AJ.len (F : own_AJ Z h a k ty z wl) : ∃ cl : Cell, Arr Z h a cl ty ∧ cl.slots.size = z.toNatClampNeg ∧ ¬ z < 0 := by
  obtain ⟨⟨cl, A, -, S, q3, -, -⟩, -⟩ := F
  exact ⟨cl, A, S, q3⟩
end OwnA
/-- a private method selects itself, where another method of its class is known to be no interface's -/
theorem own_selp {s : State} {args : Array Value} {y z : MethodName} (hz : (Cond.selects z.cls z z).before args s = true) (hc : z.cls = y.cls) (hpriv : s.PrivateAt y) (hinst : (Cond.instanceMethod y).before args s = true) (hy : y.cls ≠ "java/lang/invoke/MethodHandle" ∧ y.cls ≠ "java/lang/invoke/VarHandle") : (Cond.selects y.cls y y).before args s = true := by
  obtain ⟨c2, r2, m2, -, -, q3, -, kP, hkP, hkPi⟩ := Cond.selects_spec hz
  have hf := findClass_of_methodNamed q3
  rw [hc] at hf
  exact selects_self_of_private hf hkP hkPi hpriv hinst hy
/-- what holds of every byte -/
theorem own_bytes {P : Int32 → Prop} (H : ∀ i : Fin 256, P (Int32.ofInt ((i.1 : Int) - 128))) (x : Int32) : P x.toInt8.toInt32 := by
  obtain ⟨-, h1, h2⟩ := c_i2b x
  have e : x.toInt8.toInt32 = Int32.ofInt (((⟨(x.toInt8.toInt32.toInt + 128).toNat, by omega⟩ : Fin 256).1 : Int) - 128) := by
    apply Int32.toInt_inj.mp
    show _ = (Int32.ofInt (((x.toInt8.toInt32.toInt + 128).toNat : Int) - 128)).toInt
    rw [Int32.toInt_ofInt_of_le (by omega) (by omega)]
    omega
  rw [e]
  exact H _


theorem d1_0 : decode jdk_29_method_66_code 0 = .ok (.lload_n 0, 1) := by decide +kernel
theorem d1_1 : decode jdk_29_method_66_code 1 = .ok (.lload_n 2, 1) := by decide +kernel
theorem d1_2 : decode jdk_29_method_66_code 2 = .ok (.lcmp, 1) := by decide +kernel
theorem d1_3 : decode jdk_29_method_66_code 3 = .ok (.ifCond .lt 7, 3) := by decide +kernel
theorem d1_6 : decode jdk_29_method_66_code 6 = .ok (.lload_n 0, 1) := by decide +kernel
theorem d1_7 : decode jdk_29_method_66_code 7 = .ok (.goto 4, 3) := by decide +kernel
theorem d1_10 : decode jdk_29_method_66_code 10 = .ok (.lload_n 2, 1) := by decide +kernel
theorem d1_11 : decode jdk_29_method_66_code 11 = .ok (.lreturn, 1) := by decide +kernel
theorem ef_1 (m : MethodId) (q0 : Int64) (q1 : Int64) : entryFrame m #[(.long q0), (.long q1)] 4 = mkF m 0 #[.val (.long q0), .second, .val (.long q1), .second] [] := by first | (simp [entryFrame, mkF, argsToLocals, Value.category]; done) | rfl
def own_f1 (q0 : Int64) (q1 : Int64) : Int64 := (if q0 < q1 then q1 else q0)
def Q1 (Z : State) (q0 : Int64) (q1 : Int64) (h0 : Heap) (n0 : Nat) (v : Option Value) (h : Heap) (L : List Loc) : Prop := v = some (.long (own_f1 q0 q1)) ∧ Fr n0 L ∧ h = h0
set_option maxRecDepth 65536 in
set_option maxHeartbeats 40000000 in
theorem rm1 (l : Launch) (Z : State) (aw : Array Value) (hw : ∀ d ∈ tables_1, d.before aw Z = true) (wq : List Jvm.Cond) (q0 : Int64) (q1 : Int64) (h0 : Heap) (n0 : Nat) (Z0 : n0 ≤ h0.size) :
    MetFree l (⟨"java/lang/Math", "max", "(JJ)J"⟩ : MethodName) (head1 (Jvm.Cond.code (⟨"java/lang/Math", "max", "(JJ)J"⟩ : MethodName) jdk_29_method_66_code 4 (some .long) :: wq) ({ frames := 0, cells := 0, slots := 0, locals := 0 } : Room)) (fun a U => a = #[(.long q0), (.long q1)] ∧ Z.Warmed39 U.vm ∧ U.heap = h0) (fun _ _ _ _ _ => True) (fun _ U o U' => ∃ v L, o = .returned v ∧ Q1 Z q0 q1 h0 n0 v U'.heap L ∧ FrameEnd U o U' L ({ frames := 0, cells := 0, slots := 0, locals := 0 } : Room).cells ({ frames := 0, cells := 0, slots := 0, locals := 0 } : Room).slots) := by
  refine MetFree.of_bodySF (Jvm.Free.JP.mathPlain rfl (by decide +kernel)) hisR ?_
  intro p e s m args below meth c s₁ Bd hml0 hP hK
  obtain ⟨rfl, hZ, hh⟩ := hP
  have hx := Bd.exec
  have hby := Bd.bytes
  have hml : c.maxLocals = 4 := hml0
  have hown : s.vm.findClass "java/lang/Math" = some m.cls := findClass_of_methodNamed Bd.named
  have hnm := (name_of_methodNamed Bd.named Bd.method).1
  have X0 : Stand p l e ({ frames := 0, cells := 0, slots := 0, locals := 0 } : Room) s m #[(.long q0), (.long q1)] below meth c s₁ [] 0 0 := Stand.of_body Bd
  have e0 : s₁.heap = h0 := by rw [← hh, Bd.state]; rfl
  have N0 := Fr.nil n0
  have pre0 : own_Pre p e below (s₁.setTop (entryFrame m #[(.long q0), (.long q1)] 4)) (s₁.setTop (mkF m 0 #[.val (.long q0), .second, .val (.long q1), .second] [])) := fun t k => castTop (ef_1 m q0 q1) k
  have pre1 : own_Pre p e below (s₁.setTop (entryFrame m #[(.long q0), (.long q1)] 4)) (s₁.setTop (mkF m 3 #[.val (.long q0), .second, .val (.long q1), .second] [(.int (lcmpW q0 q1))])) := fun t k => pre0 t (by
      show Steps p.tables e below (s₁.setTop (mkF m 0 #[.val (.long q0), .second, .val (.long q1), .second] [])) _
      refine XS.lloadN X0.here hx rfl (hb hby d1_0) rfl ?_
      show Steps p.tables e below (s₁.setTop (mkF m 1 #[.val (.long q0), .second, .val (.long q1), .second] [(.long q0)])) _
      refine XS.lloadN X0.here hx rfl (hb hby d1_1) rfl ?_
      show Steps p.tables e below (s₁.setTop (mkF m 2 #[.val (.long q0), .second, .val (.long q1), .second] [(.long q1), (.long q0)])) _
      refine XS.lcmp X0.here hx rfl (hb hby d1_2) rfl ?_
      exact k)
  by_cases hc3 : q0 < q1
  · obtain ⟨fs, hr, hrun, hended, hW, hsame⟩ := X0.leave (v := some (.long q1)) (fun h => by rw [Bd.returns] at h; cases h)
    refine ⟨_, _, pre1 _ ?_, hrun, hended, _, _, rfl, ?_, ⟨_, rfl⟩, hW, hsame.mono (by decide) (by decide)⟩
    · show Steps p.tables e below (s₁.setTop (mkF m 3 #[.val (.long q0), .second, .val (.long q1), .second] [(.int (lcmpW q0 q1))])) _
      refine XS.ifYes X0.here hx rfl (pc0 := 3) (pc' := 10) rfl (hb hby d1_3) rfl ((if0 _ _).trans (tlt ((lw_lt _ _).mpr hc3)).1) (by decide) (by decide) ?_
      show Steps p.tables e below (s₁.setTop (mkF m 10 #[.val (.long q0), .second, .val (.long q1), .second] [])) _
      refine XS.lloadN X0.here hx rfl (hb hby d1_10) rfl ?_
      show Steps p.tables e below (s₁.setTop (mkF m 11 #[.val (.long q0), .second, .val (.long q1), .second] [(.long q1)])) _
      exact retJ X0 hx Bd.returns (hb hby d1_11) hr
    · show Q1 Z q0 q1 h0 n0 _ s₁.heap _
      rw [e0]
      unfold Q1
      refine ⟨?_, N0, rfl⟩
      · simp only [own_f1, if_pos hc3]
  · obtain ⟨fs, hr, hrun, hended, hW, hsame⟩ := X0.leave (v := some (.long q0)) (fun h => by rw [Bd.returns] at h; cases h)
    refine ⟨_, _, pre1 _ ?_, hrun, hended, _, _, rfl, ?_, ⟨_, rfl⟩, hW, hsame.mono (by decide) (by decide)⟩
    · show Steps p.tables e below (s₁.setTop (mkF m 3 #[.val (.long q0), .second, .val (.long q1), .second] [(.int (lcmpW q0 q1))])) _
      refine XS.ifNo X0.here hx rfl (hb hby d1_3) rfl ((if0 _ _).trans (flt (mt (lw_lt _ _).mp hc3)).1) ?_
      show Steps p.tables e below (s₁.setTop (mkF m 6 #[.val (.long q0), .second, .val (.long q1), .second] [])) _
      refine XS.lloadN X0.here hx rfl (hb hby d1_6) rfl ?_
      show Steps p.tables e below (s₁.setTop (mkF m 7 #[.val (.long q0), .second, .val (.long q1), .second] [(.long q0)])) _
      refine XS.goto X0.here hx rfl (pc0 := 7) (pc' := 11) rfl (hb hby d1_7) (by decide) (by decide) ?_
      show Steps p.tables e below (s₁.setTop (mkF m 11 #[.val (.long q0), .second, .val (.long q1), .second] [(.long q0)])) _
      exact retJ X0 hx Bd.returns (hb hby d1_11) hr
    · show Q1 Z q0 q1 h0 n0 _ s₁.heap _
      rw [e0]
      unfold Q1
      refine ⟨?_, N0, rfl⟩
      · simp only [own_f1, if_neg hc3]
theorem d8_0 : decode jdk_29_method_70_code 0 = .ok (.lload_n 0, 1) := by decide +kernel
theorem d8_1 : decode jdk_29_method_70_code 1 = .ok (.lload_n 2, 1) := by decide +kernel
theorem d8_2 : decode jdk_29_method_70_code 2 = .ok (.lcmp, 1) := by decide +kernel
theorem d8_3 : decode jdk_29_method_70_code 3 = .ok (.ifCond .gt 7, 3) := by decide +kernel
theorem d8_6 : decode jdk_29_method_70_code 6 = .ok (.lload_n 0, 1) := by decide +kernel
theorem d8_7 : decode jdk_29_method_70_code 7 = .ok (.goto 4, 3) := by decide +kernel
theorem d8_10 : decode jdk_29_method_70_code 10 = .ok (.lload_n 2, 1) := by decide +kernel
theorem d8_11 : decode jdk_29_method_70_code 11 = .ok (.lreturn, 1) := by decide +kernel
theorem ef_8 (m : MethodId) (q0 : Int64) (q1 : Int64) : entryFrame m #[(.long q0), (.long q1)] 4 = mkF m 0 #[.val (.long q0), .second, .val (.long q1), .second] [] := by first | (simp [entryFrame, mkF, argsToLocals, Value.category]; done) | rfl
def own_f8 (q0 : Int64) (q1 : Int64) : Int64 := (if q1 < q0 then q1 else q0)
def Q8 (Z : State) (q0 : Int64) (q1 : Int64) (h0 : Heap) (n0 : Nat) (v : Option Value) (h : Heap) (L : List Loc) : Prop := v = some (.long (own_f8 q0 q1)) ∧ Fr n0 L ∧ h = h0
set_option maxRecDepth 65536 in
set_option maxHeartbeats 40000000 in
theorem rm8 (l : Launch) (Z : State) (aw : Array Value) (hw : ∀ d ∈ tables_1, d.before aw Z = true) (wq : List Jvm.Cond) (q0 : Int64) (q1 : Int64) (h0 : Heap) (n0 : Nat) (Z0 : n0 ≤ h0.size) :
    MetFree l (⟨"java/lang/Math", "min", "(JJ)J"⟩ : MethodName) (head1 (Jvm.Cond.code (⟨"java/lang/Math", "min", "(JJ)J"⟩ : MethodName) jdk_29_method_70_code 4 (some .long) :: wq) ({ frames := 0, cells := 0, slots := 0, locals := 0 } : Room)) (fun a U => a = #[(.long q0), (.long q1)] ∧ Z.Warmed39 U.vm ∧ U.heap = h0) (fun _ _ _ _ _ => True) (fun _ U o U' => ∃ v L, o = .returned v ∧ Q8 Z q0 q1 h0 n0 v U'.heap L ∧ FrameEnd U o U' L ({ frames := 0, cells := 0, slots := 0, locals := 0 } : Room).cells ({ frames := 0, cells := 0, slots := 0, locals := 0 } : Room).slots) := by
  refine MetFree.of_bodySF (Jvm.Free.JP.mathPlain rfl (by decide +kernel)) hisR ?_
  intro p e s m args below meth c s₁ Bd hml0 hP hK
  obtain ⟨rfl, hZ, hh⟩ := hP
  have hx := Bd.exec
  have hby := Bd.bytes
  have hml : c.maxLocals = 4 := hml0
  have hown : s.vm.findClass "java/lang/Math" = some m.cls := findClass_of_methodNamed Bd.named
  have hnm := (name_of_methodNamed Bd.named Bd.method).1
  have X0 : Stand p l e ({ frames := 0, cells := 0, slots := 0, locals := 0 } : Room) s m #[(.long q0), (.long q1)] below meth c s₁ [] 0 0 := Stand.of_body Bd
  have e0 : s₁.heap = h0 := by rw [← hh, Bd.state]; rfl
  have N0 := Fr.nil n0
  have pre0 : own_Pre p e below (s₁.setTop (entryFrame m #[(.long q0), (.long q1)] 4)) (s₁.setTop (mkF m 0 #[.val (.long q0), .second, .val (.long q1), .second] [])) := fun t k => castTop (ef_8 m q0 q1) k
  have pre1 : own_Pre p e below (s₁.setTop (entryFrame m #[(.long q0), (.long q1)] 4)) (s₁.setTop (mkF m 3 #[.val (.long q0), .second, .val (.long q1), .second] [(.int (lcmpW q0 q1))])) := fun t k => pre0 t (by
      show Steps p.tables e below (s₁.setTop (mkF m 0 #[.val (.long q0), .second, .val (.long q1), .second] [])) _
      refine XS.lloadN X0.here hx rfl (hb hby d8_0) rfl ?_
      show Steps p.tables e below (s₁.setTop (mkF m 1 #[.val (.long q0), .second, .val (.long q1), .second] [(.long q0)])) _
      refine XS.lloadN X0.here hx rfl (hb hby d8_1) rfl ?_
      show Steps p.tables e below (s₁.setTop (mkF m 2 #[.val (.long q0), .second, .val (.long q1), .second] [(.long q1), (.long q0)])) _
      refine XS.lcmp X0.here hx rfl (hb hby d8_2) rfl ?_
      exact k)
  by_cases hc3 : q1 < q0
  · obtain ⟨fs, hr, hrun, hended, hW, hsame⟩ := X0.leave (v := some (.long q1)) (fun h => by rw [Bd.returns] at h; cases h)
    refine ⟨_, _, pre1 _ ?_, hrun, hended, _, _, rfl, ?_, ⟨_, rfl⟩, hW, hsame.mono (by decide) (by decide)⟩
    · show Steps p.tables e below (s₁.setTop (mkF m 3 #[.val (.long q0), .second, .val (.long q1), .second] [(.int (lcmpW q0 q1))])) _
      refine XS.ifYes X0.here hx rfl (pc0 := 3) (pc' := 10) rfl (hb hby d8_3) rfl ((if0 _ _).trans (tlt ((lw_gt _ _).mpr hc3)).2.2.1) (by decide) (by decide) ?_
      show Steps p.tables e below (s₁.setTop (mkF m 10 #[.val (.long q0), .second, .val (.long q1), .second] [])) _
      refine XS.lloadN X0.here hx rfl (hb hby d8_10) rfl ?_
      show Steps p.tables e below (s₁.setTop (mkF m 11 #[.val (.long q0), .second, .val (.long q1), .second] [(.long q1)])) _
      exact retJ X0 hx Bd.returns (hb hby d8_11) hr
    · show Q8 Z q0 q1 h0 n0 _ s₁.heap _
      rw [e0]
      unfold Q8
      refine ⟨?_, N0, rfl⟩
      · simp only [own_f8, if_pos hc3]
  · obtain ⟨fs, hr, hrun, hended, hW, hsame⟩ := X0.leave (v := some (.long q0)) (fun h => by rw [Bd.returns] at h; cases h)
    refine ⟨_, _, pre1 _ ?_, hrun, hended, _, _, rfl, ?_, ⟨_, rfl⟩, hW, hsame.mono (by decide) (by decide)⟩
    · show Steps p.tables e below (s₁.setTop (mkF m 3 #[.val (.long q0), .second, .val (.long q1), .second] [(.int (lcmpW q0 q1))])) _
      refine XS.ifNo X0.here hx rfl (hb hby d8_3) rfl ((if0 _ _).trans (flt (mt (lw_gt _ _).mp hc3)).2.2.1) ?_
      show Steps p.tables e below (s₁.setTop (mkF m 6 #[.val (.long q0), .second, .val (.long q1), .second] [])) _
      refine XS.lloadN X0.here hx rfl (hb hby d8_6) rfl ?_
      show Steps p.tables e below (s₁.setTop (mkF m 7 #[.val (.long q0), .second, .val (.long q1), .second] [(.long q0)])) _
      refine XS.goto X0.here hx rfl (pc0 := 7) (pc' := 11) rfl (hb hby d8_7) (by decide) (by decide) ?_
      show Steps p.tables e below (s₁.setTop (mkF m 11 #[.val (.long q0), .second, .val (.long q1), .second] [(.long q0)])) _
      exact retJ X0 hx Bd.returns (hb hby d8_11) hr
    · show Q8 Z q0 q1 h0 n0 _ s₁.heap _
      rw [e0]
      unfold Q8
      refine ⟨?_, N0, rfl⟩
      · simp only [own_f8, if_neg hc3]
theorem d2_0 : decode prog_5_method_1_code 0 = .ok (.aload_n 0, 1) := by decide +kernel
theorem d2_1 : decode prog_5_method_1_code 1 = .ok (.invokespecial 1, 3) := by decide +kernel
theorem d2_4 : decode prog_5_method_1_code 4 = .ok (.aload_n 0, 1) := by decide +kernel
theorem d2_5 : decode prog_5_method_1_code 5 = .ok (.iconst 1, 1) := by decide +kernel
theorem d2_6 : decode prog_5_method_1_code 6 = .ok (.putfield 7, 3) := by decide +kernel
theorem d2_9 : decode prog_5_method_1_code 9 = .ok (.aload_n 0, 1) := by decide +kernel
theorem d2_10 : decode prog_5_method_1_code 10 = .ok (.lload_n 1, 1) := by decide +kernel
theorem d2_11 : decode prog_5_method_1_code 11 = .ok (.putfield 13, 3) := by decide +kernel
theorem d2_14 : decode prog_5_method_1_code 14 = .ok (.aload_n 0, 1) := by decide +kernel
theorem d2_15 : decode prog_5_method_1_code 15 = .ok (.lload_n 3, 1) := by decide +kernel
theorem d2_16 : decode prog_5_method_1_code 16 = .ok (.putfield 17, 3) := by decide +kernel
theorem d2_19 : decode prog_5_method_1_code 19 = .ok (.return_, 1) := by decide +kernel
theorem pn_0 : plainName "com/example/hopchuan/hopchuan/ErrorCounter" = true := by first | (simp [plainName, overriddenIn]; done) | decide +kernel
theorem ef_2 (m : MethodId) (a0 : Addr) (q1 : Int64) (q2 : Int64) : entryFrame m #[(.ref a0), (.long q1), (.long q2)] 5 = mkF m 0 #[.val (.ref a0), .val (.long q1), .second, .val (.long q2), .second] [] := by first | (simp [entryFrame, mkF, argsToLocals, Value.category]; done) | rfl
def Q2 (Z : State) (a0 : Addr) (q1 : Int64) (q2 : Int64) (h0 : Heap) (n0 : Nat) (v : Option Value) (h : Heap) (L : List Loc) : Prop := v = none ∧ Fr n0 L ∧ Keep h0 h [a0] ∧ Exa Z h a0 "com/example/hopchuan/hopchuan/ErrorCounter" ∧ Fld Z h a0 "com/example/hopchuan/hopchuan/ErrorCounter" "available" "Z" (.int (1 : Int32)) ∧ Fld Z h a0 "com/example/hopchuan/hopchuan/ErrorCounter" "sesErroredBlocks" "J" (.long q1) ∧ Fld Z h a0 "com/example/hopchuan/hopchuan/ErrorCounter" "extendingPeriodSeconds" "J" (.long q2) ∧ Fld Z h a0 "com/example/hopchuan/hopchuan/ErrorCounter" "seconds" "J" (.long (0 : Int64)) ∧ Fld Z h a0 "com/example/hopchuan/hopchuan/ErrorCounter" "unavailableSeconds" "J" (.long (0 : Int64)) ∧ Fld Z h a0 "com/example/hopchuan/hopchuan/ErrorCounter" "extendingSeconds" "J" (.long (0 : Int64)) ∧ Fld Z h a0 "com/example/hopchuan/hopchuan/ErrorCounter" "erroredSeconds" "J" (.long (0 : Int64)) ∧ Fld Z h a0 "com/example/hopchuan/hopchuan/ErrorCounter" "severelyErroredSeconds" "J" (.long (0 : Int64)) ∧ Fld Z h a0 "com/example/hopchuan/hopchuan/ErrorCounter" "backgroundBlockErrors" "J" (.long (0 : Int64)) ∧ Fld Z h a0 "com/example/hopchuan/hopchuan/ErrorCounter" "pending" "J" (.long (0 : Int64)) ∧ Fld Z h a0 "com/example/hopchuan/hopchuan/ErrorCounter" "pendingErrored" "J" (.long (0 : Int64)) ∧ Fld Z h a0 "com/example/hopchuan/hopchuan/ErrorCounter" "pendingBlocks" "J" (.long (0 : Int64)) ∧ Fld Z h a0 "com/example/hopchuan/hopchuan/ErrorCounter" "period" "J" (.long (0 : Int64))
set_option maxRecDepth 65536 in
set_option maxHeartbeats 40000000 in
theorem rm2 (l : Launch) (Z : State) (aw : Array Value) (hw : ∀ d ∈ tables_1, d.before aw Z = true) (wq : List Jvm.Cond) (a0 : Addr) (q1 : Int64) (q2 : Int64) (h0 : Heap) (n0 : Nat) (Z0 : n0 ≤ h0.size) (E_a0 : Exa Z h0 a0 "com/example/hopchuan/hopchuan/ErrorCounter") (F_a0_available : Fld Z h0 a0 "com/example/hopchuan/hopchuan/ErrorCounter" "available" "Z" (.int (0 : Int32))) (F_a0_sesErroredBlocks : Fld Z h0 a0 "com/example/hopchuan/hopchuan/ErrorCounter" "sesErroredBlocks" "J" (.long (0 : Int64))) (F_a0_extendingPeriodSeconds : Fld Z h0 a0 "com/example/hopchuan/hopchuan/ErrorCounter" "extendingPeriodSeconds" "J" (.long (0 : Int64))) (F_a0_seconds : Fld Z h0 a0 "com/example/hopchuan/hopchuan/ErrorCounter" "seconds" "J" (.long (0 : Int64))) (F_a0_unavailableSeconds : Fld Z h0 a0 "com/example/hopchuan/hopchuan/ErrorCounter" "unavailableSeconds" "J" (.long (0 : Int64))) (F_a0_extendingSeconds : Fld Z h0 a0 "com/example/hopchuan/hopchuan/ErrorCounter" "extendingSeconds" "J" (.long (0 : Int64))) (F_a0_erroredSeconds : Fld Z h0 a0 "com/example/hopchuan/hopchuan/ErrorCounter" "erroredSeconds" "J" (.long (0 : Int64))) (F_a0_severelyErroredSeconds : Fld Z h0 a0 "com/example/hopchuan/hopchuan/ErrorCounter" "severelyErroredSeconds" "J" (.long (0 : Int64))) (F_a0_backgroundBlockErrors : Fld Z h0 a0 "com/example/hopchuan/hopchuan/ErrorCounter" "backgroundBlockErrors" "J" (.long (0 : Int64))) (F_a0_pending : Fld Z h0 a0 "com/example/hopchuan/hopchuan/ErrorCounter" "pending" "J" (.long (0 : Int64))) (F_a0_pendingErrored : Fld Z h0 a0 "com/example/hopchuan/hopchuan/ErrorCounter" "pendingErrored" "J" (.long (0 : Int64))) (F_a0_pendingBlocks : Fld Z h0 a0 "com/example/hopchuan/hopchuan/ErrorCounter" "pendingBlocks" "J" (.long (0 : Int64))) (F_a0_period : Fld Z h0 a0 "com/example/hopchuan/hopchuan/ErrorCounter" "period" "J" (.long (0 : Int64))) (g_a0 : n0 ≤ a0) :
    MetFree l (⟨"com/example/hopchuan/hopchuan/ErrorCounter", "<init>", "(JJ)V"⟩ : MethodName) (head1 (Jvm.Cond.code (⟨"com/example/hopchuan/hopchuan/ErrorCounter", "<init>", "(JJ)V"⟩ : MethodName) prog_5_method_1_code 5 none :: wq) ({ frames := 1, cells := 0, slots := 0, locals := 12 } : Room)) (fun a U => a = #[(.ref a0), (.long q1), (.long q2)] ∧ Z.Warmed39 U.vm ∧ U.heap = h0) (fun _ _ _ _ _ => True) (fun _ U o U' => ∃ v L, o = .returned v ∧ Q2 Z a0 q1 q2 h0 n0 v U'.heap L ∧ FrameEnd U o U' L ({ frames := 1, cells := 0, slots := 0, locals := 12 } : Room).cells ({ frames := 1, cells := 0, slots := 0, locals := 12 } : Room).slots) := by
  refine MetFree.of_bodySF (plainFor_of_name pn_0) hisR ?_
  intro p e s m args below meth c s₁ Bd hml0 hP hK
  obtain ⟨rfl, hZ, hh⟩ := hP
  have hx := Bd.exec
  have hby := Bd.bytes
  have hml : c.maxLocals = 5 := hml0
  have hown : s.vm.findClass "com/example/hopchuan/hopchuan/ErrorCounter" = some m.cls := findClass_of_methodNamed Bd.named
  have hnm := (name_of_methodNamed Bd.named Bd.method).1
  have X0 : Stand p l e ({ frames := 1, cells := 0, slots := 0, locals := 12 } : Room) s m #[(.ref a0), (.long q1), (.long q2)] below meth c s₁ [] 0 0 := Stand.of_body Bd
  have e0 : s₁.heap = h0 := by rw [← hh, Bd.state]; rfl
  have N0 := Fr.nil n0
  have pre0 : own_Pre p e below (s₁.setTop (entryFrame m #[(.ref a0), (.long q1), (.long q2)] 5)) (s₁.setTop (mkF m 0 #[.val (.ref a0), .val (.long q1), .second, .val (.long q2), .second] [])) := fun t k => castTop (ef_2 m a0 q1 q2) k
  obtain ⟨T1, X1, e1, st1⟩ := initO X0 hx hZ hown (hw _ (List.mem_of_getElem? (i := 12) rfl)) (hw _ (List.mem_of_getElem? (i := 13) rfl)) (hw _ (List.mem_of_getElem? (i := 14) rfl)) e0 (g := (mkF m 1 #[.val (.ref a0), .val (.long q1), .second, .val (.long q2), .second] [(.ref a0)])) rfl (by rw [hml]; rfl) rfl (hb hby d2_1) (by decide) (W := 0) (by show 2 * 0 + _ ≤ _; exact Nat.le_of_eq rfl) (by decide)
  obtain ⟨T2, h2, X2, e2, W2, st2⟩ := putFN X1 hx hZ hown (hw _ (List.mem_of_getElem? (i := 15) rfl)) Via.refl e1 F_a0_available E_a0 (Or.inl (hw _ (List.mem_of_getElem? (i := 16) rfl))) (hw _ (List.mem_of_getElem? (i := 7) rfl)) (ty := .boolean) (v' := (.int (1 : Int32))) (by decide) rfl rfl (g := (mkF m 6 #[.val (.ref a0), .val (.long q1), .second, .val (.long q2), .second] [(.int (1 : Int32)), (.ref a0)])) rfl rfl (hb hby d2_6)
  have Fw2 := F_a0_available.same W2
  have N2 := Fr.snoc X2 N0 g_a0
  have kp3 : Keep h0 h2 [a0] := (Keep.refl h0 [a0]).wr W2 (Or.inl (List.mem_of_getElem? (i := 0) rfl))
  have f4 := (E_a0.wr W2)
  have f5 := (F_a0_sesErroredBlocks.other W2 (Or.inr (slot_ne (Or.inr (hw _ (List.mem_of_getElem? (i := 18) rfl))) (Or.inl (hw _ (List.mem_of_getElem? (i := 16) rfl))) (by decide) (t := .long) (t' := .boolean) (by decide) (by decide))))
  obtain ⟨T6, h6, X6, e6, W6, st6⟩ := putF X2 hx hZ hown (host := "") (Or.inl (hw _ (List.mem_of_getElem? (i := 17) rfl))) Via.refl e2 f5 f4 (Or.inr ⟨(hw _ (List.mem_of_getElem? (i := 18) rfl)), rfl, hnm⟩) (hw _ (List.mem_of_getElem? (i := 7) rfl)) (ty := .long) (by decide) rfl rfl (g := (mkF m 11 #[.val (.ref a0), .val (.long q1), .second, .val (.long q2), .second] [(.long q1), (.ref a0)])) rfl rfl (hb hby d2_11)
  have Fw6 := f5.same W6
  have N6 := Fr.snoc X6 N2 g_a0
  have kp7 : Keep h0 h6 [a0] := kp3.wr W6 (Or.inl (List.mem_of_getElem? (i := 0) rfl))
  have f8 := (f4.wr W6)
  have f9 := ((F_a0_extendingPeriodSeconds.other W2 (Or.inr (slot_ne (Or.inr (hw _ (List.mem_of_getElem? (i := 20) rfl))) (Or.inl (hw _ (List.mem_of_getElem? (i := 16) rfl))) (by decide) (t := .long) (t' := .boolean) (by decide) (by decide)))).other W6 (Or.inr (slot_ne (Or.inr (hw _ (List.mem_of_getElem? (i := 20) rfl))) (Or.inr (hw _ (List.mem_of_getElem? (i := 18) rfl))) (by decide) (t := .long) (t' := .long) (by decide) (by decide))))
  obtain ⟨T10, h10, X10, e10, W10, st10⟩ := putF X6 hx hZ hown (host := "") (Or.inl (hw _ (List.mem_of_getElem? (i := 19) rfl))) Via.refl e6 f9 f8 (Or.inr ⟨(hw _ (List.mem_of_getElem? (i := 20) rfl)), rfl, hnm⟩) (hw _ (List.mem_of_getElem? (i := 7) rfl)) (ty := .long) (by decide) rfl rfl (g := (mkF m 16 #[.val (.ref a0), .val (.long q1), .second, .val (.long q2), .second] [(.long q2), (.ref a0)])) rfl rfl (hb hby d2_16)
  have Fw10 := f9.same W10
  have N10 := Fr.snoc X10 N6 g_a0
  have kp11 : Keep h0 h10 [a0] := kp7.wr W10 (Or.inl (List.mem_of_getElem? (i := 0) rfl))
  obtain ⟨fs, hr, hrun, hended, hW, hsame⟩ := X10.leave (v := none) (fun _ => rfl)
  refine ⟨_, _, pre0 _ ?_, hrun, hended, _, _, rfl, ?_, ⟨_, rfl⟩, hW, hsame.mono (by decide) (by decide)⟩
  · show Steps p.tables e below (s₁.setTop (mkF m 0 #[.val (.ref a0), .val (.long q1), .second, .val (.long q2), .second] [])) _
    refine XS.aloadN X0.here hx rfl (hb hby d2_0) rfl rfl ?_
    show Steps p.tables e below (s₁.setTop (mkF m 1 #[.val (.ref a0), .val (.long q1), .second, .val (.long q2), .second] [(.ref a0)])) _
    refine st1 _ ?_
    show Steps p.tables e below (T1.setTop (mkF m 4 #[.val (.ref a0), .val (.long q1), .second, .val (.long q2), .second] [])) _
    refine XS.aloadN X1.here hx rfl (hb hby d2_4) rfl rfl ?_
    show Steps p.tables e below (T1.setTop (mkF m 5 #[.val (.ref a0), .val (.long q1), .second, .val (.long q2), .second] [(.ref a0)])) _
    refine XS.iconst X1.here hx rfl (hb hby d2_5) ?_
    show Steps p.tables e below (T1.setTop (mkF m 6 #[.val (.ref a0), .val (.long q1), .second, .val (.long q2), .second] [(.int (1 : Int32)), (.ref a0)])) _
    refine st2 _ ?_
    show Steps p.tables e below (T2.setTop (mkF m 9 #[.val (.ref a0), .val (.long q1), .second, .val (.long q2), .second] [])) _
    refine XS.aloadN X2.here hx rfl (hb hby d2_9) rfl rfl ?_
    show Steps p.tables e below (T2.setTop (mkF m 10 #[.val (.ref a0), .val (.long q1), .second, .val (.long q2), .second] [(.ref a0)])) _
    refine XS.lloadN X2.here hx rfl (hb hby d2_10) rfl ?_
    show Steps p.tables e below (T2.setTop (mkF m 11 #[.val (.ref a0), .val (.long q1), .second, .val (.long q2), .second] [(.long q1), (.ref a0)])) _
    refine st6 _ ?_
    show Steps p.tables e below (T6.setTop (mkF m 14 #[.val (.ref a0), .val (.long q1), .second, .val (.long q2), .second] [])) _
    refine XS.aloadN X6.here hx rfl (hb hby d2_14) rfl rfl ?_
    show Steps p.tables e below (T6.setTop (mkF m 15 #[.val (.ref a0), .val (.long q1), .second, .val (.long q2), .second] [(.ref a0)])) _
    refine XS.lloadN X6.here hx rfl (hb hby d2_15) rfl ?_
    show Steps p.tables e below (T6.setTop (mkF m 16 #[.val (.ref a0), .val (.long q1), .second, .val (.long q2), .second] [(.long q2), (.ref a0)])) _
    refine st10 _ ?_
    show Steps p.tables e below (T10.setTop (mkF m 19 #[.val (.ref a0), .val (.long q1), .second, .val (.long q2), .second] [])) _
    exact X10.returnOut hx Bd.returns (hb hby d2_19) hr
  · show Q2 Z a0 q1 q2 h0 n0 _ T10.heap _
    rw [e10]
    unfold Q2
    have f12 := (f8.wr W10)
    have f13 := ((Fw2.other W6 (Or.inr (slot_ne (Or.inl (hw _ (List.mem_of_getElem? (i := 16) rfl))) (Or.inr (hw _ (List.mem_of_getElem? (i := 18) rfl))) (by decide) (t := .boolean) (t' := .long) (by decide) (by decide)))).other W10 (Or.inr (slot_ne (Or.inl (hw _ (List.mem_of_getElem? (i := 16) rfl))) (Or.inr (hw _ (List.mem_of_getElem? (i := 20) rfl))) (by decide) (t := .boolean) (t' := .long) (by decide) (by decide))))
    have f14 := (Fw6.other W10 (Or.inr (slot_ne (Or.inr (hw _ (List.mem_of_getElem? (i := 18) rfl))) (Or.inr (hw _ (List.mem_of_getElem? (i := 20) rfl))) (by decide) (t := .long) (t' := .long) (by decide) (by decide))))
    have f15 := (((F_a0_seconds.other W2 (Or.inr (slot_ne (Or.inl (hw _ (List.mem_of_getElem? (i := 27) rfl))) (Or.inl (hw _ (List.mem_of_getElem? (i := 16) rfl))) (by decide) (t := .long) (t' := .boolean) (by decide) (by decide)))).other W6 (Or.inr (slot_ne (Or.inl (hw _ (List.mem_of_getElem? (i := 27) rfl))) (Or.inr (hw _ (List.mem_of_getElem? (i := 18) rfl))) (by decide) (t := .long) (t' := .long) (by decide) (by decide)))).other W10 (Or.inr (slot_ne (Or.inl (hw _ (List.mem_of_getElem? (i := 27) rfl))) (Or.inr (hw _ (List.mem_of_getElem? (i := 20) rfl))) (by decide) (t := .long) (t' := .long) (by decide) (by decide))))
    have f16 := (((F_a0_unavailableSeconds.other W2 (Or.inr (slot_ne (Or.inl (hw _ (List.mem_of_getElem? (i := 72) rfl))) (Or.inl (hw _ (List.mem_of_getElem? (i := 16) rfl))) (by decide) (t := .long) (t' := .boolean) (by decide) (by decide)))).other W6 (Or.inr (slot_ne (Or.inl (hw _ (List.mem_of_getElem? (i := 72) rfl))) (Or.inr (hw _ (List.mem_of_getElem? (i := 18) rfl))) (by decide) (t := .long) (t' := .long) (by decide) (by decide)))).other W10 (Or.inr (slot_ne (Or.inl (hw _ (List.mem_of_getElem? (i := 72) rfl))) (Or.inr (hw _ (List.mem_of_getElem? (i := 20) rfl))) (by decide) (t := .long) (t' := .long) (by decide) (by decide))))
    have f17 := (((F_a0_extendingSeconds.other W2 (Or.inr (slot_ne (Or.inl (hw _ (List.mem_of_getElem? (i := 74) rfl))) (Or.inl (hw _ (List.mem_of_getElem? (i := 16) rfl))) (by decide) (t := .long) (t' := .boolean) (by decide) (by decide)))).other W6 (Or.inr (slot_ne (Or.inl (hw _ (List.mem_of_getElem? (i := 74) rfl))) (Or.inr (hw _ (List.mem_of_getElem? (i := 18) rfl))) (by decide) (t := .long) (t' := .long) (by decide) (by decide)))).other W10 (Or.inr (slot_ne (Or.inl (hw _ (List.mem_of_getElem? (i := 74) rfl))) (Or.inr (hw _ (List.mem_of_getElem? (i := 20) rfl))) (by decide) (t := .long) (t' := .long) (by decide) (by decide))))
    have f18 := (((F_a0_erroredSeconds.other W2 (Or.inr (slot_ne (Or.inl (hw _ (List.mem_of_getElem? (i := 33) rfl))) (Or.inl (hw _ (List.mem_of_getElem? (i := 16) rfl))) (by decide) (t := .long) (t' := .boolean) (by decide) (by decide)))).other W6 (Or.inr (slot_ne (Or.inl (hw _ (List.mem_of_getElem? (i := 33) rfl))) (Or.inr (hw _ (List.mem_of_getElem? (i := 18) rfl))) (by decide) (t := .long) (t' := .long) (by decide) (by decide)))).other W10 (Or.inr (slot_ne (Or.inl (hw _ (List.mem_of_getElem? (i := 33) rfl))) (Or.inr (hw _ (List.mem_of_getElem? (i := 20) rfl))) (by decide) (t := .long) (t' := .long) (by decide) (by decide))))
    have f19 := (((F_a0_severelyErroredSeconds.other W2 (Or.inr (slot_ne (Or.inl (hw _ (List.mem_of_getElem? (i := 37) rfl))) (Or.inl (hw _ (List.mem_of_getElem? (i := 16) rfl))) (by decide) (t := .long) (t' := .boolean) (by decide) (by decide)))).other W6 (Or.inr (slot_ne (Or.inl (hw _ (List.mem_of_getElem? (i := 37) rfl))) (Or.inr (hw _ (List.mem_of_getElem? (i := 18) rfl))) (by decide) (t := .long) (t' := .long) (by decide) (by decide)))).other W10 (Or.inr (slot_ne (Or.inl (hw _ (List.mem_of_getElem? (i := 37) rfl))) (Or.inr (hw _ (List.mem_of_getElem? (i := 20) rfl))) (by decide) (t := .long) (t' := .long) (by decide) (by decide))))
    have f20 := (((F_a0_backgroundBlockErrors.other W2 (Or.inr (slot_ne (Or.inl (hw _ (List.mem_of_getElem? (i := 97) rfl))) (Or.inl (hw _ (List.mem_of_getElem? (i := 16) rfl))) (by decide) (t := .long) (t' := .boolean) (by decide) (by decide)))).other W6 (Or.inr (slot_ne (Or.inl (hw _ (List.mem_of_getElem? (i := 97) rfl))) (Or.inr (hw _ (List.mem_of_getElem? (i := 18) rfl))) (by decide) (t := .long) (t' := .long) (by decide) (by decide)))).other W10 (Or.inr (slot_ne (Or.inl (hw _ (List.mem_of_getElem? (i := 97) rfl))) (Or.inr (hw _ (List.mem_of_getElem? (i := 20) rfl))) (by decide) (t := .long) (t' := .long) (by decide) (by decide))))
    have f21 := (((F_a0_pending.other W2 (Or.inr (slot_ne (Or.inl (hw _ (List.mem_of_getElem? (i := 35) rfl))) (Or.inl (hw _ (List.mem_of_getElem? (i := 16) rfl))) (by decide) (t := .long) (t' := .boolean) (by decide) (by decide)))).other W6 (Or.inr (slot_ne (Or.inl (hw _ (List.mem_of_getElem? (i := 35) rfl))) (Or.inr (hw _ (List.mem_of_getElem? (i := 18) rfl))) (by decide) (t := .long) (t' := .long) (by decide) (by decide)))).other W10 (Or.inr (slot_ne (Or.inl (hw _ (List.mem_of_getElem? (i := 35) rfl))) (Or.inr (hw _ (List.mem_of_getElem? (i := 20) rfl))) (by decide) (t := .long) (t' := .long) (by decide) (by decide))))
    have f22 := (((F_a0_pendingErrored.other W2 (Or.inr (slot_ne (Or.inl (hw _ (List.mem_of_getElem? (i := 64) rfl))) (Or.inl (hw _ (List.mem_of_getElem? (i := 16) rfl))) (by decide) (t := .long) (t' := .boolean) (by decide) (by decide)))).other W6 (Or.inr (slot_ne (Or.inl (hw _ (List.mem_of_getElem? (i := 64) rfl))) (Or.inr (hw _ (List.mem_of_getElem? (i := 18) rfl))) (by decide) (t := .long) (t' := .long) (by decide) (by decide)))).other W10 (Or.inr (slot_ne (Or.inl (hw _ (List.mem_of_getElem? (i := 64) rfl))) (Or.inr (hw _ (List.mem_of_getElem? (i := 20) rfl))) (by decide) (t := .long) (t' := .long) (by decide) (by decide))))
    have f23 := (((F_a0_pendingBlocks.other W2 (Or.inr (slot_ne (Or.inl (hw _ (List.mem_of_getElem? (i := 66) rfl))) (Or.inl (hw _ (List.mem_of_getElem? (i := 16) rfl))) (by decide) (t := .long) (t' := .boolean) (by decide) (by decide)))).other W6 (Or.inr (slot_ne (Or.inl (hw _ (List.mem_of_getElem? (i := 66) rfl))) (Or.inr (hw _ (List.mem_of_getElem? (i := 18) rfl))) (by decide) (t := .long) (t' := .long) (by decide) (by decide)))).other W10 (Or.inr (slot_ne (Or.inl (hw _ (List.mem_of_getElem? (i := 66) rfl))) (Or.inr (hw _ (List.mem_of_getElem? (i := 20) rfl))) (by decide) (t := .long) (t' := .long) (by decide) (by decide))))
    have f24 := (((F_a0_period.other W2 (Or.inr (slot_ne (Or.inl (hw _ (List.mem_of_getElem? (i := 44) rfl))) (Or.inl (hw _ (List.mem_of_getElem? (i := 16) rfl))) (by decide) (t := .long) (t' := .boolean) (by decide) (by decide)))).other W6 (Or.inr (slot_ne (Or.inl (hw _ (List.mem_of_getElem? (i := 44) rfl))) (Or.inr (hw _ (List.mem_of_getElem? (i := 18) rfl))) (by decide) (t := .long) (t' := .long) (by decide) (by decide)))).other W10 (Or.inr (slot_ne (Or.inl (hw _ (List.mem_of_getElem? (i := 44) rfl))) (Or.inr (hw _ (List.mem_of_getElem? (i := 20) rfl))) (by decide) (t := .long) (t' := .long) (by decide) (by decide))))
    refine ⟨rfl, N10, kp11, f12, ?_, ?_, ?_, ?_, ?_, ?_, ?_, ?_, ?_, ?_, ?_, ?_, ?_⟩
    · exact f13
    · exact f14
    · exact Fw10
    · exact f15
    · exact f16
    · exact f17
    · exact f18
    · exact f19
    · exact f20
    · exact f21
    · exact f22
    · exact f23
    · exact f24
theorem d5_0 : decode prog_5_method_12_code 0 = .ok (.aload_n 0, 1) := by decide +kernel
theorem d5_1 : decode prog_5_method_12_code 1 = .ok (.dup, 1) := by decide +kernel
theorem d5_2 : decode prog_5_method_12_code 2 = .ok (.getfield 34, 3) := by decide +kernel
theorem d5_5 : decode prog_5_method_12_code 5 = .ok (.aload_n 0, 1) := by decide +kernel
theorem d5_6 : decode prog_5_method_12_code 6 = .ok (.getfield 23, 3) := by decide +kernel
theorem d5_9 : decode prog_5_method_12_code 9 = .ok (.ladd, 1) := by decide +kernel
theorem d5_10 : decode prog_5_method_12_code 10 = .ok (.putfield 34, 3) := by decide +kernel
theorem d5_13 : decode prog_5_method_12_code 13 = .ok (.aload_n 0, 1) := by decide +kernel
theorem d5_14 : decode prog_5_method_12_code 14 = .ok (.dup, 1) := by decide +kernel
theorem d5_15 : decode prog_5_method_12_code 15 = .ok (.getfield 68, 3) := by decide +kernel
theorem d5_18 : decode prog_5_method_12_code 18 = .ok (.aload_n 0, 1) := by decide +kernel
theorem d5_19 : decode prog_5_method_12_code 19 = .ok (.getfield 23, 3) := by decide +kernel
theorem d5_22 : decode prog_5_method_12_code 22 = .ok (.ladd, 1) := by decide +kernel
theorem d5_23 : decode prog_5_method_12_code 23 = .ok (.putfield 68, 3) := by decide +kernel
theorem d5_26 : decode prog_5_method_12_code 26 = .ok (.aload_n 0, 1) := by decide +kernel
theorem d5_27 : decode prog_5_method_12_code 27 = .ok (.lconst 0, 1) := by decide +kernel
theorem d5_28 : decode prog_5_method_12_code 28 = .ok (.putfield 23, 3) := by decide +kernel
theorem d5_31 : decode prog_5_method_12_code 31 = .ok (.return_, 1) := by decide +kernel
theorem ef_5 (m : MethodId) (a0 : Addr) : entryFrame m #[(.ref a0)] 1 = mkF m 0 #[.val (.ref a0)] [] := by first | (simp [entryFrame, mkF, argsToLocals, Value.category]; done) | rfl
def Q5 (Z : State) (a0 : Addr) (th : Int64) (xt : Int64) (sc : Int64) (us : Int64) (xs : Int64) (es : Int64) (ss : Int64) (bb : Int64) (pe : Int64) (pq : Int64) (pb : Int64) (pd : Int64) (h0 : Heap) (n0 : Nat) (v : Option Value) (h : Heap) (L : List Loc) : Prop := v = none ∧ Fr n0 L ∧ Keep h0 h [a0] ∧ Exa Z h a0 "com/example/hopchuan/hopchuan/ErrorCounter" ∧ Fld Z h a0 "com/example/hopchuan/hopchuan/ErrorCounter" "available" "Z" (.int (1 : Int32)) ∧ Fld Z h a0 "com/example/hopchuan/hopchuan/ErrorCounter" "sesErroredBlocks" "J" (.long th) ∧ Fld Z h a0 "com/example/hopchuan/hopchuan/ErrorCounter" "extendingPeriodSeconds" "J" (.long xt) ∧ Fld Z h a0 "com/example/hopchuan/hopchuan/ErrorCounter" "seconds" "J" (.long sc) ∧ Fld Z h a0 "com/example/hopchuan/hopchuan/ErrorCounter" "unavailableSeconds" "J" (.long us) ∧ Fld Z h a0 "com/example/hopchuan/hopchuan/ErrorCounter" "extendingSeconds" "J" (.long xs) ∧ Fld Z h a0 "com/example/hopchuan/hopchuan/ErrorCounter" "erroredSeconds" "J" (.long (es + pe)) ∧ Fld Z h a0 "com/example/hopchuan/hopchuan/ErrorCounter" "severelyErroredSeconds" "J" (.long (ss + pe)) ∧ Fld Z h a0 "com/example/hopchuan/hopchuan/ErrorCounter" "backgroundBlockErrors" "J" (.long bb) ∧ Fld Z h a0 "com/example/hopchuan/hopchuan/ErrorCounter" "pending" "J" (.long (0 : Int64)) ∧ Fld Z h a0 "com/example/hopchuan/hopchuan/ErrorCounter" "pendingErrored" "J" (.long pq) ∧ Fld Z h a0 "com/example/hopchuan/hopchuan/ErrorCounter" "pendingBlocks" "J" (.long pb) ∧ Fld Z h a0 "com/example/hopchuan/hopchuan/ErrorCounter" "period" "J" (.long pd)
set_option maxRecDepth 65536 in
set_option maxHeartbeats 40000000 in
theorem rm5 (l : Launch) (Z : State) (aw : Array Value) (hw : ∀ d ∈ tables_1, d.before aw Z = true) (wq : List Jvm.Cond) (a0 : Addr) (th : Int64) (xt : Int64) (sc : Int64) (us : Int64) (xs : Int64) (es : Int64) (ss : Int64) (bb : Int64) (pe : Int64) (pq : Int64) (pb : Int64) (pd : Int64) (h0 : Heap) (n0 : Nat) (Z0 : n0 ≤ h0.size) (E_a0 : Exa Z h0 a0 "com/example/hopchuan/hopchuan/ErrorCounter") (F_a0_available : Fld Z h0 a0 "com/example/hopchuan/hopchuan/ErrorCounter" "available" "Z" (.int (1 : Int32))) (F_a0_sesErroredBlocks : Fld Z h0 a0 "com/example/hopchuan/hopchuan/ErrorCounter" "sesErroredBlocks" "J" (.long th)) (F_a0_extendingPeriodSeconds : Fld Z h0 a0 "com/example/hopchuan/hopchuan/ErrorCounter" "extendingPeriodSeconds" "J" (.long xt)) (F_a0_seconds : Fld Z h0 a0 "com/example/hopchuan/hopchuan/ErrorCounter" "seconds" "J" (.long sc)) (F_a0_unavailableSeconds : Fld Z h0 a0 "com/example/hopchuan/hopchuan/ErrorCounter" "unavailableSeconds" "J" (.long us)) (F_a0_extendingSeconds : Fld Z h0 a0 "com/example/hopchuan/hopchuan/ErrorCounter" "extendingSeconds" "J" (.long xs)) (F_a0_erroredSeconds : Fld Z h0 a0 "com/example/hopchuan/hopchuan/ErrorCounter" "erroredSeconds" "J" (.long es)) (F_a0_severelyErroredSeconds : Fld Z h0 a0 "com/example/hopchuan/hopchuan/ErrorCounter" "severelyErroredSeconds" "J" (.long ss)) (F_a0_backgroundBlockErrors : Fld Z h0 a0 "com/example/hopchuan/hopchuan/ErrorCounter" "backgroundBlockErrors" "J" (.long bb)) (F_a0_pending : Fld Z h0 a0 "com/example/hopchuan/hopchuan/ErrorCounter" "pending" "J" (.long pe)) (F_a0_pendingErrored : Fld Z h0 a0 "com/example/hopchuan/hopchuan/ErrorCounter" "pendingErrored" "J" (.long pq)) (F_a0_pendingBlocks : Fld Z h0 a0 "com/example/hopchuan/hopchuan/ErrorCounter" "pendingBlocks" "J" (.long pb)) (F_a0_period : Fld Z h0 a0 "com/example/hopchuan/hopchuan/ErrorCounter" "period" "J" (.long pd)) (g_a0 : n0 ≤ a0) :
    MetFree l (⟨"com/example/hopchuan/hopchuan/ErrorCounter", "settleAvailableRun", "()V"⟩ : MethodName) (head1 (Jvm.Cond.code (⟨"com/example/hopchuan/hopchuan/ErrorCounter", "settleAvailableRun", "()V"⟩ : MethodName) prog_5_method_12_code 1 none :: wq) ({ frames := 0, cells := 0, slots := 0, locals := 0 } : Room)) (fun a U => a = #[(.ref a0)] ∧ Z.Warmed39 U.vm ∧ U.heap = h0) (fun _ _ _ _ _ => True) (fun _ U o U' => ∃ v L, o = .returned v ∧ Q5 Z a0 th xt sc us xs es ss bb pe pq pb pd h0 n0 v U'.heap L ∧ FrameEnd U o U' L ({ frames := 0, cells := 0, slots := 0, locals := 0 } : Room).cells ({ frames := 0, cells := 0, slots := 0, locals := 0 } : Room).slots) := by
  refine MetFree.of_bodySF (plainFor_of_name pn_0) hisR ?_
  intro p e s m args below meth c s₁ Bd hml0 hP hK
  obtain ⟨rfl, hZ, hh⟩ := hP
  have hx := Bd.exec
  have hby := Bd.bytes
  have hml : c.maxLocals = 1 := hml0
  have hown : s.vm.findClass "com/example/hopchuan/hopchuan/ErrorCounter" = some m.cls := findClass_of_methodNamed Bd.named
  have hnm := (name_of_methodNamed Bd.named Bd.method).1
  have X0 : Stand p l e ({ frames := 0, cells := 0, slots := 0, locals := 0 } : Room) s m #[(.ref a0)] below meth c s₁ [] 0 0 := Stand.of_body Bd
  have e0 : s₁.heap = h0 := by rw [← hh, Bd.state]; rfl
  have N0 := Fr.nil n0
  have pre0 : own_Pre p e below (s₁.setTop (entryFrame m #[(.ref a0)] 1)) (s₁.setTop (mkF m 0 #[.val (.ref a0)] [])) := fun t k => castTop (ef_5 m a0) k
  obtain ⟨T1, X1, e1, st1⟩ := getF X0 hx hZ hown (host := "") (Or.inl (hw _ (List.mem_of_getElem? (i := 32) rfl))) Via.refl e0 F_a0_erroredSeconds (g := (mkF m 2 #[.val (.ref a0)] [(.ref a0), (.ref a0)])) rfl rfl (hb hby d5_2)
  obtain ⟨T2, X2, e2, st2⟩ := getF X1 hx hZ hown (host := "") (Or.inl (hw _ (List.mem_of_getElem? (i := 34) rfl))) Via.refl e1 F_a0_pending (g := (mkF m 6 #[.val (.ref a0)] [(.ref a0), (.long es), (.ref a0)])) rfl rfl (hb hby d5_6)
  obtain ⟨T3, h3, X3, e3, W3, st3⟩ := putF X2 hx hZ hown (host := "") (Or.inl (hw _ (List.mem_of_getElem? (i := 32) rfl))) Via.refl e2 F_a0_erroredSeconds E_a0 (Or.inl (hw _ (List.mem_of_getElem? (i := 33) rfl))) (hw _ (List.mem_of_getElem? (i := 7) rfl)) (ty := .long) (by decide) rfl rfl (g := (mkF m 10 #[.val (.ref a0)] [(.long (es + pe)), (.ref a0)])) rfl rfl (hb hby d5_10)
  have Fw3 := F_a0_erroredSeconds.same W3
  have N3 := Fr.snoc X3 N0 g_a0
  have kp4 : Keep h0 h3 [a0] := (Keep.refl h0 [a0]).wr W3 (Or.inl (List.mem_of_getElem? (i := 0) rfl))
  have f5 := (F_a0_severelyErroredSeconds.other W3 (Or.inr (slot_ne (Or.inl (hw _ (List.mem_of_getElem? (i := 37) rfl))) (Or.inl (hw _ (List.mem_of_getElem? (i := 33) rfl))) (by decide) (t := .long) (t' := .long) (by decide) (by decide))))
  obtain ⟨T6, X6, e6, st6⟩ := getF X3 hx hZ hown (host := "") (Or.inl (hw _ (List.mem_of_getElem? (i := 36) rfl))) Via.refl e3 f5 (g := (mkF m 15 #[.val (.ref a0)] [(.ref a0), (.ref a0)])) rfl rfl (hb hby d5_15)
  have f7 := (F_a0_pending.other W3 (Or.inr (slot_ne (Or.inl (hw _ (List.mem_of_getElem? (i := 35) rfl))) (Or.inl (hw _ (List.mem_of_getElem? (i := 33) rfl))) (by decide) (t := .long) (t' := .long) (by decide) (by decide))))
  obtain ⟨T8, X8, e8, st8⟩ := getF X6 hx hZ hown (host := "") (Or.inl (hw _ (List.mem_of_getElem? (i := 34) rfl))) Via.refl e6 f7 (g := (mkF m 19 #[.val (.ref a0)] [(.ref a0), (.long ss), (.ref a0)])) rfl rfl (hb hby d5_19)
  have f9 := (E_a0.wr W3)
  obtain ⟨T10, h10, X10, e10, W10, st10⟩ := putF X8 hx hZ hown (host := "") (Or.inl (hw _ (List.mem_of_getElem? (i := 36) rfl))) Via.refl e8 f5 f9 (Or.inl (hw _ (List.mem_of_getElem? (i := 37) rfl))) (hw _ (List.mem_of_getElem? (i := 7) rfl)) (ty := .long) (by decide) rfl rfl (g := (mkF m 23 #[.val (.ref a0)] [(.long (ss + pe)), (.ref a0)])) rfl rfl (hb hby d5_23)
  have Fw10 := f5.same W10
  have N10 := Fr.snoc X10 N3 g_a0
  have kp11 : Keep h0 h10 [a0] := kp4.wr W10 (Or.inl (List.mem_of_getElem? (i := 0) rfl))
  have f12 := (f9.wr W10)
  have f13 := (f7.other W10 (Or.inr (slot_ne (Or.inl (hw _ (List.mem_of_getElem? (i := 35) rfl))) (Or.inl (hw _ (List.mem_of_getElem? (i := 37) rfl))) (by decide) (t := .long) (t' := .long) (by decide) (by decide))))
  obtain ⟨T14, h14, X14, e14, W14, st14⟩ := putF X10 hx hZ hown (host := "") (Or.inl (hw _ (List.mem_of_getElem? (i := 34) rfl))) Via.refl e10 f13 f12 (Or.inl (hw _ (List.mem_of_getElem? (i := 35) rfl))) (hw _ (List.mem_of_getElem? (i := 7) rfl)) (ty := .long) (by decide) rfl rfl (g := (mkF m 28 #[.val (.ref a0)] [(.long (0 : Int64)), (.ref a0)])) rfl rfl (hb hby d5_28)
  have Fw14 := f13.same W14
  have N14 := Fr.snoc X14 N10 g_a0
  have kp15 : Keep h0 h14 [a0] := kp11.wr W14 (Or.inl (List.mem_of_getElem? (i := 0) rfl))
  obtain ⟨fs, hr, hrun, hended, hW, hsame⟩ := X14.leave (v := none) (fun _ => rfl)
  refine ⟨_, _, pre0 _ ?_, hrun, hended, _, _, rfl, ?_, ⟨_, rfl⟩, hW, hsame.mono (by decide) (by decide)⟩
  · show Steps p.tables e below (s₁.setTop (mkF m 0 #[.val (.ref a0)] [])) _
    refine XS.aloadN X0.here hx rfl (hb hby d5_0) rfl rfl ?_
    show Steps p.tables e below (s₁.setTop (mkF m 1 #[.val (.ref a0)] [(.ref a0)])) _
    refine XS.dup X0.here hx rfl (hb hby d5_1) rfl rfl ?_
    show Steps p.tables e below (s₁.setTop (mkF m 2 #[.val (.ref a0)] [(.ref a0), (.ref a0)])) _
    refine st1 _ ?_
    show Steps p.tables e below (T1.setTop (mkF m 5 #[.val (.ref a0)] [(.long es), (.ref a0)])) _
    refine XS.aloadN X1.here hx rfl (hb hby d5_5) rfl rfl ?_
    show Steps p.tables e below (T1.setTop (mkF m 6 #[.val (.ref a0)] [(.ref a0), (.long es), (.ref a0)])) _
    refine st2 _ ?_
    show Steps p.tables e below (T2.setTop (mkF m 9 #[.val (.ref a0)] [(.long pe), (.long es), (.ref a0)])) _
    refine XS.ladd X2.here hx rfl (hb hby d5_9) rfl ?_
    show Steps p.tables e below (T2.setTop (mkF m 10 #[.val (.ref a0)] [(.long (es + pe)), (.ref a0)])) _
    refine st3 _ ?_
    show Steps p.tables e below (T3.setTop (mkF m 13 #[.val (.ref a0)] [])) _
    refine XS.aloadN X3.here hx rfl (hb hby d5_13) rfl rfl ?_
    show Steps p.tables e below (T3.setTop (mkF m 14 #[.val (.ref a0)] [(.ref a0)])) _
    refine XS.dup X3.here hx rfl (hb hby d5_14) rfl rfl ?_
    show Steps p.tables e below (T3.setTop (mkF m 15 #[.val (.ref a0)] [(.ref a0), (.ref a0)])) _
    refine st6 _ ?_
    show Steps p.tables e below (T6.setTop (mkF m 18 #[.val (.ref a0)] [(.long ss), (.ref a0)])) _
    refine XS.aloadN X6.here hx rfl (hb hby d5_18) rfl rfl ?_
    show Steps p.tables e below (T6.setTop (mkF m 19 #[.val (.ref a0)] [(.ref a0), (.long ss), (.ref a0)])) _
    refine st8 _ ?_
    show Steps p.tables e below (T8.setTop (mkF m 22 #[.val (.ref a0)] [(.long pe), (.long ss), (.ref a0)])) _
    refine XS.ladd X8.here hx rfl (hb hby d5_22) rfl ?_
    show Steps p.tables e below (T8.setTop (mkF m 23 #[.val (.ref a0)] [(.long (ss + pe)), (.ref a0)])) _
    refine st10 _ ?_
    show Steps p.tables e below (T10.setTop (mkF m 26 #[.val (.ref a0)] [])) _
    refine XS.aloadN X10.here hx rfl (hb hby d5_26) rfl rfl ?_
    show Steps p.tables e below (T10.setTop (mkF m 27 #[.val (.ref a0)] [(.ref a0)])) _
    refine XS.lconst X10.here hx rfl (hb hby d5_27) ?_
    show Steps p.tables e below (T10.setTop (mkF m 28 #[.val (.ref a0)] [(.long (0 : Int64)), (.ref a0)])) _
    refine st14 _ ?_
    show Steps p.tables e below (T14.setTop (mkF m 31 #[.val (.ref a0)] [])) _
    exact X14.returnOut hx Bd.returns (hb hby d5_31) hr
  · show Q5 Z a0 th xt sc us xs es ss bb pe pq pb pd h0 n0 _ T14.heap _
    rw [e14]
    unfold Q5
    have f16 := (f12.wr W14)
    have f17 := (((F_a0_available.other W3 (Or.inr (slot_ne (Or.inl (hw _ (List.mem_of_getElem? (i := 16) rfl))) (Or.inl (hw _ (List.mem_of_getElem? (i := 33) rfl))) (by decide) (t := .boolean) (t' := .long) (by decide) (by decide)))).other W10 (Or.inr (slot_ne (Or.inl (hw _ (List.mem_of_getElem? (i := 16) rfl))) (Or.inl (hw _ (List.mem_of_getElem? (i := 37) rfl))) (by decide) (t := .boolean) (t' := .long) (by decide) (by decide)))).other W14 (Or.inr (slot_ne (Or.inl (hw _ (List.mem_of_getElem? (i := 16) rfl))) (Or.inl (hw _ (List.mem_of_getElem? (i := 35) rfl))) (by decide) (t := .boolean) (t' := .long) (by decide) (by decide))))
    have f18 := (((F_a0_sesErroredBlocks.other W3 (Or.inr (slot_ne (Or.inr (hw _ (List.mem_of_getElem? (i := 18) rfl))) (Or.inl (hw _ (List.mem_of_getElem? (i := 33) rfl))) (by decide) (t := .long) (t' := .long) (by decide) (by decide)))).other W10 (Or.inr (slot_ne (Or.inr (hw _ (List.mem_of_getElem? (i := 18) rfl))) (Or.inl (hw _ (List.mem_of_getElem? (i := 37) rfl))) (by decide) (t := .long) (t' := .long) (by decide) (by decide)))).other W14 (Or.inr (slot_ne (Or.inr (hw _ (List.mem_of_getElem? (i := 18) rfl))) (Or.inl (hw _ (List.mem_of_getElem? (i := 35) rfl))) (by decide) (t := .long) (t' := .long) (by decide) (by decide))))
    have f19 := (((F_a0_extendingPeriodSeconds.other W3 (Or.inr (slot_ne (Or.inr (hw _ (List.mem_of_getElem? (i := 20) rfl))) (Or.inl (hw _ (List.mem_of_getElem? (i := 33) rfl))) (by decide) (t := .long) (t' := .long) (by decide) (by decide)))).other W10 (Or.inr (slot_ne (Or.inr (hw _ (List.mem_of_getElem? (i := 20) rfl))) (Or.inl (hw _ (List.mem_of_getElem? (i := 37) rfl))) (by decide) (t := .long) (t' := .long) (by decide) (by decide)))).other W14 (Or.inr (slot_ne (Or.inr (hw _ (List.mem_of_getElem? (i := 20) rfl))) (Or.inl (hw _ (List.mem_of_getElem? (i := 35) rfl))) (by decide) (t := .long) (t' := .long) (by decide) (by decide))))
    have f20 := (((F_a0_seconds.other W3 (Or.inr (slot_ne (Or.inl (hw _ (List.mem_of_getElem? (i := 27) rfl))) (Or.inl (hw _ (List.mem_of_getElem? (i := 33) rfl))) (by decide) (t := .long) (t' := .long) (by decide) (by decide)))).other W10 (Or.inr (slot_ne (Or.inl (hw _ (List.mem_of_getElem? (i := 27) rfl))) (Or.inl (hw _ (List.mem_of_getElem? (i := 37) rfl))) (by decide) (t := .long) (t' := .long) (by decide) (by decide)))).other W14 (Or.inr (slot_ne (Or.inl (hw _ (List.mem_of_getElem? (i := 27) rfl))) (Or.inl (hw _ (List.mem_of_getElem? (i := 35) rfl))) (by decide) (t := .long) (t' := .long) (by decide) (by decide))))
    have f21 := (((F_a0_unavailableSeconds.other W3 (Or.inr (slot_ne (Or.inl (hw _ (List.mem_of_getElem? (i := 72) rfl))) (Or.inl (hw _ (List.mem_of_getElem? (i := 33) rfl))) (by decide) (t := .long) (t' := .long) (by decide) (by decide)))).other W10 (Or.inr (slot_ne (Or.inl (hw _ (List.mem_of_getElem? (i := 72) rfl))) (Or.inl (hw _ (List.mem_of_getElem? (i := 37) rfl))) (by decide) (t := .long) (t' := .long) (by decide) (by decide)))).other W14 (Or.inr (slot_ne (Or.inl (hw _ (List.mem_of_getElem? (i := 72) rfl))) (Or.inl (hw _ (List.mem_of_getElem? (i := 35) rfl))) (by decide) (t := .long) (t' := .long) (by decide) (by decide))))
    have f22 := (((F_a0_extendingSeconds.other W3 (Or.inr (slot_ne (Or.inl (hw _ (List.mem_of_getElem? (i := 74) rfl))) (Or.inl (hw _ (List.mem_of_getElem? (i := 33) rfl))) (by decide) (t := .long) (t' := .long) (by decide) (by decide)))).other W10 (Or.inr (slot_ne (Or.inl (hw _ (List.mem_of_getElem? (i := 74) rfl))) (Or.inl (hw _ (List.mem_of_getElem? (i := 37) rfl))) (by decide) (t := .long) (t' := .long) (by decide) (by decide)))).other W14 (Or.inr (slot_ne (Or.inl (hw _ (List.mem_of_getElem? (i := 74) rfl))) (Or.inl (hw _ (List.mem_of_getElem? (i := 35) rfl))) (by decide) (t := .long) (t' := .long) (by decide) (by decide))))
    have f23 := ((Fw3.other W10 (Or.inr (slot_ne (Or.inl (hw _ (List.mem_of_getElem? (i := 33) rfl))) (Or.inl (hw _ (List.mem_of_getElem? (i := 37) rfl))) (by decide) (t := .long) (t' := .long) (by decide) (by decide)))).other W14 (Or.inr (slot_ne (Or.inl (hw _ (List.mem_of_getElem? (i := 33) rfl))) (Or.inl (hw _ (List.mem_of_getElem? (i := 35) rfl))) (by decide) (t := .long) (t' := .long) (by decide) (by decide))))
    have f24 := (Fw10.other W14 (Or.inr (slot_ne (Or.inl (hw _ (List.mem_of_getElem? (i := 37) rfl))) (Or.inl (hw _ (List.mem_of_getElem? (i := 35) rfl))) (by decide) (t := .long) (t' := .long) (by decide) (by decide))))
    have f25 := (((F_a0_backgroundBlockErrors.other W3 (Or.inr (slot_ne (Or.inl (hw _ (List.mem_of_getElem? (i := 97) rfl))) (Or.inl (hw _ (List.mem_of_getElem? (i := 33) rfl))) (by decide) (t := .long) (t' := .long) (by decide) (by decide)))).other W10 (Or.inr (slot_ne (Or.inl (hw _ (List.mem_of_getElem? (i := 97) rfl))) (Or.inl (hw _ (List.mem_of_getElem? (i := 37) rfl))) (by decide) (t := .long) (t' := .long) (by decide) (by decide)))).other W14 (Or.inr (slot_ne (Or.inl (hw _ (List.mem_of_getElem? (i := 97) rfl))) (Or.inl (hw _ (List.mem_of_getElem? (i := 35) rfl))) (by decide) (t := .long) (t' := .long) (by decide) (by decide))))
    have f26 := (((F_a0_pendingErrored.other W3 (Or.inr (slot_ne (Or.inl (hw _ (List.mem_of_getElem? (i := 64) rfl))) (Or.inl (hw _ (List.mem_of_getElem? (i := 33) rfl))) (by decide) (t := .long) (t' := .long) (by decide) (by decide)))).other W10 (Or.inr (slot_ne (Or.inl (hw _ (List.mem_of_getElem? (i := 64) rfl))) (Or.inl (hw _ (List.mem_of_getElem? (i := 37) rfl))) (by decide) (t := .long) (t' := .long) (by decide) (by decide)))).other W14 (Or.inr (slot_ne (Or.inl (hw _ (List.mem_of_getElem? (i := 64) rfl))) (Or.inl (hw _ (List.mem_of_getElem? (i := 35) rfl))) (by decide) (t := .long) (t' := .long) (by decide) (by decide))))
    have f27 := (((F_a0_pendingBlocks.other W3 (Or.inr (slot_ne (Or.inl (hw _ (List.mem_of_getElem? (i := 66) rfl))) (Or.inl (hw _ (List.mem_of_getElem? (i := 33) rfl))) (by decide) (t := .long) (t' := .long) (by decide) (by decide)))).other W10 (Or.inr (slot_ne (Or.inl (hw _ (List.mem_of_getElem? (i := 66) rfl))) (Or.inl (hw _ (List.mem_of_getElem? (i := 37) rfl))) (by decide) (t := .long) (t' := .long) (by decide) (by decide)))).other W14 (Or.inr (slot_ne (Or.inl (hw _ (List.mem_of_getElem? (i := 66) rfl))) (Or.inl (hw _ (List.mem_of_getElem? (i := 35) rfl))) (by decide) (t := .long) (t' := .long) (by decide) (by decide))))
    have f28 := (((F_a0_period.other W3 (Or.inr (slot_ne (Or.inl (hw _ (List.mem_of_getElem? (i := 44) rfl))) (Or.inl (hw _ (List.mem_of_getElem? (i := 33) rfl))) (by decide) (t := .long) (t' := .long) (by decide) (by decide)))).other W10 (Or.inr (slot_ne (Or.inl (hw _ (List.mem_of_getElem? (i := 44) rfl))) (Or.inl (hw _ (List.mem_of_getElem? (i := 37) rfl))) (by decide) (t := .long) (t' := .long) (by decide) (by decide)))).other W14 (Or.inr (slot_ne (Or.inl (hw _ (List.mem_of_getElem? (i := 44) rfl))) (Or.inl (hw _ (List.mem_of_getElem? (i := 35) rfl))) (by decide) (t := .long) (t' := .long) (by decide) (by decide))))
    refine ⟨rfl, N14, kp15, f16, ?_, ?_, ?_, ?_, ?_, ?_, ?_, ?_, ?_, ?_, ?_, ?_, ?_⟩
    · exact f17
    · exact f18
    · exact f19
    · exact f20
    · exact f21
    · exact f22
    · exact f23
    · exact f24
    · exact f25
    · exact Fw14
    · exact f26
    · exact f27
    · exact f28
theorem d10_0 : decode prog_5_method_13_code 0 = .ok (.aload_n 0, 1) := by decide +kernel
theorem d10_1 : decode prog_5_method_13_code 1 = .ok (.lconst 0, 1) := by decide +kernel
theorem d10_2 : decode prog_5_method_13_code 2 = .ok (.putfield 23, 3) := by decide +kernel
theorem d10_5 : decode prog_5_method_13_code 5 = .ok (.aload_n 0, 1) := by decide +kernel
theorem d10_6 : decode prog_5_method_13_code 6 = .ok (.lconst 0, 1) := by decide +kernel
theorem d10_7 : decode prog_5_method_13_code 7 = .ok (.putfield 43, 3) := by decide +kernel
theorem d10_10 : decode prog_5_method_13_code 10 = .ok (.aload_n 0, 1) := by decide +kernel
theorem d10_11 : decode prog_5_method_13_code 11 = .ok (.lconst 0, 1) := by decide +kernel
theorem d10_12 : decode prog_5_method_13_code 12 = .ok (.putfield 46, 3) := by decide +kernel
theorem d10_15 : decode prog_5_method_13_code 15 = .ok (.return_, 1) := by decide +kernel
theorem ef_10 (m : MethodId) (a0 : Addr) : entryFrame m #[(.ref a0)] 1 = mkF m 0 #[.val (.ref a0)] [] := by first | (simp [entryFrame, mkF, argsToLocals, Value.category]; done) | rfl
def Q10 (Z : State) (a0 : Addr) (th : Int64) (xt : Int64) (sc : Int64) (us : Int64) (xs : Int64) (es : Int64) (ss : Int64) (bb : Int64) (pe : Int64) (pq : Int64) (pb : Int64) (pd : Int64) (h0 : Heap) (n0 : Nat) (v : Option Value) (h : Heap) (L : List Loc) : Prop := v = none ∧ Fr n0 L ∧ Keep h0 h [a0] ∧ Exa Z h a0 "com/example/hopchuan/hopchuan/ErrorCounter" ∧ Fld Z h a0 "com/example/hopchuan/hopchuan/ErrorCounter" "available" "Z" (.int (0 : Int32)) ∧ Fld Z h a0 "com/example/hopchuan/hopchuan/ErrorCounter" "sesErroredBlocks" "J" (.long th) ∧ Fld Z h a0 "com/example/hopchuan/hopchuan/ErrorCounter" "extendingPeriodSeconds" "J" (.long xt) ∧ Fld Z h a0 "com/example/hopchuan/hopchuan/ErrorCounter" "seconds" "J" (.long sc) ∧ Fld Z h a0 "com/example/hopchuan/hopchuan/ErrorCounter" "unavailableSeconds" "J" (.long us) ∧ Fld Z h a0 "com/example/hopchuan/hopchuan/ErrorCounter" "extendingSeconds" "J" (.long xs) ∧ Fld Z h a0 "com/example/hopchuan/hopchuan/ErrorCounter" "erroredSeconds" "J" (.long es) ∧ Fld Z h a0 "com/example/hopchuan/hopchuan/ErrorCounter" "severelyErroredSeconds" "J" (.long ss) ∧ Fld Z h a0 "com/example/hopchuan/hopchuan/ErrorCounter" "backgroundBlockErrors" "J" (.long bb) ∧ Fld Z h a0 "com/example/hopchuan/hopchuan/ErrorCounter" "pending" "J" (.long (0 : Int64)) ∧ Fld Z h a0 "com/example/hopchuan/hopchuan/ErrorCounter" "pendingErrored" "J" (.long (0 : Int64)) ∧ Fld Z h a0 "com/example/hopchuan/hopchuan/ErrorCounter" "pendingBlocks" "J" (.long (0 : Int64)) ∧ Fld Z h a0 "com/example/hopchuan/hopchuan/ErrorCounter" "period" "J" (.long pd)
set_option maxRecDepth 65536 in
set_option maxHeartbeats 40000000 in
theorem rm10 (l : Launch) (Z : State) (aw : Array Value) (hw : ∀ d ∈ tables_1, d.before aw Z = true) (wq : List Jvm.Cond) (a0 : Addr) (th : Int64) (xt : Int64) (sc : Int64) (us : Int64) (xs : Int64) (es : Int64) (ss : Int64) (bb : Int64) (pe : Int64) (pq : Int64) (pb : Int64) (pd : Int64) (h0 : Heap) (n0 : Nat) (Z0 : n0 ≤ h0.size) (E_a0 : Exa Z h0 a0 "com/example/hopchuan/hopchuan/ErrorCounter") (F_a0_available : Fld Z h0 a0 "com/example/hopchuan/hopchuan/ErrorCounter" "available" "Z" (.int (0 : Int32))) (F_a0_sesErroredBlocks : Fld Z h0 a0 "com/example/hopchuan/hopchuan/ErrorCounter" "sesErroredBlocks" "J" (.long th)) (F_a0_extendingPeriodSeconds : Fld Z h0 a0 "com/example/hopchuan/hopchuan/ErrorCounter" "extendingPeriodSeconds" "J" (.long xt)) (F_a0_seconds : Fld Z h0 a0 "com/example/hopchuan/hopchuan/ErrorCounter" "seconds" "J" (.long sc)) (F_a0_unavailableSeconds : Fld Z h0 a0 "com/example/hopchuan/hopchuan/ErrorCounter" "unavailableSeconds" "J" (.long us)) (F_a0_extendingSeconds : Fld Z h0 a0 "com/example/hopchuan/hopchuan/ErrorCounter" "extendingSeconds" "J" (.long xs)) (F_a0_erroredSeconds : Fld Z h0 a0 "com/example/hopchuan/hopchuan/ErrorCounter" "erroredSeconds" "J" (.long es)) (F_a0_severelyErroredSeconds : Fld Z h0 a0 "com/example/hopchuan/hopchuan/ErrorCounter" "severelyErroredSeconds" "J" (.long ss)) (F_a0_backgroundBlockErrors : Fld Z h0 a0 "com/example/hopchuan/hopchuan/ErrorCounter" "backgroundBlockErrors" "J" (.long bb)) (F_a0_pending : Fld Z h0 a0 "com/example/hopchuan/hopchuan/ErrorCounter" "pending" "J" (.long pe)) (F_a0_pendingErrored : Fld Z h0 a0 "com/example/hopchuan/hopchuan/ErrorCounter" "pendingErrored" "J" (.long pq)) (F_a0_pendingBlocks : Fld Z h0 a0 "com/example/hopchuan/hopchuan/ErrorCounter" "pendingBlocks" "J" (.long pb)) (F_a0_period : Fld Z h0 a0 "com/example/hopchuan/hopchuan/ErrorCounter" "period" "J" (.long pd)) (g_a0 : n0 ≤ a0) :
    MetFree l (⟨"com/example/hopchuan/hopchuan/ErrorCounter", "clearPending", "()V"⟩ : MethodName) (head1 (Jvm.Cond.code (⟨"com/example/hopchuan/hopchuan/ErrorCounter", "clearPending", "()V"⟩ : MethodName) prog_5_method_13_code 1 none :: wq) ({ frames := 0, cells := 0, slots := 0, locals := 0 } : Room)) (fun a U => a = #[(.ref a0)] ∧ Z.Warmed39 U.vm ∧ U.heap = h0) (fun _ _ _ _ _ => True) (fun _ U o U' => ∃ v L, o = .returned v ∧ Q10 Z a0 th xt sc us xs es ss bb pe pq pb pd h0 n0 v U'.heap L ∧ FrameEnd U o U' L ({ frames := 0, cells := 0, slots := 0, locals := 0 } : Room).cells ({ frames := 0, cells := 0, slots := 0, locals := 0 } : Room).slots) := by
  refine MetFree.of_bodySF (plainFor_of_name pn_0) hisR ?_
  intro p e s m args below meth c s₁ Bd hml0 hP hK
  obtain ⟨rfl, hZ, hh⟩ := hP
  have hx := Bd.exec
  have hby := Bd.bytes
  have hml : c.maxLocals = 1 := hml0
  have hown : s.vm.findClass "com/example/hopchuan/hopchuan/ErrorCounter" = some m.cls := findClass_of_methodNamed Bd.named
  have hnm := (name_of_methodNamed Bd.named Bd.method).1
  have X0 : Stand p l e ({ frames := 0, cells := 0, slots := 0, locals := 0 } : Room) s m #[(.ref a0)] below meth c s₁ [] 0 0 := Stand.of_body Bd
  have e0 : s₁.heap = h0 := by rw [← hh, Bd.state]; rfl
  have N0 := Fr.nil n0
  have pre0 : own_Pre p e below (s₁.setTop (entryFrame m #[(.ref a0)] 1)) (s₁.setTop (mkF m 0 #[.val (.ref a0)] [])) := fun t k => castTop (ef_10 m a0) k
  obtain ⟨T1, h1, X1, e1, W1, st1⟩ := putF X0 hx hZ hown (host := "") (Or.inl (hw _ (List.mem_of_getElem? (i := 34) rfl))) Via.refl e0 F_a0_pending E_a0 (Or.inl (hw _ (List.mem_of_getElem? (i := 35) rfl))) (hw _ (List.mem_of_getElem? (i := 7) rfl)) (ty := .long) (by decide) rfl rfl (g := (mkF m 2 #[.val (.ref a0)] [(.long (0 : Int64)), (.ref a0)])) rfl rfl (hb hby d10_2)
  have Fw1 := F_a0_pending.same W1
  have N1 := Fr.snoc X1 N0 g_a0
  have kp2 : Keep h0 h1 [a0] := (Keep.refl h0 [a0]).wr W1 (Or.inl (List.mem_of_getElem? (i := 0) rfl))
  have f3 := (E_a0.wr W1)
  have f4 := (F_a0_pendingErrored.other W1 (Or.inr (slot_ne (Or.inl (hw _ (List.mem_of_getElem? (i := 64) rfl))) (Or.inl (hw _ (List.mem_of_getElem? (i := 35) rfl))) (by decide) (t := .long) (t' := .long) (by decide) (by decide))))
  obtain ⟨T5, h5, X5, e5, W5, st5⟩ := putF X1 hx hZ hown (host := "") (Or.inl (hw _ (List.mem_of_getElem? (i := 63) rfl))) Via.refl e1 f4 f3 (Or.inl (hw _ (List.mem_of_getElem? (i := 64) rfl))) (hw _ (List.mem_of_getElem? (i := 7) rfl)) (ty := .long) (by decide) rfl rfl (g := (mkF m 7 #[.val (.ref a0)] [(.long (0 : Int64)), (.ref a0)])) rfl rfl (hb hby d10_7)
  have Fw5 := f4.same W5
  have N5 := Fr.snoc X5 N1 g_a0
  have kp6 : Keep h0 h5 [a0] := kp2.wr W5 (Or.inl (List.mem_of_getElem? (i := 0) rfl))
  have f7 := (f3.wr W5)
  have f8 := ((F_a0_pendingBlocks.other W1 (Or.inr (slot_ne (Or.inl (hw _ (List.mem_of_getElem? (i := 66) rfl))) (Or.inl (hw _ (List.mem_of_getElem? (i := 35) rfl))) (by decide) (t := .long) (t' := .long) (by decide) (by decide)))).other W5 (Or.inr (slot_ne (Or.inl (hw _ (List.mem_of_getElem? (i := 66) rfl))) (Or.inl (hw _ (List.mem_of_getElem? (i := 64) rfl))) (by decide) (t := .long) (t' := .long) (by decide) (by decide))))
  obtain ⟨T9, h9, X9, e9, W9, st9⟩ := putF X5 hx hZ hown (host := "") (Or.inl (hw _ (List.mem_of_getElem? (i := 65) rfl))) Via.refl e5 f8 f7 (Or.inl (hw _ (List.mem_of_getElem? (i := 66) rfl))) (hw _ (List.mem_of_getElem? (i := 7) rfl)) (ty := .long) (by decide) rfl rfl (g := (mkF m 12 #[.val (.ref a0)] [(.long (0 : Int64)), (.ref a0)])) rfl rfl (hb hby d10_12)
  have Fw9 := f8.same W9
  have N9 := Fr.snoc X9 N5 g_a0
  have kp10 : Keep h0 h9 [a0] := kp6.wr W9 (Or.inl (List.mem_of_getElem? (i := 0) rfl))
  obtain ⟨fs, hr, hrun, hended, hW, hsame⟩ := X9.leave (v := none) (fun _ => rfl)
  refine ⟨_, _, pre0 _ ?_, hrun, hended, _, _, rfl, ?_, ⟨_, rfl⟩, hW, hsame.mono (by decide) (by decide)⟩
  · show Steps p.tables e below (s₁.setTop (mkF m 0 #[.val (.ref a0)] [])) _
    refine XS.aloadN X0.here hx rfl (hb hby d10_0) rfl rfl ?_
    show Steps p.tables e below (s₁.setTop (mkF m 1 #[.val (.ref a0)] [(.ref a0)])) _
    refine XS.lconst X0.here hx rfl (hb hby d10_1) ?_
    show Steps p.tables e below (s₁.setTop (mkF m 2 #[.val (.ref a0)] [(.long (0 : Int64)), (.ref a0)])) _
    refine st1 _ ?_
    show Steps p.tables e below (T1.setTop (mkF m 5 #[.val (.ref a0)] [])) _
    refine XS.aloadN X1.here hx rfl (hb hby d10_5) rfl rfl ?_
    show Steps p.tables e below (T1.setTop (mkF m 6 #[.val (.ref a0)] [(.ref a0)])) _
    refine XS.lconst X1.here hx rfl (hb hby d10_6) ?_
    show Steps p.tables e below (T1.setTop (mkF m 7 #[.val (.ref a0)] [(.long (0 : Int64)), (.ref a0)])) _
    refine st5 _ ?_
    show Steps p.tables e below (T5.setTop (mkF m 10 #[.val (.ref a0)] [])) _
    refine XS.aloadN X5.here hx rfl (hb hby d10_10) rfl rfl ?_
    show Steps p.tables e below (T5.setTop (mkF m 11 #[.val (.ref a0)] [(.ref a0)])) _
    refine XS.lconst X5.here hx rfl (hb hby d10_11) ?_
    show Steps p.tables e below (T5.setTop (mkF m 12 #[.val (.ref a0)] [(.long (0 : Int64)), (.ref a0)])) _
    refine st9 _ ?_
    show Steps p.tables e below (T9.setTop (mkF m 15 #[.val (.ref a0)] [])) _
    exact X9.returnOut hx Bd.returns (hb hby d10_15) hr
  · show Q10 Z a0 th xt sc us xs es ss bb pe pq pb pd h0 n0 _ T9.heap _
    rw [e9]
    unfold Q10
    have f11 := (f7.wr W9)
    have f12 := (((F_a0_available.other W1 (Or.inr (slot_ne (Or.inl (hw _ (List.mem_of_getElem? (i := 16) rfl))) (Or.inl (hw _ (List.mem_of_getElem? (i := 35) rfl))) (by decide) (t := .boolean) (t' := .long) (by decide) (by decide)))).other W5 (Or.inr (slot_ne (Or.inl (hw _ (List.mem_of_getElem? (i := 16) rfl))) (Or.inl (hw _ (List.mem_of_getElem? (i := 64) rfl))) (by decide) (t := .boolean) (t' := .long) (by decide) (by decide)))).other W9 (Or.inr (slot_ne (Or.inl (hw _ (List.mem_of_getElem? (i := 16) rfl))) (Or.inl (hw _ (List.mem_of_getElem? (i := 66) rfl))) (by decide) (t := .boolean) (t' := .long) (by decide) (by decide))))
    have f13 := (((F_a0_sesErroredBlocks.other W1 (Or.inr (slot_ne (Or.inr (hw _ (List.mem_of_getElem? (i := 18) rfl))) (Or.inl (hw _ (List.mem_of_getElem? (i := 35) rfl))) (by decide) (t := .long) (t' := .long) (by decide) (by decide)))).other W5 (Or.inr (slot_ne (Or.inr (hw _ (List.mem_of_getElem? (i := 18) rfl))) (Or.inl (hw _ (List.mem_of_getElem? (i := 64) rfl))) (by decide) (t := .long) (t' := .long) (by decide) (by decide)))).other W9 (Or.inr (slot_ne (Or.inr (hw _ (List.mem_of_getElem? (i := 18) rfl))) (Or.inl (hw _ (List.mem_of_getElem? (i := 66) rfl))) (by decide) (t := .long) (t' := .long) (by decide) (by decide))))
    have f14 := (((F_a0_extendingPeriodSeconds.other W1 (Or.inr (slot_ne (Or.inr (hw _ (List.mem_of_getElem? (i := 20) rfl))) (Or.inl (hw _ (List.mem_of_getElem? (i := 35) rfl))) (by decide) (t := .long) (t' := .long) (by decide) (by decide)))).other W5 (Or.inr (slot_ne (Or.inr (hw _ (List.mem_of_getElem? (i := 20) rfl))) (Or.inl (hw _ (List.mem_of_getElem? (i := 64) rfl))) (by decide) (t := .long) (t' := .long) (by decide) (by decide)))).other W9 (Or.inr (slot_ne (Or.inr (hw _ (List.mem_of_getElem? (i := 20) rfl))) (Or.inl (hw _ (List.mem_of_getElem? (i := 66) rfl))) (by decide) (t := .long) (t' := .long) (by decide) (by decide))))
    have f15 := (((F_a0_seconds.other W1 (Or.inr (slot_ne (Or.inl (hw _ (List.mem_of_getElem? (i := 27) rfl))) (Or.inl (hw _ (List.mem_of_getElem? (i := 35) rfl))) (by decide) (t := .long) (t' := .long) (by decide) (by decide)))).other W5 (Or.inr (slot_ne (Or.inl (hw _ (List.mem_of_getElem? (i := 27) rfl))) (Or.inl (hw _ (List.mem_of_getElem? (i := 64) rfl))) (by decide) (t := .long) (t' := .long) (by decide) (by decide)))).other W9 (Or.inr (slot_ne (Or.inl (hw _ (List.mem_of_getElem? (i := 27) rfl))) (Or.inl (hw _ (List.mem_of_getElem? (i := 66) rfl))) (by decide) (t := .long) (t' := .long) (by decide) (by decide))))
    have f16 := (((F_a0_unavailableSeconds.other W1 (Or.inr (slot_ne (Or.inl (hw _ (List.mem_of_getElem? (i := 72) rfl))) (Or.inl (hw _ (List.mem_of_getElem? (i := 35) rfl))) (by decide) (t := .long) (t' := .long) (by decide) (by decide)))).other W5 (Or.inr (slot_ne (Or.inl (hw _ (List.mem_of_getElem? (i := 72) rfl))) (Or.inl (hw _ (List.mem_of_getElem? (i := 64) rfl))) (by decide) (t := .long) (t' := .long) (by decide) (by decide)))).other W9 (Or.inr (slot_ne (Or.inl (hw _ (List.mem_of_getElem? (i := 72) rfl))) (Or.inl (hw _ (List.mem_of_getElem? (i := 66) rfl))) (by decide) (t := .long) (t' := .long) (by decide) (by decide))))
    have f17 := (((F_a0_extendingSeconds.other W1 (Or.inr (slot_ne (Or.inl (hw _ (List.mem_of_getElem? (i := 74) rfl))) (Or.inl (hw _ (List.mem_of_getElem? (i := 35) rfl))) (by decide) (t := .long) (t' := .long) (by decide) (by decide)))).other W5 (Or.inr (slot_ne (Or.inl (hw _ (List.mem_of_getElem? (i := 74) rfl))) (Or.inl (hw _ (List.mem_of_getElem? (i := 64) rfl))) (by decide) (t := .long) (t' := .long) (by decide) (by decide)))).other W9 (Or.inr (slot_ne (Or.inl (hw _ (List.mem_of_getElem? (i := 74) rfl))) (Or.inl (hw _ (List.mem_of_getElem? (i := 66) rfl))) (by decide) (t := .long) (t' := .long) (by decide) (by decide))))
    have f18 := (((F_a0_erroredSeconds.other W1 (Or.inr (slot_ne (Or.inl (hw _ (List.mem_of_getElem? (i := 33) rfl))) (Or.inl (hw _ (List.mem_of_getElem? (i := 35) rfl))) (by decide) (t := .long) (t' := .long) (by decide) (by decide)))).other W5 (Or.inr (slot_ne (Or.inl (hw _ (List.mem_of_getElem? (i := 33) rfl))) (Or.inl (hw _ (List.mem_of_getElem? (i := 64) rfl))) (by decide) (t := .long) (t' := .long) (by decide) (by decide)))).other W9 (Or.inr (slot_ne (Or.inl (hw _ (List.mem_of_getElem? (i := 33) rfl))) (Or.inl (hw _ (List.mem_of_getElem? (i := 66) rfl))) (by decide) (t := .long) (t' := .long) (by decide) (by decide))))
    have f19 := (((F_a0_severelyErroredSeconds.other W1 (Or.inr (slot_ne (Or.inl (hw _ (List.mem_of_getElem? (i := 37) rfl))) (Or.inl (hw _ (List.mem_of_getElem? (i := 35) rfl))) (by decide) (t := .long) (t' := .long) (by decide) (by decide)))).other W5 (Or.inr (slot_ne (Or.inl (hw _ (List.mem_of_getElem? (i := 37) rfl))) (Or.inl (hw _ (List.mem_of_getElem? (i := 64) rfl))) (by decide) (t := .long) (t' := .long) (by decide) (by decide)))).other W9 (Or.inr (slot_ne (Or.inl (hw _ (List.mem_of_getElem? (i := 37) rfl))) (Or.inl (hw _ (List.mem_of_getElem? (i := 66) rfl))) (by decide) (t := .long) (t' := .long) (by decide) (by decide))))
    have f20 := (((F_a0_backgroundBlockErrors.other W1 (Or.inr (slot_ne (Or.inl (hw _ (List.mem_of_getElem? (i := 97) rfl))) (Or.inl (hw _ (List.mem_of_getElem? (i := 35) rfl))) (by decide) (t := .long) (t' := .long) (by decide) (by decide)))).other W5 (Or.inr (slot_ne (Or.inl (hw _ (List.mem_of_getElem? (i := 97) rfl))) (Or.inl (hw _ (List.mem_of_getElem? (i := 64) rfl))) (by decide) (t := .long) (t' := .long) (by decide) (by decide)))).other W9 (Or.inr (slot_ne (Or.inl (hw _ (List.mem_of_getElem? (i := 97) rfl))) (Or.inl (hw _ (List.mem_of_getElem? (i := 66) rfl))) (by decide) (t := .long) (t' := .long) (by decide) (by decide))))
    have f21 := ((Fw1.other W5 (Or.inr (slot_ne (Or.inl (hw _ (List.mem_of_getElem? (i := 35) rfl))) (Or.inl (hw _ (List.mem_of_getElem? (i := 64) rfl))) (by decide) (t := .long) (t' := .long) (by decide) (by decide)))).other W9 (Or.inr (slot_ne (Or.inl (hw _ (List.mem_of_getElem? (i := 35) rfl))) (Or.inl (hw _ (List.mem_of_getElem? (i := 66) rfl))) (by decide) (t := .long) (t' := .long) (by decide) (by decide))))
    have f22 := (Fw5.other W9 (Or.inr (slot_ne (Or.inl (hw _ (List.mem_of_getElem? (i := 64) rfl))) (Or.inl (hw _ (List.mem_of_getElem? (i := 66) rfl))) (by decide) (t := .long) (t' := .long) (by decide) (by decide))))
    have f23 := (((F_a0_period.other W1 (Or.inr (slot_ne (Or.inl (hw _ (List.mem_of_getElem? (i := 44) rfl))) (Or.inl (hw _ (List.mem_of_getElem? (i := 35) rfl))) (by decide) (t := .long) (t' := .long) (by decide) (by decide)))).other W5 (Or.inr (slot_ne (Or.inl (hw _ (List.mem_of_getElem? (i := 44) rfl))) (Or.inl (hw _ (List.mem_of_getElem? (i := 64) rfl))) (by decide) (t := .long) (t' := .long) (by decide) (by decide)))).other W9 (Or.inr (slot_ne (Or.inl (hw _ (List.mem_of_getElem? (i := 44) rfl))) (Or.inl (hw _ (List.mem_of_getElem? (i := 66) rfl))) (by decide) (t := .long) (t' := .long) (by decide) (by decide))))
    refine ⟨rfl, N9, kp10, f11, ?_, ?_, ?_, ?_, ?_, ?_, ?_, ?_, ?_, ?_, ?_, ?_, ?_⟩
    · exact f12
    · exact f13
    · exact f14
    · exact f15
    · exact f16
    · exact f17
    · exact f18
    · exact f19
    · exact f20
    · exact f21
    · exact f22
    · exact Fw9
    · exact f23
theorem d11_0 : decode prog_5_method_14_code 0 = .ok (.aload_n 0, 1) := by decide +kernel
theorem d11_1 : decode prog_5_method_14_code 1 = .ok (.dup, 1) := by decide +kernel
theorem d11_2 : decode prog_5_method_14_code 2 = .ok (.getfield 62, 3) := by decide +kernel
theorem d11_5 : decode prog_5_method_14_code 5 = .ok (.aload_n 0, 1) := by decide +kernel
theorem d11_6 : decode prog_5_method_14_code 6 = .ok (.getfield 28, 3) := by decide +kernel
theorem d11_9 : decode prog_5_method_14_code 9 = .ok (.ladd, 1) := by decide +kernel
theorem d11_10 : decode prog_5_method_14_code 10 = .ok (.putfield 62, 3) := by decide +kernel
theorem d11_13 : decode prog_5_method_14_code 13 = .ok (.aload_n 0, 1) := by decide +kernel
theorem d11_14 : decode prog_5_method_14_code 14 = .ok (.getfield 28, 3) := by decide +kernel
theorem d11_17 : decode prog_5_method_14_code 17 = .ok (.aload_n 0, 1) := by decide +kernel
theorem d11_18 : decode prog_5_method_14_code 18 = .ok (.getfield 17, 3) := by decide +kernel
theorem d11_21 : decode prog_5_method_14_code 21 = .ok (.lcmp, 1) := by decide +kernel
theorem d11_22 : decode prog_5_method_14_code 22 = .ok (.ifCond .le 16, 3) := by decide +kernel
theorem d11_25 : decode prog_5_method_14_code 25 = .ok (.aload_n 0, 1) := by decide +kernel
theorem d11_26 : decode prog_5_method_14_code 26 = .ok (.dup, 1) := by decide +kernel
theorem d11_27 : decode prog_5_method_14_code 27 = .ok (.getfield 65, 3) := by decide +kernel
theorem d11_30 : decode prog_5_method_14_code 30 = .ok (.aload_n 0, 1) := by decide +kernel
theorem d11_31 : decode prog_5_method_14_code 31 = .ok (.getfield 28, 3) := by decide +kernel
theorem d11_34 : decode prog_5_method_14_code 34 = .ok (.ladd, 1) := by decide +kernel
theorem d11_35 : decode prog_5_method_14_code 35 = .ok (.putfield 65, 3) := by decide +kernel
theorem d11_38 : decode prog_5_method_14_code 38 = .ok (.aload_n 0, 1) := by decide +kernel
theorem d11_39 : decode prog_5_method_14_code 39 = .ok (.lconst 0, 1) := by decide +kernel
theorem d11_40 : decode prog_5_method_14_code 40 = .ok (.putfield 28, 3) := by decide +kernel
theorem d11_43 : decode prog_5_method_14_code 43 = .ok (.return_, 1) := by decide +kernel
theorem ef_11 (m : MethodId) (a0 : Addr) : entryFrame m #[(.ref a0)] 1 = mkF m 0 #[.val (.ref a0)] [] := by first | (simp [entryFrame, mkF, argsToLocals, Value.category]; done) | rfl
def own_p11_unavailableSeconds (us : Int64) (pd : Int64) : Int64 := (us + pd)
def own_p11_extendingSeconds (xt : Int64) (xs : Int64) (pd : Int64) : Int64 := (if xt < pd then (xs + pd) else xs)
def Q11 (Z : State) (a0 : Addr) (th : Int64) (xt : Int64) (sc : Int64) (us : Int64) (xs : Int64) (es : Int64) (ss : Int64) (bb : Int64) (pe : Int64) (pq : Int64) (pb : Int64) (pd : Int64) (h0 : Heap) (n0 : Nat) (v : Option Value) (h : Heap) (L : List Loc) : Prop := v = none ∧ Fr n0 L ∧ Keep h0 h [a0] ∧ Exa Z h a0 "com/example/hopchuan/hopchuan/ErrorCounter" ∧ Fld Z h a0 "com/example/hopchuan/hopchuan/ErrorCounter" "available" "Z" (.int (0 : Int32)) ∧ Fld Z h a0 "com/example/hopchuan/hopchuan/ErrorCounter" "sesErroredBlocks" "J" (.long th) ∧ Fld Z h a0 "com/example/hopchuan/hopchuan/ErrorCounter" "extendingPeriodSeconds" "J" (.long xt) ∧ Fld Z h a0 "com/example/hopchuan/hopchuan/ErrorCounter" "seconds" "J" (.long sc) ∧ Fld Z h a0 "com/example/hopchuan/hopchuan/ErrorCounter" "unavailableSeconds" "J" (.long (own_p11_unavailableSeconds us pd)) ∧ Fld Z h a0 "com/example/hopchuan/hopchuan/ErrorCounter" "extendingSeconds" "J" (.long (own_p11_extendingSeconds xt xs pd)) ∧ Fld Z h a0 "com/example/hopchuan/hopchuan/ErrorCounter" "erroredSeconds" "J" (.long es) ∧ Fld Z h a0 "com/example/hopchuan/hopchuan/ErrorCounter" "severelyErroredSeconds" "J" (.long ss) ∧ Fld Z h a0 "com/example/hopchuan/hopchuan/ErrorCounter" "backgroundBlockErrors" "J" (.long bb) ∧ Fld Z h a0 "com/example/hopchuan/hopchuan/ErrorCounter" "pending" "J" (.long pe) ∧ Fld Z h a0 "com/example/hopchuan/hopchuan/ErrorCounter" "pendingErrored" "J" (.long pq) ∧ Fld Z h a0 "com/example/hopchuan/hopchuan/ErrorCounter" "pendingBlocks" "J" (.long pb) ∧ Fld Z h a0 "com/example/hopchuan/hopchuan/ErrorCounter" "period" "J" (.long (0 : Int64))
set_option maxRecDepth 65536 in
set_option maxHeartbeats 40000000 in
theorem rm11 (l : Launch) (Z : State) (aw : Array Value) (hw : ∀ d ∈ tables_1, d.before aw Z = true) (wq : List Jvm.Cond) (a0 : Addr) (th : Int64) (xt : Int64) (sc : Int64) (us : Int64) (xs : Int64) (es : Int64) (ss : Int64) (bb : Int64) (pe : Int64) (pq : Int64) (pb : Int64) (pd : Int64) (h0 : Heap) (n0 : Nat) (Z0 : n0 ≤ h0.size) (E_a0 : Exa Z h0 a0 "com/example/hopchuan/hopchuan/ErrorCounter") (F_a0_available : Fld Z h0 a0 "com/example/hopchuan/hopchuan/ErrorCounter" "available" "Z" (.int (0 : Int32))) (F_a0_sesErroredBlocks : Fld Z h0 a0 "com/example/hopchuan/hopchuan/ErrorCounter" "sesErroredBlocks" "J" (.long th)) (F_a0_extendingPeriodSeconds : Fld Z h0 a0 "com/example/hopchuan/hopchuan/ErrorCounter" "extendingPeriodSeconds" "J" (.long xt)) (F_a0_seconds : Fld Z h0 a0 "com/example/hopchuan/hopchuan/ErrorCounter" "seconds" "J" (.long sc)) (F_a0_unavailableSeconds : Fld Z h0 a0 "com/example/hopchuan/hopchuan/ErrorCounter" "unavailableSeconds" "J" (.long us)) (F_a0_extendingSeconds : Fld Z h0 a0 "com/example/hopchuan/hopchuan/ErrorCounter" "extendingSeconds" "J" (.long xs)) (F_a0_erroredSeconds : Fld Z h0 a0 "com/example/hopchuan/hopchuan/ErrorCounter" "erroredSeconds" "J" (.long es)) (F_a0_severelyErroredSeconds : Fld Z h0 a0 "com/example/hopchuan/hopchuan/ErrorCounter" "severelyErroredSeconds" "J" (.long ss)) (F_a0_backgroundBlockErrors : Fld Z h0 a0 "com/example/hopchuan/hopchuan/ErrorCounter" "backgroundBlockErrors" "J" (.long bb)) (F_a0_pending : Fld Z h0 a0 "com/example/hopchuan/hopchuan/ErrorCounter" "pending" "J" (.long pe)) (F_a0_pendingErrored : Fld Z h0 a0 "com/example/hopchuan/hopchuan/ErrorCounter" "pendingErrored" "J" (.long pq)) (F_a0_pendingBlocks : Fld Z h0 a0 "com/example/hopchuan/hopchuan/ErrorCounter" "pendingBlocks" "J" (.long pb)) (F_a0_period : Fld Z h0 a0 "com/example/hopchuan/hopchuan/ErrorCounter" "period" "J" (.long pd)) (g_a0 : n0 ≤ a0) :
    MetFree l (⟨"com/example/hopchuan/hopchuan/ErrorCounter", "endPeriod", "()V"⟩ : MethodName) (head1 (Jvm.Cond.code (⟨"com/example/hopchuan/hopchuan/ErrorCounter", "endPeriod", "()V"⟩ : MethodName) prog_5_method_14_code 1 none :: wq) ({ frames := 0, cells := 0, slots := 0, locals := 0 } : Room)) (fun a U => a = #[(.ref a0)] ∧ Z.Warmed39 U.vm ∧ U.heap = h0) (fun _ _ _ _ _ => True) (fun _ U o U' => ∃ v L, o = .returned v ∧ Q11 Z a0 th xt sc us xs es ss bb pe pq pb pd h0 n0 v U'.heap L ∧ FrameEnd U o U' L ({ frames := 0, cells := 0, slots := 0, locals := 0 } : Room).cells ({ frames := 0, cells := 0, slots := 0, locals := 0 } : Room).slots) := by
  refine MetFree.of_bodySF (plainFor_of_name pn_0) hisR ?_
  intro p e s m args below meth c s₁ Bd hml0 hP hK
  obtain ⟨rfl, hZ, hh⟩ := hP
  have hx := Bd.exec
  have hby := Bd.bytes
  have hml : c.maxLocals = 1 := hml0
  have hown : s.vm.findClass "com/example/hopchuan/hopchuan/ErrorCounter" = some m.cls := findClass_of_methodNamed Bd.named
  have hnm := (name_of_methodNamed Bd.named Bd.method).1
  have X0 : Stand p l e ({ frames := 0, cells := 0, slots := 0, locals := 0 } : Room) s m #[(.ref a0)] below meth c s₁ [] 0 0 := Stand.of_body Bd
  have e0 : s₁.heap = h0 := by rw [← hh, Bd.state]; rfl
  have N0 := Fr.nil n0
  have pre0 : own_Pre p e below (s₁.setTop (entryFrame m #[(.ref a0)] 1)) (s₁.setTop (mkF m 0 #[.val (.ref a0)] [])) := fun t k => castTop (ef_11 m a0) k
  obtain ⟨T1, X1, e1, st1⟩ := getF X0 hx hZ hown (host := "") (Or.inl (hw _ (List.mem_of_getElem? (i := 71) rfl))) Via.refl e0 F_a0_unavailableSeconds (g := (mkF m 2 #[.val (.ref a0)] [(.ref a0), (.ref a0)])) rfl rfl (hb hby d11_2)
  obtain ⟨T2, X2, e2, st2⟩ := getF X1 hx hZ hown (host := "") (Or.inl (hw _ (List.mem_of_getElem? (i := 43) rfl))) Via.refl e1 F_a0_period (g := (mkF m 6 #[.val (.ref a0)] [(.ref a0), (.long us), (.ref a0)])) rfl rfl (hb hby d11_6)
  obtain ⟨T3, h3, X3, e3, W3, st3⟩ := putF X2 hx hZ hown (host := "") (Or.inl (hw _ (List.mem_of_getElem? (i := 71) rfl))) Via.refl e2 F_a0_unavailableSeconds E_a0 (Or.inl (hw _ (List.mem_of_getElem? (i := 72) rfl))) (hw _ (List.mem_of_getElem? (i := 7) rfl)) (ty := .long) (by decide) rfl rfl (g := (mkF m 10 #[.val (.ref a0)] [(.long (us + pd)), (.ref a0)])) rfl rfl (hb hby d11_10)
  have Fw3 := F_a0_unavailableSeconds.same W3
  have N3 := Fr.snoc X3 N0 g_a0
  have kp4 : Keep h0 h3 [a0] := (Keep.refl h0 [a0]).wr W3 (Or.inl (List.mem_of_getElem? (i := 0) rfl))
  have f5 := (F_a0_period.other W3 (Or.inr (slot_ne (Or.inl (hw _ (List.mem_of_getElem? (i := 44) rfl))) (Or.inl (hw _ (List.mem_of_getElem? (i := 72) rfl))) (by decide) (t := .long) (t' := .long) (by decide) (by decide))))
  obtain ⟨T6, X6, e6, st6⟩ := getF X3 hx hZ hown (host := "") (Or.inl (hw _ (List.mem_of_getElem? (i := 43) rfl))) Via.refl e3 f5 (g := (mkF m 14 #[.val (.ref a0)] [(.ref a0)])) rfl rfl (hb hby d11_14)
  have f7 := (F_a0_extendingPeriodSeconds.other W3 (Or.inr (slot_ne (Or.inr (hw _ (List.mem_of_getElem? (i := 20) rfl))) (Or.inl (hw _ (List.mem_of_getElem? (i := 72) rfl))) (by decide) (t := .long) (t' := .long) (by decide) (by decide))))
  obtain ⟨T8, X8, e8, st8⟩ := getF X6 hx hZ hown (host := "") (Or.inl (hw _ (List.mem_of_getElem? (i := 19) rfl))) Via.refl e6 f7 (g := (mkF m 18 #[.val (.ref a0)] [(.ref a0), (.long pd)])) rfl rfl (hb hby d11_18)
  have pre9 : own_Pre p e below (s₁.setTop (entryFrame m #[(.ref a0)] 1)) (T8.setTop (mkF m 22 #[.val (.ref a0)] [(.int (lcmpW pd xt))])) := fun t k => pre0 t (by
      show Steps p.tables e below (s₁.setTop (mkF m 0 #[.val (.ref a0)] [])) _
      refine XS.aloadN X0.here hx rfl (hb hby d11_0) rfl rfl ?_
      show Steps p.tables e below (s₁.setTop (mkF m 1 #[.val (.ref a0)] [(.ref a0)])) _
      refine XS.dup X0.here hx rfl (hb hby d11_1) rfl rfl ?_
      show Steps p.tables e below (s₁.setTop (mkF m 2 #[.val (.ref a0)] [(.ref a0), (.ref a0)])) _
      refine st1 _ ?_
      show Steps p.tables e below (T1.setTop (mkF m 5 #[.val (.ref a0)] [(.long us), (.ref a0)])) _
      refine XS.aloadN X1.here hx rfl (hb hby d11_5) rfl rfl ?_
      show Steps p.tables e below (T1.setTop (mkF m 6 #[.val (.ref a0)] [(.ref a0), (.long us), (.ref a0)])) _
      refine st2 _ ?_
      show Steps p.tables e below (T2.setTop (mkF m 9 #[.val (.ref a0)] [(.long pd), (.long us), (.ref a0)])) _
      refine XS.ladd X2.here hx rfl (hb hby d11_9) rfl ?_
      show Steps p.tables e below (T2.setTop (mkF m 10 #[.val (.ref a0)] [(.long (us + pd)), (.ref a0)])) _
      refine st3 _ ?_
      show Steps p.tables e below (T3.setTop (mkF m 13 #[.val (.ref a0)] [])) _
      refine XS.aloadN X3.here hx rfl (hb hby d11_13) rfl rfl ?_
      show Steps p.tables e below (T3.setTop (mkF m 14 #[.val (.ref a0)] [(.ref a0)])) _
      refine st6 _ ?_
      show Steps p.tables e below (T6.setTop (mkF m 17 #[.val (.ref a0)] [(.long pd)])) _
      refine XS.aloadN X6.here hx rfl (hb hby d11_17) rfl rfl ?_
      show Steps p.tables e below (T6.setTop (mkF m 18 #[.val (.ref a0)] [(.ref a0), (.long pd)])) _
      refine st8 _ ?_
      show Steps p.tables e below (T8.setTop (mkF m 21 #[.val (.ref a0)] [(.long xt), (.long pd)])) _
      refine XS.lcmp X8.here hx rfl (hb hby d11_21) rfl ?_
      exact k)
  by_cases hc22 : xt < pd
  · have f10 := (F_a0_extendingSeconds.other W3 (Or.inr (slot_ne (Or.inl (hw _ (List.mem_of_getElem? (i := 74) rfl))) (Or.inl (hw _ (List.mem_of_getElem? (i := 72) rfl))) (by decide) (t := .long) (t' := .long) (by decide) (by decide))))
    obtain ⟨T11, X11, e11, st11⟩ := getF X8 hx hZ hown (host := "") (Or.inl (hw _ (List.mem_of_getElem? (i := 73) rfl))) Via.refl e8 f10 (g := (mkF m 27 #[.val (.ref a0)] [(.ref a0), (.ref a0)])) rfl rfl (hb hby d11_27)
    obtain ⟨T12, X12, e12, st12⟩ := getF X11 hx hZ hown (host := "") (Or.inl (hw _ (List.mem_of_getElem? (i := 43) rfl))) Via.refl e11 f5 (g := (mkF m 31 #[.val (.ref a0)] [(.ref a0), (.long xs), (.ref a0)])) rfl rfl (hb hby d11_31)
    have f13 := (E_a0.wr W3)
    obtain ⟨T14, h14, X14, e14, W14, st14⟩ := putF X12 hx hZ hown (host := "") (Or.inl (hw _ (List.mem_of_getElem? (i := 73) rfl))) Via.refl e12 f10 f13 (Or.inl (hw _ (List.mem_of_getElem? (i := 74) rfl))) (hw _ (List.mem_of_getElem? (i := 7) rfl)) (ty := .long) (by decide) rfl rfl (g := (mkF m 35 #[.val (.ref a0)] [(.long (xs + pd)), (.ref a0)])) rfl rfl (hb hby d11_35)
    have Fw14 := f10.same W14
    have N14 := Fr.snoc X14 N3 g_a0
    have kp15 : Keep h0 h14 [a0] := kp4.wr W14 (Or.inl (List.mem_of_getElem? (i := 0) rfl))
    have f16 := (f13.wr W14)
    have f17 := (f5.other W14 (Or.inr (slot_ne (Or.inl (hw _ (List.mem_of_getElem? (i := 44) rfl))) (Or.inl (hw _ (List.mem_of_getElem? (i := 74) rfl))) (by decide) (t := .long) (t' := .long) (by decide) (by decide))))
    obtain ⟨T18, h18, X18, e18, W18, st18⟩ := putF X14 hx hZ hown (host := "") (Or.inl (hw _ (List.mem_of_getElem? (i := 43) rfl))) Via.refl e14 f17 f16 (Or.inl (hw _ (List.mem_of_getElem? (i := 44) rfl))) (hw _ (List.mem_of_getElem? (i := 7) rfl)) (ty := .long) (by decide) rfl rfl (g := (mkF m 40 #[.val (.ref a0)] [(.long (0 : Int64)), (.ref a0)])) rfl rfl (hb hby d11_40)
    have Fw18 := f17.same W18
    have N18 := Fr.snoc X18 N14 g_a0
    have kp19 : Keep h0 h18 [a0] := kp15.wr W18 (Or.inl (List.mem_of_getElem? (i := 0) rfl))
    obtain ⟨fs, hr, hrun, hended, hW, hsame⟩ := X18.leave (v := none) (fun _ => rfl)
    refine ⟨_, _, pre9 _ ?_, hrun, hended, _, _, rfl, ?_, ⟨_, rfl⟩, hW, hsame.mono (by decide) (by decide)⟩
    · show Steps p.tables e below (T8.setTop (mkF m 22 #[.val (.ref a0)] [(.int (lcmpW pd xt))])) _
      refine XS.ifNo X8.here hx rfl (hb hby d11_22) rfl ((if0 _ _).trans (tlt ((lw_gt _ _).mpr hc22)).2.2.2) ?_
      show Steps p.tables e below (T8.setTop (mkF m 25 #[.val (.ref a0)] [])) _
      refine XS.aloadN X8.here hx rfl (hb hby d11_25) rfl rfl ?_
      show Steps p.tables e below (T8.setTop (mkF m 26 #[.val (.ref a0)] [(.ref a0)])) _
      refine XS.dup X8.here hx rfl (hb hby d11_26) rfl rfl ?_
      show Steps p.tables e below (T8.setTop (mkF m 27 #[.val (.ref a0)] [(.ref a0), (.ref a0)])) _
      refine st11 _ ?_
      show Steps p.tables e below (T11.setTop (mkF m 30 #[.val (.ref a0)] [(.long xs), (.ref a0)])) _
      refine XS.aloadN X11.here hx rfl (hb hby d11_30) rfl rfl ?_
      show Steps p.tables e below (T11.setTop (mkF m 31 #[.val (.ref a0)] [(.ref a0), (.long xs), (.ref a0)])) _
      refine st12 _ ?_
      show Steps p.tables e below (T12.setTop (mkF m 34 #[.val (.ref a0)] [(.long pd), (.long xs), (.ref a0)])) _
      refine XS.ladd X12.here hx rfl (hb hby d11_34) rfl ?_
      show Steps p.tables e below (T12.setTop (mkF m 35 #[.val (.ref a0)] [(.long (xs + pd)), (.ref a0)])) _
      refine st14 _ ?_
      show Steps p.tables e below (T14.setTop (mkF m 38 #[.val (.ref a0)] [])) _
      refine XS.aloadN X14.here hx rfl (hb hby d11_38) rfl rfl ?_
      show Steps p.tables e below (T14.setTop (mkF m 39 #[.val (.ref a0)] [(.ref a0)])) _
      refine XS.lconst X14.here hx rfl (hb hby d11_39) ?_
      show Steps p.tables e below (T14.setTop (mkF m 40 #[.val (.ref a0)] [(.long (0 : Int64)), (.ref a0)])) _
      refine st18 _ ?_
      show Steps p.tables e below (T18.setTop (mkF m 43 #[.val (.ref a0)] [])) _
      exact X18.returnOut hx Bd.returns (hb hby d11_43) hr
    · show Q11 Z a0 th xt sc us xs es ss bb pe pq pb pd h0 n0 _ T18.heap _
      rw [e18]
      unfold Q11
      have f20 := (f16.wr W18)
      have f21 := (((F_a0_available.other W3 (Or.inr (slot_ne (Or.inl (hw _ (List.mem_of_getElem? (i := 16) rfl))) (Or.inl (hw _ (List.mem_of_getElem? (i := 72) rfl))) (by decide) (t := .boolean) (t' := .long) (by decide) (by decide)))).other W14 (Or.inr (slot_ne (Or.inl (hw _ (List.mem_of_getElem? (i := 16) rfl))) (Or.inl (hw _ (List.mem_of_getElem? (i := 74) rfl))) (by decide) (t := .boolean) (t' := .long) (by decide) (by decide)))).other W18 (Or.inr (slot_ne (Or.inl (hw _ (List.mem_of_getElem? (i := 16) rfl))) (Or.inl (hw _ (List.mem_of_getElem? (i := 44) rfl))) (by decide) (t := .boolean) (t' := .long) (by decide) (by decide))))
      have f22 := (((F_a0_sesErroredBlocks.other W3 (Or.inr (slot_ne (Or.inr (hw _ (List.mem_of_getElem? (i := 18) rfl))) (Or.inl (hw _ (List.mem_of_getElem? (i := 72) rfl))) (by decide) (t := .long) (t' := .long) (by decide) (by decide)))).other W14 (Or.inr (slot_ne (Or.inr (hw _ (List.mem_of_getElem? (i := 18) rfl))) (Or.inl (hw _ (List.mem_of_getElem? (i := 74) rfl))) (by decide) (t := .long) (t' := .long) (by decide) (by decide)))).other W18 (Or.inr (slot_ne (Or.inr (hw _ (List.mem_of_getElem? (i := 18) rfl))) (Or.inl (hw _ (List.mem_of_getElem? (i := 44) rfl))) (by decide) (t := .long) (t' := .long) (by decide) (by decide))))
      have f23 := ((f7.other W14 (Or.inr (slot_ne (Or.inr (hw _ (List.mem_of_getElem? (i := 20) rfl))) (Or.inl (hw _ (List.mem_of_getElem? (i := 74) rfl))) (by decide) (t := .long) (t' := .long) (by decide) (by decide)))).other W18 (Or.inr (slot_ne (Or.inr (hw _ (List.mem_of_getElem? (i := 20) rfl))) (Or.inl (hw _ (List.mem_of_getElem? (i := 44) rfl))) (by decide) (t := .long) (t' := .long) (by decide) (by decide))))
      have f24 := (((F_a0_seconds.other W3 (Or.inr (slot_ne (Or.inl (hw _ (List.mem_of_getElem? (i := 27) rfl))) (Or.inl (hw _ (List.mem_of_getElem? (i := 72) rfl))) (by decide) (t := .long) (t' := .long) (by decide) (by decide)))).other W14 (Or.inr (slot_ne (Or.inl (hw _ (List.mem_of_getElem? (i := 27) rfl))) (Or.inl (hw _ (List.mem_of_getElem? (i := 74) rfl))) (by decide) (t := .long) (t' := .long) (by decide) (by decide)))).other W18 (Or.inr (slot_ne (Or.inl (hw _ (List.mem_of_getElem? (i := 27) rfl))) (Or.inl (hw _ (List.mem_of_getElem? (i := 44) rfl))) (by decide) (t := .long) (t' := .long) (by decide) (by decide))))
      have f25 := ((Fw3.other W14 (Or.inr (slot_ne (Or.inl (hw _ (List.mem_of_getElem? (i := 72) rfl))) (Or.inl (hw _ (List.mem_of_getElem? (i := 74) rfl))) (by decide) (t := .long) (t' := .long) (by decide) (by decide)))).other W18 (Or.inr (slot_ne (Or.inl (hw _ (List.mem_of_getElem? (i := 72) rfl))) (Or.inl (hw _ (List.mem_of_getElem? (i := 44) rfl))) (by decide) (t := .long) (t' := .long) (by decide) (by decide))))
      have f26 := (Fw14.other W18 (Or.inr (slot_ne (Or.inl (hw _ (List.mem_of_getElem? (i := 74) rfl))) (Or.inl (hw _ (List.mem_of_getElem? (i := 44) rfl))) (by decide) (t := .long) (t' := .long) (by decide) (by decide))))
      have f27 := (((F_a0_erroredSeconds.other W3 (Or.inr (slot_ne (Or.inl (hw _ (List.mem_of_getElem? (i := 33) rfl))) (Or.inl (hw _ (List.mem_of_getElem? (i := 72) rfl))) (by decide) (t := .long) (t' := .long) (by decide) (by decide)))).other W14 (Or.inr (slot_ne (Or.inl (hw _ (List.mem_of_getElem? (i := 33) rfl))) (Or.inl (hw _ (List.mem_of_getElem? (i := 74) rfl))) (by decide) (t := .long) (t' := .long) (by decide) (by decide)))).other W18 (Or.inr (slot_ne (Or.inl (hw _ (List.mem_of_getElem? (i := 33) rfl))) (Or.inl (hw _ (List.mem_of_getElem? (i := 44) rfl))) (by decide) (t := .long) (t' := .long) (by decide) (by decide))))
      have f28 := (((F_a0_severelyErroredSeconds.other W3 (Or.inr (slot_ne (Or.inl (hw _ (List.mem_of_getElem? (i := 37) rfl))) (Or.inl (hw _ (List.mem_of_getElem? (i := 72) rfl))) (by decide) (t := .long) (t' := .long) (by decide) (by decide)))).other W14 (Or.inr (slot_ne (Or.inl (hw _ (List.mem_of_getElem? (i := 37) rfl))) (Or.inl (hw _ (List.mem_of_getElem? (i := 74) rfl))) (by decide) (t := .long) (t' := .long) (by decide) (by decide)))).other W18 (Or.inr (slot_ne (Or.inl (hw _ (List.mem_of_getElem? (i := 37) rfl))) (Or.inl (hw _ (List.mem_of_getElem? (i := 44) rfl))) (by decide) (t := .long) (t' := .long) (by decide) (by decide))))
      have f29 := (((F_a0_backgroundBlockErrors.other W3 (Or.inr (slot_ne (Or.inl (hw _ (List.mem_of_getElem? (i := 97) rfl))) (Or.inl (hw _ (List.mem_of_getElem? (i := 72) rfl))) (by decide) (t := .long) (t' := .long) (by decide) (by decide)))).other W14 (Or.inr (slot_ne (Or.inl (hw _ (List.mem_of_getElem? (i := 97) rfl))) (Or.inl (hw _ (List.mem_of_getElem? (i := 74) rfl))) (by decide) (t := .long) (t' := .long) (by decide) (by decide)))).other W18 (Or.inr (slot_ne (Or.inl (hw _ (List.mem_of_getElem? (i := 97) rfl))) (Or.inl (hw _ (List.mem_of_getElem? (i := 44) rfl))) (by decide) (t := .long) (t' := .long) (by decide) (by decide))))
      have f30 := (((F_a0_pending.other W3 (Or.inr (slot_ne (Or.inl (hw _ (List.mem_of_getElem? (i := 35) rfl))) (Or.inl (hw _ (List.mem_of_getElem? (i := 72) rfl))) (by decide) (t := .long) (t' := .long) (by decide) (by decide)))).other W14 (Or.inr (slot_ne (Or.inl (hw _ (List.mem_of_getElem? (i := 35) rfl))) (Or.inl (hw _ (List.mem_of_getElem? (i := 74) rfl))) (by decide) (t := .long) (t' := .long) (by decide) (by decide)))).other W18 (Or.inr (slot_ne (Or.inl (hw _ (List.mem_of_getElem? (i := 35) rfl))) (Or.inl (hw _ (List.mem_of_getElem? (i := 44) rfl))) (by decide) (t := .long) (t' := .long) (by decide) (by decide))))
      have f31 := (((F_a0_pendingErrored.other W3 (Or.inr (slot_ne (Or.inl (hw _ (List.mem_of_getElem? (i := 64) rfl))) (Or.inl (hw _ (List.mem_of_getElem? (i := 72) rfl))) (by decide) (t := .long) (t' := .long) (by decide) (by decide)))).other W14 (Or.inr (slot_ne (Or.inl (hw _ (List.mem_of_getElem? (i := 64) rfl))) (Or.inl (hw _ (List.mem_of_getElem? (i := 74) rfl))) (by decide) (t := .long) (t' := .long) (by decide) (by decide)))).other W18 (Or.inr (slot_ne (Or.inl (hw _ (List.mem_of_getElem? (i := 64) rfl))) (Or.inl (hw _ (List.mem_of_getElem? (i := 44) rfl))) (by decide) (t := .long) (t' := .long) (by decide) (by decide))))
      have f32 := (((F_a0_pendingBlocks.other W3 (Or.inr (slot_ne (Or.inl (hw _ (List.mem_of_getElem? (i := 66) rfl))) (Or.inl (hw _ (List.mem_of_getElem? (i := 72) rfl))) (by decide) (t := .long) (t' := .long) (by decide) (by decide)))).other W14 (Or.inr (slot_ne (Or.inl (hw _ (List.mem_of_getElem? (i := 66) rfl))) (Or.inl (hw _ (List.mem_of_getElem? (i := 74) rfl))) (by decide) (t := .long) (t' := .long) (by decide) (by decide)))).other W18 (Or.inr (slot_ne (Or.inl (hw _ (List.mem_of_getElem? (i := 66) rfl))) (Or.inl (hw _ (List.mem_of_getElem? (i := 44) rfl))) (by decide) (t := .long) (t' := .long) (by decide) (by decide))))
      refine ⟨rfl, N18, kp19, f20, ?_, ?_, ?_, ?_, ?_, ?_, ?_, ?_, ?_, ?_, ?_, ?_, ?_⟩
      · exact f21
      · exact f22
      · exact f23
      · exact f24
      · rw [show (own_p11_unavailableSeconds us pd) = (us + pd) from (by simp only [own_p11_unavailableSeconds, if_pos hc22])]; exact f25
      · rw [show (own_p11_extendingSeconds xt xs pd) = (xs + pd) from (by simp only [own_p11_extendingSeconds, if_pos hc22])]; exact f26
      · exact f27
      · exact f28
      · exact f29
      · exact f30
      · exact f31
      · exact f32
      · exact Fw18
  · have f33 := (E_a0.wr W3)
    obtain ⟨T34, h34, X34, e34, W34, st34⟩ := putF X8 hx hZ hown (host := "") (Or.inl (hw _ (List.mem_of_getElem? (i := 43) rfl))) Via.refl e8 f5 f33 (Or.inl (hw _ (List.mem_of_getElem? (i := 44) rfl))) (hw _ (List.mem_of_getElem? (i := 7) rfl)) (ty := .long) (by decide) rfl rfl (g := (mkF m 40 #[.val (.ref a0)] [(.long (0 : Int64)), (.ref a0)])) rfl rfl (hb hby d11_40)
    have Fw34 := f5.same W34
    have N34 := Fr.snoc X34 N3 g_a0
    have kp35 : Keep h0 h34 [a0] := kp4.wr W34 (Or.inl (List.mem_of_getElem? (i := 0) rfl))
    obtain ⟨fs, hr, hrun, hended, hW, hsame⟩ := X34.leave (v := none) (fun _ => rfl)
    refine ⟨_, _, pre9 _ ?_, hrun, hended, _, _, rfl, ?_, ⟨_, rfl⟩, hW, hsame.mono (by decide) (by decide)⟩
    · show Steps p.tables e below (T8.setTop (mkF m 22 #[.val (.ref a0)] [(.int (lcmpW pd xt))])) _
      refine XS.ifYes X8.here hx rfl (pc0 := 22) (pc' := 38) rfl (hb hby d11_22) rfl ((if0 _ _).trans (flt (mt (lw_gt _ _).mp hc22)).2.2.2) (by decide) (by decide) ?_
      show Steps p.tables e below (T8.setTop (mkF m 38 #[.val (.ref a0)] [])) _
      refine XS.aloadN X8.here hx rfl (hb hby d11_38) rfl rfl ?_
      show Steps p.tables e below (T8.setTop (mkF m 39 #[.val (.ref a0)] [(.ref a0)])) _
      refine XS.lconst X8.here hx rfl (hb hby d11_39) ?_
      show Steps p.tables e below (T8.setTop (mkF m 40 #[.val (.ref a0)] [(.long (0 : Int64)), (.ref a0)])) _
      refine st34 _ ?_
      show Steps p.tables e below (T34.setTop (mkF m 43 #[.val (.ref a0)] [])) _
      exact X34.returnOut hx Bd.returns (hb hby d11_43) hr
    · show Q11 Z a0 th xt sc us xs es ss bb pe pq pb pd h0 n0 _ T34.heap _
      rw [e34]
      unfold Q11
      have f36 := (f33.wr W34)
      have f37 := ((F_a0_available.other W3 (Or.inr (slot_ne (Or.inl (hw _ (List.mem_of_getElem? (i := 16) rfl))) (Or.inl (hw _ (List.mem_of_getElem? (i := 72) rfl))) (by decide) (t := .boolean) (t' := .long) (by decide) (by decide)))).other W34 (Or.inr (slot_ne (Or.inl (hw _ (List.mem_of_getElem? (i := 16) rfl))) (Or.inl (hw _ (List.mem_of_getElem? (i := 44) rfl))) (by decide) (t := .boolean) (t' := .long) (by decide) (by decide))))
      have f38 := ((F_a0_sesErroredBlocks.other W3 (Or.inr (slot_ne (Or.inr (hw _ (List.mem_of_getElem? (i := 18) rfl))) (Or.inl (hw _ (List.mem_of_getElem? (i := 72) rfl))) (by decide) (t := .long) (t' := .long) (by decide) (by decide)))).other W34 (Or.inr (slot_ne (Or.inr (hw _ (List.mem_of_getElem? (i := 18) rfl))) (Or.inl (hw _ (List.mem_of_getElem? (i := 44) rfl))) (by decide) (t := .long) (t' := .long) (by decide) (by decide))))
      have f39 := (f7.other W34 (Or.inr (slot_ne (Or.inr (hw _ (List.mem_of_getElem? (i := 20) rfl))) (Or.inl (hw _ (List.mem_of_getElem? (i := 44) rfl))) (by decide) (t := .long) (t' := .long) (by decide) (by decide))))
      have f40 := ((F_a0_seconds.other W3 (Or.inr (slot_ne (Or.inl (hw _ (List.mem_of_getElem? (i := 27) rfl))) (Or.inl (hw _ (List.mem_of_getElem? (i := 72) rfl))) (by decide) (t := .long) (t' := .long) (by decide) (by decide)))).other W34 (Or.inr (slot_ne (Or.inl (hw _ (List.mem_of_getElem? (i := 27) rfl))) (Or.inl (hw _ (List.mem_of_getElem? (i := 44) rfl))) (by decide) (t := .long) (t' := .long) (by decide) (by decide))))
      have f41 := (Fw3.other W34 (Or.inr (slot_ne (Or.inl (hw _ (List.mem_of_getElem? (i := 72) rfl))) (Or.inl (hw _ (List.mem_of_getElem? (i := 44) rfl))) (by decide) (t := .long) (t' := .long) (by decide) (by decide))))
      have f42 := ((F_a0_extendingSeconds.other W3 (Or.inr (slot_ne (Or.inl (hw _ (List.mem_of_getElem? (i := 74) rfl))) (Or.inl (hw _ (List.mem_of_getElem? (i := 72) rfl))) (by decide) (t := .long) (t' := .long) (by decide) (by decide)))).other W34 (Or.inr (slot_ne (Or.inl (hw _ (List.mem_of_getElem? (i := 74) rfl))) (Or.inl (hw _ (List.mem_of_getElem? (i := 44) rfl))) (by decide) (t := .long) (t' := .long) (by decide) (by decide))))
      have f43 := ((F_a0_erroredSeconds.other W3 (Or.inr (slot_ne (Or.inl (hw _ (List.mem_of_getElem? (i := 33) rfl))) (Or.inl (hw _ (List.mem_of_getElem? (i := 72) rfl))) (by decide) (t := .long) (t' := .long) (by decide) (by decide)))).other W34 (Or.inr (slot_ne (Or.inl (hw _ (List.mem_of_getElem? (i := 33) rfl))) (Or.inl (hw _ (List.mem_of_getElem? (i := 44) rfl))) (by decide) (t := .long) (t' := .long) (by decide) (by decide))))
      have f44 := ((F_a0_severelyErroredSeconds.other W3 (Or.inr (slot_ne (Or.inl (hw _ (List.mem_of_getElem? (i := 37) rfl))) (Or.inl (hw _ (List.mem_of_getElem? (i := 72) rfl))) (by decide) (t := .long) (t' := .long) (by decide) (by decide)))).other W34 (Or.inr (slot_ne (Or.inl (hw _ (List.mem_of_getElem? (i := 37) rfl))) (Or.inl (hw _ (List.mem_of_getElem? (i := 44) rfl))) (by decide) (t := .long) (t' := .long) (by decide) (by decide))))
      have f45 := ((F_a0_backgroundBlockErrors.other W3 (Or.inr (slot_ne (Or.inl (hw _ (List.mem_of_getElem? (i := 97) rfl))) (Or.inl (hw _ (List.mem_of_getElem? (i := 72) rfl))) (by decide) (t := .long) (t' := .long) (by decide) (by decide)))).other W34 (Or.inr (slot_ne (Or.inl (hw _ (List.mem_of_getElem? (i := 97) rfl))) (Or.inl (hw _ (List.mem_of_getElem? (i := 44) rfl))) (by decide) (t := .long) (t' := .long) (by decide) (by decide))))
      have f46 := ((F_a0_pending.other W3 (Or.inr (slot_ne (Or.inl (hw _ (List.mem_of_getElem? (i := 35) rfl))) (Or.inl (hw _ (List.mem_of_getElem? (i := 72) rfl))) (by decide) (t := .long) (t' := .long) (by decide) (by decide)))).other W34 (Or.inr (slot_ne (Or.inl (hw _ (List.mem_of_getElem? (i := 35) rfl))) (Or.inl (hw _ (List.mem_of_getElem? (i := 44) rfl))) (by decide) (t := .long) (t' := .long) (by decide) (by decide))))
      have f47 := ((F_a0_pendingErrored.other W3 (Or.inr (slot_ne (Or.inl (hw _ (List.mem_of_getElem? (i := 64) rfl))) (Or.inl (hw _ (List.mem_of_getElem? (i := 72) rfl))) (by decide) (t := .long) (t' := .long) (by decide) (by decide)))).other W34 (Or.inr (slot_ne (Or.inl (hw _ (List.mem_of_getElem? (i := 64) rfl))) (Or.inl (hw _ (List.mem_of_getElem? (i := 44) rfl))) (by decide) (t := .long) (t' := .long) (by decide) (by decide))))
      have f48 := ((F_a0_pendingBlocks.other W3 (Or.inr (slot_ne (Or.inl (hw _ (List.mem_of_getElem? (i := 66) rfl))) (Or.inl (hw _ (List.mem_of_getElem? (i := 72) rfl))) (by decide) (t := .long) (t' := .long) (by decide) (by decide)))).other W34 (Or.inr (slot_ne (Or.inl (hw _ (List.mem_of_getElem? (i := 66) rfl))) (Or.inl (hw _ (List.mem_of_getElem? (i := 44) rfl))) (by decide) (t := .long) (t' := .long) (by decide) (by decide))))
      refine ⟨rfl, N34, kp35, f36, ?_, ?_, ?_, ?_, ?_, ?_, ?_, ?_, ?_, ?_, ?_, ?_, ?_⟩
      · exact f37
      · exact f38
      · exact f39
      · exact f40
      · rw [show (own_p11_unavailableSeconds us pd) = (us + pd) from (by simp only [own_p11_unavailableSeconds, if_neg hc22])]; exact f41
      · rw [show (own_p11_extendingSeconds xt xs pd) = xs from (by simp only [own_p11_extendingSeconds, if_neg hc22])]; exact f42
      · exact f43
      · exact f44
      · exact f45
      · exact f46
      · exact f47
      · exact f48
      · exact Fw34
theorem d4_0 : decode prog_5_method_2_code 0 = .ok (.aload_n 0, 1) := by decide +kernel
theorem d4_1 : decode prog_5_method_2_code 1 = .ok (.dup, 1) := by decide +kernel
theorem d4_2 : decode prog_5_method_2_code 2 = .ok (.getfield 20, 3) := by decide +kernel
theorem d4_5 : decode prog_5_method_2_code 5 = .ok (.lconst 1, 1) := by decide +kernel
theorem d4_6 : decode prog_5_method_2_code 6 = .ok (.ladd, 1) := by decide +kernel
theorem d4_7 : decode prog_5_method_2_code 7 = .ok (.putfield 20, 3) := by decide +kernel
theorem d4_10 : decode prog_5_method_2_code 10 = .ok (.iload_n 3, 1) := by decide +kernel
theorem d4_11 : decode prog_5_method_2_code 11 = .ok (.ifCond .ne 12, 3) := by decide +kernel
theorem d4_14 : decode prog_5_method_2_code 14 = .ok (.lload_n 1, 1) := by decide +kernel
theorem d4_15 : decode prog_5_method_2_code 15 = .ok (.aload_n 0, 1) := by decide +kernel
theorem d4_16 : decode prog_5_method_2_code 16 = .ok (.getfield 13, 3) := by decide +kernel
theorem d4_19 : decode prog_5_method_2_code 19 = .ok (.lcmp, 1) := by decide +kernel
theorem d4_20 : decode prog_5_method_2_code 20 = .ok (.ifCond .lt 7, 3) := by decide +kernel
theorem d4_27 : decode prog_5_method_2_code 27 = .ok (.iconst 0, 1) := by decide +kernel
theorem d4_28 : decode prog_5_method_2_code 28 = .ok (.istore 4, 2) := by decide +kernel
theorem d4_30 : decode prog_5_method_2_code 30 = .ok (.aload_n 0, 1) := by decide +kernel
theorem d4_31 : decode prog_5_method_2_code 31 = .ok (.getfield 7, 3) := by decide +kernel
theorem d4_34 : decode prog_5_method_2_code 34 = .ok (.ifCond .eq 49, 3) := by decide +kernel
theorem d4_37 : decode prog_5_method_2_code 37 = .ok (.iload 4, 2) := by decide +kernel
theorem d4_39 : decode prog_5_method_2_code 39 = .ok (.ifCond .eq 44, 3) := by decide +kernel
theorem d4_83 : decode prog_5_method_2_code 83 = .ok (.aload_n 0, 1) := by decide +kernel
theorem d4_84 : decode prog_5_method_2_code 84 = .ok (.getfield 7, 3) := by decide +kernel
theorem d4_87 : decode prog_5_method_2_code 87 = .ok (.ifCond .eq 36, 3) := by decide +kernel
theorem d4_90 : decode prog_5_method_2_code 90 = .ok (.aload_n 0, 1) := by decide +kernel
theorem d4_91 : decode prog_5_method_2_code 91 = .ok (.invokevirtual 31, 3) := by decide +kernel
theorem d4_94 : decode prog_5_method_2_code 94 = .ok (.lload_n 1, 1) := by decide +kernel
theorem d4_95 : decode prog_5_method_2_code 95 = .ok (.lconst 0, 1) := by decide +kernel
theorem d4_96 : decode prog_5_method_2_code 96 = .ok (.lcmp, 1) := by decide +kernel
theorem d4_97 : decode prog_5_method_2_code 97 = .ok (.ifCond .le 139, 3) := by decide +kernel
theorem d4_100 : decode prog_5_method_2_code 100 = .ok (.aload_n 0, 1) := by decide +kernel
theorem d4_101 : decode prog_5_method_2_code 101 = .ok (.dup, 1) := by decide +kernel
theorem d4_102 : decode prog_5_method_2_code 102 = .ok (.getfield 34, 3) := by decide +kernel
theorem d4_105 : decode prog_5_method_2_code 105 = .ok (.lconst 1, 1) := by decide +kernel
theorem d4_106 : decode prog_5_method_2_code 106 = .ok (.ladd, 1) := by decide +kernel
theorem d4_107 : decode prog_5_method_2_code 107 = .ok (.putfield 34, 3) := by decide +kernel
theorem d4_110 : decode prog_5_method_2_code 110 = .ok (.aload_n 0, 1) := by decide +kernel
theorem d4_111 : decode prog_5_method_2_code 111 = .ok (.dup, 1) := by decide +kernel
theorem d4_112 : decode prog_5_method_2_code 112 = .ok (.getfield 37, 3) := by decide +kernel
theorem d4_115 : decode prog_5_method_2_code 115 = .ok (.lload_n 1, 1) := by decide +kernel
theorem d4_116 : decode prog_5_method_2_code 116 = .ok (.ladd, 1) := by decide +kernel
theorem d4_117 : decode prog_5_method_2_code 117 = .ok (.putfield 37, 3) := by decide +kernel
theorem d4_120 : decode prog_5_method_2_code 120 = .ok (.goto 116, 3) := by decide +kernel
theorem d4_236 : decode prog_5_method_2_code 236 = .ok (.return_, 1) := by decide +kernel
theorem pd_0 : parseMethodDescriptor "()V" = some ⟨[], none⟩ := by decide +kernel
theorem ef_4A (m : MethodId) (a0 : Addr) (q1 : Int64) : entryFrame m #[(.ref a0), (.long q1), (.int (0 : Int32))] 5 = mkF m 0 #[.val (.ref a0), .val (.long q1), .second, .val (.int (0 : Int32)), .unset] [] := by first | (simp [entryFrame, mkF, argsToLocals, Value.category]; done) | rfl
def own_p4A_erroredSeconds (q1 : Int64) (es : Int64) (pe : Int64) : Int64 := (if (0 : Int64) < q1 then ((es + pe) + (1 : Int64)) else (es + pe))
def own_p4A_backgroundBlockErrors (q1 : Int64) (bb : Int64) : Int64 := (if (0 : Int64) < q1 then (bb + q1) else bb)
def Q4A (Z : State) (a0 : Addr) (q1 : Int64) (th : Int64) (xt : Int64) (sc : Int64) (us : Int64) (xs : Int64) (es : Int64) (ss : Int64) (bb : Int64) (pe : Int64) (pq : Int64) (pb : Int64) (pd : Int64) (h0 : Heap) (n0 : Nat) (v : Option Value) (h : Heap) (L : List Loc) : Prop := v = none ∧ Fr n0 L ∧ Keep h0 h [a0] ∧ Exa Z h a0 "com/example/hopchuan/hopchuan/ErrorCounter" ∧ Fld Z h a0 "com/example/hopchuan/hopchuan/ErrorCounter" "available" "Z" (.int (1 : Int32)) ∧ Fld Z h a0 "com/example/hopchuan/hopchuan/ErrorCounter" "sesErroredBlocks" "J" (.long th) ∧ Fld Z h a0 "com/example/hopchuan/hopchuan/ErrorCounter" "extendingPeriodSeconds" "J" (.long xt) ∧ Fld Z h a0 "com/example/hopchuan/hopchuan/ErrorCounter" "seconds" "J" (.long (sc + (1 : Int64))) ∧ Fld Z h a0 "com/example/hopchuan/hopchuan/ErrorCounter" "unavailableSeconds" "J" (.long us) ∧ Fld Z h a0 "com/example/hopchuan/hopchuan/ErrorCounter" "extendingSeconds" "J" (.long xs) ∧ Fld Z h a0 "com/example/hopchuan/hopchuan/ErrorCounter" "erroredSeconds" "J" (.long (own_p4A_erroredSeconds q1 es pe)) ∧ Fld Z h a0 "com/example/hopchuan/hopchuan/ErrorCounter" "severelyErroredSeconds" "J" (.long (ss + pe)) ∧ Fld Z h a0 "com/example/hopchuan/hopchuan/ErrorCounter" "backgroundBlockErrors" "J" (.long (own_p4A_backgroundBlockErrors q1 bb)) ∧ Fld Z h a0 "com/example/hopchuan/hopchuan/ErrorCounter" "pending" "J" (.long (0 : Int64)) ∧ Fld Z h a0 "com/example/hopchuan/hopchuan/ErrorCounter" "pendingErrored" "J" (.long pq) ∧ Fld Z h a0 "com/example/hopchuan/hopchuan/ErrorCounter" "pendingBlocks" "J" (.long pb) ∧ Fld Z h a0 "com/example/hopchuan/hopchuan/ErrorCounter" "period" "J" (.long pd)
set_option maxRecDepth 65536 in
set_option maxHeartbeats 40000000 in
theorem rm4A (l : Launch) (Z : State) (aw : Array Value) (hw : ∀ d ∈ tables_1, d.before aw Z = true) (wq : List Jvm.Cond) (a0 : Addr) (q1 : Int64) (th : Int64) (xt : Int64) (sc : Int64) (us : Int64) (xs : Int64) (es : Int64) (ss : Int64) (bb : Int64) (pe : Int64) (pq : Int64) (pb : Int64) (pd : Int64) (h0 : Heap) (n0 : Nat) (Z0 : n0 ≤ h0.size) (E_a0 : Exa Z h0 a0 "com/example/hopchuan/hopchuan/ErrorCounter") (F_a0_available : Fld Z h0 a0 "com/example/hopchuan/hopchuan/ErrorCounter" "available" "Z" (.int (1 : Int32))) (F_a0_sesErroredBlocks : Fld Z h0 a0 "com/example/hopchuan/hopchuan/ErrorCounter" "sesErroredBlocks" "J" (.long th)) (F_a0_extendingPeriodSeconds : Fld Z h0 a0 "com/example/hopchuan/hopchuan/ErrorCounter" "extendingPeriodSeconds" "J" (.long xt)) (F_a0_seconds : Fld Z h0 a0 "com/example/hopchuan/hopchuan/ErrorCounter" "seconds" "J" (.long sc)) (F_a0_unavailableSeconds : Fld Z h0 a0 "com/example/hopchuan/hopchuan/ErrorCounter" "unavailableSeconds" "J" (.long us)) (F_a0_extendingSeconds : Fld Z h0 a0 "com/example/hopchuan/hopchuan/ErrorCounter" "extendingSeconds" "J" (.long xs)) (F_a0_erroredSeconds : Fld Z h0 a0 "com/example/hopchuan/hopchuan/ErrorCounter" "erroredSeconds" "J" (.long es)) (F_a0_severelyErroredSeconds : Fld Z h0 a0 "com/example/hopchuan/hopchuan/ErrorCounter" "severelyErroredSeconds" "J" (.long ss)) (F_a0_backgroundBlockErrors : Fld Z h0 a0 "com/example/hopchuan/hopchuan/ErrorCounter" "backgroundBlockErrors" "J" (.long bb)) (F_a0_pending : Fld Z h0 a0 "com/example/hopchuan/hopchuan/ErrorCounter" "pending" "J" (.long pe)) (F_a0_pendingErrored : Fld Z h0 a0 "com/example/hopchuan/hopchuan/ErrorCounter" "pendingErrored" "J" (.long pq)) (F_a0_pendingBlocks : Fld Z h0 a0 "com/example/hopchuan/hopchuan/ErrorCounter" "pendingBlocks" "J" (.long pb)) (F_a0_period : Fld Z h0 a0 "com/example/hopchuan/hopchuan/ErrorCounter" "period" "J" (.long pd)) (g_a0 : n0 ≤ a0) (hq : q1 < th) :
    MetFree l (⟨"com/example/hopchuan/hopchuan/ErrorCounter", "second", "(JZ)V"⟩ : MethodName) (head1 (Jvm.Cond.code (⟨"com/example/hopchuan/hopchuan/ErrorCounter", "second", "(JZ)V"⟩ : MethodName) prog_5_method_2_code 5 none :: wq) ({ frames := 1, cells := 0, slots := 0, locals := 12 } : Room)) (fun a U => a = #[(.ref a0), (.long q1), (.int (0 : Int32))] ∧ Z.Warmed39 U.vm ∧ U.heap = h0) (fun _ _ _ _ _ => True) (fun _ U o U' => ∃ v L, o = .returned v ∧ Q4A Z a0 q1 th xt sc us xs es ss bb pe pq pb pd h0 n0 v U'.heap L ∧ FrameEnd U o U' L ({ frames := 1, cells := 0, slots := 0, locals := 12 } : Room).cells ({ frames := 1, cells := 0, slots := 0, locals := 12 } : Room).slots) := by
  refine MetFree.of_bodySF (plainFor_of_name pn_0) hisR ?_
  intro p e s m args below meth c s₁ Bd hml0 hP hK
  obtain ⟨rfl, hZ, hh⟩ := hP
  have hx := Bd.exec
  have hby := Bd.bytes
  have hml : c.maxLocals = 5 := hml0
  have hown : s.vm.findClass "com/example/hopchuan/hopchuan/ErrorCounter" = some m.cls := findClass_of_methodNamed Bd.named
  have hnm := (name_of_methodNamed Bd.named Bd.method).1
  have X0 : Stand p l e ({ frames := 1, cells := 0, slots := 0, locals := 12 } : Room) s m #[(.ref a0), (.long q1), (.int (0 : Int32))] below meth c s₁ [] 0 0 := Stand.of_body Bd
  have e0 : s₁.heap = h0 := by rw [← hh, Bd.state]; rfl
  have N0 := Fr.nil n0
  have pre0 : own_Pre p e below (s₁.setTop (entryFrame m #[(.ref a0), (.long q1), (.int (0 : Int32))] 5)) (s₁.setTop (mkF m 0 #[.val (.ref a0), .val (.long q1), .second, .val (.int (0 : Int32)), .unset] [])) := fun t k => castTop (ef_4A m a0 q1) k
  obtain ⟨T1, X1, e1, st1⟩ := getF X0 hx hZ hown (host := "") (Or.inl (hw _ (List.mem_of_getElem? (i := 26) rfl))) Via.refl e0 F_a0_seconds (g := (mkF m 2 #[.val (.ref a0), .val (.long q1), .second, .val (.int (0 : Int32)), .unset] [(.ref a0), (.ref a0)])) rfl rfl (hb hby d4_2)
  obtain ⟨T2, h2, X2, e2, W2, st2⟩ := putF X1 hx hZ hown (host := "") (Or.inl (hw _ (List.mem_of_getElem? (i := 26) rfl))) Via.refl e1 F_a0_seconds E_a0 (Or.inl (hw _ (List.mem_of_getElem? (i := 27) rfl))) (hw _ (List.mem_of_getElem? (i := 7) rfl)) (ty := .long) (by decide) rfl rfl (g := (mkF m 7 #[.val (.ref a0), .val (.long q1), .second, .val (.int (0 : Int32)), .unset] [(.long (sc + (1 : Int64))), (.ref a0)])) rfl rfl (hb hby d4_7)
  have Fw2 := F_a0_seconds.same W2
  have N2 := Fr.snoc X2 N0 g_a0
  have kp3 : Keep h0 h2 [a0] := (Keep.refl h0 [a0]).wr W2 (Or.inl (List.mem_of_getElem? (i := 0) rfl))
  have f4 := (F_a0_sesErroredBlocks.other W2 (Or.inr (slot_ne (Or.inr (hw _ (List.mem_of_getElem? (i := 18) rfl))) (Or.inl (hw _ (List.mem_of_getElem? (i := 27) rfl))) (by decide) (t := .long) (t' := .long) (by decide) (by decide))))
  obtain ⟨T5, X5, e5, st5⟩ := getF X2 hx hZ hown (host := "") (Or.inl (hw _ (List.mem_of_getElem? (i := 17) rfl))) Via.refl e2 f4 (g := (mkF m 16 #[.val (.ref a0), .val (.long q1), .second, .val (.int (0 : Int32)), .unset] [(.ref a0), (.long q1)])) rfl rfl (hb hby d4_16)
  have hc20 : (q1 < th) := hq
  have f6 := (F_a0_available.other W2 (Or.inr (slot_ne (Or.inl (hw _ (List.mem_of_getElem? (i := 16) rfl))) (Or.inl (hw _ (List.mem_of_getElem? (i := 27) rfl))) (by decide) (t := .boolean) (t' := .long) (by decide) (by decide))))
  obtain ⟨T7, X7, e7, st7⟩ := getF X5 hx hZ hown (host := "") (Or.inl (hw _ (List.mem_of_getElem? (i := 15) rfl))) Via.refl e5 f6 (g := (mkF m 31 #[.val (.ref a0), .val (.long q1), .second, .val (.int (0 : Int32)), .val (.int (0 : Int32))] [(.ref a0)])) rfl rfl (hb hby d4_31)
  obtain ⟨T8, X8, e8, st8⟩ := getF X7 hx hZ hown (host := "") (Or.inl (hw _ (List.mem_of_getElem? (i := 15) rfl))) Via.refl e7 f6 (g := (mkF m 84 #[.val (.ref a0), .val (.long q1), .second, .val (.int (0 : Int32)), .val (.int (0 : Int32))] [(.ref a0)])) rfl rfl (hb hby d4_84)
  have f10 := (E_a0.wr W2)
  have f11 := (F_a0_extendingPeriodSeconds.other W2 (Or.inr (slot_ne (Or.inr (hw _ (List.mem_of_getElem? (i := 20) rfl))) (Or.inl (hw _ (List.mem_of_getElem? (i := 27) rfl))) (by decide) (t := .long) (t' := .long) (by decide) (by decide))))
  have f12 := (F_a0_unavailableSeconds.other W2 (Or.inr (slot_ne (Or.inl (hw _ (List.mem_of_getElem? (i := 72) rfl))) (Or.inl (hw _ (List.mem_of_getElem? (i := 27) rfl))) (by decide) (t := .long) (t' := .long) (by decide) (by decide))))
  have f13 := (F_a0_extendingSeconds.other W2 (Or.inr (slot_ne (Or.inl (hw _ (List.mem_of_getElem? (i := 74) rfl))) (Or.inl (hw _ (List.mem_of_getElem? (i := 27) rfl))) (by decide) (t := .long) (t' := .long) (by decide) (by decide))))
  have f14 := (F_a0_erroredSeconds.other W2 (Or.inr (slot_ne (Or.inl (hw _ (List.mem_of_getElem? (i := 33) rfl))) (Or.inl (hw _ (List.mem_of_getElem? (i := 27) rfl))) (by decide) (t := .long) (t' := .long) (by decide) (by decide))))
  have f15 := (F_a0_severelyErroredSeconds.other W2 (Or.inr (slot_ne (Or.inl (hw _ (List.mem_of_getElem? (i := 37) rfl))) (Or.inl (hw _ (List.mem_of_getElem? (i := 27) rfl))) (by decide) (t := .long) (t' := .long) (by decide) (by decide))))
  have f16 := (F_a0_backgroundBlockErrors.other W2 (Or.inr (slot_ne (Or.inl (hw _ (List.mem_of_getElem? (i := 97) rfl))) (Or.inl (hw _ (List.mem_of_getElem? (i := 27) rfl))) (by decide) (t := .long) (t' := .long) (by decide) (by decide))))
  have f17 := (F_a0_pending.other W2 (Or.inr (slot_ne (Or.inl (hw _ (List.mem_of_getElem? (i := 35) rfl))) (Or.inl (hw _ (List.mem_of_getElem? (i := 27) rfl))) (by decide) (t := .long) (t' := .long) (by decide) (by decide))))
  have f18 := (F_a0_pendingErrored.other W2 (Or.inr (slot_ne (Or.inl (hw _ (List.mem_of_getElem? (i := 64) rfl))) (Or.inl (hw _ (List.mem_of_getElem? (i := 27) rfl))) (by decide) (t := .long) (t' := .long) (by decide) (by decide))))
  have f19 := (F_a0_pendingBlocks.other W2 (Or.inr (slot_ne (Or.inl (hw _ (List.mem_of_getElem? (i := 66) rfl))) (Or.inl (hw _ (List.mem_of_getElem? (i := 27) rfl))) (by decide) (t := .long) (t' := .long) (by decide) (by decide))))
  have f20 := (F_a0_period.other W2 (Or.inr (slot_ne (Or.inl (hw _ (List.mem_of_getElem? (i := 44) rfl))) (Or.inl (hw _ (List.mem_of_getElem? (i := 27) rfl))) (by decide) (t := .long) (t' := .long) (by decide) (by decide))))
  have z21 : n0 ≤ (h2).size := (Nat.le_trans Z0 (Keep.of_wr W2).1)
  obtain ⟨cq9, qa9, qb9⟩ := f10.cell
  obtain ⟨_, _, ⟨T9, L9, k9, n9⟩, -, X9, ⟨Lc9, hQ9, l9, y9, z9⟩, st9⟩ := X8.privateBack hx (y := (⟨"com/example/hopchuan/hopchuan/ErrorCounter", "settleAvailableRun", "()V"⟩ : MethodName)) hown (mvT hZ (hw _ (List.mem_of_getElem? (i := 28) rfl))) (mvT hZ (hw _ (List.mem_of_getElem? (i := 29) rfl))) (own_selp (y := (⟨"com/example/hopchuan/hopchuan/ErrorCounter", "settleAvailableRun", "()V"⟩ : MethodName)) (z := (⟨"com/example/hopchuan/hopchuan/ErrorCounter", "second", "(JZ)V"⟩ : MethodName)) (mvT hZ (hw _ (List.mem_of_getElem? (i := 24) rfl))) rfl (Cond.privateMethod_at (mvP hZ (hw _ (List.mem_of_getElem? (i := 30) rfl)) (args := #[]))) (mvT hZ (hw _ (List.mem_of_getElem? (i := 29) rfl))) (by decide)) (Cond.privateMethod_at (mvP hZ (hw _ (List.mem_of_getElem? (i := 30) rfl)) (args := #[]))) (mvT hZ (hw _ (List.mem_of_getElem? (i := 31) rfl))) (by decide) (backOf (W := 0) (rm5 l Z aw hw [] (a0) (th) (xt) ((sc + (1 : Int64))) (us) (xs) (es) (ss) (bb) (pe) (pq) (pb) (pd) (h2) n0 z21 f10 f6 f4 f11 Fw2 f12 f13 f14 f15 f16 f17 f18 f19 f20 g_a0) hZ (hw _ (List.mem_of_getElem? (i := 31) rfl)) (hw _ (List.mem_of_getElem? (i := 8) rfl)) (by decide) (by decide)) (g := (mkF m 91 #[.val (.ref a0), .val (.long q1), .second, .val (.int (0 : Int32)), .val (.int (0 : Int32))] [(.ref a0)])) rfl (by rw [hml]; rfl) (Steps.refl _) (a := a0) (by rw [e8]; exact qa9) qb9 (argsL := []) (rest := []) (lenOf pd_0 rfl) rfl (by show 2 * 0 + _ ≤ _; exact Nat.le_of_eq rfl) (hb hby d4_91) (fun _ _ => ⟨rfl, e8, (by decide : 0 + 0 ≤ _), (by decide : 0 + 0 ≤ _)⟩)
  dsimp only [Pt.U, Pt.locs, Pt.cells, Pt.slots] at X9 l9 y9 z9 st9 hQ9
  subst l9 y9 z9
  obtain ⟨rfl, Nq9, K9, po9_0, po9_1, po9_2, po9_3, po9_4, po9_5, po9_6, po9_7, po9_8, po9_9, po9_10, po9_11, po9_12, po9_13⟩ := hQ9
  have N9 := Fr.app N2 Nq9
  have kp22 : Keep h0 T9.heap [a0] := kp3.trans K9 (allS (Or.inl (List.mem_of_getElem? (i := 0) rfl)) all0)
  have pre23 : own_Pre p e below (s₁.setTop (entryFrame m #[(.ref a0), (.long q1), (.int (0 : Int32))] 5)) (T9.setTop (mkF m 97 #[.val (.ref a0), .val (.long q1), .second, .val (.int (0 : Int32)), .val (.int (0 : Int32))] [(.int (lcmpW q1 (0 : Int64)))])) := fun t k => pre0 t (by
      show Steps p.tables e below (s₁.setTop (mkF m 0 #[.val (.ref a0), .val (.long q1), .second, .val (.int (0 : Int32)), .unset] [])) _
      refine XS.aloadN X0.here hx rfl (hb hby d4_0) rfl rfl ?_
      show Steps p.tables e below (s₁.setTop (mkF m 1 #[.val (.ref a0), .val (.long q1), .second, .val (.int (0 : Int32)), .unset] [(.ref a0)])) _
      refine XS.dup X0.here hx rfl (hb hby d4_1) rfl rfl ?_
      show Steps p.tables e below (s₁.setTop (mkF m 2 #[.val (.ref a0), .val (.long q1), .second, .val (.int (0 : Int32)), .unset] [(.ref a0), (.ref a0)])) _
      refine st1 _ ?_
      show Steps p.tables e below (T1.setTop (mkF m 5 #[.val (.ref a0), .val (.long q1), .second, .val (.int (0 : Int32)), .unset] [(.long sc), (.ref a0)])) _
      refine XS.lconst X1.here hx rfl (hb hby d4_5) ?_
      show Steps p.tables e below (T1.setTop (mkF m 6 #[.val (.ref a0), .val (.long q1), .second, .val (.int (0 : Int32)), .unset] [(.long (1 : Int64)), (.long sc), (.ref a0)])) _
      refine XS.ladd X1.here hx rfl (hb hby d4_6) rfl ?_
      show Steps p.tables e below (T1.setTop (mkF m 7 #[.val (.ref a0), .val (.long q1), .second, .val (.int (0 : Int32)), .unset] [(.long (sc + (1 : Int64))), (.ref a0)])) _
      refine st2 _ ?_
      show Steps p.tables e below (T2.setTop (mkF m 10 #[.val (.ref a0), .val (.long q1), .second, .val (.int (0 : Int32)), .unset] [])) _
      refine XS.iloadN X2.here hx rfl (hb hby d4_10) rfl ?_
      show Steps p.tables e below (T2.setTop (mkF m 11 #[.val (.ref a0), .val (.long q1), .second, .val (.int (0 : Int32)), .unset] [(.int (0 : Int32))])) _
      refine XS.ifNo X2.here hx rfl (hb hby d4_11) rfl ((if0 _ _).trans (teq (by decide : ((0 : Int32) = (0 : Int32)))).2) ?_
      show Steps p.tables e below (T2.setTop (mkF m 14 #[.val (.ref a0), .val (.long q1), .second, .val (.int (0 : Int32)), .unset] [])) _
      refine XS.lloadN X2.here hx rfl (hb hby d4_14) rfl ?_
      show Steps p.tables e below (T2.setTop (mkF m 15 #[.val (.ref a0), .val (.long q1), .second, .val (.int (0 : Int32)), .unset] [(.long q1)])) _
      refine XS.aloadN X2.here hx rfl (hb hby d4_15) rfl rfl ?_
      show Steps p.tables e below (T2.setTop (mkF m 16 #[.val (.ref a0), .val (.long q1), .second, .val (.int (0 : Int32)), .unset] [(.ref a0), (.long q1)])) _
      refine st5 _ ?_
      show Steps p.tables e below (T5.setTop (mkF m 19 #[.val (.ref a0), .val (.long q1), .second, .val (.int (0 : Int32)), .unset] [(.long th), (.long q1)])) _
      refine XS.lcmp X5.here hx rfl (hb hby d4_19) rfl ?_
      show Steps p.tables e below (T5.setTop (mkF m 20 #[.val (.ref a0), .val (.long q1), .second, .val (.int (0 : Int32)), .unset] [(.int (lcmpW q1 th))])) _
      refine XS.ifYes X5.here hx rfl (pc0 := 20) (pc' := 27) rfl (hb hby d4_20) rfl ((if0 _ _).trans (tlt ((lw_lt _ _).mpr hc20)).1) (by decide) (by decide) ?_
      show Steps p.tables e below (T5.setTop (mkF m 27 #[.val (.ref a0), .val (.long q1), .second, .val (.int (0 : Int32)), .unset] [])) _
      refine XS.iconst X5.here hx rfl (hb hby d4_27) ?_
      show Steps p.tables e below (T5.setTop (mkF m 28 #[.val (.ref a0), .val (.long q1), .second, .val (.int (0 : Int32)), .unset] [(.int (0 : Int32))])) _
      refine XS.istore X5.here hx rfl (hb hby d4_28) rfl (l' := #[.val (.ref a0), .val (.long q1), .second, .val (.int (0 : Int32)), .val (.int (0 : Int32))]) rfl ?_
      show Steps p.tables e below (T5.setTop (mkF m 30 #[.val (.ref a0), .val (.long q1), .second, .val (.int (0 : Int32)), .val (.int (0 : Int32))] [])) _
      refine XS.aloadN X5.here hx rfl (hb hby d4_30) rfl rfl ?_
      show Steps p.tables e below (T5.setTop (mkF m 31 #[.val (.ref a0), .val (.long q1), .second, .val (.int (0 : Int32)), .val (.int (0 : Int32))] [(.ref a0)])) _
      refine st7 _ ?_
      show Steps p.tables e below (T7.setTop (mkF m 34 #[.val (.ref a0), .val (.long q1), .second, .val (.int (0 : Int32)), .val (.int (0 : Int32))] [(.int (1 : Int32))])) _
      refine XS.ifNo X7.here hx rfl (hb hby d4_34) rfl ((if0 _ _).trans (feq (by decide : ¬ ((1 : Int32) = (0 : Int32)))).1) ?_
      show Steps p.tables e below (T7.setTop (mkF m 37 #[.val (.ref a0), .val (.long q1), .second, .val (.int (0 : Int32)), .val (.int (0 : Int32))] [])) _
      refine XS.iload X7.here hx rfl (hb hby d4_37) rfl ?_
      show Steps p.tables e below (T7.setTop (mkF m 39 #[.val (.ref a0), .val (.long q1), .second, .val (.int (0 : Int32)), .val (.int (0 : Int32))] [(.int (0 : Int32))])) _
      refine XS.ifYes X7.here hx rfl (pc0 := 39) (pc' := 83) rfl (hb hby d4_39) rfl ((if0 _ _).trans (teq (by decide : ((0 : Int32) = (0 : Int32)))).1) (by decide) (by decide) ?_
      show Steps p.tables e below (T7.setTop (mkF m 83 #[.val (.ref a0), .val (.long q1), .second, .val (.int (0 : Int32)), .val (.int (0 : Int32))] [])) _
      refine XS.aloadN X7.here hx rfl (hb hby d4_83) rfl rfl ?_
      show Steps p.tables e below (T7.setTop (mkF m 84 #[.val (.ref a0), .val (.long q1), .second, .val (.int (0 : Int32)), .val (.int (0 : Int32))] [(.ref a0)])) _
      refine st8 _ ?_
      show Steps p.tables e below (T8.setTop (mkF m 87 #[.val (.ref a0), .val (.long q1), .second, .val (.int (0 : Int32)), .val (.int (0 : Int32))] [(.int (1 : Int32))])) _
      refine XS.ifNo X8.here hx rfl (hb hby d4_87) rfl ((if0 _ _).trans (feq (by decide : ¬ ((1 : Int32) = (0 : Int32)))).1) ?_
      show Steps p.tables e below (T8.setTop (mkF m 90 #[.val (.ref a0), .val (.long q1), .second, .val (.int (0 : Int32)), .val (.int (0 : Int32))] [])) _
      refine XS.aloadN X8.here hx rfl (hb hby d4_90) rfl rfl ?_
      show Steps p.tables e below (T8.setTop (mkF m 91 #[.val (.ref a0), .val (.long q1), .second, .val (.int (0 : Int32)), .val (.int (0 : Int32))] [(.ref a0)])) _
      refine st9.trans ?_
      show Steps p.tables e below (T9.setTop (mkF m 94 #[.val (.ref a0), .val (.long q1), .second, .val (.int (0 : Int32)), .val (.int (0 : Int32))] [])) _
      refine XS.lloadN X9.here hx rfl (hb hby d4_94) rfl ?_
      show Steps p.tables e below (T9.setTop (mkF m 95 #[.val (.ref a0), .val (.long q1), .second, .val (.int (0 : Int32)), .val (.int (0 : Int32))] [(.long q1)])) _
      refine XS.lconst X9.here hx rfl (hb hby d4_95) ?_
      show Steps p.tables e below (T9.setTop (mkF m 96 #[.val (.ref a0), .val (.long q1), .second, .val (.int (0 : Int32)), .val (.int (0 : Int32))] [(.long (0 : Int64)), (.long q1)])) _
      refine XS.lcmp X9.here hx rfl (hb hby d4_96) rfl ?_
      exact k)
  by_cases hc97 : (0 : Int64) < q1
  · obtain ⟨T24, X24, e24, st24⟩ := getF X9 hx hZ hown (host := "") (Or.inl (hw _ (List.mem_of_getElem? (i := 32) rfl))) Via.refl rfl po9_7 (g := (mkF m 102 #[.val (.ref a0), .val (.long q1), .second, .val (.int (0 : Int32)), .val (.int (0 : Int32))] [(.ref a0), (.ref a0)])) rfl rfl (hb hby d4_102)
    obtain ⟨T25, h25, X25, e25, W25, st25⟩ := putF X24 hx hZ hown (host := "") (Or.inl (hw _ (List.mem_of_getElem? (i := 32) rfl))) Via.refl e24 po9_7 po9_0 (Or.inl (hw _ (List.mem_of_getElem? (i := 33) rfl))) (hw _ (List.mem_of_getElem? (i := 7) rfl)) (ty := .long) (by decide) rfl rfl (g := (mkF m 107 #[.val (.ref a0), .val (.long q1), .second, .val (.int (0 : Int32)), .val (.int (0 : Int32))] [(.long ((es + pe) + (1 : Int64))), (.ref a0)])) rfl rfl (hb hby d4_107)
    have Fw25 := po9_7.same W25
    have N25 := Fr.snoc X25 N9 g_a0
    have kp26 : Keep h0 h25 [a0] := kp22.wr W25 (Or.inl (List.mem_of_getElem? (i := 0) rfl))
    have f27 := (po9_9.other W25 (Or.inr (slot_ne (Or.inl (hw _ (List.mem_of_getElem? (i := 97) rfl))) (Or.inl (hw _ (List.mem_of_getElem? (i := 33) rfl))) (by decide) (t := .long) (t' := .long) (by decide) (by decide))))
    obtain ⟨T28, X28, e28, st28⟩ := getF X25 hx hZ hown (host := "") (Or.inl (hw _ (List.mem_of_getElem? (i := 96) rfl))) Via.refl e25 f27 (g := (mkF m 112 #[.val (.ref a0), .val (.long q1), .second, .val (.int (0 : Int32)), .val (.int (0 : Int32))] [(.ref a0), (.ref a0)])) rfl rfl (hb hby d4_112)
    have f29 := (po9_0.wr W25)
    obtain ⟨T30, h30, X30, e30, W30, st30⟩ := putF X28 hx hZ hown (host := "") (Or.inl (hw _ (List.mem_of_getElem? (i := 96) rfl))) Via.refl e28 f27 f29 (Or.inl (hw _ (List.mem_of_getElem? (i := 97) rfl))) (hw _ (List.mem_of_getElem? (i := 7) rfl)) (ty := .long) (by decide) rfl rfl (g := (mkF m 117 #[.val (.ref a0), .val (.long q1), .second, .val (.int (0 : Int32)), .val (.int (0 : Int32))] [(.long (bb + q1)), (.ref a0)])) rfl rfl (hb hby d4_117)
    have Fw30 := f27.same W30
    have N30 := Fr.snoc X30 N25 g_a0
    have kp31 : Keep h0 h30 [a0] := kp26.wr W30 (Or.inl (List.mem_of_getElem? (i := 0) rfl))
    obtain ⟨fs, hr, hrun, hended, hW, hsame⟩ := X30.leave (v := none) (fun _ => rfl)
    refine ⟨_, _, pre23 _ ?_, hrun, hended, _, _, rfl, ?_, ⟨_, rfl⟩, hW, hsame.mono (by decide) (by decide)⟩
    · show Steps p.tables e below (T9.setTop (mkF m 97 #[.val (.ref a0), .val (.long q1), .second, .val (.int (0 : Int32)), .val (.int (0 : Int32))] [(.int (lcmpW q1 (0 : Int64)))])) _
      refine XS.ifNo X9.here hx rfl (hb hby d4_97) rfl ((if0 _ _).trans (tlt ((lw_gt _ _).mpr hc97)).2.2.2) ?_
      show Steps p.tables e below (T9.setTop (mkF m 100 #[.val (.ref a0), .val (.long q1), .second, .val (.int (0 : Int32)), .val (.int (0 : Int32))] [])) _
      refine XS.aloadN X9.here hx rfl (hb hby d4_100) rfl rfl ?_
      show Steps p.tables e below (T9.setTop (mkF m 101 #[.val (.ref a0), .val (.long q1), .second, .val (.int (0 : Int32)), .val (.int (0 : Int32))] [(.ref a0)])) _
      refine XS.dup X9.here hx rfl (hb hby d4_101) rfl rfl ?_
      show Steps p.tables e below (T9.setTop (mkF m 102 #[.val (.ref a0), .val (.long q1), .second, .val (.int (0 : Int32)), .val (.int (0 : Int32))] [(.ref a0), (.ref a0)])) _
      refine st24 _ ?_
      show Steps p.tables e below (T24.setTop (mkF m 105 #[.val (.ref a0), .val (.long q1), .second, .val (.int (0 : Int32)), .val (.int (0 : Int32))] [(.long (es + pe)), (.ref a0)])) _
      refine XS.lconst X24.here hx rfl (hb hby d4_105) ?_
      show Steps p.tables e below (T24.setTop (mkF m 106 #[.val (.ref a0), .val (.long q1), .second, .val (.int (0 : Int32)), .val (.int (0 : Int32))] [(.long (1 : Int64)), (.long (es + pe)), (.ref a0)])) _
      refine XS.ladd X24.here hx rfl (hb hby d4_106) rfl ?_
      show Steps p.tables e below (T24.setTop (mkF m 107 #[.val (.ref a0), .val (.long q1), .second, .val (.int (0 : Int32)), .val (.int (0 : Int32))] [(.long ((es + pe) + (1 : Int64))), (.ref a0)])) _
      refine st25 _ ?_
      show Steps p.tables e below (T25.setTop (mkF m 110 #[.val (.ref a0), .val (.long q1), .second, .val (.int (0 : Int32)), .val (.int (0 : Int32))] [])) _
      refine XS.aloadN X25.here hx rfl (hb hby d4_110) rfl rfl ?_
      show Steps p.tables e below (T25.setTop (mkF m 111 #[.val (.ref a0), .val (.long q1), .second, .val (.int (0 : Int32)), .val (.int (0 : Int32))] [(.ref a0)])) _
      refine XS.dup X25.here hx rfl (hb hby d4_111) rfl rfl ?_
      show Steps p.tables e below (T25.setTop (mkF m 112 #[.val (.ref a0), .val (.long q1), .second, .val (.int (0 : Int32)), .val (.int (0 : Int32))] [(.ref a0), (.ref a0)])) _
      refine st28 _ ?_
      show Steps p.tables e below (T28.setTop (mkF m 115 #[.val (.ref a0), .val (.long q1), .second, .val (.int (0 : Int32)), .val (.int (0 : Int32))] [(.long bb), (.ref a0)])) _
      refine XS.lloadN X28.here hx rfl (hb hby d4_115) rfl ?_
      show Steps p.tables e below (T28.setTop (mkF m 116 #[.val (.ref a0), .val (.long q1), .second, .val (.int (0 : Int32)), .val (.int (0 : Int32))] [(.long q1), (.long bb), (.ref a0)])) _
      refine XS.ladd X28.here hx rfl (hb hby d4_116) rfl ?_
      show Steps p.tables e below (T28.setTop (mkF m 117 #[.val (.ref a0), .val (.long q1), .second, .val (.int (0 : Int32)), .val (.int (0 : Int32))] [(.long (bb + q1)), (.ref a0)])) _
      refine st30 _ ?_
      show Steps p.tables e below (T30.setTop (mkF m 120 #[.val (.ref a0), .val (.long q1), .second, .val (.int (0 : Int32)), .val (.int (0 : Int32))] [])) _
      refine XS.goto X30.here hx rfl (pc0 := 120) (pc' := 236) rfl (hb hby d4_120) (by decide) (by decide) ?_
      show Steps p.tables e below (T30.setTop (mkF m 236 #[.val (.ref a0), .val (.long q1), .second, .val (.int (0 : Int32)), .val (.int (0 : Int32))] [])) _
      exact X30.returnOut hx Bd.returns (hb hby d4_236) hr
    · show Q4A Z a0 q1 th xt sc us xs es ss bb pe pq pb pd h0 n0 _ T30.heap _
      rw [e30]
      unfold Q4A
      have f32 := (f29.wr W30)
      have f33 := ((po9_1.other W25 (Or.inr (slot_ne (Or.inl (hw _ (List.mem_of_getElem? (i := 16) rfl))) (Or.inl (hw _ (List.mem_of_getElem? (i := 33) rfl))) (by decide) (t := .boolean) (t' := .long) (by decide) (by decide)))).other W30 (Or.inr (slot_ne (Or.inl (hw _ (List.mem_of_getElem? (i := 16) rfl))) (Or.inl (hw _ (List.mem_of_getElem? (i := 97) rfl))) (by decide) (t := .boolean) (t' := .long) (by decide) (by decide))))
      have f34 := ((po9_2.other W25 (Or.inr (slot_ne (Or.inr (hw _ (List.mem_of_getElem? (i := 18) rfl))) (Or.inl (hw _ (List.mem_of_getElem? (i := 33) rfl))) (by decide) (t := .long) (t' := .long) (by decide) (by decide)))).other W30 (Or.inr (slot_ne (Or.inr (hw _ (List.mem_of_getElem? (i := 18) rfl))) (Or.inl (hw _ (List.mem_of_getElem? (i := 97) rfl))) (by decide) (t := .long) (t' := .long) (by decide) (by decide))))
      have f35 := ((po9_3.other W25 (Or.inr (slot_ne (Or.inr (hw _ (List.mem_of_getElem? (i := 20) rfl))) (Or.inl (hw _ (List.mem_of_getElem? (i := 33) rfl))) (by decide) (t := .long) (t' := .long) (by decide) (by decide)))).other W30 (Or.inr (slot_ne (Or.inr (hw _ (List.mem_of_getElem? (i := 20) rfl))) (Or.inl (hw _ (List.mem_of_getElem? (i := 97) rfl))) (by decide) (t := .long) (t' := .long) (by decide) (by decide))))
      have f36 := ((po9_4.other W25 (Or.inr (slot_ne (Or.inl (hw _ (List.mem_of_getElem? (i := 27) rfl))) (Or.inl (hw _ (List.mem_of_getElem? (i := 33) rfl))) (by decide) (t := .long) (t' := .long) (by decide) (by decide)))).other W30 (Or.inr (slot_ne (Or.inl (hw _ (List.mem_of_getElem? (i := 27) rfl))) (Or.inl (hw _ (List.mem_of_getElem? (i := 97) rfl))) (by decide) (t := .long) (t' := .long) (by decide) (by decide))))
      have f37 := ((po9_5.other W25 (Or.inr (slot_ne (Or.inl (hw _ (List.mem_of_getElem? (i := 72) rfl))) (Or.inl (hw _ (List.mem_of_getElem? (i := 33) rfl))) (by decide) (t := .long) (t' := .long) (by decide) (by decide)))).other W30 (Or.inr (slot_ne (Or.inl (hw _ (List.mem_of_getElem? (i := 72) rfl))) (Or.inl (hw _ (List.mem_of_getElem? (i := 97) rfl))) (by decide) (t := .long) (t' := .long) (by decide) (by decide))))
      have f38 := ((po9_6.other W25 (Or.inr (slot_ne (Or.inl (hw _ (List.mem_of_getElem? (i := 74) rfl))) (Or.inl (hw _ (List.mem_of_getElem? (i := 33) rfl))) (by decide) (t := .long) (t' := .long) (by decide) (by decide)))).other W30 (Or.inr (slot_ne (Or.inl (hw _ (List.mem_of_getElem? (i := 74) rfl))) (Or.inl (hw _ (List.mem_of_getElem? (i := 97) rfl))) (by decide) (t := .long) (t' := .long) (by decide) (by decide))))
      have f39 := (Fw25.other W30 (Or.inr (slot_ne (Or.inl (hw _ (List.mem_of_getElem? (i := 33) rfl))) (Or.inl (hw _ (List.mem_of_getElem? (i := 97) rfl))) (by decide) (t := .long) (t' := .long) (by decide) (by decide))))
      have f40 := ((po9_8.other W25 (Or.inr (slot_ne (Or.inl (hw _ (List.mem_of_getElem? (i := 37) rfl))) (Or.inl (hw _ (List.mem_of_getElem? (i := 33) rfl))) (by decide) (t := .long) (t' := .long) (by decide) (by decide)))).other W30 (Or.inr (slot_ne (Or.inl (hw _ (List.mem_of_getElem? (i := 37) rfl))) (Or.inl (hw _ (List.mem_of_getElem? (i := 97) rfl))) (by decide) (t := .long) (t' := .long) (by decide) (by decide))))
      have f41 := ((po9_10.other W25 (Or.inr (slot_ne (Or.inl (hw _ (List.mem_of_getElem? (i := 35) rfl))) (Or.inl (hw _ (List.mem_of_getElem? (i := 33) rfl))) (by decide) (t := .long) (t' := .long) (by decide) (by decide)))).other W30 (Or.inr (slot_ne (Or.inl (hw _ (List.mem_of_getElem? (i := 35) rfl))) (Or.inl (hw _ (List.mem_of_getElem? (i := 97) rfl))) (by decide) (t := .long) (t' := .long) (by decide) (by decide))))
      have f42 := ((po9_11.other W25 (Or.inr (slot_ne (Or.inl (hw _ (List.mem_of_getElem? (i := 64) rfl))) (Or.inl (hw _ (List.mem_of_getElem? (i := 33) rfl))) (by decide) (t := .long) (t' := .long) (by decide) (by decide)))).other W30 (Or.inr (slot_ne (Or.inl (hw _ (List.mem_of_getElem? (i := 64) rfl))) (Or.inl (hw _ (List.mem_of_getElem? (i := 97) rfl))) (by decide) (t := .long) (t' := .long) (by decide) (by decide))))
      have f43 := ((po9_12.other W25 (Or.inr (slot_ne (Or.inl (hw _ (List.mem_of_getElem? (i := 66) rfl))) (Or.inl (hw _ (List.mem_of_getElem? (i := 33) rfl))) (by decide) (t := .long) (t' := .long) (by decide) (by decide)))).other W30 (Or.inr (slot_ne (Or.inl (hw _ (List.mem_of_getElem? (i := 66) rfl))) (Or.inl (hw _ (List.mem_of_getElem? (i := 97) rfl))) (by decide) (t := .long) (t' := .long) (by decide) (by decide))))
      have f44 := ((po9_13.other W25 (Or.inr (slot_ne (Or.inl (hw _ (List.mem_of_getElem? (i := 44) rfl))) (Or.inl (hw _ (List.mem_of_getElem? (i := 33) rfl))) (by decide) (t := .long) (t' := .long) (by decide) (by decide)))).other W30 (Or.inr (slot_ne (Or.inl (hw _ (List.mem_of_getElem? (i := 44) rfl))) (Or.inl (hw _ (List.mem_of_getElem? (i := 97) rfl))) (by decide) (t := .long) (t' := .long) (by decide) (by decide))))
      refine ⟨rfl, N30, kp31, f32, ?_, ?_, ?_, ?_, ?_, ?_, ?_, ?_, ?_, ?_, ?_, ?_, ?_⟩
      · exact f33
      · exact f34
      · exact f35
      · exact f36
      · exact f37
      · exact f38
      · rw [show (own_p4A_erroredSeconds q1 es pe) = ((es + pe) + (1 : Int64)) from (by simp only [own_p4A_erroredSeconds, if_pos hc97])]; exact f39
      · exact f40
      · rw [show (own_p4A_backgroundBlockErrors q1 bb) = (bb + q1) from (by simp only [own_p4A_backgroundBlockErrors, if_pos hc97])]; exact Fw30
      · exact f41
      · exact f42
      · exact f43
      · exact f44
  · obtain ⟨fs, hr, hrun, hended, hW, hsame⟩ := X9.leave (v := none) (fun _ => rfl)
    refine ⟨_, _, pre23 _ ?_, hrun, hended, _, _, rfl, ?_, ⟨_, rfl⟩, hW, hsame.mono (by decide) (by decide)⟩
    · show Steps p.tables e below (T9.setTop (mkF m 97 #[.val (.ref a0), .val (.long q1), .second, .val (.int (0 : Int32)), .val (.int (0 : Int32))] [(.int (lcmpW q1 (0 : Int64)))])) _
      refine XS.ifYes X9.here hx rfl (pc0 := 97) (pc' := 236) rfl (hb hby d4_97) rfl ((if0 _ _).trans (flt (mt (lw_gt _ _).mp hc97)).2.2.2) (by decide) (by decide) ?_
      show Steps p.tables e below (T9.setTop (mkF m 236 #[.val (.ref a0), .val (.long q1), .second, .val (.int (0 : Int32)), .val (.int (0 : Int32))] [])) _
      exact X9.returnOut hx Bd.returns (hb hby d4_236) hr
    · show Q4A Z a0 q1 th xt sc us xs es ss bb pe pq pb pd h0 n0 _ T9.heap _
      unfold Q4A
      refine ⟨rfl, N9, kp22, po9_0, ?_, ?_, ?_, ?_, ?_, ?_, ?_, ?_, ?_, ?_, ?_, ?_, ?_⟩
      · exact po9_1
      · exact po9_2
      · exact po9_3
      · exact po9_4
      · exact po9_5
      · exact po9_6
      · rw [show (own_p4A_erroredSeconds q1 es pe) = (es + pe) from (by simp only [own_p4A_erroredSeconds, if_neg hc97])]; exact po9_7
      · exact po9_8
      · rw [show (own_p4A_backgroundBlockErrors q1 bb) = bb from (by simp only [own_p4A_backgroundBlockErrors, if_neg hc97])]; exact po9_9
      · exact po9_10
      · exact po9_11
      · exact po9_12
      · exact po9_13
theorem d4_23 : decode prog_5_method_2_code 23 = .ok (.iconst 1, 1) := by decide +kernel
theorem d4_24 : decode prog_5_method_2_code 24 = .ok (.goto 4, 3) := by decide +kernel
theorem d4_42 : decode prog_5_method_2_code 42 = .ok (.aload_n 0, 1) := by decide +kernel
theorem d4_43 : decode prog_5_method_2_code 43 = .ok (.dup, 1) := by decide +kernel
theorem d4_44 : decode prog_5_method_2_code 44 = .ok (.getfield 23, 3) := by decide +kernel
theorem d4_47 : decode prog_5_method_2_code 47 = .ok (.lconst 1, 1) := by decide +kernel
theorem d4_48 : decode prog_5_method_2_code 48 = .ok (.ladd, 1) := by decide +kernel
theorem d4_49 : decode prog_5_method_2_code 49 = .ok (.putfield 23, 3) := by decide +kernel
theorem d4_52 : decode prog_5_method_2_code 52 = .ok (.aload_n 0, 1) := by decide +kernel
theorem d4_53 : decode prog_5_method_2_code 53 = .ok (.getfield 23, 3) := by decide +kernel
theorem d4_56 : decode prog_5_method_2_code 56 = .ok (.ldc2_w 26, 3) := by decide +kernel
theorem d4_59 : decode prog_5_method_2_code 59 = .ok (.lcmp, 1) := by decide +kernel
theorem d4_60 : decode prog_5_method_2_code 60 = .ok (.ifCond .ne 176, 3) := by decide +kernel
theorem ef_4B (m : MethodId) (a0 : Addr) (q1 : Int64) : entryFrame m #[(.ref a0), (.long q1), (.int (1 : Int32))] 5 = mkF m 0 #[.val (.ref a0), .val (.long q1), .second, .val (.int (1 : Int32)), .unset] [] := by first | (simp [entryFrame, mkF, argsToLocals, Value.category]; done) | rfl
def Q4B (Z : State) (a0 : Addr) (q1 : Int64) (th : Int64) (xt : Int64) (sc : Int64) (us : Int64) (xs : Int64) (es : Int64) (ss : Int64) (bb : Int64) (pe : Int64) (pq : Int64) (pb : Int64) (pd : Int64) (h0 : Heap) (n0 : Nat) (v : Option Value) (h : Heap) (L : List Loc) : Prop := v = none ∧ Fr n0 L ∧ Keep h0 h [a0] ∧ Exa Z h a0 "com/example/hopchuan/hopchuan/ErrorCounter" ∧ Fld Z h a0 "com/example/hopchuan/hopchuan/ErrorCounter" "available" "Z" (.int (1 : Int32)) ∧ Fld Z h a0 "com/example/hopchuan/hopchuan/ErrorCounter" "sesErroredBlocks" "J" (.long th) ∧ Fld Z h a0 "com/example/hopchuan/hopchuan/ErrorCounter" "extendingPeriodSeconds" "J" (.long xt) ∧ Fld Z h a0 "com/example/hopchuan/hopchuan/ErrorCounter" "seconds" "J" (.long (sc + (1 : Int64))) ∧ Fld Z h a0 "com/example/hopchuan/hopchuan/ErrorCounter" "unavailableSeconds" "J" (.long us) ∧ Fld Z h a0 "com/example/hopchuan/hopchuan/ErrorCounter" "extendingSeconds" "J" (.long xs) ∧ Fld Z h a0 "com/example/hopchuan/hopchuan/ErrorCounter" "erroredSeconds" "J" (.long es) ∧ Fld Z h a0 "com/example/hopchuan/hopchuan/ErrorCounter" "severelyErroredSeconds" "J" (.long ss) ∧ Fld Z h a0 "com/example/hopchuan/hopchuan/ErrorCounter" "backgroundBlockErrors" "J" (.long bb) ∧ Fld Z h a0 "com/example/hopchuan/hopchuan/ErrorCounter" "pending" "J" (.long (pe + (1 : Int64))) ∧ Fld Z h a0 "com/example/hopchuan/hopchuan/ErrorCounter" "pendingErrored" "J" (.long pq) ∧ Fld Z h a0 "com/example/hopchuan/hopchuan/ErrorCounter" "pendingBlocks" "J" (.long pb) ∧ Fld Z h a0 "com/example/hopchuan/hopchuan/ErrorCounter" "period" "J" (.long pd)
set_option maxRecDepth 65536 in
set_option maxHeartbeats 40000000 in
theorem rm4B (l : Launch) (Z : State) (aw : Array Value) (hw : ∀ d ∈ tables_1, d.before aw Z = true) (wq : List Jvm.Cond) (a0 : Addr) (q1 : Int64) (th : Int64) (xt : Int64) (sc : Int64) (us : Int64) (xs : Int64) (es : Int64) (ss : Int64) (bb : Int64) (pe : Int64) (pq : Int64) (pb : Int64) (pd : Int64) (h0 : Heap) (n0 : Nat) (Z0 : n0 ≤ h0.size) (E_a0 : Exa Z h0 a0 "com/example/hopchuan/hopchuan/ErrorCounter") (F_a0_available : Fld Z h0 a0 "com/example/hopchuan/hopchuan/ErrorCounter" "available" "Z" (.int (1 : Int32))) (F_a0_sesErroredBlocks : Fld Z h0 a0 "com/example/hopchuan/hopchuan/ErrorCounter" "sesErroredBlocks" "J" (.long th)) (F_a0_extendingPeriodSeconds : Fld Z h0 a0 "com/example/hopchuan/hopchuan/ErrorCounter" "extendingPeriodSeconds" "J" (.long xt)) (F_a0_seconds : Fld Z h0 a0 "com/example/hopchuan/hopchuan/ErrorCounter" "seconds" "J" (.long sc)) (F_a0_unavailableSeconds : Fld Z h0 a0 "com/example/hopchuan/hopchuan/ErrorCounter" "unavailableSeconds" "J" (.long us)) (F_a0_extendingSeconds : Fld Z h0 a0 "com/example/hopchuan/hopchuan/ErrorCounter" "extendingSeconds" "J" (.long xs)) (F_a0_erroredSeconds : Fld Z h0 a0 "com/example/hopchuan/hopchuan/ErrorCounter" "erroredSeconds" "J" (.long es)) (F_a0_severelyErroredSeconds : Fld Z h0 a0 "com/example/hopchuan/hopchuan/ErrorCounter" "severelyErroredSeconds" "J" (.long ss)) (F_a0_backgroundBlockErrors : Fld Z h0 a0 "com/example/hopchuan/hopchuan/ErrorCounter" "backgroundBlockErrors" "J" (.long bb)) (F_a0_pending : Fld Z h0 a0 "com/example/hopchuan/hopchuan/ErrorCounter" "pending" "J" (.long pe)) (F_a0_pendingErrored : Fld Z h0 a0 "com/example/hopchuan/hopchuan/ErrorCounter" "pendingErrored" "J" (.long pq)) (F_a0_pendingBlocks : Fld Z h0 a0 "com/example/hopchuan/hopchuan/ErrorCounter" "pendingBlocks" "J" (.long pb)) (F_a0_period : Fld Z h0 a0 "com/example/hopchuan/hopchuan/ErrorCounter" "period" "J" (.long pd)) (g_a0 : n0 ≤ a0) (hpe : ¬ (pe + (1 : Int64)) = (10 : Int64)) :
    MetFree l (⟨"com/example/hopchuan/hopchuan/ErrorCounter", "second", "(JZ)V"⟩ : MethodName) (head1 (Jvm.Cond.code (⟨"com/example/hopchuan/hopchuan/ErrorCounter", "second", "(JZ)V"⟩ : MethodName) prog_5_method_2_code 5 none :: wq) ({ frames := 0, cells := 0, slots := 0, locals := 0 } : Room)) (fun a U => a = #[(.ref a0), (.long q1), (.int (1 : Int32))] ∧ Z.Warmed39 U.vm ∧ U.heap = h0) (fun _ _ _ _ _ => True) (fun _ U o U' => ∃ v L, o = .returned v ∧ Q4B Z a0 q1 th xt sc us xs es ss bb pe pq pb pd h0 n0 v U'.heap L ∧ FrameEnd U o U' L ({ frames := 0, cells := 0, slots := 0, locals := 0 } : Room).cells ({ frames := 0, cells := 0, slots := 0, locals := 0 } : Room).slots) := by
  refine MetFree.of_bodySF (plainFor_of_name pn_0) hisR ?_
  intro p e s m args below meth c s₁ Bd hml0 hP hK
  obtain ⟨rfl, hZ, hh⟩ := hP
  have hx := Bd.exec
  have hby := Bd.bytes
  have hml : c.maxLocals = 5 := hml0
  have hown : s.vm.findClass "com/example/hopchuan/hopchuan/ErrorCounter" = some m.cls := findClass_of_methodNamed Bd.named
  have hnm := (name_of_methodNamed Bd.named Bd.method).1
  have X0 : Stand p l e ({ frames := 0, cells := 0, slots := 0, locals := 0 } : Room) s m #[(.ref a0), (.long q1), (.int (1 : Int32))] below meth c s₁ [] 0 0 := Stand.of_body Bd
  have e0 : s₁.heap = h0 := by rw [← hh, Bd.state]; rfl
  have N0 := Fr.nil n0
  have pre0 : own_Pre p e below (s₁.setTop (entryFrame m #[(.ref a0), (.long q1), (.int (1 : Int32))] 5)) (s₁.setTop (mkF m 0 #[.val (.ref a0), .val (.long q1), .second, .val (.int (1 : Int32)), .unset] [])) := fun t k => castTop (ef_4B m a0 q1) k
  obtain ⟨T1, X1, e1, st1⟩ := getF X0 hx hZ hown (host := "") (Or.inl (hw _ (List.mem_of_getElem? (i := 26) rfl))) Via.refl e0 F_a0_seconds (g := (mkF m 2 #[.val (.ref a0), .val (.long q1), .second, .val (.int (1 : Int32)), .unset] [(.ref a0), (.ref a0)])) rfl rfl (hb hby d4_2)
  obtain ⟨T2, h2, X2, e2, W2, st2⟩ := putF X1 hx hZ hown (host := "") (Or.inl (hw _ (List.mem_of_getElem? (i := 26) rfl))) Via.refl e1 F_a0_seconds E_a0 (Or.inl (hw _ (List.mem_of_getElem? (i := 27) rfl))) (hw _ (List.mem_of_getElem? (i := 7) rfl)) (ty := .long) (by decide) rfl rfl (g := (mkF m 7 #[.val (.ref a0), .val (.long q1), .second, .val (.int (1 : Int32)), .unset] [(.long (sc + (1 : Int64))), (.ref a0)])) rfl rfl (hb hby d4_7)
  have Fw2 := F_a0_seconds.same W2
  have N2 := Fr.snoc X2 N0 g_a0
  have kp3 : Keep h0 h2 [a0] := (Keep.refl h0 [a0]).wr W2 (Or.inl (List.mem_of_getElem? (i := 0) rfl))
  have f4 := (F_a0_available.other W2 (Or.inr (slot_ne (Or.inl (hw _ (List.mem_of_getElem? (i := 16) rfl))) (Or.inl (hw _ (List.mem_of_getElem? (i := 27) rfl))) (by decide) (t := .boolean) (t' := .long) (by decide) (by decide))))
  obtain ⟨T5, X5, e5, st5⟩ := getF X2 hx hZ hown (host := "") (Or.inl (hw _ (List.mem_of_getElem? (i := 15) rfl))) Via.refl e2 f4 (g := (mkF m 31 #[.val (.ref a0), .val (.long q1), .second, .val (.int (1 : Int32)), .val (.int (1 : Int32))] [(.ref a0)])) rfl rfl (hb hby d4_31)
  have f6 := (F_a0_pending.other W2 (Or.inr (slot_ne (Or.inl (hw _ (List.mem_of_getElem? (i := 35) rfl))) (Or.inl (hw _ (List.mem_of_getElem? (i := 27) rfl))) (by decide) (t := .long) (t' := .long) (by decide) (by decide))))
  obtain ⟨T7, X7, e7, st7⟩ := getF X5 hx hZ hown (host := "") (Or.inl (hw _ (List.mem_of_getElem? (i := 34) rfl))) Via.refl e5 f6 (g := (mkF m 44 #[.val (.ref a0), .val (.long q1), .second, .val (.int (1 : Int32)), .val (.int (1 : Int32))] [(.ref a0), (.ref a0)])) rfl rfl (hb hby d4_44)
  have f8 := (E_a0.wr W2)
  obtain ⟨T9, h9, X9, e9, W9, st9⟩ := putF X7 hx hZ hown (host := "") (Or.inl (hw _ (List.mem_of_getElem? (i := 34) rfl))) Via.refl e7 f6 f8 (Or.inl (hw _ (List.mem_of_getElem? (i := 35) rfl))) (hw _ (List.mem_of_getElem? (i := 7) rfl)) (ty := .long) (by decide) rfl rfl (g := (mkF m 49 #[.val (.ref a0), .val (.long q1), .second, .val (.int (1 : Int32)), .val (.int (1 : Int32))] [(.long (pe + (1 : Int64))), (.ref a0)])) rfl rfl (hb hby d4_49)
  have Fw9 := f6.same W9
  have N9 := Fr.snoc X9 N2 g_a0
  have kp10 : Keep h0 h9 [a0] := kp3.wr W9 (Or.inl (List.mem_of_getElem? (i := 0) rfl))
  obtain ⟨T11, X11, e11, st11⟩ := getF X9 hx hZ hown (host := "") (Or.inl (hw _ (List.mem_of_getElem? (i := 34) rfl))) Via.refl e9 Fw9 (g := (mkF m 53 #[.val (.ref a0), .val (.long q1), .second, .val (.int (1 : Int32)), .val (.int (1 : Int32))] [(.ref a0)])) rfl rfl (hb hby d4_53)
  have hc60 : ¬ ((pe + (1 : Int64)) = (10 : Int64)) := hpe
  obtain ⟨fs, hr, hrun, hended, hW, hsame⟩ := X11.leave (v := none) (fun _ => rfl)
  refine ⟨_, _, pre0 _ ?_, hrun, hended, _, _, rfl, ?_, ⟨_, rfl⟩, hW, hsame.mono (by decide) (by decide)⟩
  · show Steps p.tables e below (s₁.setTop (mkF m 0 #[.val (.ref a0), .val (.long q1), .second, .val (.int (1 : Int32)), .unset] [])) _
    refine XS.aloadN X0.here hx rfl (hb hby d4_0) rfl rfl ?_
    show Steps p.tables e below (s₁.setTop (mkF m 1 #[.val (.ref a0), .val (.long q1), .second, .val (.int (1 : Int32)), .unset] [(.ref a0)])) _
    refine XS.dup X0.here hx rfl (hb hby d4_1) rfl rfl ?_
    show Steps p.tables e below (s₁.setTop (mkF m 2 #[.val (.ref a0), .val (.long q1), .second, .val (.int (1 : Int32)), .unset] [(.ref a0), (.ref a0)])) _
    refine st1 _ ?_
    show Steps p.tables e below (T1.setTop (mkF m 5 #[.val (.ref a0), .val (.long q1), .second, .val (.int (1 : Int32)), .unset] [(.long sc), (.ref a0)])) _
    refine XS.lconst X1.here hx rfl (hb hby d4_5) ?_
    show Steps p.tables e below (T1.setTop (mkF m 6 #[.val (.ref a0), .val (.long q1), .second, .val (.int (1 : Int32)), .unset] [(.long (1 : Int64)), (.long sc), (.ref a0)])) _
    refine XS.ladd X1.here hx rfl (hb hby d4_6) rfl ?_
    show Steps p.tables e below (T1.setTop (mkF m 7 #[.val (.ref a0), .val (.long q1), .second, .val (.int (1 : Int32)), .unset] [(.long (sc + (1 : Int64))), (.ref a0)])) _
    refine st2 _ ?_
    show Steps p.tables e below (T2.setTop (mkF m 10 #[.val (.ref a0), .val (.long q1), .second, .val (.int (1 : Int32)), .unset] [])) _
    refine XS.iloadN X2.here hx rfl (hb hby d4_10) rfl ?_
    show Steps p.tables e below (T2.setTop (mkF m 11 #[.val (.ref a0), .val (.long q1), .second, .val (.int (1 : Int32)), .unset] [(.int (1 : Int32))])) _
    refine XS.ifYes X2.here hx rfl (pc0 := 11) (pc' := 23) rfl (hb hby d4_11) rfl ((if0 _ _).trans (feq (by decide : ¬ ((1 : Int32) = (0 : Int32)))).2) (by decide) (by decide) ?_
    show Steps p.tables e below (T2.setTop (mkF m 23 #[.val (.ref a0), .val (.long q1), .second, .val (.int (1 : Int32)), .unset] [])) _
    refine XS.iconst X2.here hx rfl (hb hby d4_23) ?_
    show Steps p.tables e below (T2.setTop (mkF m 24 #[.val (.ref a0), .val (.long q1), .second, .val (.int (1 : Int32)), .unset] [(.int (1 : Int32))])) _
    refine XS.goto X2.here hx rfl (pc0 := 24) (pc' := 28) rfl (hb hby d4_24) (by decide) (by decide) ?_
    show Steps p.tables e below (T2.setTop (mkF m 28 #[.val (.ref a0), .val (.long q1), .second, .val (.int (1 : Int32)), .unset] [(.int (1 : Int32))])) _
    refine XS.istore X2.here hx rfl (hb hby d4_28) rfl (l' := #[.val (.ref a0), .val (.long q1), .second, .val (.int (1 : Int32)), .val (.int (1 : Int32))]) rfl ?_
    show Steps p.tables e below (T2.setTop (mkF m 30 #[.val (.ref a0), .val (.long q1), .second, .val (.int (1 : Int32)), .val (.int (1 : Int32))] [])) _
    refine XS.aloadN X2.here hx rfl (hb hby d4_30) rfl rfl ?_
    show Steps p.tables e below (T2.setTop (mkF m 31 #[.val (.ref a0), .val (.long q1), .second, .val (.int (1 : Int32)), .val (.int (1 : Int32))] [(.ref a0)])) _
    refine st5 _ ?_
    show Steps p.tables e below (T5.setTop (mkF m 34 #[.val (.ref a0), .val (.long q1), .second, .val (.int (1 : Int32)), .val (.int (1 : Int32))] [(.int (1 : Int32))])) _
    refine XS.ifNo X5.here hx rfl (hb hby d4_34) rfl ((if0 _ _).trans (feq (by decide : ¬ ((1 : Int32) = (0 : Int32)))).1) ?_
    show Steps p.tables e below (T5.setTop (mkF m 37 #[.val (.ref a0), .val (.long q1), .second, .val (.int (1 : Int32)), .val (.int (1 : Int32))] [])) _
    refine XS.iload X5.here hx rfl (hb hby d4_37) rfl ?_
    show Steps p.tables e below (T5.setTop (mkF m 39 #[.val (.ref a0), .val (.long q1), .second, .val (.int (1 : Int32)), .val (.int (1 : Int32))] [(.int (1 : Int32))])) _
    refine XS.ifNo X5.here hx rfl (hb hby d4_39) rfl ((if0 _ _).trans (feq (by decide : ¬ ((1 : Int32) = (0 : Int32)))).1) ?_
    show Steps p.tables e below (T5.setTop (mkF m 42 #[.val (.ref a0), .val (.long q1), .second, .val (.int (1 : Int32)), .val (.int (1 : Int32))] [])) _
    refine XS.aloadN X5.here hx rfl (hb hby d4_42) rfl rfl ?_
    show Steps p.tables e below (T5.setTop (mkF m 43 #[.val (.ref a0), .val (.long q1), .second, .val (.int (1 : Int32)), .val (.int (1 : Int32))] [(.ref a0)])) _
    refine XS.dup X5.here hx rfl (hb hby d4_43) rfl rfl ?_
    show Steps p.tables e below (T5.setTop (mkF m 44 #[.val (.ref a0), .val (.long q1), .second, .val (.int (1 : Int32)), .val (.int (1 : Int32))] [(.ref a0), (.ref a0)])) _
    refine st7 _ ?_
    show Steps p.tables e below (T7.setTop (mkF m 47 #[.val (.ref a0), .val (.long q1), .second, .val (.int (1 : Int32)), .val (.int (1 : Int32))] [(.long pe), (.ref a0)])) _
    refine XS.lconst X7.here hx rfl (hb hby d4_47) ?_
    show Steps p.tables e below (T7.setTop (mkF m 48 #[.val (.ref a0), .val (.long q1), .second, .val (.int (1 : Int32)), .val (.int (1 : Int32))] [(.long (1 : Int64)), (.long pe), (.ref a0)])) _
    refine XS.ladd X7.here hx rfl (hb hby d4_48) rfl ?_
    show Steps p.tables e below (T7.setTop (mkF m 49 #[.val (.ref a0), .val (.long q1), .second, .val (.int (1 : Int32)), .val (.int (1 : Int32))] [(.long (pe + (1 : Int64))), (.ref a0)])) _
    refine st9 _ ?_
    show Steps p.tables e below (T9.setTop (mkF m 52 #[.val (.ref a0), .val (.long q1), .second, .val (.int (1 : Int32)), .val (.int (1 : Int32))] [])) _
    refine XS.aloadN X9.here hx rfl (hb hby d4_52) rfl rfl ?_
    show Steps p.tables e below (T9.setTop (mkF m 53 #[.val (.ref a0), .val (.long q1), .second, .val (.int (1 : Int32)), .val (.int (1 : Int32))] [(.ref a0)])) _
    refine st11 _ ?_
    show Steps p.tables e below (T11.setTop (mkF m 56 #[.val (.ref a0), .val (.long q1), .second, .val (.int (1 : Int32)), .val (.int (1 : Int32))] [(.long (pe + (1 : Int64)))])) _
    refine X11.ldc2Long hx hown (mvT hZ (hw _ (List.mem_of_getElem? (i := 42) rfl))) (g := (mkF m 56 #[.val (.ref a0), .val (.long q1), .second, .val (.int (1 : Int32)), .val (.int (1 : Int32))] [(.long (pe + (1 : Int64)))])) rfl (hb hby d4_56) _ ?_
    show Steps p.tables e below (T11.setTop (mkF m 59 #[.val (.ref a0), .val (.long q1), .second, .val (.int (1 : Int32)), .val (.int (1 : Int32))] [(.long (10 : Int64)), (.long (pe + (1 : Int64)))])) _
    refine XS.lcmp X11.here hx rfl (hb hby d4_59) rfl ?_
    show Steps p.tables e below (T11.setTop (mkF m 60 #[.val (.ref a0), .val (.long q1), .second, .val (.int (1 : Int32)), .val (.int (1 : Int32))] [(.int (lcmpW (pe + (1 : Int64)) (10 : Int64)))])) _
    refine XS.ifYes X11.here hx rfl (pc0 := 60) (pc' := 236) rfl (hb hby d4_60) rfl ((if0 _ _).trans (feq (mt (lw_eq _ _).mp hc60)).2) (by decide) (by decide) ?_
    show Steps p.tables e below (T11.setTop (mkF m 236 #[.val (.ref a0), .val (.long q1), .second, .val (.int (1 : Int32)), .val (.int (1 : Int32))] [])) _
    exact X11.returnOut hx Bd.returns (hb hby d4_236) hr
  · show Q4B Z a0 q1 th xt sc us xs es ss bb pe pq pb pd h0 n0 _ T11.heap _
    rw [e11]
    unfold Q4B
    have f12 := (f8.wr W9)
    have f13 := (f4.other W9 (Or.inr (slot_ne (Or.inl (hw _ (List.mem_of_getElem? (i := 16) rfl))) (Or.inl (hw _ (List.mem_of_getElem? (i := 35) rfl))) (by decide) (t := .boolean) (t' := .long) (by decide) (by decide))))
    have f14 := ((F_a0_sesErroredBlocks.other W2 (Or.inr (slot_ne (Or.inr (hw _ (List.mem_of_getElem? (i := 18) rfl))) (Or.inl (hw _ (List.mem_of_getElem? (i := 27) rfl))) (by decide) (t := .long) (t' := .long) (by decide) (by decide)))).other W9 (Or.inr (slot_ne (Or.inr (hw _ (List.mem_of_getElem? (i := 18) rfl))) (Or.inl (hw _ (List.mem_of_getElem? (i := 35) rfl))) (by decide) (t := .long) (t' := .long) (by decide) (by decide))))
    have f15 := ((F_a0_extendingPeriodSeconds.other W2 (Or.inr (slot_ne (Or.inr (hw _ (List.mem_of_getElem? (i := 20) rfl))) (Or.inl (hw _ (List.mem_of_getElem? (i := 27) rfl))) (by decide) (t := .long) (t' := .long) (by decide) (by decide)))).other W9 (Or.inr (slot_ne (Or.inr (hw _ (List.mem_of_getElem? (i := 20) rfl))) (Or.inl (hw _ (List.mem_of_getElem? (i := 35) rfl))) (by decide) (t := .long) (t' := .long) (by decide) (by decide))))
    have f16 := (Fw2.other W9 (Or.inr (slot_ne (Or.inl (hw _ (List.mem_of_getElem? (i := 27) rfl))) (Or.inl (hw _ (List.mem_of_getElem? (i := 35) rfl))) (by decide) (t := .long) (t' := .long) (by decide) (by decide))))
    have f17 := ((F_a0_unavailableSeconds.other W2 (Or.inr (slot_ne (Or.inl (hw _ (List.mem_of_getElem? (i := 72) rfl))) (Or.inl (hw _ (List.mem_of_getElem? (i := 27) rfl))) (by decide) (t := .long) (t' := .long) (by decide) (by decide)))).other W9 (Or.inr (slot_ne (Or.inl (hw _ (List.mem_of_getElem? (i := 72) rfl))) (Or.inl (hw _ (List.mem_of_getElem? (i := 35) rfl))) (by decide) (t := .long) (t' := .long) (by decide) (by decide))))
    have f18 := ((F_a0_extendingSeconds.other W2 (Or.inr (slot_ne (Or.inl (hw _ (List.mem_of_getElem? (i := 74) rfl))) (Or.inl (hw _ (List.mem_of_getElem? (i := 27) rfl))) (by decide) (t := .long) (t' := .long) (by decide) (by decide)))).other W9 (Or.inr (slot_ne (Or.inl (hw _ (List.mem_of_getElem? (i := 74) rfl))) (Or.inl (hw _ (List.mem_of_getElem? (i := 35) rfl))) (by decide) (t := .long) (t' := .long) (by decide) (by decide))))
    have f19 := ((F_a0_erroredSeconds.other W2 (Or.inr (slot_ne (Or.inl (hw _ (List.mem_of_getElem? (i := 33) rfl))) (Or.inl (hw _ (List.mem_of_getElem? (i := 27) rfl))) (by decide) (t := .long) (t' := .long) (by decide) (by decide)))).other W9 (Or.inr (slot_ne (Or.inl (hw _ (List.mem_of_getElem? (i := 33) rfl))) (Or.inl (hw _ (List.mem_of_getElem? (i := 35) rfl))) (by decide) (t := .long) (t' := .long) (by decide) (by decide))))
    have f20 := ((F_a0_severelyErroredSeconds.other W2 (Or.inr (slot_ne (Or.inl (hw _ (List.mem_of_getElem? (i := 37) rfl))) (Or.inl (hw _ (List.mem_of_getElem? (i := 27) rfl))) (by decide) (t := .long) (t' := .long) (by decide) (by decide)))).other W9 (Or.inr (slot_ne (Or.inl (hw _ (List.mem_of_getElem? (i := 37) rfl))) (Or.inl (hw _ (List.mem_of_getElem? (i := 35) rfl))) (by decide) (t := .long) (t' := .long) (by decide) (by decide))))
    have f21 := ((F_a0_backgroundBlockErrors.other W2 (Or.inr (slot_ne (Or.inl (hw _ (List.mem_of_getElem? (i := 97) rfl))) (Or.inl (hw _ (List.mem_of_getElem? (i := 27) rfl))) (by decide) (t := .long) (t' := .long) (by decide) (by decide)))).other W9 (Or.inr (slot_ne (Or.inl (hw _ (List.mem_of_getElem? (i := 97) rfl))) (Or.inl (hw _ (List.mem_of_getElem? (i := 35) rfl))) (by decide) (t := .long) (t' := .long) (by decide) (by decide))))
    have f22 := ((F_a0_pendingErrored.other W2 (Or.inr (slot_ne (Or.inl (hw _ (List.mem_of_getElem? (i := 64) rfl))) (Or.inl (hw _ (List.mem_of_getElem? (i := 27) rfl))) (by decide) (t := .long) (t' := .long) (by decide) (by decide)))).other W9 (Or.inr (slot_ne (Or.inl (hw _ (List.mem_of_getElem? (i := 64) rfl))) (Or.inl (hw _ (List.mem_of_getElem? (i := 35) rfl))) (by decide) (t := .long) (t' := .long) (by decide) (by decide))))
    have f23 := ((F_a0_pendingBlocks.other W2 (Or.inr (slot_ne (Or.inl (hw _ (List.mem_of_getElem? (i := 66) rfl))) (Or.inl (hw _ (List.mem_of_getElem? (i := 27) rfl))) (by decide) (t := .long) (t' := .long) (by decide) (by decide)))).other W9 (Or.inr (slot_ne (Or.inl (hw _ (List.mem_of_getElem? (i := 66) rfl))) (Or.inl (hw _ (List.mem_of_getElem? (i := 35) rfl))) (by decide) (t := .long) (t' := .long) (by decide) (by decide))))
    have f24 := ((F_a0_period.other W2 (Or.inr (slot_ne (Or.inl (hw _ (List.mem_of_getElem? (i := 44) rfl))) (Or.inl (hw _ (List.mem_of_getElem? (i := 27) rfl))) (by decide) (t := .long) (t' := .long) (by decide) (by decide)))).other W9 (Or.inr (slot_ne (Or.inl (hw _ (List.mem_of_getElem? (i := 44) rfl))) (Or.inl (hw _ (List.mem_of_getElem? (i := 35) rfl))) (by decide) (t := .long) (t' := .long) (by decide) (by decide))))
    refine ⟨rfl, N9, kp10, f12, ?_, ?_, ?_, ?_, ?_, ?_, ?_, ?_, ?_, ?_, ?_, ?_, ?_⟩
    · exact f13
    · exact f14
    · exact f15
    · exact f16
    · exact f17
    · exact f18
    · exact f19
    · exact f20
    · exact f21
    · exact Fw9
    · exact f22
    · exact f23
    · exact f24
theorem d4_63 : decode prog_5_method_2_code 63 = .ok (.aload_n 0, 1) := by decide +kernel
theorem d4_64 : decode prog_5_method_2_code 64 = .ok (.iconst 0, 1) := by decide +kernel
theorem d4_65 : decode prog_5_method_2_code 65 = .ok (.putfield 7, 3) := by decide +kernel
theorem d4_68 : decode prog_5_method_2_code 68 = .ok (.aload_n 0, 1) := by decide +kernel
theorem d4_69 : decode prog_5_method_2_code 69 = .ok (.ldc2_w 26, 3) := by decide +kernel
theorem d4_72 : decode prog_5_method_2_code 72 = .ok (.putfield 28, 3) := by decide +kernel
theorem d4_75 : decode prog_5_method_2_code 75 = .ok (.aload_n 0, 1) := by decide +kernel
theorem d4_76 : decode prog_5_method_2_code 76 = .ok (.lconst 0, 1) := by decide +kernel
theorem d4_77 : decode prog_5_method_2_code 77 = .ok (.putfield 23, 3) := by decide +kernel
theorem d4_80 : decode prog_5_method_2_code 80 = .ok (.goto 156, 3) := by decide +kernel
theorem ef_4C (m : MethodId) (a0 : Addr) (q1 : Int64) : entryFrame m #[(.ref a0), (.long q1), (.int (1 : Int32))] 5 = mkF m 0 #[.val (.ref a0), .val (.long q1), .second, .val (.int (1 : Int32)), .unset] [] := by first | (simp [entryFrame, mkF, argsToLocals, Value.category]; done) | rfl
def Q4C (Z : State) (a0 : Addr) (q1 : Int64) (th : Int64) (xt : Int64) (sc : Int64) (us : Int64) (xs : Int64) (es : Int64) (ss : Int64) (bb : Int64) (pq : Int64) (pb : Int64) (pd : Int64) (h0 : Heap) (n0 : Nat) (v : Option Value) (h : Heap) (L : List Loc) : Prop := v = none ∧ Fr n0 L ∧ Keep h0 h [a0] ∧ Exa Z h a0 "com/example/hopchuan/hopchuan/ErrorCounter" ∧ Fld Z h a0 "com/example/hopchuan/hopchuan/ErrorCounter" "available" "Z" (.int (0 : Int32)) ∧ Fld Z h a0 "com/example/hopchuan/hopchuan/ErrorCounter" "sesErroredBlocks" "J" (.long th) ∧ Fld Z h a0 "com/example/hopchuan/hopchuan/ErrorCounter" "extendingPeriodSeconds" "J" (.long xt) ∧ Fld Z h a0 "com/example/hopchuan/hopchuan/ErrorCounter" "seconds" "J" (.long (sc + (1 : Int64))) ∧ Fld Z h a0 "com/example/hopchuan/hopchuan/ErrorCounter" "unavailableSeconds" "J" (.long us) ∧ Fld Z h a0 "com/example/hopchuan/hopchuan/ErrorCounter" "extendingSeconds" "J" (.long xs) ∧ Fld Z h a0 "com/example/hopchuan/hopchuan/ErrorCounter" "erroredSeconds" "J" (.long es) ∧ Fld Z h a0 "com/example/hopchuan/hopchuan/ErrorCounter" "severelyErroredSeconds" "J" (.long ss) ∧ Fld Z h a0 "com/example/hopchuan/hopchuan/ErrorCounter" "backgroundBlockErrors" "J" (.long bb) ∧ Fld Z h a0 "com/example/hopchuan/hopchuan/ErrorCounter" "pending" "J" (.long (0 : Int64)) ∧ Fld Z h a0 "com/example/hopchuan/hopchuan/ErrorCounter" "pendingErrored" "J" (.long pq) ∧ Fld Z h a0 "com/example/hopchuan/hopchuan/ErrorCounter" "pendingBlocks" "J" (.long pb) ∧ Fld Z h a0 "com/example/hopchuan/hopchuan/ErrorCounter" "period" "J" (.long (10 : Int64))
set_option maxRecDepth 65536 in
set_option maxHeartbeats 40000000 in
theorem rm4C (l : Launch) (Z : State) (aw : Array Value) (hw : ∀ d ∈ tables_1, d.before aw Z = true) (wq : List Jvm.Cond) (a0 : Addr) (q1 : Int64) (th : Int64) (xt : Int64) (sc : Int64) (us : Int64) (xs : Int64) (es : Int64) (ss : Int64) (bb : Int64) (pq : Int64) (pb : Int64) (pd : Int64) (h0 : Heap) (n0 : Nat) (Z0 : n0 ≤ h0.size) (E_a0 : Exa Z h0 a0 "com/example/hopchuan/hopchuan/ErrorCounter") (F_a0_available : Fld Z h0 a0 "com/example/hopchuan/hopchuan/ErrorCounter" "available" "Z" (.int (1 : Int32))) (F_a0_sesErroredBlocks : Fld Z h0 a0 "com/example/hopchuan/hopchuan/ErrorCounter" "sesErroredBlocks" "J" (.long th)) (F_a0_extendingPeriodSeconds : Fld Z h0 a0 "com/example/hopchuan/hopchuan/ErrorCounter" "extendingPeriodSeconds" "J" (.long xt)) (F_a0_seconds : Fld Z h0 a0 "com/example/hopchuan/hopchuan/ErrorCounter" "seconds" "J" (.long sc)) (F_a0_unavailableSeconds : Fld Z h0 a0 "com/example/hopchuan/hopchuan/ErrorCounter" "unavailableSeconds" "J" (.long us)) (F_a0_extendingSeconds : Fld Z h0 a0 "com/example/hopchuan/hopchuan/ErrorCounter" "extendingSeconds" "J" (.long xs)) (F_a0_erroredSeconds : Fld Z h0 a0 "com/example/hopchuan/hopchuan/ErrorCounter" "erroredSeconds" "J" (.long es)) (F_a0_severelyErroredSeconds : Fld Z h0 a0 "com/example/hopchuan/hopchuan/ErrorCounter" "severelyErroredSeconds" "J" (.long ss)) (F_a0_backgroundBlockErrors : Fld Z h0 a0 "com/example/hopchuan/hopchuan/ErrorCounter" "backgroundBlockErrors" "J" (.long bb)) (F_a0_pending : Fld Z h0 a0 "com/example/hopchuan/hopchuan/ErrorCounter" "pending" "J" (.long (9 : Int64))) (F_a0_pendingErrored : Fld Z h0 a0 "com/example/hopchuan/hopchuan/ErrorCounter" "pendingErrored" "J" (.long pq)) (F_a0_pendingBlocks : Fld Z h0 a0 "com/example/hopchuan/hopchuan/ErrorCounter" "pendingBlocks" "J" (.long pb)) (F_a0_period : Fld Z h0 a0 "com/example/hopchuan/hopchuan/ErrorCounter" "period" "J" (.long pd)) (g_a0 : n0 ≤ a0) :
    MetFree l (⟨"com/example/hopchuan/hopchuan/ErrorCounter", "second", "(JZ)V"⟩ : MethodName) (head1 (Jvm.Cond.code (⟨"com/example/hopchuan/hopchuan/ErrorCounter", "second", "(JZ)V"⟩ : MethodName) prog_5_method_2_code 5 none :: wq) ({ frames := 0, cells := 0, slots := 0, locals := 0 } : Room)) (fun a U => a = #[(.ref a0), (.long q1), (.int (1 : Int32))] ∧ Z.Warmed39 U.vm ∧ U.heap = h0) (fun _ _ _ _ _ => True) (fun _ U o U' => ∃ v L, o = .returned v ∧ Q4C Z a0 q1 th xt sc us xs es ss bb pq pb pd h0 n0 v U'.heap L ∧ FrameEnd U o U' L ({ frames := 0, cells := 0, slots := 0, locals := 0 } : Room).cells ({ frames := 0, cells := 0, slots := 0, locals := 0 } : Room).slots) := by
  refine MetFree.of_bodySF (plainFor_of_name pn_0) hisR ?_
  intro p e s m args below meth c s₁ Bd hml0 hP hK
  obtain ⟨rfl, hZ, hh⟩ := hP
  have hx := Bd.exec
  have hby := Bd.bytes
  have hml : c.maxLocals = 5 := hml0
  have hown : s.vm.findClass "com/example/hopchuan/hopchuan/ErrorCounter" = some m.cls := findClass_of_methodNamed Bd.named
  have hnm := (name_of_methodNamed Bd.named Bd.method).1
  have X0 : Stand p l e ({ frames := 0, cells := 0, slots := 0, locals := 0 } : Room) s m #[(.ref a0), (.long q1), (.int (1 : Int32))] below meth c s₁ [] 0 0 := Stand.of_body Bd
  have e0 : s₁.heap = h0 := by rw [← hh, Bd.state]; rfl
  have N0 := Fr.nil n0
  have pre0 : own_Pre p e below (s₁.setTop (entryFrame m #[(.ref a0), (.long q1), (.int (1 : Int32))] 5)) (s₁.setTop (mkF m 0 #[.val (.ref a0), .val (.long q1), .second, .val (.int (1 : Int32)), .unset] [])) := fun t k => castTop (ef_4C m a0 q1) k
  obtain ⟨T1, X1, e1, st1⟩ := getF X0 hx hZ hown (host := "") (Or.inl (hw _ (List.mem_of_getElem? (i := 26) rfl))) Via.refl e0 F_a0_seconds (g := (mkF m 2 #[.val (.ref a0), .val (.long q1), .second, .val (.int (1 : Int32)), .unset] [(.ref a0), (.ref a0)])) rfl rfl (hb hby d4_2)
  obtain ⟨T2, h2, X2, e2, W2, st2⟩ := putF X1 hx hZ hown (host := "") (Or.inl (hw _ (List.mem_of_getElem? (i := 26) rfl))) Via.refl e1 F_a0_seconds E_a0 (Or.inl (hw _ (List.mem_of_getElem? (i := 27) rfl))) (hw _ (List.mem_of_getElem? (i := 7) rfl)) (ty := .long) (by decide) rfl rfl (g := (mkF m 7 #[.val (.ref a0), .val (.long q1), .second, .val (.int (1 : Int32)), .unset] [(.long (sc + (1 : Int64))), (.ref a0)])) rfl rfl (hb hby d4_7)
  have Fw2 := F_a0_seconds.same W2
  have N2 := Fr.snoc X2 N0 g_a0
  have kp3 : Keep h0 h2 [a0] := (Keep.refl h0 [a0]).wr W2 (Or.inl (List.mem_of_getElem? (i := 0) rfl))
  have f4 := (F_a0_available.other W2 (Or.inr (slot_ne (Or.inl (hw _ (List.mem_of_getElem? (i := 16) rfl))) (Or.inl (hw _ (List.mem_of_getElem? (i := 27) rfl))) (by decide) (t := .boolean) (t' := .long) (by decide) (by decide))))
  obtain ⟨T5, X5, e5, st5⟩ := getF X2 hx hZ hown (host := "") (Or.inl (hw _ (List.mem_of_getElem? (i := 15) rfl))) Via.refl e2 f4 (g := (mkF m 31 #[.val (.ref a0), .val (.long q1), .second, .val (.int (1 : Int32)), .val (.int (1 : Int32))] [(.ref a0)])) rfl rfl (hb hby d4_31)
  have f6 := (F_a0_pending.other W2 (Or.inr (slot_ne (Or.inl (hw _ (List.mem_of_getElem? (i := 35) rfl))) (Or.inl (hw _ (List.mem_of_getElem? (i := 27) rfl))) (by decide) (t := .long) (t' := .long) (by decide) (by decide))))
  obtain ⟨T7, X7, e7, st7⟩ := getF X5 hx hZ hown (host := "") (Or.inl (hw _ (List.mem_of_getElem? (i := 34) rfl))) Via.refl e5 f6 (g := (mkF m 44 #[.val (.ref a0), .val (.long q1), .second, .val (.int (1 : Int32)), .val (.int (1 : Int32))] [(.ref a0), (.ref a0)])) rfl rfl (hb hby d4_44)
  have f8 := (E_a0.wr W2)
  obtain ⟨T9, h9, X9, e9, W9, st9⟩ := putF X7 hx hZ hown (host := "") (Or.inl (hw _ (List.mem_of_getElem? (i := 34) rfl))) Via.refl e7 f6 f8 (Or.inl (hw _ (List.mem_of_getElem? (i := 35) rfl))) (hw _ (List.mem_of_getElem? (i := 7) rfl)) (ty := .long) (by decide) rfl rfl (g := (mkF m 49 #[.val (.ref a0), .val (.long q1), .second, .val (.int (1 : Int32)), .val (.int (1 : Int32))] [(.long (10 : Int64)), (.ref a0)])) rfl rfl (hb hby d4_49)
  have Fw9 := f6.same W9
  have N9 := Fr.snoc X9 N2 g_a0
  have kp10 : Keep h0 h9 [a0] := kp3.wr W9 (Or.inl (List.mem_of_getElem? (i := 0) rfl))
  obtain ⟨T11, X11, e11, st11⟩ := getF X9 hx hZ hown (host := "") (Or.inl (hw _ (List.mem_of_getElem? (i := 34) rfl))) Via.refl e9 Fw9 (g := (mkF m 53 #[.val (.ref a0), .val (.long q1), .second, .val (.int (1 : Int32)), .val (.int (1 : Int32))] [(.ref a0)])) rfl rfl (hb hby d4_53)
  have f12 := (f8.wr W9)
  have f13 := (f4.other W9 (Or.inr (slot_ne (Or.inl (hw _ (List.mem_of_getElem? (i := 16) rfl))) (Or.inl (hw _ (List.mem_of_getElem? (i := 35) rfl))) (by decide) (t := .boolean) (t' := .long) (by decide) (by decide))))
  obtain ⟨T14, h14, X14, e14, W14, st14⟩ := putFN X11 hx hZ hown (hw _ (List.mem_of_getElem? (i := 15) rfl)) Via.refl e11 f13 f12 (Or.inl (hw _ (List.mem_of_getElem? (i := 16) rfl))) (hw _ (List.mem_of_getElem? (i := 7) rfl)) (ty := .boolean) (v' := (.int (0 : Int32))) (by decide) rfl rfl (g := (mkF m 65 #[.val (.ref a0), .val (.long q1), .second, .val (.int (1 : Int32)), .val (.int (1 : Int32))] [(.int (0 : Int32)), (.ref a0)])) rfl rfl (hb hby d4_65)
  have Fw14 := f13.same W14
  have N14 := Fr.snoc X14 N9 g_a0
  have kp15 : Keep h0 h14 [a0] := kp10.wr W14 (Or.inl (List.mem_of_getElem? (i := 0) rfl))
  have f16 := (f12.wr W14)
  have f17 := (((F_a0_period.other W2 (Or.inr (slot_ne (Or.inl (hw _ (List.mem_of_getElem? (i := 44) rfl))) (Or.inl (hw _ (List.mem_of_getElem? (i := 27) rfl))) (by decide) (t := .long) (t' := .long) (by decide) (by decide)))).other W9 (Or.inr (slot_ne (Or.inl (hw _ (List.mem_of_getElem? (i := 44) rfl))) (Or.inl (hw _ (List.mem_of_getElem? (i := 35) rfl))) (by decide) (t := .long) (t' := .long) (by decide) (by decide)))).other W14 (Or.inr (slot_ne (Or.inl (hw _ (List.mem_of_getElem? (i := 44) rfl))) (Or.inl (hw _ (List.mem_of_getElem? (i := 16) rfl))) (by decide) (t := .long) (t' := .boolean) (by decide) (by decide))))
  obtain ⟨T18, h18, X18, e18, W18, st18⟩ := putF X14 hx hZ hown (host := "") (Or.inl (hw _ (List.mem_of_getElem? (i := 43) rfl))) Via.refl e14 f17 f16 (Or.inl (hw _ (List.mem_of_getElem? (i := 44) rfl))) (hw _ (List.mem_of_getElem? (i := 7) rfl)) (ty := .long) (by decide) rfl rfl (g := (mkF m 72 #[.val (.ref a0), .val (.long q1), .second, .val (.int (1 : Int32)), .val (.int (1 : Int32))] [(.long (10 : Int64)), (.ref a0)])) rfl rfl (hb hby d4_72)
  have Fw18 := f17.same W18
  have N18 := Fr.snoc X18 N14 g_a0
  have kp19 : Keep h0 h18 [a0] := kp15.wr W18 (Or.inl (List.mem_of_getElem? (i := 0) rfl))
  have f20 := (f16.wr W18)
  have f21 := ((Fw9.other W14 (Or.inr (slot_ne (Or.inl (hw _ (List.mem_of_getElem? (i := 35) rfl))) (Or.inl (hw _ (List.mem_of_getElem? (i := 16) rfl))) (by decide) (t := .long) (t' := .boolean) (by decide) (by decide)))).other W18 (Or.inr (slot_ne (Or.inl (hw _ (List.mem_of_getElem? (i := 35) rfl))) (Or.inl (hw _ (List.mem_of_getElem? (i := 44) rfl))) (by decide) (t := .long) (t' := .long) (by decide) (by decide))))
  obtain ⟨T22, h22, X22, e22, W22, st22⟩ := putF X18 hx hZ hown (host := "") (Or.inl (hw _ (List.mem_of_getElem? (i := 34) rfl))) Via.refl e18 f21 f20 (Or.inl (hw _ (List.mem_of_getElem? (i := 35) rfl))) (hw _ (List.mem_of_getElem? (i := 7) rfl)) (ty := .long) (by decide) rfl rfl (g := (mkF m 77 #[.val (.ref a0), .val (.long q1), .second, .val (.int (1 : Int32)), .val (.int (1 : Int32))] [(.long (0 : Int64)), (.ref a0)])) rfl rfl (hb hby d4_77)
  have Fw22 := f21.same W22
  have N22 := Fr.snoc X22 N18 g_a0
  have kp23 : Keep h0 h22 [a0] := kp19.wr W22 (Or.inl (List.mem_of_getElem? (i := 0) rfl))
  obtain ⟨fs, hr, hrun, hended, hW, hsame⟩ := X22.leave (v := none) (fun _ => rfl)
  refine ⟨_, _, pre0 _ ?_, hrun, hended, _, _, rfl, ?_, ⟨_, rfl⟩, hW, hsame.mono (by decide) (by decide)⟩
  · show Steps p.tables e below (s₁.setTop (mkF m 0 #[.val (.ref a0), .val (.long q1), .second, .val (.int (1 : Int32)), .unset] [])) _
    refine XS.aloadN X0.here hx rfl (hb hby d4_0) rfl rfl ?_
    show Steps p.tables e below (s₁.setTop (mkF m 1 #[.val (.ref a0), .val (.long q1), .second, .val (.int (1 : Int32)), .unset] [(.ref a0)])) _
    refine XS.dup X0.here hx rfl (hb hby d4_1) rfl rfl ?_
    show Steps p.tables e below (s₁.setTop (mkF m 2 #[.val (.ref a0), .val (.long q1), .second, .val (.int (1 : Int32)), .unset] [(.ref a0), (.ref a0)])) _
    refine st1 _ ?_
    show Steps p.tables e below (T1.setTop (mkF m 5 #[.val (.ref a0), .val (.long q1), .second, .val (.int (1 : Int32)), .unset] [(.long sc), (.ref a0)])) _
    refine XS.lconst X1.here hx rfl (hb hby d4_5) ?_
    show Steps p.tables e below (T1.setTop (mkF m 6 #[.val (.ref a0), .val (.long q1), .second, .val (.int (1 : Int32)), .unset] [(.long (1 : Int64)), (.long sc), (.ref a0)])) _
    refine XS.ladd X1.here hx rfl (hb hby d4_6) rfl ?_
    show Steps p.tables e below (T1.setTop (mkF m 7 #[.val (.ref a0), .val (.long q1), .second, .val (.int (1 : Int32)), .unset] [(.long (sc + (1 : Int64))), (.ref a0)])) _
    refine st2 _ ?_
    show Steps p.tables e below (T2.setTop (mkF m 10 #[.val (.ref a0), .val (.long q1), .second, .val (.int (1 : Int32)), .unset] [])) _
    refine XS.iloadN X2.here hx rfl (hb hby d4_10) rfl ?_
    show Steps p.tables e below (T2.setTop (mkF m 11 #[.val (.ref a0), .val (.long q1), .second, .val (.int (1 : Int32)), .unset] [(.int (1 : Int32))])) _
    refine XS.ifYes X2.here hx rfl (pc0 := 11) (pc' := 23) rfl (hb hby d4_11) rfl ((if0 _ _).trans (feq (by decide : ¬ ((1 : Int32) = (0 : Int32)))).2) (by decide) (by decide) ?_
    show Steps p.tables e below (T2.setTop (mkF m 23 #[.val (.ref a0), .val (.long q1), .second, .val (.int (1 : Int32)), .unset] [])) _
    refine XS.iconst X2.here hx rfl (hb hby d4_23) ?_
    show Steps p.tables e below (T2.setTop (mkF m 24 #[.val (.ref a0), .val (.long q1), .second, .val (.int (1 : Int32)), .unset] [(.int (1 : Int32))])) _
    refine XS.goto X2.here hx rfl (pc0 := 24) (pc' := 28) rfl (hb hby d4_24) (by decide) (by decide) ?_
    show Steps p.tables e below (T2.setTop (mkF m 28 #[.val (.ref a0), .val (.long q1), .second, .val (.int (1 : Int32)), .unset] [(.int (1 : Int32))])) _
    refine XS.istore X2.here hx rfl (hb hby d4_28) rfl (l' := #[.val (.ref a0), .val (.long q1), .second, .val (.int (1 : Int32)), .val (.int (1 : Int32))]) rfl ?_
    show Steps p.tables e below (T2.setTop (mkF m 30 #[.val (.ref a0), .val (.long q1), .second, .val (.int (1 : Int32)), .val (.int (1 : Int32))] [])) _
    refine XS.aloadN X2.here hx rfl (hb hby d4_30) rfl rfl ?_
    show Steps p.tables e below (T2.setTop (mkF m 31 #[.val (.ref a0), .val (.long q1), .second, .val (.int (1 : Int32)), .val (.int (1 : Int32))] [(.ref a0)])) _
    refine st5 _ ?_
    show Steps p.tables e below (T5.setTop (mkF m 34 #[.val (.ref a0), .val (.long q1), .second, .val (.int (1 : Int32)), .val (.int (1 : Int32))] [(.int (1 : Int32))])) _
    refine XS.ifNo X5.here hx rfl (hb hby d4_34) rfl ((if0 _ _).trans (feq (by decide : ¬ ((1 : Int32) = (0 : Int32)))).1) ?_
    show Steps p.tables e below (T5.setTop (mkF m 37 #[.val (.ref a0), .val (.long q1), .second, .val (.int (1 : Int32)), .val (.int (1 : Int32))] [])) _
    refine XS.iload X5.here hx rfl (hb hby d4_37) rfl ?_
    show Steps p.tables e below (T5.setTop (mkF m 39 #[.val (.ref a0), .val (.long q1), .second, .val (.int (1 : Int32)), .val (.int (1 : Int32))] [(.int (1 : Int32))])) _
    refine XS.ifNo X5.here hx rfl (hb hby d4_39) rfl ((if0 _ _).trans (feq (by decide : ¬ ((1 : Int32) = (0 : Int32)))).1) ?_
    show Steps p.tables e below (T5.setTop (mkF m 42 #[.val (.ref a0), .val (.long q1), .second, .val (.int (1 : Int32)), .val (.int (1 : Int32))] [])) _
    refine XS.aloadN X5.here hx rfl (hb hby d4_42) rfl rfl ?_
    show Steps p.tables e below (T5.setTop (mkF m 43 #[.val (.ref a0), .val (.long q1), .second, .val (.int (1 : Int32)), .val (.int (1 : Int32))] [(.ref a0)])) _
    refine XS.dup X5.here hx rfl (hb hby d4_43) rfl rfl ?_
    show Steps p.tables e below (T5.setTop (mkF m 44 #[.val (.ref a0), .val (.long q1), .second, .val (.int (1 : Int32)), .val (.int (1 : Int32))] [(.ref a0), (.ref a0)])) _
    refine st7 _ ?_
    show Steps p.tables e below (T7.setTop (mkF m 47 #[.val (.ref a0), .val (.long q1), .second, .val (.int (1 : Int32)), .val (.int (1 : Int32))] [(.long (9 : Int64)), (.ref a0)])) _
    refine XS.lconst X7.here hx rfl (hb hby d4_47) ?_
    show Steps p.tables e below (T7.setTop (mkF m 48 #[.val (.ref a0), .val (.long q1), .second, .val (.int (1 : Int32)), .val (.int (1 : Int32))] [(.long (1 : Int64)), (.long (9 : Int64)), (.ref a0)])) _
    refine XS.ladd X7.here hx rfl (hb hby d4_48) rfl ?_
    show Steps p.tables e below (T7.setTop (mkF m 49 #[.val (.ref a0), .val (.long q1), .second, .val (.int (1 : Int32)), .val (.int (1 : Int32))] [(.long (10 : Int64)), (.ref a0)])) _
    refine st9 _ ?_
    show Steps p.tables e below (T9.setTop (mkF m 52 #[.val (.ref a0), .val (.long q1), .second, .val (.int (1 : Int32)), .val (.int (1 : Int32))] [])) _
    refine XS.aloadN X9.here hx rfl (hb hby d4_52) rfl rfl ?_
    show Steps p.tables e below (T9.setTop (mkF m 53 #[.val (.ref a0), .val (.long q1), .second, .val (.int (1 : Int32)), .val (.int (1 : Int32))] [(.ref a0)])) _
    refine st11 _ ?_
    show Steps p.tables e below (T11.setTop (mkF m 56 #[.val (.ref a0), .val (.long q1), .second, .val (.int (1 : Int32)), .val (.int (1 : Int32))] [(.long (10 : Int64))])) _
    refine X11.ldc2Long hx hown (mvT hZ (hw _ (List.mem_of_getElem? (i := 42) rfl))) (g := (mkF m 56 #[.val (.ref a0), .val (.long q1), .second, .val (.int (1 : Int32)), .val (.int (1 : Int32))] [(.long (10 : Int64))])) rfl (hb hby d4_56) _ ?_
    show Steps p.tables e below (T11.setTop (mkF m 59 #[.val (.ref a0), .val (.long q1), .second, .val (.int (1 : Int32)), .val (.int (1 : Int32))] [(.long (10 : Int64)), (.long (10 : Int64))])) _
    refine XS.lcmp X11.here hx rfl (hb hby d4_59) rfl ?_
    show Steps p.tables e below (T11.setTop (mkF m 60 #[.val (.ref a0), .val (.long q1), .second, .val (.int (1 : Int32)), .val (.int (1 : Int32))] [(.int (lcmpW (10 : Int64) (10 : Int64)))])) _
    refine XS.ifNo X11.here hx rfl (hb hby d4_60) rfl ((if0 _ _).trans (teq ((lw_eq _ _).mpr (by decide : ((10 : Int64) = (10 : Int64))))).2) ?_
    show Steps p.tables e below (T11.setTop (mkF m 63 #[.val (.ref a0), .val (.long q1), .second, .val (.int (1 : Int32)), .val (.int (1 : Int32))] [])) _
    refine XS.aloadN X11.here hx rfl (hb hby d4_63) rfl rfl ?_
    show Steps p.tables e below (T11.setTop (mkF m 64 #[.val (.ref a0), .val (.long q1), .second, .val (.int (1 : Int32)), .val (.int (1 : Int32))] [(.ref a0)])) _
    refine XS.iconst X11.here hx rfl (hb hby d4_64) ?_
    show Steps p.tables e below (T11.setTop (mkF m 65 #[.val (.ref a0), .val (.long q1), .second, .val (.int (1 : Int32)), .val (.int (1 : Int32))] [(.int (0 : Int32)), (.ref a0)])) _
    refine st14 _ ?_
    show Steps p.tables e below (T14.setTop (mkF m 68 #[.val (.ref a0), .val (.long q1), .second, .val (.int (1 : Int32)), .val (.int (1 : Int32))] [])) _
    refine XS.aloadN X14.here hx rfl (hb hby d4_68) rfl rfl ?_
    show Steps p.tables e below (T14.setTop (mkF m 69 #[.val (.ref a0), .val (.long q1), .second, .val (.int (1 : Int32)), .val (.int (1 : Int32))] [(.ref a0)])) _
    refine X14.ldc2Long hx hown (mvT hZ (hw _ (List.mem_of_getElem? (i := 42) rfl))) (g := (mkF m 69 #[.val (.ref a0), .val (.long q1), .second, .val (.int (1 : Int32)), .val (.int (1 : Int32))] [(.ref a0)])) rfl (hb hby d4_69) _ ?_
    show Steps p.tables e below (T14.setTop (mkF m 72 #[.val (.ref a0), .val (.long q1), .second, .val (.int (1 : Int32)), .val (.int (1 : Int32))] [(.long (10 : Int64)), (.ref a0)])) _
    refine st18 _ ?_
    show Steps p.tables e below (T18.setTop (mkF m 75 #[.val (.ref a0), .val (.long q1), .second, .val (.int (1 : Int32)), .val (.int (1 : Int32))] [])) _
    refine XS.aloadN X18.here hx rfl (hb hby d4_75) rfl rfl ?_
    show Steps p.tables e below (T18.setTop (mkF m 76 #[.val (.ref a0), .val (.long q1), .second, .val (.int (1 : Int32)), .val (.int (1 : Int32))] [(.ref a0)])) _
    refine XS.lconst X18.here hx rfl (hb hby d4_76) ?_
    show Steps p.tables e below (T18.setTop (mkF m 77 #[.val (.ref a0), .val (.long q1), .second, .val (.int (1 : Int32)), .val (.int (1 : Int32))] [(.long (0 : Int64)), (.ref a0)])) _
    refine st22 _ ?_
    show Steps p.tables e below (T22.setTop (mkF m 80 #[.val (.ref a0), .val (.long q1), .second, .val (.int (1 : Int32)), .val (.int (1 : Int32))] [])) _
    refine XS.goto X22.here hx rfl (pc0 := 80) (pc' := 236) rfl (hb hby d4_80) (by decide) (by decide) ?_
    show Steps p.tables e below (T22.setTop (mkF m 236 #[.val (.ref a0), .val (.long q1), .second, .val (.int (1 : Int32)), .val (.int (1 : Int32))] [])) _
    exact X22.returnOut hx Bd.returns (hb hby d4_236) hr
  · show Q4C Z a0 q1 th xt sc us xs es ss bb pq pb pd h0 n0 _ T22.heap _
    rw [e22]
    unfold Q4C
    have f24 := (f20.wr W22)
    have f25 := ((Fw14.other W18 (Or.inr (slot_ne (Or.inl (hw _ (List.mem_of_getElem? (i := 16) rfl))) (Or.inl (hw _ (List.mem_of_getElem? (i := 44) rfl))) (by decide) (t := .boolean) (t' := .long) (by decide) (by decide)))).other W22 (Or.inr (slot_ne (Or.inl (hw _ (List.mem_of_getElem? (i := 16) rfl))) (Or.inl (hw _ (List.mem_of_getElem? (i := 35) rfl))) (by decide) (t := .boolean) (t' := .long) (by decide) (by decide))))
    have f26 := (((((F_a0_sesErroredBlocks.other W2 (Or.inr (slot_ne (Or.inr (hw _ (List.mem_of_getElem? (i := 18) rfl))) (Or.inl (hw _ (List.mem_of_getElem? (i := 27) rfl))) (by decide) (t := .long) (t' := .long) (by decide) (by decide)))).other W9 (Or.inr (slot_ne (Or.inr (hw _ (List.mem_of_getElem? (i := 18) rfl))) (Or.inl (hw _ (List.mem_of_getElem? (i := 35) rfl))) (by decide) (t := .long) (t' := .long) (by decide) (by decide)))).other W14 (Or.inr (slot_ne (Or.inr (hw _ (List.mem_of_getElem? (i := 18) rfl))) (Or.inl (hw _ (List.mem_of_getElem? (i := 16) rfl))) (by decide) (t := .long) (t' := .boolean) (by decide) (by decide)))).other W18 (Or.inr (slot_ne (Or.inr (hw _ (List.mem_of_getElem? (i := 18) rfl))) (Or.inl (hw _ (List.mem_of_getElem? (i := 44) rfl))) (by decide) (t := .long) (t' := .long) (by decide) (by decide)))).other W22 (Or.inr (slot_ne (Or.inr (hw _ (List.mem_of_getElem? (i := 18) rfl))) (Or.inl (hw _ (List.mem_of_getElem? (i := 35) rfl))) (by decide) (t := .long) (t' := .long) (by decide) (by decide))))
    have f27 := (((((F_a0_extendingPeriodSeconds.other W2 (Or.inr (slot_ne (Or.inr (hw _ (List.mem_of_getElem? (i := 20) rfl))) (Or.inl (hw _ (List.mem_of_getElem? (i := 27) rfl))) (by decide) (t := .long) (t' := .long) (by decide) (by decide)))).other W9 (Or.inr (slot_ne (Or.inr (hw _ (List.mem_of_getElem? (i := 20) rfl))) (Or.inl (hw _ (List.mem_of_getElem? (i := 35) rfl))) (by decide) (t := .long) (t' := .long) (by decide) (by decide)))).other W14 (Or.inr (slot_ne (Or.inr (hw _ (List.mem_of_getElem? (i := 20) rfl))) (Or.inl (hw _ (List.mem_of_getElem? (i := 16) rfl))) (by decide) (t := .long) (t' := .boolean) (by decide) (by decide)))).other W18 (Or.inr (slot_ne (Or.inr (hw _ (List.mem_of_getElem? (i := 20) rfl))) (Or.inl (hw _ (List.mem_of_getElem? (i := 44) rfl))) (by decide) (t := .long) (t' := .long) (by decide) (by decide)))).other W22 (Or.inr (slot_ne (Or.inr (hw _ (List.mem_of_getElem? (i := 20) rfl))) (Or.inl (hw _ (List.mem_of_getElem? (i := 35) rfl))) (by decide) (t := .long) (t' := .long) (by decide) (by decide))))
    have f28 := ((((Fw2.other W9 (Or.inr (slot_ne (Or.inl (hw _ (List.mem_of_getElem? (i := 27) rfl))) (Or.inl (hw _ (List.mem_of_getElem? (i := 35) rfl))) (by decide) (t := .long) (t' := .long) (by decide) (by decide)))).other W14 (Or.inr (slot_ne (Or.inl (hw _ (List.mem_of_getElem? (i := 27) rfl))) (Or.inl (hw _ (List.mem_of_getElem? (i := 16) rfl))) (by decide) (t := .long) (t' := .boolean) (by decide) (by decide)))).other W18 (Or.inr (slot_ne (Or.inl (hw _ (List.mem_of_getElem? (i := 27) rfl))) (Or.inl (hw _ (List.mem_of_getElem? (i := 44) rfl))) (by decide) (t := .long) (t' := .long) (by decide) (by decide)))).other W22 (Or.inr (slot_ne (Or.inl (hw _ (List.mem_of_getElem? (i := 27) rfl))) (Or.inl (hw _ (List.mem_of_getElem? (i := 35) rfl))) (by decide) (t := .long) (t' := .long) (by decide) (by decide))))
    have f29 := (((((F_a0_unavailableSeconds.other W2 (Or.inr (slot_ne (Or.inl (hw _ (List.mem_of_getElem? (i := 72) rfl))) (Or.inl (hw _ (List.mem_of_getElem? (i := 27) rfl))) (by decide) (t := .long) (t' := .long) (by decide) (by decide)))).other W9 (Or.inr (slot_ne (Or.inl (hw _ (List.mem_of_getElem? (i := 72) rfl))) (Or.inl (hw _ (List.mem_of_getElem? (i := 35) rfl))) (by decide) (t := .long) (t' := .long) (by decide) (by decide)))).other W14 (Or.inr (slot_ne (Or.inl (hw _ (List.mem_of_getElem? (i := 72) rfl))) (Or.inl (hw _ (List.mem_of_getElem? (i := 16) rfl))) (by decide) (t := .long) (t' := .boolean) (by decide) (by decide)))).other W18 (Or.inr (slot_ne (Or.inl (hw _ (List.mem_of_getElem? (i := 72) rfl))) (Or.inl (hw _ (List.mem_of_getElem? (i := 44) rfl))) (by decide) (t := .long) (t' := .long) (by decide) (by decide)))).other W22 (Or.inr (slot_ne (Or.inl (hw _ (List.mem_of_getElem? (i := 72) rfl))) (Or.inl (hw _ (List.mem_of_getElem? (i := 35) rfl))) (by decide) (t := .long) (t' := .long) (by decide) (by decide))))
    have f30 := (((((F_a0_extendingSeconds.other W2 (Or.inr (slot_ne (Or.inl (hw _ (List.mem_of_getElem? (i := 74) rfl))) (Or.inl (hw _ (List.mem_of_getElem? (i := 27) rfl))) (by decide) (t := .long) (t' := .long) (by decide) (by decide)))).other W9 (Or.inr (slot_ne (Or.inl (hw _ (List.mem_of_getElem? (i := 74) rfl))) (Or.inl (hw _ (List.mem_of_getElem? (i := 35) rfl))) (by decide) (t := .long) (t' := .long) (by decide) (by decide)))).other W14 (Or.inr (slot_ne (Or.inl (hw _ (List.mem_of_getElem? (i := 74) rfl))) (Or.inl (hw _ (List.mem_of_getElem? (i := 16) rfl))) (by decide) (t := .long) (t' := .boolean) (by decide) (by decide)))).other W18 (Or.inr (slot_ne (Or.inl (hw _ (List.mem_of_getElem? (i := 74) rfl))) (Or.inl (hw _ (List.mem_of_getElem? (i := 44) rfl))) (by decide) (t := .long) (t' := .long) (by decide) (by decide)))).other W22 (Or.inr (slot_ne (Or.inl (hw _ (List.mem_of_getElem? (i := 74) rfl))) (Or.inl (hw _ (List.mem_of_getElem? (i := 35) rfl))) (by decide) (t := .long) (t' := .long) (by decide) (by decide))))
    have f31 := (((((F_a0_erroredSeconds.other W2 (Or.inr (slot_ne (Or.inl (hw _ (List.mem_of_getElem? (i := 33) rfl))) (Or.inl (hw _ (List.mem_of_getElem? (i := 27) rfl))) (by decide) (t := .long) (t' := .long) (by decide) (by decide)))).other W9 (Or.inr (slot_ne (Or.inl (hw _ (List.mem_of_getElem? (i := 33) rfl))) (Or.inl (hw _ (List.mem_of_getElem? (i := 35) rfl))) (by decide) (t := .long) (t' := .long) (by decide) (by decide)))).other W14 (Or.inr (slot_ne (Or.inl (hw _ (List.mem_of_getElem? (i := 33) rfl))) (Or.inl (hw _ (List.mem_of_getElem? (i := 16) rfl))) (by decide) (t := .long) (t' := .boolean) (by decide) (by decide)))).other W18 (Or.inr (slot_ne (Or.inl (hw _ (List.mem_of_getElem? (i := 33) rfl))) (Or.inl (hw _ (List.mem_of_getElem? (i := 44) rfl))) (by decide) (t := .long) (t' := .long) (by decide) (by decide)))).other W22 (Or.inr (slot_ne (Or.inl (hw _ (List.mem_of_getElem? (i := 33) rfl))) (Or.inl (hw _ (List.mem_of_getElem? (i := 35) rfl))) (by decide) (t := .long) (t' := .long) (by decide) (by decide))))
    have f32 := (((((F_a0_severelyErroredSeconds.other W2 (Or.inr (slot_ne (Or.inl (hw _ (List.mem_of_getElem? (i := 37) rfl))) (Or.inl (hw _ (List.mem_of_getElem? (i := 27) rfl))) (by decide) (t := .long) (t' := .long) (by decide) (by decide)))).other W9 (Or.inr (slot_ne (Or.inl (hw _ (List.mem_of_getElem? (i := 37) rfl))) (Or.inl (hw _ (List.mem_of_getElem? (i := 35) rfl))) (by decide) (t := .long) (t' := .long) (by decide) (by decide)))).other W14 (Or.inr (slot_ne (Or.inl (hw _ (List.mem_of_getElem? (i := 37) rfl))) (Or.inl (hw _ (List.mem_of_getElem? (i := 16) rfl))) (by decide) (t := .long) (t' := .boolean) (by decide) (by decide)))).other W18 (Or.inr (slot_ne (Or.inl (hw _ (List.mem_of_getElem? (i := 37) rfl))) (Or.inl (hw _ (List.mem_of_getElem? (i := 44) rfl))) (by decide) (t := .long) (t' := .long) (by decide) (by decide)))).other W22 (Or.inr (slot_ne (Or.inl (hw _ (List.mem_of_getElem? (i := 37) rfl))) (Or.inl (hw _ (List.mem_of_getElem? (i := 35) rfl))) (by decide) (t := .long) (t' := .long) (by decide) (by decide))))
    have f33 := (((((F_a0_backgroundBlockErrors.other W2 (Or.inr (slot_ne (Or.inl (hw _ (List.mem_of_getElem? (i := 97) rfl))) (Or.inl (hw _ (List.mem_of_getElem? (i := 27) rfl))) (by decide) (t := .long) (t' := .long) (by decide) (by decide)))).other W9 (Or.inr (slot_ne (Or.inl (hw _ (List.mem_of_getElem? (i := 97) rfl))) (Or.inl (hw _ (List.mem_of_getElem? (i := 35) rfl))) (by decide) (t := .long) (t' := .long) (by decide) (by decide)))).other W14 (Or.inr (slot_ne (Or.inl (hw _ (List.mem_of_getElem? (i := 97) rfl))) (Or.inl (hw _ (List.mem_of_getElem? (i := 16) rfl))) (by decide) (t := .long) (t' := .boolean) (by decide) (by decide)))).other W18 (Or.inr (slot_ne (Or.inl (hw _ (List.mem_of_getElem? (i := 97) rfl))) (Or.inl (hw _ (List.mem_of_getElem? (i := 44) rfl))) (by decide) (t := .long) (t' := .long) (by decide) (by decide)))).other W22 (Or.inr (slot_ne (Or.inl (hw _ (List.mem_of_getElem? (i := 97) rfl))) (Or.inl (hw _ (List.mem_of_getElem? (i := 35) rfl))) (by decide) (t := .long) (t' := .long) (by decide) (by decide))))
    have f34 := (((((F_a0_pendingErrored.other W2 (Or.inr (slot_ne (Or.inl (hw _ (List.mem_of_getElem? (i := 64) rfl))) (Or.inl (hw _ (List.mem_of_getElem? (i := 27) rfl))) (by decide) (t := .long) (t' := .long) (by decide) (by decide)))).other W9 (Or.inr (slot_ne (Or.inl (hw _ (List.mem_of_getElem? (i := 64) rfl))) (Or.inl (hw _ (List.mem_of_getElem? (i := 35) rfl))) (by decide) (t := .long) (t' := .long) (by decide) (by decide)))).other W14 (Or.inr (slot_ne (Or.inl (hw _ (List.mem_of_getElem? (i := 64) rfl))) (Or.inl (hw _ (List.mem_of_getElem? (i := 16) rfl))) (by decide) (t := .long) (t' := .boolean) (by decide) (by decide)))).other W18 (Or.inr (slot_ne (Or.inl (hw _ (List.mem_of_getElem? (i := 64) rfl))) (Or.inl (hw _ (List.mem_of_getElem? (i := 44) rfl))) (by decide) (t := .long) (t' := .long) (by decide) (by decide)))).other W22 (Or.inr (slot_ne (Or.inl (hw _ (List.mem_of_getElem? (i := 64) rfl))) (Or.inl (hw _ (List.mem_of_getElem? (i := 35) rfl))) (by decide) (t := .long) (t' := .long) (by decide) (by decide))))
    have f35 := (((((F_a0_pendingBlocks.other W2 (Or.inr (slot_ne (Or.inl (hw _ (List.mem_of_getElem? (i := 66) rfl))) (Or.inl (hw _ (List.mem_of_getElem? (i := 27) rfl))) (by decide) (t := .long) (t' := .long) (by decide) (by decide)))).other W9 (Or.inr (slot_ne (Or.inl (hw _ (List.mem_of_getElem? (i := 66) rfl))) (Or.inl (hw _ (List.mem_of_getElem? (i := 35) rfl))) (by decide) (t := .long) (t' := .long) (by decide) (by decide)))).other W14 (Or.inr (slot_ne (Or.inl (hw _ (List.mem_of_getElem? (i := 66) rfl))) (Or.inl (hw _ (List.mem_of_getElem? (i := 16) rfl))) (by decide) (t := .long) (t' := .boolean) (by decide) (by decide)))).other W18 (Or.inr (slot_ne (Or.inl (hw _ (List.mem_of_getElem? (i := 66) rfl))) (Or.inl (hw _ (List.mem_of_getElem? (i := 44) rfl))) (by decide) (t := .long) (t' := .long) (by decide) (by decide)))).other W22 (Or.inr (slot_ne (Or.inl (hw _ (List.mem_of_getElem? (i := 66) rfl))) (Or.inl (hw _ (List.mem_of_getElem? (i := 35) rfl))) (by decide) (t := .long) (t' := .long) (by decide) (by decide))))
    have f36 := (Fw18.other W22 (Or.inr (slot_ne (Or.inl (hw _ (List.mem_of_getElem? (i := 44) rfl))) (Or.inl (hw _ (List.mem_of_getElem? (i := 35) rfl))) (by decide) (t := .long) (t' := .long) (by decide) (by decide))))
    refine ⟨rfl, N22, kp23, f24, ?_, ?_, ?_, ?_, ?_, ?_, ?_, ?_, ?_, ?_, ?_, ?_, ?_⟩
    · exact f25
    · exact f26
    · exact f27
    · exact f28
    · exact f29
    · exact f30
    · exact f31
    · exact f32
    · exact f33
    · exact Fw22
    · exact f34
    · exact f35
    · exact f36
theorem d4_123 : decode prog_5_method_2_code 123 = .ok (.iload 4, 2) := by decide +kernel
theorem d4_125 : decode prog_5_method_2_code 125 = .ok (.ifCond .eq 25, 3) := by decide +kernel
theorem d4_150 : decode prog_5_method_2_code 150 = .ok (.aload_n 0, 1) := by decide +kernel
theorem d4_151 : decode prog_5_method_2_code 151 = .ok (.dup, 1) := by decide +kernel
theorem d4_152 : decode prog_5_method_2_code 152 = .ok (.getfield 23, 3) := by decide +kernel
theorem d4_155 : decode prog_5_method_2_code 155 = .ok (.lconst 1, 1) := by decide +kernel
theorem d4_156 : decode prog_5_method_2_code 156 = .ok (.ladd, 1) := by decide +kernel
theorem d4_157 : decode prog_5_method_2_code 157 = .ok (.putfield 23, 3) := by decide +kernel
theorem d4_160 : decode prog_5_method_2_code 160 = .ok (.lload_n 1, 1) := by decide +kernel
theorem d4_161 : decode prog_5_method_2_code 161 = .ok (.lconst 0, 1) := by decide +kernel
theorem d4_162 : decode prog_5_method_2_code 162 = .ok (.lcmp, 1) := by decide +kernel
theorem d4_163 : decode prog_5_method_2_code 163 = .ok (.ifCond .le 23, 3) := by decide +kernel
theorem d4_166 : decode prog_5_method_2_code 166 = .ok (.aload_n 0, 1) := by decide +kernel
theorem d4_167 : decode prog_5_method_2_code 167 = .ok (.dup, 1) := by decide +kernel
theorem d4_168 : decode prog_5_method_2_code 168 = .ok (.getfield 43, 3) := by decide +kernel
theorem d4_171 : decode prog_5_method_2_code 171 = .ok (.lconst 1, 1) := by decide +kernel
theorem d4_172 : decode prog_5_method_2_code 172 = .ok (.ladd, 1) := by decide +kernel
theorem d4_173 : decode prog_5_method_2_code 173 = .ok (.putfield 43, 3) := by decide +kernel
theorem d4_176 : decode prog_5_method_2_code 176 = .ok (.aload_n 0, 1) := by decide +kernel
theorem d4_177 : decode prog_5_method_2_code 177 = .ok (.dup, 1) := by decide +kernel
theorem d4_178 : decode prog_5_method_2_code 178 = .ok (.getfield 46, 3) := by decide +kernel
theorem d4_181 : decode prog_5_method_2_code 181 = .ok (.lload_n 1, 1) := by decide +kernel
theorem d4_182 : decode prog_5_method_2_code 182 = .ok (.ladd, 1) := by decide +kernel
theorem d4_183 : decode prog_5_method_2_code 183 = .ok (.putfield 46, 3) := by decide +kernel
theorem d4_186 : decode prog_5_method_2_code 186 = .ok (.aload_n 0, 1) := by decide +kernel
theorem d4_187 : decode prog_5_method_2_code 187 = .ok (.getfield 23, 3) := by decide +kernel
theorem d4_190 : decode prog_5_method_2_code 190 = .ok (.ldc2_w 26, 3) := by decide +kernel
theorem d4_193 : decode prog_5_method_2_code 193 = .ok (.lcmp, 1) := by decide +kernel
theorem d4_194 : decode prog_5_method_2_code 194 = .ok (.ifCond .ne 42, 3) := by decide +kernel
theorem ef_4D (m : MethodId) (a0 : Addr) (q1 : Int64) : entryFrame m #[(.ref a0), (.long q1), (.int (0 : Int32))] 5 = mkF m 0 #[.val (.ref a0), .val (.long q1), .second, .val (.int (0 : Int32)), .unset] [] := by first | (simp [entryFrame, mkF, argsToLocals, Value.category]; done) | rfl
def own_p4D_pendingErrored (q1 : Int64) (pq : Int64) : Int64 := (if (0 : Int64) < q1 then (pq + (1 : Int64)) else pq)
def own_p4D_pendingBlocks (q1 : Int64) (pb : Int64) : Int64 := (if (0 : Int64) < q1 then (pb + q1) else pb)
def Q4D (Z : State) (a0 : Addr) (q1 : Int64) (th : Int64) (xt : Int64) (sc : Int64) (us : Int64) (xs : Int64) (es : Int64) (ss : Int64) (bb : Int64) (pe : Int64) (pq : Int64) (pb : Int64) (pd : Int64) (h0 : Heap) (n0 : Nat) (v : Option Value) (h : Heap) (L : List Loc) : Prop := v = none ∧ Fr n0 L ∧ Keep h0 h [a0] ∧ Exa Z h a0 "com/example/hopchuan/hopchuan/ErrorCounter" ∧ Fld Z h a0 "com/example/hopchuan/hopchuan/ErrorCounter" "available" "Z" (.int (0 : Int32)) ∧ Fld Z h a0 "com/example/hopchuan/hopchuan/ErrorCounter" "sesErroredBlocks" "J" (.long th) ∧ Fld Z h a0 "com/example/hopchuan/hopchuan/ErrorCounter" "extendingPeriodSeconds" "J" (.long xt) ∧ Fld Z h a0 "com/example/hopchuan/hopchuan/ErrorCounter" "seconds" "J" (.long (sc + (1 : Int64))) ∧ Fld Z h a0 "com/example/hopchuan/hopchuan/ErrorCounter" "unavailableSeconds" "J" (.long us) ∧ Fld Z h a0 "com/example/hopchuan/hopchuan/ErrorCounter" "extendingSeconds" "J" (.long xs) ∧ Fld Z h a0 "com/example/hopchuan/hopchuan/ErrorCounter" "erroredSeconds" "J" (.long es) ∧ Fld Z h a0 "com/example/hopchuan/hopchuan/ErrorCounter" "severelyErroredSeconds" "J" (.long ss) ∧ Fld Z h a0 "com/example/hopchuan/hopchuan/ErrorCounter" "backgroundBlockErrors" "J" (.long bb) ∧ Fld Z h a0 "com/example/hopchuan/hopchuan/ErrorCounter" "pending" "J" (.long (pe + (1 : Int64))) ∧ Fld Z h a0 "com/example/hopchuan/hopchuan/ErrorCounter" "pendingErrored" "J" (.long (own_p4D_pendingErrored q1 pq)) ∧ Fld Z h a0 "com/example/hopchuan/hopchuan/ErrorCounter" "pendingBlocks" "J" (.long (own_p4D_pendingBlocks q1 pb)) ∧ Fld Z h a0 "com/example/hopchuan/hopchuan/ErrorCounter" "period" "J" (.long pd)
set_option maxRecDepth 65536 in
set_option maxHeartbeats 40000000 in
theorem rm4D (l : Launch) (Z : State) (aw : Array Value) (hw : ∀ d ∈ tables_1, d.before aw Z = true) (wq : List Jvm.Cond) (a0 : Addr) (q1 : Int64) (th : Int64) (xt : Int64) (sc : Int64) (us : Int64) (xs : Int64) (es : Int64) (ss : Int64) (bb : Int64) (pe : Int64) (pq : Int64) (pb : Int64) (pd : Int64) (h0 : Heap) (n0 : Nat) (Z0 : n0 ≤ h0.size) (E_a0 : Exa Z h0 a0 "com/example/hopchuan/hopchuan/ErrorCounter") (F_a0_available : Fld Z h0 a0 "com/example/hopchuan/hopchuan/ErrorCounter" "available" "Z" (.int (0 : Int32))) (F_a0_sesErroredBlocks : Fld Z h0 a0 "com/example/hopchuan/hopchuan/ErrorCounter" "sesErroredBlocks" "J" (.long th)) (F_a0_extendingPeriodSeconds : Fld Z h0 a0 "com/example/hopchuan/hopchuan/ErrorCounter" "extendingPeriodSeconds" "J" (.long xt)) (F_a0_seconds : Fld Z h0 a0 "com/example/hopchuan/hopchuan/ErrorCounter" "seconds" "J" (.long sc)) (F_a0_unavailableSeconds : Fld Z h0 a0 "com/example/hopchuan/hopchuan/ErrorCounter" "unavailableSeconds" "J" (.long us)) (F_a0_extendingSeconds : Fld Z h0 a0 "com/example/hopchuan/hopchuan/ErrorCounter" "extendingSeconds" "J" (.long xs)) (F_a0_erroredSeconds : Fld Z h0 a0 "com/example/hopchuan/hopchuan/ErrorCounter" "erroredSeconds" "J" (.long es)) (F_a0_severelyErroredSeconds : Fld Z h0 a0 "com/example/hopchuan/hopchuan/ErrorCounter" "severelyErroredSeconds" "J" (.long ss)) (F_a0_backgroundBlockErrors : Fld Z h0 a0 "com/example/hopchuan/hopchuan/ErrorCounter" "backgroundBlockErrors" "J" (.long bb)) (F_a0_pending : Fld Z h0 a0 "com/example/hopchuan/hopchuan/ErrorCounter" "pending" "J" (.long pe)) (F_a0_pendingErrored : Fld Z h0 a0 "com/example/hopchuan/hopchuan/ErrorCounter" "pendingErrored" "J" (.long pq)) (F_a0_pendingBlocks : Fld Z h0 a0 "com/example/hopchuan/hopchuan/ErrorCounter" "pendingBlocks" "J" (.long pb)) (F_a0_period : Fld Z h0 a0 "com/example/hopchuan/hopchuan/ErrorCounter" "period" "J" (.long pd)) (g_a0 : n0 ≤ a0) (hq : q1 < th) (hpe : ¬ (pe + (1 : Int64)) = (10 : Int64)) :
    MetFree l (⟨"com/example/hopchuan/hopchuan/ErrorCounter", "second", "(JZ)V"⟩ : MethodName) (head1 (Jvm.Cond.code (⟨"com/example/hopchuan/hopchuan/ErrorCounter", "second", "(JZ)V"⟩ : MethodName) prog_5_method_2_code 5 none :: wq) ({ frames := 0, cells := 0, slots := 0, locals := 0 } : Room)) (fun a U => a = #[(.ref a0), (.long q1), (.int (0 : Int32))] ∧ Z.Warmed39 U.vm ∧ U.heap = h0) (fun _ _ _ _ _ => True) (fun _ U o U' => ∃ v L, o = .returned v ∧ Q4D Z a0 q1 th xt sc us xs es ss bb pe pq pb pd h0 n0 v U'.heap L ∧ FrameEnd U o U' L ({ frames := 0, cells := 0, slots := 0, locals := 0 } : Room).cells ({ frames := 0, cells := 0, slots := 0, locals := 0 } : Room).slots) := by
  refine MetFree.of_bodySF (plainFor_of_name pn_0) hisR ?_
  intro p e s m args below meth c s₁ Bd hml0 hP hK
  obtain ⟨rfl, hZ, hh⟩ := hP
  have hx := Bd.exec
  have hby := Bd.bytes
  have hml : c.maxLocals = 5 := hml0
  have hown : s.vm.findClass "com/example/hopchuan/hopchuan/ErrorCounter" = some m.cls := findClass_of_methodNamed Bd.named
  have hnm := (name_of_methodNamed Bd.named Bd.method).1
  have X0 : Stand p l e ({ frames := 0, cells := 0, slots := 0, locals := 0 } : Room) s m #[(.ref a0), (.long q1), (.int (0 : Int32))] below meth c s₁ [] 0 0 := Stand.of_body Bd
  have e0 : s₁.heap = h0 := by rw [← hh, Bd.state]; rfl
  have N0 := Fr.nil n0
  have pre0 : own_Pre p e below (s₁.setTop (entryFrame m #[(.ref a0), (.long q1), (.int (0 : Int32))] 5)) (s₁.setTop (mkF m 0 #[.val (.ref a0), .val (.long q1), .second, .val (.int (0 : Int32)), .unset] [])) := fun t k => castTop (ef_4D m a0 q1) k
  obtain ⟨T1, X1, e1, st1⟩ := getF X0 hx hZ hown (host := "") (Or.inl (hw _ (List.mem_of_getElem? (i := 26) rfl))) Via.refl e0 F_a0_seconds (g := (mkF m 2 #[.val (.ref a0), .val (.long q1), .second, .val (.int (0 : Int32)), .unset] [(.ref a0), (.ref a0)])) rfl rfl (hb hby d4_2)
  obtain ⟨T2, h2, X2, e2, W2, st2⟩ := putF X1 hx hZ hown (host := "") (Or.inl (hw _ (List.mem_of_getElem? (i := 26) rfl))) Via.refl e1 F_a0_seconds E_a0 (Or.inl (hw _ (List.mem_of_getElem? (i := 27) rfl))) (hw _ (List.mem_of_getElem? (i := 7) rfl)) (ty := .long) (by decide) rfl rfl (g := (mkF m 7 #[.val (.ref a0), .val (.long q1), .second, .val (.int (0 : Int32)), .unset] [(.long (sc + (1 : Int64))), (.ref a0)])) rfl rfl (hb hby d4_7)
  have Fw2 := F_a0_seconds.same W2
  have N2 := Fr.snoc X2 N0 g_a0
  have kp3 : Keep h0 h2 [a0] := (Keep.refl h0 [a0]).wr W2 (Or.inl (List.mem_of_getElem? (i := 0) rfl))
  have f4 := (F_a0_sesErroredBlocks.other W2 (Or.inr (slot_ne (Or.inr (hw _ (List.mem_of_getElem? (i := 18) rfl))) (Or.inl (hw _ (List.mem_of_getElem? (i := 27) rfl))) (by decide) (t := .long) (t' := .long) (by decide) (by decide))))
  obtain ⟨T5, X5, e5, st5⟩ := getF X2 hx hZ hown (host := "") (Or.inl (hw _ (List.mem_of_getElem? (i := 17) rfl))) Via.refl e2 f4 (g := (mkF m 16 #[.val (.ref a0), .val (.long q1), .second, .val (.int (0 : Int32)), .unset] [(.ref a0), (.long q1)])) rfl rfl (hb hby d4_16)
  have hc20 : (q1 < th) := hq
  have f6 := (F_a0_available.other W2 (Or.inr (slot_ne (Or.inl (hw _ (List.mem_of_getElem? (i := 16) rfl))) (Or.inl (hw _ (List.mem_of_getElem? (i := 27) rfl))) (by decide) (t := .boolean) (t' := .long) (by decide) (by decide))))
  obtain ⟨T7, X7, e7, st7⟩ := getF X5 hx hZ hown (host := "") (Or.inl (hw _ (List.mem_of_getElem? (i := 15) rfl))) Via.refl e5 f6 (g := (mkF m 31 #[.val (.ref a0), .val (.long q1), .second, .val (.int (0 : Int32)), .val (.int (0 : Int32))] [(.ref a0)])) rfl rfl (hb hby d4_31)
  obtain ⟨T8, X8, e8, st8⟩ := getF X7 hx hZ hown (host := "") (Or.inl (hw _ (List.mem_of_getElem? (i := 15) rfl))) Via.refl e7 f6 (g := (mkF m 84 #[.val (.ref a0), .val (.long q1), .second, .val (.int (0 : Int32)), .val (.int (0 : Int32))] [(.ref a0)])) rfl rfl (hb hby d4_84)
  have f9 := (F_a0_pending.other W2 (Or.inr (slot_ne (Or.inl (hw _ (List.mem_of_getElem? (i := 35) rfl))) (Or.inl (hw _ (List.mem_of_getElem? (i := 27) rfl))) (by decide) (t := .long) (t' := .long) (by decide) (by decide))))
  obtain ⟨T10, X10, e10, st10⟩ := getF X8 hx hZ hown (host := "") (Or.inl (hw _ (List.mem_of_getElem? (i := 34) rfl))) Via.refl e8 f9 (g := (mkF m 152 #[.val (.ref a0), .val (.long q1), .second, .val (.int (0 : Int32)), .val (.int (0 : Int32))] [(.ref a0), (.ref a0)])) rfl rfl (hb hby d4_152)
  have f11 := (E_a0.wr W2)
  obtain ⟨T12, h12, X12, e12, W12, st12⟩ := putF X10 hx hZ hown (host := "") (Or.inl (hw _ (List.mem_of_getElem? (i := 34) rfl))) Via.refl e10 f9 f11 (Or.inl (hw _ (List.mem_of_getElem? (i := 35) rfl))) (hw _ (List.mem_of_getElem? (i := 7) rfl)) (ty := .long) (by decide) rfl rfl (g := (mkF m 157 #[.val (.ref a0), .val (.long q1), .second, .val (.int (0 : Int32)), .val (.int (0 : Int32))] [(.long (pe + (1 : Int64))), (.ref a0)])) rfl rfl (hb hby d4_157)
  have Fw12 := f9.same W12
  have N12 := Fr.snoc X12 N2 g_a0
  have kp13 : Keep h0 h12 [a0] := kp3.wr W12 (Or.inl (List.mem_of_getElem? (i := 0) rfl))
  have pre14 : own_Pre p e below (s₁.setTop (entryFrame m #[(.ref a0), (.long q1), (.int (0 : Int32))] 5)) (T12.setTop (mkF m 163 #[.val (.ref a0), .val (.long q1), .second, .val (.int (0 : Int32)), .val (.int (0 : Int32))] [(.int (lcmpW q1 (0 : Int64)))])) := fun t k => pre0 t (by
      show Steps p.tables e below (s₁.setTop (mkF m 0 #[.val (.ref a0), .val (.long q1), .second, .val (.int (0 : Int32)), .unset] [])) _
      refine XS.aloadN X0.here hx rfl (hb hby d4_0) rfl rfl ?_
      show Steps p.tables e below (s₁.setTop (mkF m 1 #[.val (.ref a0), .val (.long q1), .second, .val (.int (0 : Int32)), .unset] [(.ref a0)])) _
      refine XS.dup X0.here hx rfl (hb hby d4_1) rfl rfl ?_
      show Steps p.tables e below (s₁.setTop (mkF m 2 #[.val (.ref a0), .val (.long q1), .second, .val (.int (0 : Int32)), .unset] [(.ref a0), (.ref a0)])) _
      refine st1 _ ?_
      show Steps p.tables e below (T1.setTop (mkF m 5 #[.val (.ref a0), .val (.long q1), .second, .val (.int (0 : Int32)), .unset] [(.long sc), (.ref a0)])) _
      refine XS.lconst X1.here hx rfl (hb hby d4_5) ?_
      show Steps p.tables e below (T1.setTop (mkF m 6 #[.val (.ref a0), .val (.long q1), .second, .val (.int (0 : Int32)), .unset] [(.long (1 : Int64)), (.long sc), (.ref a0)])) _
      refine XS.ladd X1.here hx rfl (hb hby d4_6) rfl ?_
      show Steps p.tables e below (T1.setTop (mkF m 7 #[.val (.ref a0), .val (.long q1), .second, .val (.int (0 : Int32)), .unset] [(.long (sc + (1 : Int64))), (.ref a0)])) _
      refine st2 _ ?_
      show Steps p.tables e below (T2.setTop (mkF m 10 #[.val (.ref a0), .val (.long q1), .second, .val (.int (0 : Int32)), .unset] [])) _
      refine XS.iloadN X2.here hx rfl (hb hby d4_10) rfl ?_
      show Steps p.tables e below (T2.setTop (mkF m 11 #[.val (.ref a0), .val (.long q1), .second, .val (.int (0 : Int32)), .unset] [(.int (0 : Int32))])) _
      refine XS.ifNo X2.here hx rfl (hb hby d4_11) rfl ((if0 _ _).trans (teq (by decide : ((0 : Int32) = (0 : Int32)))).2) ?_
      show Steps p.tables e below (T2.setTop (mkF m 14 #[.val (.ref a0), .val (.long q1), .second, .val (.int (0 : Int32)), .unset] [])) _
      refine XS.lloadN X2.here hx rfl (hb hby d4_14) rfl ?_
      show Steps p.tables e below (T2.setTop (mkF m 15 #[.val (.ref a0), .val (.long q1), .second, .val (.int (0 : Int32)), .unset] [(.long q1)])) _
      refine XS.aloadN X2.here hx rfl (hb hby d4_15) rfl rfl ?_
      show Steps p.tables e below (T2.setTop (mkF m 16 #[.val (.ref a0), .val (.long q1), .second, .val (.int (0 : Int32)), .unset] [(.ref a0), (.long q1)])) _
      refine st5 _ ?_
      show Steps p.tables e below (T5.setTop (mkF m 19 #[.val (.ref a0), .val (.long q1), .second, .val (.int (0 : Int32)), .unset] [(.long th), (.long q1)])) _
      refine XS.lcmp X5.here hx rfl (hb hby d4_19) rfl ?_
      show Steps p.tables e below (T5.setTop (mkF m 20 #[.val (.ref a0), .val (.long q1), .second, .val (.int (0 : Int32)), .unset] [(.int (lcmpW q1 th))])) _
      refine XS.ifYes X5.here hx rfl (pc0 := 20) (pc' := 27) rfl (hb hby d4_20) rfl ((if0 _ _).trans (tlt ((lw_lt _ _).mpr hc20)).1) (by decide) (by decide) ?_
      show Steps p.tables e below (T5.setTop (mkF m 27 #[.val (.ref a0), .val (.long q1), .second, .val (.int (0 : Int32)), .unset] [])) _
      refine XS.iconst X5.here hx rfl (hb hby d4_27) ?_
      show Steps p.tables e below (T5.setTop (mkF m 28 #[.val (.ref a0), .val (.long q1), .second, .val (.int (0 : Int32)), .unset] [(.int (0 : Int32))])) _
      refine XS.istore X5.here hx rfl (hb hby d4_28) rfl (l' := #[.val (.ref a0), .val (.long q1), .second, .val (.int (0 : Int32)), .val (.int (0 : Int32))]) rfl ?_
      show Steps p.tables e below (T5.setTop (mkF m 30 #[.val (.ref a0), .val (.long q1), .second, .val (.int (0 : Int32)), .val (.int (0 : Int32))] [])) _
      refine XS.aloadN X5.here hx rfl (hb hby d4_30) rfl rfl ?_
      show Steps p.tables e below (T5.setTop (mkF m 31 #[.val (.ref a0), .val (.long q1), .second, .val (.int (0 : Int32)), .val (.int (0 : Int32))] [(.ref a0)])) _
      refine st7 _ ?_
      show Steps p.tables e below (T7.setTop (mkF m 34 #[.val (.ref a0), .val (.long q1), .second, .val (.int (0 : Int32)), .val (.int (0 : Int32))] [(.int (0 : Int32))])) _
      refine XS.ifYes X7.here hx rfl (pc0 := 34) (pc' := 83) rfl (hb hby d4_34) rfl ((if0 _ _).trans (teq (by decide : ((0 : Int32) = (0 : Int32)))).1) (by decide) (by decide) ?_
      show Steps p.tables e below (T7.setTop (mkF m 83 #[.val (.ref a0), .val (.long q1), .second, .val (.int (0 : Int32)), .val (.int (0 : Int32))] [])) _
      refine XS.aloadN X7.here hx rfl (hb hby d4_83) rfl rfl ?_
      show Steps p.tables e below (T7.setTop (mkF m 84 #[.val (.ref a0), .val (.long q1), .second, .val (.int (0 : Int32)), .val (.int (0 : Int32))] [(.ref a0)])) _
      refine st8 _ ?_
      show Steps p.tables e below (T8.setTop (mkF m 87 #[.val (.ref a0), .val (.long q1), .second, .val (.int (0 : Int32)), .val (.int (0 : Int32))] [(.int (0 : Int32))])) _
      refine XS.ifYes X8.here hx rfl (pc0 := 87) (pc' := 123) rfl (hb hby d4_87) rfl ((if0 _ _).trans (teq (by decide : ((0 : Int32) = (0 : Int32)))).1) (by decide) (by decide) ?_
      show Steps p.tables e below (T8.setTop (mkF m 123 #[.val (.ref a0), .val (.long q1), .second, .val (.int (0 : Int32)), .val (.int (0 : Int32))] [])) _
      refine XS.iload X8.here hx rfl (hb hby d4_123) rfl ?_
      show Steps p.tables e below (T8.setTop (mkF m 125 #[.val (.ref a0), .val (.long q1), .second, .val (.int (0 : Int32)), .val (.int (0 : Int32))] [(.int (0 : Int32))])) _
      refine XS.ifYes X8.here hx rfl (pc0 := 125) (pc' := 150) rfl (hb hby d4_125) rfl ((if0 _ _).trans (teq (by decide : ((0 : Int32) = (0 : Int32)))).1) (by decide) (by decide) ?_
      show Steps p.tables e below (T8.setTop (mkF m 150 #[.val (.ref a0), .val (.long q1), .second, .val (.int (0 : Int32)), .val (.int (0 : Int32))] [])) _
      refine XS.aloadN X8.here hx rfl (hb hby d4_150) rfl rfl ?_
      show Steps p.tables e below (T8.setTop (mkF m 151 #[.val (.ref a0), .val (.long q1), .second, .val (.int (0 : Int32)), .val (.int (0 : Int32))] [(.ref a0)])) _
      refine XS.dup X8.here hx rfl (hb hby d4_151) rfl rfl ?_
      show Steps p.tables e below (T8.setTop (mkF m 152 #[.val (.ref a0), .val (.long q1), .second, .val (.int (0 : Int32)), .val (.int (0 : Int32))] [(.ref a0), (.ref a0)])) _
      refine st10 _ ?_
      show Steps p.tables e below (T10.setTop (mkF m 155 #[.val (.ref a0), .val (.long q1), .second, .val (.int (0 : Int32)), .val (.int (0 : Int32))] [(.long pe), (.ref a0)])) _
      refine XS.lconst X10.here hx rfl (hb hby d4_155) ?_
      show Steps p.tables e below (T10.setTop (mkF m 156 #[.val (.ref a0), .val (.long q1), .second, .val (.int (0 : Int32)), .val (.int (0 : Int32))] [(.long (1 : Int64)), (.long pe), (.ref a0)])) _
      refine XS.ladd X10.here hx rfl (hb hby d4_156) rfl ?_
      show Steps p.tables e below (T10.setTop (mkF m 157 #[.val (.ref a0), .val (.long q1), .second, .val (.int (0 : Int32)), .val (.int (0 : Int32))] [(.long (pe + (1 : Int64))), (.ref a0)])) _
      refine st12 _ ?_
      show Steps p.tables e below (T12.setTop (mkF m 160 #[.val (.ref a0), .val (.long q1), .second, .val (.int (0 : Int32)), .val (.int (0 : Int32))] [])) _
      refine XS.lloadN X12.here hx rfl (hb hby d4_160) rfl ?_
      show Steps p.tables e below (T12.setTop (mkF m 161 #[.val (.ref a0), .val (.long q1), .second, .val (.int (0 : Int32)), .val (.int (0 : Int32))] [(.long q1)])) _
      refine XS.lconst X12.here hx rfl (hb hby d4_161) ?_
      show Steps p.tables e below (T12.setTop (mkF m 162 #[.val (.ref a0), .val (.long q1), .second, .val (.int (0 : Int32)), .val (.int (0 : Int32))] [(.long (0 : Int64)), (.long q1)])) _
      refine XS.lcmp X12.here hx rfl (hb hby d4_162) rfl ?_
      exact k)
  by_cases hc163 : (0 : Int64) < q1
  · have f15 := ((F_a0_pendingErrored.other W2 (Or.inr (slot_ne (Or.inl (hw _ (List.mem_of_getElem? (i := 64) rfl))) (Or.inl (hw _ (List.mem_of_getElem? (i := 27) rfl))) (by decide) (t := .long) (t' := .long) (by decide) (by decide)))).other W12 (Or.inr (slot_ne (Or.inl (hw _ (List.mem_of_getElem? (i := 64) rfl))) (Or.inl (hw _ (List.mem_of_getElem? (i := 35) rfl))) (by decide) (t := .long) (t' := .long) (by decide) (by decide))))
    obtain ⟨T16, X16, e16, st16⟩ := getF X12 hx hZ hown (host := "") (Or.inl (hw _ (List.mem_of_getElem? (i := 63) rfl))) Via.refl e12 f15 (g := (mkF m 168 #[.val (.ref a0), .val (.long q1), .second, .val (.int (0 : Int32)), .val (.int (0 : Int32))] [(.ref a0), (.ref a0)])) rfl rfl (hb hby d4_168)
    have f17 := (f11.wr W12)
    obtain ⟨T18, h18, X18, e18, W18, st18⟩ := putF X16 hx hZ hown (host := "") (Or.inl (hw _ (List.mem_of_getElem? (i := 63) rfl))) Via.refl e16 f15 f17 (Or.inl (hw _ (List.mem_of_getElem? (i := 64) rfl))) (hw _ (List.mem_of_getElem? (i := 7) rfl)) (ty := .long) (by decide) rfl rfl (g := (mkF m 173 #[.val (.ref a0), .val (.long q1), .second, .val (.int (0 : Int32)), .val (.int (0 : Int32))] [(.long (pq + (1 : Int64))), (.ref a0)])) rfl rfl (hb hby d4_173)
    have Fw18 := f15.same W18
    have N18 := Fr.snoc X18 N12 g_a0
    have kp19 : Keep h0 h18 [a0] := kp13.wr W18 (Or.inl (List.mem_of_getElem? (i := 0) rfl))
    have f20 := (((F_a0_pendingBlocks.other W2 (Or.inr (slot_ne (Or.inl (hw _ (List.mem_of_getElem? (i := 66) rfl))) (Or.inl (hw _ (List.mem_of_getElem? (i := 27) rfl))) (by decide) (t := .long) (t' := .long) (by decide) (by decide)))).other W12 (Or.inr (slot_ne (Or.inl (hw _ (List.mem_of_getElem? (i := 66) rfl))) (Or.inl (hw _ (List.mem_of_getElem? (i := 35) rfl))) (by decide) (t := .long) (t' := .long) (by decide) (by decide)))).other W18 (Or.inr (slot_ne (Or.inl (hw _ (List.mem_of_getElem? (i := 66) rfl))) (Or.inl (hw _ (List.mem_of_getElem? (i := 64) rfl))) (by decide) (t := .long) (t' := .long) (by decide) (by decide))))
    obtain ⟨T21, X21, e21, st21⟩ := getF X18 hx hZ hown (host := "") (Or.inl (hw _ (List.mem_of_getElem? (i := 65) rfl))) Via.refl e18 f20 (g := (mkF m 178 #[.val (.ref a0), .val (.long q1), .second, .val (.int (0 : Int32)), .val (.int (0 : Int32))] [(.ref a0), (.ref a0)])) rfl rfl (hb hby d4_178)
    have f22 := (f17.wr W18)
    obtain ⟨T23, h23, X23, e23, W23, st23⟩ := putF X21 hx hZ hown (host := "") (Or.inl (hw _ (List.mem_of_getElem? (i := 65) rfl))) Via.refl e21 f20 f22 (Or.inl (hw _ (List.mem_of_getElem? (i := 66) rfl))) (hw _ (List.mem_of_getElem? (i := 7) rfl)) (ty := .long) (by decide) rfl rfl (g := (mkF m 183 #[.val (.ref a0), .val (.long q1), .second, .val (.int (0 : Int32)), .val (.int (0 : Int32))] [(.long (pb + q1)), (.ref a0)])) rfl rfl (hb hby d4_183)
    have Fw23 := f20.same W23
    have N23 := Fr.snoc X23 N18 g_a0
    have kp24 : Keep h0 h23 [a0] := kp19.wr W23 (Or.inl (List.mem_of_getElem? (i := 0) rfl))
    have f25 := ((Fw12.other W18 (Or.inr (slot_ne (Or.inl (hw _ (List.mem_of_getElem? (i := 35) rfl))) (Or.inl (hw _ (List.mem_of_getElem? (i := 64) rfl))) (by decide) (t := .long) (t' := .long) (by decide) (by decide)))).other W23 (Or.inr (slot_ne (Or.inl (hw _ (List.mem_of_getElem? (i := 35) rfl))) (Or.inl (hw _ (List.mem_of_getElem? (i := 66) rfl))) (by decide) (t := .long) (t' := .long) (by decide) (by decide))))
    obtain ⟨T26, X26, e26, st26⟩ := getF X23 hx hZ hown (host := "") (Or.inl (hw _ (List.mem_of_getElem? (i := 34) rfl))) Via.refl e23 f25 (g := (mkF m 187 #[.val (.ref a0), .val (.long q1), .second, .val (.int (0 : Int32)), .val (.int (0 : Int32))] [(.ref a0)])) rfl rfl (hb hby d4_187)
    have hc194 : ¬ ((pe + (1 : Int64)) = (10 : Int64)) := hpe
    obtain ⟨fs, hr, hrun, hended, hW, hsame⟩ := X26.leave (v := none) (fun _ => rfl)
    refine ⟨_, _, pre14 _ ?_, hrun, hended, _, _, rfl, ?_, ⟨_, rfl⟩, hW, hsame.mono (by decide) (by decide)⟩
    · show Steps p.tables e below (T12.setTop (mkF m 163 #[.val (.ref a0), .val (.long q1), .second, .val (.int (0 : Int32)), .val (.int (0 : Int32))] [(.int (lcmpW q1 (0 : Int64)))])) _
      refine XS.ifNo X12.here hx rfl (hb hby d4_163) rfl ((if0 _ _).trans (tlt ((lw_gt _ _).mpr hc163)).2.2.2) ?_
      show Steps p.tables e below (T12.setTop (mkF m 166 #[.val (.ref a0), .val (.long q1), .second, .val (.int (0 : Int32)), .val (.int (0 : Int32))] [])) _
      refine XS.aloadN X12.here hx rfl (hb hby d4_166) rfl rfl ?_
      show Steps p.tables e below (T12.setTop (mkF m 167 #[.val (.ref a0), .val (.long q1), .second, .val (.int (0 : Int32)), .val (.int (0 : Int32))] [(.ref a0)])) _
      refine XS.dup X12.here hx rfl (hb hby d4_167) rfl rfl ?_
      show Steps p.tables e below (T12.setTop (mkF m 168 #[.val (.ref a0), .val (.long q1), .second, .val (.int (0 : Int32)), .val (.int (0 : Int32))] [(.ref a0), (.ref a0)])) _
      refine st16 _ ?_
      show Steps p.tables e below (T16.setTop (mkF m 171 #[.val (.ref a0), .val (.long q1), .second, .val (.int (0 : Int32)), .val (.int (0 : Int32))] [(.long pq), (.ref a0)])) _
      refine XS.lconst X16.here hx rfl (hb hby d4_171) ?_
      show Steps p.tables e below (T16.setTop (mkF m 172 #[.val (.ref a0), .val (.long q1), .second, .val (.int (0 : Int32)), .val (.int (0 : Int32))] [(.long (1 : Int64)), (.long pq), (.ref a0)])) _
      refine XS.ladd X16.here hx rfl (hb hby d4_172) rfl ?_
      show Steps p.tables e below (T16.setTop (mkF m 173 #[.val (.ref a0), .val (.long q1), .second, .val (.int (0 : Int32)), .val (.int (0 : Int32))] [(.long (pq + (1 : Int64))), (.ref a0)])) _
      refine st18 _ ?_
      show Steps p.tables e below (T18.setTop (mkF m 176 #[.val (.ref a0), .val (.long q1), .second, .val (.int (0 : Int32)), .val (.int (0 : Int32))] [])) _
      refine XS.aloadN X18.here hx rfl (hb hby d4_176) rfl rfl ?_
      show Steps p.tables e below (T18.setTop (mkF m 177 #[.val (.ref a0), .val (.long q1), .second, .val (.int (0 : Int32)), .val (.int (0 : Int32))] [(.ref a0)])) _
      refine XS.dup X18.here hx rfl (hb hby d4_177) rfl rfl ?_
      show Steps p.tables e below (T18.setTop (mkF m 178 #[.val (.ref a0), .val (.long q1), .second, .val (.int (0 : Int32)), .val (.int (0 : Int32))] [(.ref a0), (.ref a0)])) _
      refine st21 _ ?_
      show Steps p.tables e below (T21.setTop (mkF m 181 #[.val (.ref a0), .val (.long q1), .second, .val (.int (0 : Int32)), .val (.int (0 : Int32))] [(.long pb), (.ref a0)])) _
      refine XS.lloadN X21.here hx rfl (hb hby d4_181) rfl ?_
      show Steps p.tables e below (T21.setTop (mkF m 182 #[.val (.ref a0), .val (.long q1), .second, .val (.int (0 : Int32)), .val (.int (0 : Int32))] [(.long q1), (.long pb), (.ref a0)])) _
      refine XS.ladd X21.here hx rfl (hb hby d4_182) rfl ?_
      show Steps p.tables e below (T21.setTop (mkF m 183 #[.val (.ref a0), .val (.long q1), .second, .val (.int (0 : Int32)), .val (.int (0 : Int32))] [(.long (pb + q1)), (.ref a0)])) _
      refine st23 _ ?_
      show Steps p.tables e below (T23.setTop (mkF m 186 #[.val (.ref a0), .val (.long q1), .second, .val (.int (0 : Int32)), .val (.int (0 : Int32))] [])) _
      refine XS.aloadN X23.here hx rfl (hb hby d4_186) rfl rfl ?_
      show Steps p.tables e below (T23.setTop (mkF m 187 #[.val (.ref a0), .val (.long q1), .second, .val (.int (0 : Int32)), .val (.int (0 : Int32))] [(.ref a0)])) _
      refine st26 _ ?_
      show Steps p.tables e below (T26.setTop (mkF m 190 #[.val (.ref a0), .val (.long q1), .second, .val (.int (0 : Int32)), .val (.int (0 : Int32))] [(.long (pe + (1 : Int64)))])) _
      refine X26.ldc2Long hx hown (mvT hZ (hw _ (List.mem_of_getElem? (i := 42) rfl))) (g := (mkF m 190 #[.val (.ref a0), .val (.long q1), .second, .val (.int (0 : Int32)), .val (.int (0 : Int32))] [(.long (pe + (1 : Int64)))])) rfl (hb hby d4_190) _ ?_
      show Steps p.tables e below (T26.setTop (mkF m 193 #[.val (.ref a0), .val (.long q1), .second, .val (.int (0 : Int32)), .val (.int (0 : Int32))] [(.long (10 : Int64)), (.long (pe + (1 : Int64)))])) _
      refine XS.lcmp X26.here hx rfl (hb hby d4_193) rfl ?_
      show Steps p.tables e below (T26.setTop (mkF m 194 #[.val (.ref a0), .val (.long q1), .second, .val (.int (0 : Int32)), .val (.int (0 : Int32))] [(.int (lcmpW (pe + (1 : Int64)) (10 : Int64)))])) _
      refine XS.ifYes X26.here hx rfl (pc0 := 194) (pc' := 236) rfl (hb hby d4_194) rfl ((if0 _ _).trans (feq (mt (lw_eq _ _).mp hc194)).2) (by decide) (by decide) ?_
      show Steps p.tables e below (T26.setTop (mkF m 236 #[.val (.ref a0), .val (.long q1), .second, .val (.int (0 : Int32)), .val (.int (0 : Int32))] [])) _
      exact X26.returnOut hx Bd.returns (hb hby d4_236) hr
    · show Q4D Z a0 q1 th xt sc us xs es ss bb pe pq pb pd h0 n0 _ T26.heap _
      rw [e26]
      unfold Q4D
      have f27 := (f22.wr W23)
      have f28 := (((f6.other W12 (Or.inr (slot_ne (Or.inl (hw _ (List.mem_of_getElem? (i := 16) rfl))) (Or.inl (hw _ (List.mem_of_getElem? (i := 35) rfl))) (by decide) (t := .boolean) (t' := .long) (by decide) (by decide)))).other W18 (Or.inr (slot_ne (Or.inl (hw _ (List.mem_of_getElem? (i := 16) rfl))) (Or.inl (hw _ (List.mem_of_getElem? (i := 64) rfl))) (by decide) (t := .boolean) (t' := .long) (by decide) (by decide)))).other W23 (Or.inr (slot_ne (Or.inl (hw _ (List.mem_of_getElem? (i := 16) rfl))) (Or.inl (hw _ (List.mem_of_getElem? (i := 66) rfl))) (by decide) (t := .boolean) (t' := .long) (by decide) (by decide))))
      have f29 := (((f4.other W12 (Or.inr (slot_ne (Or.inr (hw _ (List.mem_of_getElem? (i := 18) rfl))) (Or.inl (hw _ (List.mem_of_getElem? (i := 35) rfl))) (by decide) (t := .long) (t' := .long) (by decide) (by decide)))).other W18 (Or.inr (slot_ne (Or.inr (hw _ (List.mem_of_getElem? (i := 18) rfl))) (Or.inl (hw _ (List.mem_of_getElem? (i := 64) rfl))) (by decide) (t := .long) (t' := .long) (by decide) (by decide)))).other W23 (Or.inr (slot_ne (Or.inr (hw _ (List.mem_of_getElem? (i := 18) rfl))) (Or.inl (hw _ (List.mem_of_getElem? (i := 66) rfl))) (by decide) (t := .long) (t' := .long) (by decide) (by decide))))
      have f30 := ((((F_a0_extendingPeriodSeconds.other W2 (Or.inr (slot_ne (Or.inr (hw _ (List.mem_of_getElem? (i := 20) rfl))) (Or.inl (hw _ (List.mem_of_getElem? (i := 27) rfl))) (by decide) (t := .long) (t' := .long) (by decide) (by decide)))).other W12 (Or.inr (slot_ne (Or.inr (hw _ (List.mem_of_getElem? (i := 20) rfl))) (Or.inl (hw _ (List.mem_of_getElem? (i := 35) rfl))) (by decide) (t := .long) (t' := .long) (by decide) (by decide)))).other W18 (Or.inr (slot_ne (Or.inr (hw _ (List.mem_of_getElem? (i := 20) rfl))) (Or.inl (hw _ (List.mem_of_getElem? (i := 64) rfl))) (by decide) (t := .long) (t' := .long) (by decide) (by decide)))).other W23 (Or.inr (slot_ne (Or.inr (hw _ (List.mem_of_getElem? (i := 20) rfl))) (Or.inl (hw _ (List.mem_of_getElem? (i := 66) rfl))) (by decide) (t := .long) (t' := .long) (by decide) (by decide))))
      have f31 := (((Fw2.other W12 (Or.inr (slot_ne (Or.inl (hw _ (List.mem_of_getElem? (i := 27) rfl))) (Or.inl (hw _ (List.mem_of_getElem? (i := 35) rfl))) (by decide) (t := .long) (t' := .long) (by decide) (by decide)))).other W18 (Or.inr (slot_ne (Or.inl (hw _ (List.mem_of_getElem? (i := 27) rfl))) (Or.inl (hw _ (List.mem_of_getElem? (i := 64) rfl))) (by decide) (t := .long) (t' := .long) (by decide) (by decide)))).other W23 (Or.inr (slot_ne (Or.inl (hw _ (List.mem_of_getElem? (i := 27) rfl))) (Or.inl (hw _ (List.mem_of_getElem? (i := 66) rfl))) (by decide) (t := .long) (t' := .long) (by decide) (by decide))))
      have f32 := ((((F_a0_unavailableSeconds.other W2 (Or.inr (slot_ne (Or.inl (hw _ (List.mem_of_getElem? (i := 72) rfl))) (Or.inl (hw _ (List.mem_of_getElem? (i := 27) rfl))) (by decide) (t := .long) (t' := .long) (by decide) (by decide)))).other W12 (Or.inr (slot_ne (Or.inl (hw _ (List.mem_of_getElem? (i := 72) rfl))) (Or.inl (hw _ (List.mem_of_getElem? (i := 35) rfl))) (by decide) (t := .long) (t' := .long) (by decide) (by decide)))).other W18 (Or.inr (slot_ne (Or.inl (hw _ (List.mem_of_getElem? (i := 72) rfl))) (Or.inl (hw _ (List.mem_of_getElem? (i := 64) rfl))) (by decide) (t := .long) (t' := .long) (by decide) (by decide)))).other W23 (Or.inr (slot_ne (Or.inl (hw _ (List.mem_of_getElem? (i := 72) rfl))) (Or.inl (hw _ (List.mem_of_getElem? (i := 66) rfl))) (by decide) (t := .long) (t' := .long) (by decide) (by decide))))
      have f33 := ((((F_a0_extendingSeconds.other W2 (Or.inr (slot_ne (Or.inl (hw _ (List.mem_of_getElem? (i := 74) rfl))) (Or.inl (hw _ (List.mem_of_getElem? (i := 27) rfl))) (by decide) (t := .long) (t' := .long) (by decide) (by decide)))).other W12 (Or.inr (slot_ne (Or.inl (hw _ (List.mem_of_getElem? (i := 74) rfl))) (Or.inl (hw _ (List.mem_of_getElem? (i := 35) rfl))) (by decide) (t := .long) (t' := .long) (by decide) (by decide)))).other W18 (Or.inr (slot_ne (Or.inl (hw _ (List.mem_of_getElem? (i := 74) rfl))) (Or.inl (hw _ (List.mem_of_getElem? (i := 64) rfl))) (by decide) (t := .long) (t' := .long) (by decide) (by decide)))).other W23 (Or.inr (slot_ne (Or.inl (hw _ (List.mem_of_getElem? (i := 74) rfl))) (Or.inl (hw _ (List.mem_of_getElem? (i := 66) rfl))) (by decide) (t := .long) (t' := .long) (by decide) (by decide))))
      have f34 := ((((F_a0_erroredSeconds.other W2 (Or.inr (slot_ne (Or.inl (hw _ (List.mem_of_getElem? (i := 33) rfl))) (Or.inl (hw _ (List.mem_of_getElem? (i := 27) rfl))) (by decide) (t := .long) (t' := .long) (by decide) (by decide)))).other W12 (Or.inr (slot_ne (Or.inl (hw _ (List.mem_of_getElem? (i := 33) rfl))) (Or.inl (hw _ (List.mem_of_getElem? (i := 35) rfl))) (by decide) (t := .long) (t' := .long) (by decide) (by decide)))).other W18 (Or.inr (slot_ne (Or.inl (hw _ (List.mem_of_getElem? (i := 33) rfl))) (Or.inl (hw _ (List.mem_of_getElem? (i := 64) rfl))) (by decide) (t := .long) (t' := .long) (by decide) (by decide)))).other W23 (Or.inr (slot_ne (Or.inl (hw _ (List.mem_of_getElem? (i := 33) rfl))) (Or.inl (hw _ (List.mem_of_getElem? (i := 66) rfl))) (by decide) (t := .long) (t' := .long) (by decide) (by decide))))
      have f35 := ((((F_a0_severelyErroredSeconds.other W2 (Or.inr (slot_ne (Or.inl (hw _ (List.mem_of_getElem? (i := 37) rfl))) (Or.inl (hw _ (List.mem_of_getElem? (i := 27) rfl))) (by decide) (t := .long) (t' := .long) (by decide) (by decide)))).other W12 (Or.inr (slot_ne (Or.inl (hw _ (List.mem_of_getElem? (i := 37) rfl))) (Or.inl (hw _ (List.mem_of_getElem? (i := 35) rfl))) (by decide) (t := .long) (t' := .long) (by decide) (by decide)))).other W18 (Or.inr (slot_ne (Or.inl (hw _ (List.mem_of_getElem? (i := 37) rfl))) (Or.inl (hw _ (List.mem_of_getElem? (i := 64) rfl))) (by decide) (t := .long) (t' := .long) (by decide) (by decide)))).other W23 (Or.inr (slot_ne (Or.inl (hw _ (List.mem_of_getElem? (i := 37) rfl))) (Or.inl (hw _ (List.mem_of_getElem? (i := 66) rfl))) (by decide) (t := .long) (t' := .long) (by decide) (by decide))))
      have f36 := ((((F_a0_backgroundBlockErrors.other W2 (Or.inr (slot_ne (Or.inl (hw _ (List.mem_of_getElem? (i := 97) rfl))) (Or.inl (hw _ (List.mem_of_getElem? (i := 27) rfl))) (by decide) (t := .long) (t' := .long) (by decide) (by decide)))).other W12 (Or.inr (slot_ne (Or.inl (hw _ (List.mem_of_getElem? (i := 97) rfl))) (Or.inl (hw _ (List.mem_of_getElem? (i := 35) rfl))) (by decide) (t := .long) (t' := .long) (by decide) (by decide)))).other W18 (Or.inr (slot_ne (Or.inl (hw _ (List.mem_of_getElem? (i := 97) rfl))) (Or.inl (hw _ (List.mem_of_getElem? (i := 64) rfl))) (by decide) (t := .long) (t' := .long) (by decide) (by decide)))).other W23 (Or.inr (slot_ne (Or.inl (hw _ (List.mem_of_getElem? (i := 97) rfl))) (Or.inl (hw _ (List.mem_of_getElem? (i := 66) rfl))) (by decide) (t := .long) (t' := .long) (by decide) (by decide))))
      have f37 := (Fw18.other W23 (Or.inr (slot_ne (Or.inl (hw _ (List.mem_of_getElem? (i := 64) rfl))) (Or.inl (hw _ (List.mem_of_getElem? (i := 66) rfl))) (by decide) (t := .long) (t' := .long) (by decide) (by decide))))
      have f38 := ((((F_a0_period.other W2 (Or.inr (slot_ne (Or.inl (hw _ (List.mem_of_getElem? (i := 44) rfl))) (Or.inl (hw _ (List.mem_of_getElem? (i := 27) rfl))) (by decide) (t := .long) (t' := .long) (by decide) (by decide)))).other W12 (Or.inr (slot_ne (Or.inl (hw _ (List.mem_of_getElem? (i := 44) rfl))) (Or.inl (hw _ (List.mem_of_getElem? (i := 35) rfl))) (by decide) (t := .long) (t' := .long) (by decide) (by decide)))).other W18 (Or.inr (slot_ne (Or.inl (hw _ (List.mem_of_getElem? (i := 44) rfl))) (Or.inl (hw _ (List.mem_of_getElem? (i := 64) rfl))) (by decide) (t := .long) (t' := .long) (by decide) (by decide)))).other W23 (Or.inr (slot_ne (Or.inl (hw _ (List.mem_of_getElem? (i := 44) rfl))) (Or.inl (hw _ (List.mem_of_getElem? (i := 66) rfl))) (by decide) (t := .long) (t' := .long) (by decide) (by decide))))
      refine ⟨rfl, N23, kp24, f27, ?_, ?_, ?_, ?_, ?_, ?_, ?_, ?_, ?_, ?_, ?_, ?_, ?_⟩
      · exact f28
      · exact f29
      · exact f30
      · exact f31
      · exact f32
      · exact f33
      · exact f34
      · exact f35
      · exact f36
      · exact f25
      · rw [show (own_p4D_pendingErrored q1 pq) = (pq + (1 : Int64)) from (by simp only [own_p4D_pendingErrored, if_pos hc163])]; exact f37
      · rw [show (own_p4D_pendingBlocks q1 pb) = (pb + q1) from (by simp only [own_p4D_pendingBlocks, if_pos hc163])]; exact Fw23
      · exact f38
  · obtain ⟨T39, X39, e39, st39⟩ := getF X12 hx hZ hown (host := "") (Or.inl (hw _ (List.mem_of_getElem? (i := 34) rfl))) Via.refl e12 Fw12 (g := (mkF m 187 #[.val (.ref a0), .val (.long q1), .second, .val (.int (0 : Int32)), .val (.int (0 : Int32))] [(.ref a0)])) rfl rfl (hb hby d4_187)
    have hc194 : ¬ ((pe + (1 : Int64)) = (10 : Int64)) := hpe
    obtain ⟨fs, hr, hrun, hended, hW, hsame⟩ := X39.leave (v := none) (fun _ => rfl)
    refine ⟨_, _, pre14 _ ?_, hrun, hended, _, _, rfl, ?_, ⟨_, rfl⟩, hW, hsame.mono (by decide) (by decide)⟩
    · show Steps p.tables e below (T12.setTop (mkF m 163 #[.val (.ref a0), .val (.long q1), .second, .val (.int (0 : Int32)), .val (.int (0 : Int32))] [(.int (lcmpW q1 (0 : Int64)))])) _
      refine XS.ifYes X12.here hx rfl (pc0 := 163) (pc' := 186) rfl (hb hby d4_163) rfl ((if0 _ _).trans (flt (mt (lw_gt _ _).mp hc163)).2.2.2) (by decide) (by decide) ?_
      show Steps p.tables e below (T12.setTop (mkF m 186 #[.val (.ref a0), .val (.long q1), .second, .val (.int (0 : Int32)), .val (.int (0 : Int32))] [])) _
      refine XS.aloadN X12.here hx rfl (hb hby d4_186) rfl rfl ?_
      show Steps p.tables e below (T12.setTop (mkF m 187 #[.val (.ref a0), .val (.long q1), .second, .val (.int (0 : Int32)), .val (.int (0 : Int32))] [(.ref a0)])) _
      refine st39 _ ?_
      show Steps p.tables e below (T39.setTop (mkF m 190 #[.val (.ref a0), .val (.long q1), .second, .val (.int (0 : Int32)), .val (.int (0 : Int32))] [(.long (pe + (1 : Int64)))])) _
      refine X39.ldc2Long hx hown (mvT hZ (hw _ (List.mem_of_getElem? (i := 42) rfl))) (g := (mkF m 190 #[.val (.ref a0), .val (.long q1), .second, .val (.int (0 : Int32)), .val (.int (0 : Int32))] [(.long (pe + (1 : Int64)))])) rfl (hb hby d4_190) _ ?_
      show Steps p.tables e below (T39.setTop (mkF m 193 #[.val (.ref a0), .val (.long q1), .second, .val (.int (0 : Int32)), .val (.int (0 : Int32))] [(.long (10 : Int64)), (.long (pe + (1 : Int64)))])) _
      refine XS.lcmp X39.here hx rfl (hb hby d4_193) rfl ?_
      show Steps p.tables e below (T39.setTop (mkF m 194 #[.val (.ref a0), .val (.long q1), .second, .val (.int (0 : Int32)), .val (.int (0 : Int32))] [(.int (lcmpW (pe + (1 : Int64)) (10 : Int64)))])) _
      refine XS.ifYes X39.here hx rfl (pc0 := 194) (pc' := 236) rfl (hb hby d4_194) rfl ((if0 _ _).trans (feq (mt (lw_eq _ _).mp hc194)).2) (by decide) (by decide) ?_
      show Steps p.tables e below (T39.setTop (mkF m 236 #[.val (.ref a0), .val (.long q1), .second, .val (.int (0 : Int32)), .val (.int (0 : Int32))] [])) _
      exact X39.returnOut hx Bd.returns (hb hby d4_236) hr
    · show Q4D Z a0 q1 th xt sc us xs es ss bb pe pq pb pd h0 n0 _ T39.heap _
      rw [e39]
      unfold Q4D
      have f40 := (f11.wr W12)
      have f41 := (f6.other W12 (Or.inr (slot_ne (Or.inl (hw _ (List.mem_of_getElem? (i := 16) rfl))) (Or.inl (hw _ (List.mem_of_getElem? (i := 35) rfl))) (by decide) (t := .boolean) (t' := .long) (by decide) (by decide))))
      have f42 := (f4.other W12 (Or.inr (slot_ne (Or.inr (hw _ (List.mem_of_getElem? (i := 18) rfl))) (Or.inl (hw _ (List.mem_of_getElem? (i := 35) rfl))) (by decide) (t := .long) (t' := .long) (by decide) (by decide))))
      have f43 := ((F_a0_extendingPeriodSeconds.other W2 (Or.inr (slot_ne (Or.inr (hw _ (List.mem_of_getElem? (i := 20) rfl))) (Or.inl (hw _ (List.mem_of_getElem? (i := 27) rfl))) (by decide) (t := .long) (t' := .long) (by decide) (by decide)))).other W12 (Or.inr (slot_ne (Or.inr (hw _ (List.mem_of_getElem? (i := 20) rfl))) (Or.inl (hw _ (List.mem_of_getElem? (i := 35) rfl))) (by decide) (t := .long) (t' := .long) (by decide) (by decide))))
      have f44 := (Fw2.other W12 (Or.inr (slot_ne (Or.inl (hw _ (List.mem_of_getElem? (i := 27) rfl))) (Or.inl (hw _ (List.mem_of_getElem? (i := 35) rfl))) (by decide) (t := .long) (t' := .long) (by decide) (by decide))))
      have f45 := ((F_a0_unavailableSeconds.other W2 (Or.inr (slot_ne (Or.inl (hw _ (List.mem_of_getElem? (i := 72) rfl))) (Or.inl (hw _ (List.mem_of_getElem? (i := 27) rfl))) (by decide) (t := .long) (t' := .long) (by decide) (by decide)))).other W12 (Or.inr (slot_ne (Or.inl (hw _ (List.mem_of_getElem? (i := 72) rfl))) (Or.inl (hw _ (List.mem_of_getElem? (i := 35) rfl))) (by decide) (t := .long) (t' := .long) (by decide) (by decide))))
      have f46 := ((F_a0_extendingSeconds.other W2 (Or.inr (slot_ne (Or.inl (hw _ (List.mem_of_getElem? (i := 74) rfl))) (Or.inl (hw _ (List.mem_of_getElem? (i := 27) rfl))) (by decide) (t := .long) (t' := .long) (by decide) (by decide)))).other W12 (Or.inr (slot_ne (Or.inl (hw _ (List.mem_of_getElem? (i := 74) rfl))) (Or.inl (hw _ (List.mem_of_getElem? (i := 35) rfl))) (by decide) (t := .long) (t' := .long) (by decide) (by decide))))
      have f47 := ((F_a0_erroredSeconds.other W2 (Or.inr (slot_ne (Or.inl (hw _ (List.mem_of_getElem? (i := 33) rfl))) (Or.inl (hw _ (List.mem_of_getElem? (i := 27) rfl))) (by decide) (t := .long) (t' := .long) (by decide) (by decide)))).other W12 (Or.inr (slot_ne (Or.inl (hw _ (List.mem_of_getElem? (i := 33) rfl))) (Or.inl (hw _ (List.mem_of_getElem? (i := 35) rfl))) (by decide) (t := .long) (t' := .long) (by decide) (by decide))))
      have f48 := ((F_a0_severelyErroredSeconds.other W2 (Or.inr (slot_ne (Or.inl (hw _ (List.mem_of_getElem? (i := 37) rfl))) (Or.inl (hw _ (List.mem_of_getElem? (i := 27) rfl))) (by decide) (t := .long) (t' := .long) (by decide) (by decide)))).other W12 (Or.inr (slot_ne (Or.inl (hw _ (List.mem_of_getElem? (i := 37) rfl))) (Or.inl (hw _ (List.mem_of_getElem? (i := 35) rfl))) (by decide) (t := .long) (t' := .long) (by decide) (by decide))))
      have f49 := ((F_a0_backgroundBlockErrors.other W2 (Or.inr (slot_ne (Or.inl (hw _ (List.mem_of_getElem? (i := 97) rfl))) (Or.inl (hw _ (List.mem_of_getElem? (i := 27) rfl))) (by decide) (t := .long) (t' := .long) (by decide) (by decide)))).other W12 (Or.inr (slot_ne (Or.inl (hw _ (List.mem_of_getElem? (i := 97) rfl))) (Or.inl (hw _ (List.mem_of_getElem? (i := 35) rfl))) (by decide) (t := .long) (t' := .long) (by decide) (by decide))))
      have f50 := ((F_a0_pendingErrored.other W2 (Or.inr (slot_ne (Or.inl (hw _ (List.mem_of_getElem? (i := 64) rfl))) (Or.inl (hw _ (List.mem_of_getElem? (i := 27) rfl))) (by decide) (t := .long) (t' := .long) (by decide) (by decide)))).other W12 (Or.inr (slot_ne (Or.inl (hw _ (List.mem_of_getElem? (i := 64) rfl))) (Or.inl (hw _ (List.mem_of_getElem? (i := 35) rfl))) (by decide) (t := .long) (t' := .long) (by decide) (by decide))))
      have f51 := ((F_a0_pendingBlocks.other W2 (Or.inr (slot_ne (Or.inl (hw _ (List.mem_of_getElem? (i := 66) rfl))) (Or.inl (hw _ (List.mem_of_getElem? (i := 27) rfl))) (by decide) (t := .long) (t' := .long) (by decide) (by decide)))).other W12 (Or.inr (slot_ne (Or.inl (hw _ (List.mem_of_getElem? (i := 66) rfl))) (Or.inl (hw _ (List.mem_of_getElem? (i := 35) rfl))) (by decide) (t := .long) (t' := .long) (by decide) (by decide))))
      have f52 := ((F_a0_period.other W2 (Or.inr (slot_ne (Or.inl (hw _ (List.mem_of_getElem? (i := 44) rfl))) (Or.inl (hw _ (List.mem_of_getElem? (i := 27) rfl))) (by decide) (t := .long) (t' := .long) (by decide) (by decide)))).other W12 (Or.inr (slot_ne (Or.inl (hw _ (List.mem_of_getElem? (i := 44) rfl))) (Or.inl (hw _ (List.mem_of_getElem? (i := 35) rfl))) (by decide) (t := .long) (t' := .long) (by decide) (by decide))))
      refine ⟨rfl, N12, kp13, f40, ?_, ?_, ?_, ?_, ?_, ?_, ?_, ?_, ?_, ?_, ?_, ?_, ?_⟩
      · exact f41
      · exact f42
      · exact f43
      · exact f44
      · exact f45
      · exact f46
      · exact f47
      · exact f48
      · exact f49
      · exact Fw12
      · rw [show (own_p4D_pendingErrored q1 pq) = pq from (by simp only [own_p4D_pendingErrored, if_neg hc163])]; exact f50
      · rw [show (own_p4D_pendingBlocks q1 pb) = pb from (by simp only [own_p4D_pendingBlocks, if_neg hc163])]; exact f51
      · exact f52
theorem d6_0 : decode method_3_code 0 = .ok (.iload_n 1, 1) := by decide +kernel
theorem d6_1 : decode method_3_code 1 = .ok (.ifCond .le 9, 3) := by decide +kernel
theorem d6_4 : decode method_3_code 4 = .ok (.aload_n 0, 1) := by decide +kernel
theorem d6_5 : decode method_3_code 5 = .ok (.lload_n 2, 1) := by decide +kernel
theorem d6_6 : decode method_3_code 6 = .ok (.iconst 1, 1) := by decide +kernel
theorem d6_7 : decode method_3_code 7 = .ok (.invokevirtual 23, 3) := by decide +kernel
theorem d6_10 : decode method_3_code 10 = .ok (.iload_n 1, 1) := by decide +kernel
theorem d6_11 : decode method_3_code 11 = .ok (.iconst 1, 1) := by decide +kernel
theorem d6_12 : decode method_3_code 12 = .ok (.if_icmp .le 9, 3) := by decide +kernel
theorem d6_15 : decode method_3_code 15 = .ok (.aload_n 0, 1) := by decide +kernel
theorem d6_16 : decode method_3_code 16 = .ok (.lload_n 2, 1) := by decide +kernel
theorem d6_17 : decode method_3_code 17 = .ok (.iconst 1, 1) := by decide +kernel
theorem d6_18 : decode method_3_code 18 = .ok (.invokevirtual 23, 3) := by decide +kernel
theorem d6_21 : decode method_3_code 21 = .ok (.iload_n 1, 1) := by decide +kernel
theorem d6_22 : decode method_3_code 22 = .ok (.iconst 2, 1) := by decide +kernel
theorem d6_23 : decode method_3_code 23 = .ok (.if_icmp .le 9, 3) := by decide +kernel
theorem d6_26 : decode method_3_code 26 = .ok (.aload_n 0, 1) := by decide +kernel
theorem d6_27 : decode method_3_code 27 = .ok (.lload_n 2, 1) := by decide +kernel
theorem d6_28 : decode method_3_code 28 = .ok (.iconst 1, 1) := by decide +kernel
theorem d6_29 : decode method_3_code 29 = .ok (.invokevirtual 23, 3) := by decide +kernel
theorem d6_32 : decode method_3_code 32 = .ok (.iload_n 1, 1) := by decide +kernel
theorem d6_33 : decode method_3_code 33 = .ok (.iconst 3, 1) := by decide +kernel
theorem d6_34 : decode method_3_code 34 = .ok (.if_icmp .le 9, 3) := by decide +kernel
theorem d6_37 : decode method_3_code 37 = .ok (.aload_n 0, 1) := by decide +kernel
theorem d6_38 : decode method_3_code 38 = .ok (.lload_n 2, 1) := by decide +kernel
theorem d6_39 : decode method_3_code 39 = .ok (.iconst 1, 1) := by decide +kernel
theorem d6_40 : decode method_3_code 40 = .ok (.invokevirtual 23, 3) := by decide +kernel
theorem d6_43 : decode method_3_code 43 = .ok (.iload_n 1, 1) := by decide +kernel
theorem d6_44 : decode method_3_code 44 = .ok (.iconst 4, 1) := by decide +kernel
theorem d6_45 : decode method_3_code 45 = .ok (.if_icmp .le 9, 3) := by decide +kernel
theorem d6_48 : decode method_3_code 48 = .ok (.aload_n 0, 1) := by decide +kernel
theorem d6_49 : decode method_3_code 49 = .ok (.lload_n 2, 1) := by decide +kernel
theorem d6_50 : decode method_3_code 50 = .ok (.iconst 1, 1) := by decide +kernel
theorem d6_51 : decode method_3_code 51 = .ok (.invokevirtual 23, 3) := by decide +kernel
theorem d6_54 : decode method_3_code 54 = .ok (.iload_n 1, 1) := by decide +kernel
theorem d6_55 : decode method_3_code 55 = .ok (.iconst 5, 1) := by decide +kernel
theorem d6_56 : decode method_3_code 56 = .ok (.if_icmp .le 9, 3) := by decide +kernel
theorem d6_59 : decode method_3_code 59 = .ok (.aload_n 0, 1) := by decide +kernel
theorem d6_60 : decode method_3_code 60 = .ok (.lload_n 2, 1) := by decide +kernel
theorem d6_61 : decode method_3_code 61 = .ok (.iconst 1, 1) := by decide +kernel
theorem d6_62 : decode method_3_code 62 = .ok (.invokevirtual 23, 3) := by decide +kernel
theorem d6_65 : decode method_3_code 65 = .ok (.iload_n 1, 1) := by decide +kernel
theorem d6_66 : decode method_3_code 66 = .ok (.bipush 6, 2) := by decide +kernel
theorem d6_68 : decode method_3_code 68 = .ok (.if_icmp .le 9, 3) := by decide +kernel
theorem d6_71 : decode method_3_code 71 = .ok (.aload_n 0, 1) := by decide +kernel
theorem d6_72 : decode method_3_code 72 = .ok (.lload_n 2, 1) := by decide +kernel
theorem d6_73 : decode method_3_code 73 = .ok (.iconst 1, 1) := by decide +kernel
theorem d6_74 : decode method_3_code 74 = .ok (.invokevirtual 23, 3) := by decide +kernel
theorem d6_77 : decode method_3_code 77 = .ok (.iload_n 1, 1) := by decide +kernel
theorem d6_78 : decode method_3_code 78 = .ok (.bipush 7, 2) := by decide +kernel
theorem d6_80 : decode method_3_code 80 = .ok (.if_icmp .le 9, 3) := by decide +kernel
theorem d6_83 : decode method_3_code 83 = .ok (.aload_n 0, 1) := by decide +kernel
theorem d6_84 : decode method_3_code 84 = .ok (.lload_n 2, 1) := by decide +kernel
theorem d6_85 : decode method_3_code 85 = .ok (.iconst 1, 1) := by decide +kernel
theorem d6_86 : decode method_3_code 86 = .ok (.invokevirtual 23, 3) := by decide +kernel
theorem d6_89 : decode method_3_code 89 = .ok (.iload_n 1, 1) := by decide +kernel
theorem d6_90 : decode method_3_code 90 = .ok (.bipush 8, 2) := by decide +kernel
theorem d6_92 : decode method_3_code 92 = .ok (.if_icmp .le 9, 3) := by decide +kernel
theorem d6_95 : decode method_3_code 95 = .ok (.aload_n 0, 1) := by decide +kernel
theorem d6_96 : decode method_3_code 96 = .ok (.lload_n 2, 1) := by decide +kernel
theorem d6_97 : decode method_3_code 97 = .ok (.iconst 1, 1) := by decide +kernel
theorem d6_98 : decode method_3_code 98 = .ok (.invokevirtual 23, 3) := by decide +kernel
theorem d6_101 : decode method_3_code 101 = .ok (.iload_n 1, 1) := by decide +kernel
theorem d6_102 : decode method_3_code 102 = .ok (.bipush 9, 2) := by decide +kernel
theorem d6_104 : decode method_3_code 104 = .ok (.if_icmp .le 9, 3) := by decide +kernel
theorem d6_107 : decode method_3_code 107 = .ok (.aload_n 0, 1) := by decide +kernel
theorem d6_108 : decode method_3_code 108 = .ok (.lload_n 2, 1) := by decide +kernel
theorem d6_109 : decode method_3_code 109 = .ok (.iconst 1, 1) := by decide +kernel
theorem d6_110 : decode method_3_code 110 = .ok (.invokevirtual 23, 3) := by decide +kernel
theorem d6_113 : decode method_3_code 113 = .ok (.return_, 1) := by decide +kernel
theorem pd_1 : parseMethodDescriptor "(JZ)V" = some ⟨[.long, .boolean], none⟩ := by decide +kernel
theorem pn_1 : plainName "com/example/hopchuan/hopchuan/ErrorCounterEndPinLaw" = true := by first | (simp [plainName, overriddenIn]; done) | decide +kernel
theorem ef_6X (m : MethodId) (a0 : Addr) (q2 : Int64) : entryFrame m #[(.ref a0), (.int (10 : Int32)), (.long q2)] 4 = mkF m 0 #[.val (.ref a0), .val (.int (10 : Int32)), .val (.long q2), .second] [] := by first | (simp [entryFrame, mkF, argsToLocals, Value.category]; done) | rfl
def own_p6X_seconds (sc : Int64) : Int64 := (((((((((((((((((((sc + (1 : Int64))) + (1 : Int64))) + (1 : Int64))) + (1 : Int64))) + (1 : Int64))) + (1 : Int64))) + (1 : Int64))) + (1 : Int64))) + (1 : Int64))) + (1 : Int64))
def Q6X (Z : State) (a0 : Addr) (q2 : Int64) (th : Int64) (xt : Int64) (sc : Int64) (us : Int64) (xs : Int64) (es : Int64) (ss : Int64) (bb : Int64) (pq : Int64) (pb : Int64) (pd : Int64) (h0 : Heap) (n0 : Nat) (v : Option Value) (h : Heap) (L : List Loc) : Prop := v = none ∧ Fr n0 L ∧ Keep h0 h [a0] ∧ Exa Z h a0 "com/example/hopchuan/hopchuan/ErrorCounter" ∧ Fld Z h a0 "com/example/hopchuan/hopchuan/ErrorCounter" "available" "Z" (.int (0 : Int32)) ∧ Fld Z h a0 "com/example/hopchuan/hopchuan/ErrorCounter" "sesErroredBlocks" "J" (.long th) ∧ Fld Z h a0 "com/example/hopchuan/hopchuan/ErrorCounter" "extendingPeriodSeconds" "J" (.long xt) ∧ Fld Z h a0 "com/example/hopchuan/hopchuan/ErrorCounter" "seconds" "J" (.long (own_p6X_seconds sc)) ∧ Fld Z h a0 "com/example/hopchuan/hopchuan/ErrorCounter" "unavailableSeconds" "J" (.long us) ∧ Fld Z h a0 "com/example/hopchuan/hopchuan/ErrorCounter" "extendingSeconds" "J" (.long xs) ∧ Fld Z h a0 "com/example/hopchuan/hopchuan/ErrorCounter" "erroredSeconds" "J" (.long es) ∧ Fld Z h a0 "com/example/hopchuan/hopchuan/ErrorCounter" "severelyErroredSeconds" "J" (.long ss) ∧ Fld Z h a0 "com/example/hopchuan/hopchuan/ErrorCounter" "backgroundBlockErrors" "J" (.long bb) ∧ Fld Z h a0 "com/example/hopchuan/hopchuan/ErrorCounter" "pending" "J" (.long (0 : Int64)) ∧ Fld Z h a0 "com/example/hopchuan/hopchuan/ErrorCounter" "pendingErrored" "J" (.long pq) ∧ Fld Z h a0 "com/example/hopchuan/hopchuan/ErrorCounter" "pendingBlocks" "J" (.long pb) ∧ Fld Z h a0 "com/example/hopchuan/hopchuan/ErrorCounter" "period" "J" (.long (10 : Int64))
set_option maxRecDepth 65536 in
set_option maxHeartbeats 40000000 in
theorem rm6X (l : Launch) (Z : State) (aw : Array Value) (hw : ∀ d ∈ tables_1, d.before aw Z = true) (wq : List Jvm.Cond) (a0 : Addr) (q2 : Int64) (th : Int64) (xt : Int64) (sc : Int64) (us : Int64) (xs : Int64) (es : Int64) (ss : Int64) (bb : Int64) (pq : Int64) (pb : Int64) (pd : Int64) (h0 : Heap) (n0 : Nat) (Z0 : n0 ≤ h0.size) (E_a0 : Exa Z h0 a0 "com/example/hopchuan/hopchuan/ErrorCounter") (F_a0_available : Fld Z h0 a0 "com/example/hopchuan/hopchuan/ErrorCounter" "available" "Z" (.int (1 : Int32))) (F_a0_sesErroredBlocks : Fld Z h0 a0 "com/example/hopchuan/hopchuan/ErrorCounter" "sesErroredBlocks" "J" (.long th)) (F_a0_extendingPeriodSeconds : Fld Z h0 a0 "com/example/hopchuan/hopchuan/ErrorCounter" "extendingPeriodSeconds" "J" (.long xt)) (F_a0_seconds : Fld Z h0 a0 "com/example/hopchuan/hopchuan/ErrorCounter" "seconds" "J" (.long sc)) (F_a0_unavailableSeconds : Fld Z h0 a0 "com/example/hopchuan/hopchuan/ErrorCounter" "unavailableSeconds" "J" (.long us)) (F_a0_extendingSeconds : Fld Z h0 a0 "com/example/hopchuan/hopchuan/ErrorCounter" "extendingSeconds" "J" (.long xs)) (F_a0_erroredSeconds : Fld Z h0 a0 "com/example/hopchuan/hopchuan/ErrorCounter" "erroredSeconds" "J" (.long es)) (F_a0_severelyErroredSeconds : Fld Z h0 a0 "com/example/hopchuan/hopchuan/ErrorCounter" "severelyErroredSeconds" "J" (.long ss)) (F_a0_backgroundBlockErrors : Fld Z h0 a0 "com/example/hopchuan/hopchuan/ErrorCounter" "backgroundBlockErrors" "J" (.long bb)) (F_a0_pending : Fld Z h0 a0 "com/example/hopchuan/hopchuan/ErrorCounter" "pending" "J" (.long (0 : Int64))) (F_a0_pendingErrored : Fld Z h0 a0 "com/example/hopchuan/hopchuan/ErrorCounter" "pendingErrored" "J" (.long pq)) (F_a0_pendingBlocks : Fld Z h0 a0 "com/example/hopchuan/hopchuan/ErrorCounter" "pendingBlocks" "J" (.long pb)) (F_a0_period : Fld Z h0 a0 "com/example/hopchuan/hopchuan/ErrorCounter" "period" "J" (.long pd)) (g_a0 : n0 ≤ a0) :
    MetFree l (⟨"com/example/hopchuan/hopchuan/ErrorCounterEndPinLaw", "severe", "(Lcom/example/hopchuan/hopchuan/ErrorCounter;IJ)V"⟩ : MethodName) (head1 (Jvm.Cond.code (⟨"com/example/hopchuan/hopchuan/ErrorCounterEndPinLaw", "severe", "(Lcom/example/hopchuan/hopchuan/ErrorCounter;IJ)V"⟩ : MethodName) method_3_code 4 none :: wq) ({ frames := 1, cells := 0, slots := 0, locals := 16 } : Room)) (fun a U => a = #[(.ref a0), (.int (10 : Int32)), (.long q2)] ∧ Z.Warmed39 U.vm ∧ U.heap = h0) (fun _ _ _ _ _ => True) (fun _ U o U' => ∃ v L, o = .returned v ∧ Q6X Z a0 q2 th xt sc us xs es ss bb pq pb pd h0 n0 v U'.heap L ∧ FrameEnd U o U' L ({ frames := 1, cells := 0, slots := 0, locals := 16 } : Room).cells ({ frames := 1, cells := 0, slots := 0, locals := 16 } : Room).slots) := by
  refine MetFree.of_bodySF (plainFor_of_name pn_1) hisR ?_
  intro p e s m args below meth c s₁ Bd hml0 hP hK
  obtain ⟨rfl, hZ, hh⟩ := hP
  have hx := Bd.exec
  have hby := Bd.bytes
  have hml : c.maxLocals = 4 := hml0
  have hown : s.vm.findClass "com/example/hopchuan/hopchuan/ErrorCounterEndPinLaw" = some m.cls := findClass_of_methodNamed Bd.named
  have hnm := (name_of_methodNamed Bd.named Bd.method).1
  have X0 : Stand p l e ({ frames := 1, cells := 0, slots := 0, locals := 16 } : Room) s m #[(.ref a0), (.int (10 : Int32)), (.long q2)] below meth c s₁ [] 0 0 := Stand.of_body Bd
  have e0 : s₁.heap = h0 := by rw [← hh, Bd.state]; rfl
  have N0 := Fr.nil n0
  have pre0 : own_Pre p e below (s₁.setTop (entryFrame m #[(.ref a0), (.int (10 : Int32)), (.long q2)] 4)) (s₁.setTop (mkF m 0 #[.val (.ref a0), .val (.int (10 : Int32)), .val (.long q2), .second] [])) := fun t k => castTop (ef_6X m a0 q2) k
  obtain ⟨cq1, kq1, q1a, q1b, q1c⟩ := isOf hZ e0 E_a0
  obtain ⟨_, _, ⟨T1, L1, k1, n1⟩, -, X1, ⟨Lc1, hQ1, l1, y1, z1⟩, st1⟩ := X0.virtualBack hx (y := (⟨"com/example/hopchuan/hopchuan/ErrorCounter", "second", "(JZ)V"⟩ : MethodName)) (z := (⟨"com/example/hopchuan/hopchuan/ErrorCounter", "second", "(JZ)V"⟩ : MethodName)) hown (mvT hZ (hw _ (List.mem_of_getElem? (i := 21) rfl))) (mvT hZ (hw _ (List.mem_of_getElem? (i := 22) rfl))) (notFace_of_selects (args := #[]) (mvT hZ (hw _ (List.mem_of_getElem? (i := 24) rfl)))) (mvT hZ (hw _ (List.mem_of_getElem? (i := 24) rfl))) (mvT hZ (hw _ (List.mem_of_getElem? (i := 23) rfl))) (by decide) (backOf (W := 0) (rm4B l Z aw hw [] (a0) (q2) (th) (xt) (sc) (us) (xs) (es) (ss) (bb) ((0 : Int64)) (pq) (pb) (pd) (h0) n0 Z0 E_a0 F_a0_available F_a0_sesErroredBlocks F_a0_extendingPeriodSeconds F_a0_seconds F_a0_unavailableSeconds F_a0_extendingSeconds F_a0_erroredSeconds F_a0_severelyErroredSeconds F_a0_backgroundBlockErrors F_a0_pending F_a0_pendingErrored F_a0_pendingBlocks F_a0_period g_a0 (by decide)) hZ (hw _ (List.mem_of_getElem? (i := 25) rfl)) (hw _ (List.mem_of_getElem? (i := 8) rfl)) (by decide) (by decide)) q1a q1c (g := (mkF m 7 #[.val (.ref a0), .val (.int (10 : Int32)), .val (.long q2), .second] [(.int (1 : Int32)), (.long q2), (.ref a0)])) rfl (by rw [hml]; rfl) (Steps.refl _) (argsL := [(.long q2), (.int (1 : Int32))]) (rest := []) (lenOf pd_1 rfl) rfl (by show 2 * 0 + _ ≤ _; exact Nat.le_of_eq rfl) (hb hby d6_7) (fun _ _ => ⟨rfl, e0, (by decide : 0 + 0 ≤ _), (by decide : 0 + 0 ≤ _)⟩)
  dsimp only [Pt.U, Pt.locs, Pt.cells, Pt.slots] at X1 l1 y1 z1 st1 hQ1
  subst l1 y1 z1
  obtain ⟨rfl, Nq1, K1, po1_0, po1_1, po1_2, po1_3, po1_4, po1_5, po1_6, po1_7, po1_8, po1_9, po1_10, po1_11, po1_12, po1_13⟩ := hQ1
  have N1 := Fr.app N0 Nq1
  have kp2 : Keep h0 T1.heap [a0] := (Keep.refl h0 [a0]).trans K1 (allS (Or.inl (List.mem_of_getElem? (i := 0) rfl)) all0)
  have z4 : n0 ≤ (T1.heap).size := (Nat.le_trans Z0 K1.1)
  obtain ⟨cq3, kq3, q3a, q3b, q3c⟩ := isOf hZ rfl po1_0
  obtain ⟨_, _, ⟨T3, L3, k3, n3⟩, -, X3, ⟨Lc3, hQ3, l3, y3, z3⟩, st3⟩ := X1.virtualBack hx (y := (⟨"com/example/hopchuan/hopchuan/ErrorCounter", "second", "(JZ)V"⟩ : MethodName)) (z := (⟨"com/example/hopchuan/hopchuan/ErrorCounter", "second", "(JZ)V"⟩ : MethodName)) hown (mvT hZ (hw _ (List.mem_of_getElem? (i := 21) rfl))) (mvT hZ (hw _ (List.mem_of_getElem? (i := 22) rfl))) (notFace_of_selects (args := #[]) (mvT hZ (hw _ (List.mem_of_getElem? (i := 24) rfl)))) (mvT hZ (hw _ (List.mem_of_getElem? (i := 24) rfl))) (mvT hZ (hw _ (List.mem_of_getElem? (i := 23) rfl))) (by decide) (backOf (W := 0) (rm4B l Z aw hw [] (a0) (q2) (th) (xt) ((sc + (1 : Int64))) (us) (xs) (es) (ss) (bb) ((1 : Int64)) (pq) (pb) (pd) (T1.heap) n0 z4 po1_0 po1_1 po1_2 po1_3 po1_4 po1_5 po1_6 po1_7 po1_8 po1_9 po1_10 po1_11 po1_12 po1_13 g_a0 (by decide)) hZ (hw _ (List.mem_of_getElem? (i := 25) rfl)) (hw _ (List.mem_of_getElem? (i := 8) rfl)) (by decide) (by decide)) q3a q3c (g := (mkF m 18 #[.val (.ref a0), .val (.int (10 : Int32)), .val (.long q2), .second] [(.int (1 : Int32)), (.long q2), (.ref a0)])) rfl (by rw [hml]; rfl) (Steps.refl _) (argsL := [(.long q2), (.int (1 : Int32))]) (rest := []) (lenOf pd_1 rfl) rfl (by show 2 * 0 + _ ≤ _; exact Nat.le_of_eq rfl) (hb hby d6_18) (fun _ _ => ⟨rfl, rfl, (by decide : 0 + 0 ≤ _), (by decide : 0 + 0 ≤ _)⟩)
  dsimp only [Pt.U, Pt.locs, Pt.cells, Pt.slots] at X3 l3 y3 z3 st3 hQ3
  subst l3 y3 z3
  obtain ⟨rfl, Nq3, K3, po3_0, po3_1, po3_2, po3_3, po3_4, po3_5, po3_6, po3_7, po3_8, po3_9, po3_10, po3_11, po3_12, po3_13⟩ := hQ3
  have N3 := Fr.app N1 Nq3
  have kp5 : Keep h0 T3.heap [a0] := kp2.trans K3 (allS (Or.inl (List.mem_of_getElem? (i := 0) rfl)) all0)
  have z7 : n0 ≤ (T3.heap).size := (Nat.le_trans z4 K3.1)
  obtain ⟨cq6, kq6, q6a, q6b, q6c⟩ := isOf hZ rfl po3_0
  obtain ⟨_, _, ⟨T6, L6, k6, n6⟩, -, X6, ⟨Lc6, hQ6, l6, y6, z6⟩, st6⟩ := X3.virtualBack hx (y := (⟨"com/example/hopchuan/hopchuan/ErrorCounter", "second", "(JZ)V"⟩ : MethodName)) (z := (⟨"com/example/hopchuan/hopchuan/ErrorCounter", "second", "(JZ)V"⟩ : MethodName)) hown (mvT hZ (hw _ (List.mem_of_getElem? (i := 21) rfl))) (mvT hZ (hw _ (List.mem_of_getElem? (i := 22) rfl))) (notFace_of_selects (args := #[]) (mvT hZ (hw _ (List.mem_of_getElem? (i := 24) rfl)))) (mvT hZ (hw _ (List.mem_of_getElem? (i := 24) rfl))) (mvT hZ (hw _ (List.mem_of_getElem? (i := 23) rfl))) (by decide) (backOf (W := 0) (rm4B l Z aw hw [] (a0) (q2) (th) (xt) ((((sc + (1 : Int64))) + (1 : Int64))) (us) (xs) (es) (ss) (bb) ((2 : Int64)) (pq) (pb) (pd) (T3.heap) n0 z7 po3_0 po3_1 po3_2 po3_3 po3_4 po3_5 po3_6 po3_7 po3_8 po3_9 po3_10 po3_11 po3_12 po3_13 g_a0 (by decide)) hZ (hw _ (List.mem_of_getElem? (i := 25) rfl)) (hw _ (List.mem_of_getElem? (i := 8) rfl)) (by decide) (by decide)) q6a q6c (g := (mkF m 29 #[.val (.ref a0), .val (.int (10 : Int32)), .val (.long q2), .second] [(.int (1 : Int32)), (.long q2), (.ref a0)])) rfl (by rw [hml]; rfl) (Steps.refl _) (argsL := [(.long q2), (.int (1 : Int32))]) (rest := []) (lenOf pd_1 rfl) rfl (by show 2 * 0 + _ ≤ _; exact Nat.le_of_eq rfl) (hb hby d6_29) (fun _ _ => ⟨rfl, rfl, (by decide : 0 + 0 ≤ _), (by decide : 0 + 0 ≤ _)⟩)
  dsimp only [Pt.U, Pt.locs, Pt.cells, Pt.slots] at X6 l6 y6 z6 st6 hQ6
  subst l6 y6 z6
  obtain ⟨rfl, Nq6, K6, po6_0, po6_1, po6_2, po6_3, po6_4, po6_5, po6_6, po6_7, po6_8, po6_9, po6_10, po6_11, po6_12, po6_13⟩ := hQ6
  have N6 := Fr.app N3 Nq6
  have kp8 : Keep h0 T6.heap [a0] := kp5.trans K6 (allS (Or.inl (List.mem_of_getElem? (i := 0) rfl)) all0)
  have z10 : n0 ≤ (T6.heap).size := (Nat.le_trans z7 K6.1)
  obtain ⟨cq9, kq9, q9a, q9b, q9c⟩ := isOf hZ rfl po6_0
  obtain ⟨_, _, ⟨T9, L9, k9, n9⟩, -, X9, ⟨Lc9, hQ9, l9, y9, z9⟩, st9⟩ := X6.virtualBack hx (y := (⟨"com/example/hopchuan/hopchuan/ErrorCounter", "second", "(JZ)V"⟩ : MethodName)) (z := (⟨"com/example/hopchuan/hopchuan/ErrorCounter", "second", "(JZ)V"⟩ : MethodName)) hown (mvT hZ (hw _ (List.mem_of_getElem? (i := 21) rfl))) (mvT hZ (hw _ (List.mem_of_getElem? (i := 22) rfl))) (notFace_of_selects (args := #[]) (mvT hZ (hw _ (List.mem_of_getElem? (i := 24) rfl)))) (mvT hZ (hw _ (List.mem_of_getElem? (i := 24) rfl))) (mvT hZ (hw _ (List.mem_of_getElem? (i := 23) rfl))) (by decide) (backOf (W := 0) (rm4B l Z aw hw [] (a0) (q2) (th) (xt) ((((((sc + (1 : Int64))) + (1 : Int64))) + (1 : Int64))) (us) (xs) (es) (ss) (bb) ((3 : Int64)) (pq) (pb) (pd) (T6.heap) n0 z10 po6_0 po6_1 po6_2 po6_3 po6_4 po6_5 po6_6 po6_7 po6_8 po6_9 po6_10 po6_11 po6_12 po6_13 g_a0 (by decide)) hZ (hw _ (List.mem_of_getElem? (i := 25) rfl)) (hw _ (List.mem_of_getElem? (i := 8) rfl)) (by decide) (by decide)) q9a q9c (g := (mkF m 40 #[.val (.ref a0), .val (.int (10 : Int32)), .val (.long q2), .second] [(.int (1 : Int32)), (.long q2), (.ref a0)])) rfl (by rw [hml]; rfl) (Steps.refl _) (argsL := [(.long q2), (.int (1 : Int32))]) (rest := []) (lenOf pd_1 rfl) rfl (by show 2 * 0 + _ ≤ _; exact Nat.le_of_eq rfl) (hb hby d6_40) (fun _ _ => ⟨rfl, rfl, (by decide : 0 + 0 ≤ _), (by decide : 0 + 0 ≤ _)⟩)
  dsimp only [Pt.U, Pt.locs, Pt.cells, Pt.slots] at X9 l9 y9 z9 st9 hQ9
  subst l9 y9 z9
  obtain ⟨rfl, Nq9, K9, po9_0, po9_1, po9_2, po9_3, po9_4, po9_5, po9_6, po9_7, po9_8, po9_9, po9_10, po9_11, po9_12, po9_13⟩ := hQ9
  have N9 := Fr.app N6 Nq9
  have kp11 : Keep h0 T9.heap [a0] := kp8.trans K9 (allS (Or.inl (List.mem_of_getElem? (i := 0) rfl)) all0)
  have z13 : n0 ≤ (T9.heap).size := (Nat.le_trans z10 K9.1)
  obtain ⟨cq12, kq12, q12a, q12b, q12c⟩ := isOf hZ rfl po9_0
  obtain ⟨_, _, ⟨T12, L12, k12, n12⟩, -, X12, ⟨Lc12, hQ12, l12, y12, z12⟩, st12⟩ := X9.virtualBack hx (y := (⟨"com/example/hopchuan/hopchuan/ErrorCounter", "second", "(JZ)V"⟩ : MethodName)) (z := (⟨"com/example/hopchuan/hopchuan/ErrorCounter", "second", "(JZ)V"⟩ : MethodName)) hown (mvT hZ (hw _ (List.mem_of_getElem? (i := 21) rfl))) (mvT hZ (hw _ (List.mem_of_getElem? (i := 22) rfl))) (notFace_of_selects (args := #[]) (mvT hZ (hw _ (List.mem_of_getElem? (i := 24) rfl)))) (mvT hZ (hw _ (List.mem_of_getElem? (i := 24) rfl))) (mvT hZ (hw _ (List.mem_of_getElem? (i := 23) rfl))) (by decide) (backOf (W := 0) (rm4B l Z aw hw [] (a0) (q2) (th) (xt) ((((((((sc + (1 : Int64))) + (1 : Int64))) + (1 : Int64))) + (1 : Int64))) (us) (xs) (es) (ss) (bb) ((4 : Int64)) (pq) (pb) (pd) (T9.heap) n0 z13 po9_0 po9_1 po9_2 po9_3 po9_4 po9_5 po9_6 po9_7 po9_8 po9_9 po9_10 po9_11 po9_12 po9_13 g_a0 (by decide)) hZ (hw _ (List.mem_of_getElem? (i := 25) rfl)) (hw _ (List.mem_of_getElem? (i := 8) rfl)) (by decide) (by decide)) q12a q12c (g := (mkF m 51 #[.val (.ref a0), .val (.int (10 : Int32)), .val (.long q2), .second] [(.int (1 : Int32)), (.long q2), (.ref a0)])) rfl (by rw [hml]; rfl) (Steps.refl _) (argsL := [(.long q2), (.int (1 : Int32))]) (rest := []) (lenOf pd_1 rfl) rfl (by show 2 * 0 + _ ≤ _; exact Nat.le_of_eq rfl) (hb hby d6_51) (fun _ _ => ⟨rfl, rfl, (by decide : 0 + 0 ≤ _), (by decide : 0 + 0 ≤ _)⟩)
  dsimp only [Pt.U, Pt.locs, Pt.cells, Pt.slots] at X12 l12 y12 z12 st12 hQ12
  subst l12 y12 z12
  obtain ⟨rfl, Nq12, K12, po12_0, po12_1, po12_2, po12_3, po12_4, po12_5, po12_6, po12_7, po12_8, po12_9, po12_10, po12_11, po12_12, po12_13⟩ := hQ12
  have N12 := Fr.app N9 Nq12
  have kp14 : Keep h0 T12.heap [a0] := kp11.trans K12 (allS (Or.inl (List.mem_of_getElem? (i := 0) rfl)) all0)
  have z16 : n0 ≤ (T12.heap).size := (Nat.le_trans z13 K12.1)
  obtain ⟨cq15, kq15, q15a, q15b, q15c⟩ := isOf hZ rfl po12_0
  obtain ⟨_, _, ⟨T15, L15, k15, n15⟩, -, X15, ⟨Lc15, hQ15, l15, y15, z15⟩, st15⟩ := X12.virtualBack hx (y := (⟨"com/example/hopchuan/hopchuan/ErrorCounter", "second", "(JZ)V"⟩ : MethodName)) (z := (⟨"com/example/hopchuan/hopchuan/ErrorCounter", "second", "(JZ)V"⟩ : MethodName)) hown (mvT hZ (hw _ (List.mem_of_getElem? (i := 21) rfl))) (mvT hZ (hw _ (List.mem_of_getElem? (i := 22) rfl))) (notFace_of_selects (args := #[]) (mvT hZ (hw _ (List.mem_of_getElem? (i := 24) rfl)))) (mvT hZ (hw _ (List.mem_of_getElem? (i := 24) rfl))) (mvT hZ (hw _ (List.mem_of_getElem? (i := 23) rfl))) (by decide) (backOf (W := 0) (rm4B l Z aw hw [] (a0) (q2) (th) (xt) ((((((((((sc + (1 : Int64))) + (1 : Int64))) + (1 : Int64))) + (1 : Int64))) + (1 : Int64))) (us) (xs) (es) (ss) (bb) ((5 : Int64)) (pq) (pb) (pd) (T12.heap) n0 z16 po12_0 po12_1 po12_2 po12_3 po12_4 po12_5 po12_6 po12_7 po12_8 po12_9 po12_10 po12_11 po12_12 po12_13 g_a0 (by decide)) hZ (hw _ (List.mem_of_getElem? (i := 25) rfl)) (hw _ (List.mem_of_getElem? (i := 8) rfl)) (by decide) (by decide)) q15a q15c (g := (mkF m 62 #[.val (.ref a0), .val (.int (10 : Int32)), .val (.long q2), .second] [(.int (1 : Int32)), (.long q2), (.ref a0)])) rfl (by rw [hml]; rfl) (Steps.refl _) (argsL := [(.long q2), (.int (1 : Int32))]) (rest := []) (lenOf pd_1 rfl) rfl (by show 2 * 0 + _ ≤ _; exact Nat.le_of_eq rfl) (hb hby d6_62) (fun _ _ => ⟨rfl, rfl, (by decide : 0 + 0 ≤ _), (by decide : 0 + 0 ≤ _)⟩)
  dsimp only [Pt.U, Pt.locs, Pt.cells, Pt.slots] at X15 l15 y15 z15 st15 hQ15
  subst l15 y15 z15
  obtain ⟨rfl, Nq15, K15, po15_0, po15_1, po15_2, po15_3, po15_4, po15_5, po15_6, po15_7, po15_8, po15_9, po15_10, po15_11, po15_12, po15_13⟩ := hQ15
  have N15 := Fr.app N12 Nq15
  have kp17 : Keep h0 T15.heap [a0] := kp14.trans K15 (allS (Or.inl (List.mem_of_getElem? (i := 0) rfl)) all0)
  have z19 : n0 ≤ (T15.heap).size := (Nat.le_trans z16 K15.1)
  obtain ⟨cq18, kq18, q18a, q18b, q18c⟩ := isOf hZ rfl po15_0
  obtain ⟨_, _, ⟨T18, L18, k18, n18⟩, -, X18, ⟨Lc18, hQ18, l18, y18, z18⟩, st18⟩ := X15.virtualBack hx (y := (⟨"com/example/hopchuan/hopchuan/ErrorCounter", "second", "(JZ)V"⟩ : MethodName)) (z := (⟨"com/example/hopchuan/hopchuan/ErrorCounter", "second", "(JZ)V"⟩ : MethodName)) hown (mvT hZ (hw _ (List.mem_of_getElem? (i := 21) rfl))) (mvT hZ (hw _ (List.mem_of_getElem? (i := 22) rfl))) (notFace_of_selects (args := #[]) (mvT hZ (hw _ (List.mem_of_getElem? (i := 24) rfl)))) (mvT hZ (hw _ (List.mem_of_getElem? (i := 24) rfl))) (mvT hZ (hw _ (List.mem_of_getElem? (i := 23) rfl))) (by decide) (backOf (W := 0) (rm4B l Z aw hw [] (a0) (q2) (th) (xt) ((((((((((((sc + (1 : Int64))) + (1 : Int64))) + (1 : Int64))) + (1 : Int64))) + (1 : Int64))) + (1 : Int64))) (us) (xs) (es) (ss) (bb) ((6 : Int64)) (pq) (pb) (pd) (T15.heap) n0 z19 po15_0 po15_1 po15_2 po15_3 po15_4 po15_5 po15_6 po15_7 po15_8 po15_9 po15_10 po15_11 po15_12 po15_13 g_a0 (by decide)) hZ (hw _ (List.mem_of_getElem? (i := 25) rfl)) (hw _ (List.mem_of_getElem? (i := 8) rfl)) (by decide) (by decide)) q18a q18c (g := (mkF m 74 #[.val (.ref a0), .val (.int (10 : Int32)), .val (.long q2), .second] [(.int (1 : Int32)), (.long q2), (.ref a0)])) rfl (by rw [hml]; rfl) (Steps.refl _) (argsL := [(.long q2), (.int (1 : Int32))]) (rest := []) (lenOf pd_1 rfl) rfl (by show 2 * 0 + _ ≤ _; exact Nat.le_of_eq rfl) (hb hby d6_74) (fun _ _ => ⟨rfl, rfl, (by decide : 0 + 0 ≤ _), (by decide : 0 + 0 ≤ _)⟩)
  dsimp only [Pt.U, Pt.locs, Pt.cells, Pt.slots] at X18 l18 y18 z18 st18 hQ18
  subst l18 y18 z18
  obtain ⟨rfl, Nq18, K18, po18_0, po18_1, po18_2, po18_3, po18_4, po18_5, po18_6, po18_7, po18_8, po18_9, po18_10, po18_11, po18_12, po18_13⟩ := hQ18
  have N18 := Fr.app N15 Nq18
  have kp20 : Keep h0 T18.heap [a0] := kp17.trans K18 (allS (Or.inl (List.mem_of_getElem? (i := 0) rfl)) all0)
  have z22 : n0 ≤ (T18.heap).size := (Nat.le_trans z19 K18.1)
  obtain ⟨cq21, kq21, q21a, q21b, q21c⟩ := isOf hZ rfl po18_0
  obtain ⟨_, _, ⟨T21, L21, k21, n21⟩, -, X21, ⟨Lc21, hQ21, l21, y21, z21⟩, st21⟩ := X18.virtualBack hx (y := (⟨"com/example/hopchuan/hopchuan/ErrorCounter", "second", "(JZ)V"⟩ : MethodName)) (z := (⟨"com/example/hopchuan/hopchuan/ErrorCounter", "second", "(JZ)V"⟩ : MethodName)) hown (mvT hZ (hw _ (List.mem_of_getElem? (i := 21) rfl))) (mvT hZ (hw _ (List.mem_of_getElem? (i := 22) rfl))) (notFace_of_selects (args := #[]) (mvT hZ (hw _ (List.mem_of_getElem? (i := 24) rfl)))) (mvT hZ (hw _ (List.mem_of_getElem? (i := 24) rfl))) (mvT hZ (hw _ (List.mem_of_getElem? (i := 23) rfl))) (by decide) (backOf (W := 0) (rm4B l Z aw hw [] (a0) (q2) (th) (xt) ((((((((((((((sc + (1 : Int64))) + (1 : Int64))) + (1 : Int64))) + (1 : Int64))) + (1 : Int64))) + (1 : Int64))) + (1 : Int64))) (us) (xs) (es) (ss) (bb) ((7 : Int64)) (pq) (pb) (pd) (T18.heap) n0 z22 po18_0 po18_1 po18_2 po18_3 po18_4 po18_5 po18_6 po18_7 po18_8 po18_9 po18_10 po18_11 po18_12 po18_13 g_a0 (by decide)) hZ (hw _ (List.mem_of_getElem? (i := 25) rfl)) (hw _ (List.mem_of_getElem? (i := 8) rfl)) (by decide) (by decide)) q21a q21c (g := (mkF m 86 #[.val (.ref a0), .val (.int (10 : Int32)), .val (.long q2), .second] [(.int (1 : Int32)), (.long q2), (.ref a0)])) rfl (by rw [hml]; rfl) (Steps.refl _) (argsL := [(.long q2), (.int (1 : Int32))]) (rest := []) (lenOf pd_1 rfl) rfl (by show 2 * 0 + _ ≤ _; exact Nat.le_of_eq rfl) (hb hby d6_86) (fun _ _ => ⟨rfl, rfl, (by decide : 0 + 0 ≤ _), (by decide : 0 + 0 ≤ _)⟩)
  dsimp only [Pt.U, Pt.locs, Pt.cells, Pt.slots] at X21 l21 y21 z21 st21 hQ21
  subst l21 y21 z21
  obtain ⟨rfl, Nq21, K21, po21_0, po21_1, po21_2, po21_3, po21_4, po21_5, po21_6, po21_7, po21_8, po21_9, po21_10, po21_11, po21_12, po21_13⟩ := hQ21
  have N21 := Fr.app N18 Nq21
  have kp23 : Keep h0 T21.heap [a0] := kp20.trans K21 (allS (Or.inl (List.mem_of_getElem? (i := 0) rfl)) all0)
  have z25 : n0 ≤ (T21.heap).size := (Nat.le_trans z22 K21.1)
  obtain ⟨cq24, kq24, q24a, q24b, q24c⟩ := isOf hZ rfl po21_0
  obtain ⟨_, _, ⟨T24, L24, k24, n24⟩, -, X24, ⟨Lc24, hQ24, l24, y24, z24⟩, st24⟩ := X21.virtualBack hx (y := (⟨"com/example/hopchuan/hopchuan/ErrorCounter", "second", "(JZ)V"⟩ : MethodName)) (z := (⟨"com/example/hopchuan/hopchuan/ErrorCounter", "second", "(JZ)V"⟩ : MethodName)) hown (mvT hZ (hw _ (List.mem_of_getElem? (i := 21) rfl))) (mvT hZ (hw _ (List.mem_of_getElem? (i := 22) rfl))) (notFace_of_selects (args := #[]) (mvT hZ (hw _ (List.mem_of_getElem? (i := 24) rfl)))) (mvT hZ (hw _ (List.mem_of_getElem? (i := 24) rfl))) (mvT hZ (hw _ (List.mem_of_getElem? (i := 23) rfl))) (by decide) (backOf (W := 0) (rm4B l Z aw hw [] (a0) (q2) (th) (xt) ((((((((((((((((sc + (1 : Int64))) + (1 : Int64))) + (1 : Int64))) + (1 : Int64))) + (1 : Int64))) + (1 : Int64))) + (1 : Int64))) + (1 : Int64))) (us) (xs) (es) (ss) (bb) ((8 : Int64)) (pq) (pb) (pd) (T21.heap) n0 z25 po21_0 po21_1 po21_2 po21_3 po21_4 po21_5 po21_6 po21_7 po21_8 po21_9 po21_10 po21_11 po21_12 po21_13 g_a0 (by decide)) hZ (hw _ (List.mem_of_getElem? (i := 25) rfl)) (hw _ (List.mem_of_getElem? (i := 8) rfl)) (by decide) (by decide)) q24a q24c (g := (mkF m 98 #[.val (.ref a0), .val (.int (10 : Int32)), .val (.long q2), .second] [(.int (1 : Int32)), (.long q2), (.ref a0)])) rfl (by rw [hml]; rfl) (Steps.refl _) (argsL := [(.long q2), (.int (1 : Int32))]) (rest := []) (lenOf pd_1 rfl) rfl (by show 2 * 0 + _ ≤ _; exact Nat.le_of_eq rfl) (hb hby d6_98) (fun _ _ => ⟨rfl, rfl, (by decide : 0 + 0 ≤ _), (by decide : 0 + 0 ≤ _)⟩)
  dsimp only [Pt.U, Pt.locs, Pt.cells, Pt.slots] at X24 l24 y24 z24 st24 hQ24
  subst l24 y24 z24
  obtain ⟨rfl, Nq24, K24, po24_0, po24_1, po24_2, po24_3, po24_4, po24_5, po24_6, po24_7, po24_8, po24_9, po24_10, po24_11, po24_12, po24_13⟩ := hQ24
  have N24 := Fr.app N21 Nq24
  have kp26 : Keep h0 T24.heap [a0] := kp23.trans K24 (allS (Or.inl (List.mem_of_getElem? (i := 0) rfl)) all0)
  have z28 : n0 ≤ (T24.heap).size := (Nat.le_trans z25 K24.1)
  obtain ⟨cq27, kq27, q27a, q27b, q27c⟩ := isOf hZ rfl po24_0
  obtain ⟨_, _, ⟨T27, L27, k27, n27⟩, -, X27, ⟨Lc27, hQ27, l27, y27, z27⟩, st27⟩ := X24.virtualBack hx (y := (⟨"com/example/hopchuan/hopchuan/ErrorCounter", "second", "(JZ)V"⟩ : MethodName)) (z := (⟨"com/example/hopchuan/hopchuan/ErrorCounter", "second", "(JZ)V"⟩ : MethodName)) hown (mvT hZ (hw _ (List.mem_of_getElem? (i := 21) rfl))) (mvT hZ (hw _ (List.mem_of_getElem? (i := 22) rfl))) (notFace_of_selects (args := #[]) (mvT hZ (hw _ (List.mem_of_getElem? (i := 24) rfl)))) (mvT hZ (hw _ (List.mem_of_getElem? (i := 24) rfl))) (mvT hZ (hw _ (List.mem_of_getElem? (i := 23) rfl))) (by decide) (backOf (W := 0) (rm4C l Z aw hw [] (a0) (q2) (th) (xt) ((((((((((((((((((sc + (1 : Int64))) + (1 : Int64))) + (1 : Int64))) + (1 : Int64))) + (1 : Int64))) + (1 : Int64))) + (1 : Int64))) + (1 : Int64))) + (1 : Int64))) (us) (xs) (es) (ss) (bb) (pq) (pb) (pd) (T24.heap) n0 z28 po24_0 po24_1 po24_2 po24_3 po24_4 po24_5 po24_6 po24_7 po24_8 po24_9 po24_10 po24_11 po24_12 po24_13 g_a0) hZ (hw _ (List.mem_of_getElem? (i := 25) rfl)) (hw _ (List.mem_of_getElem? (i := 8) rfl)) (by decide) (by decide)) q27a q27c (g := (mkF m 110 #[.val (.ref a0), .val (.int (10 : Int32)), .val (.long q2), .second] [(.int (1 : Int32)), (.long q2), (.ref a0)])) rfl (by rw [hml]; rfl) (Steps.refl _) (argsL := [(.long q2), (.int (1 : Int32))]) (rest := []) (lenOf pd_1 rfl) rfl (by show 2 * 0 + _ ≤ _; exact Nat.le_of_eq rfl) (hb hby d6_110) (fun _ _ => ⟨rfl, rfl, (by decide : 0 + 0 ≤ _), (by decide : 0 + 0 ≤ _)⟩)
  dsimp only [Pt.U, Pt.locs, Pt.cells, Pt.slots] at X27 l27 y27 z27 st27 hQ27
  subst l27 y27 z27
  obtain ⟨rfl, Nq27, K27, po27_0, po27_1, po27_2, po27_3, po27_4, po27_5, po27_6, po27_7, po27_8, po27_9, po27_10, po27_11, po27_12, po27_13⟩ := hQ27
  have N27 := Fr.app N24 Nq27
  have kp29 : Keep h0 T27.heap [a0] := kp26.trans K27 (allS (Or.inl (List.mem_of_getElem? (i := 0) rfl)) all0)
  obtain ⟨fs, hr, hrun, hended, hW, hsame⟩ := X27.leave (v := none) (fun _ => rfl)
  refine ⟨_, _, pre0 _ ?_, hrun, hended, _, _, rfl, ?_, ⟨_, rfl⟩, hW, hsame.mono (by decide) (by decide)⟩
  · show Steps p.tables e below (s₁.setTop (mkF m 0 #[.val (.ref a0), .val (.int (10 : Int32)), .val (.long q2), .second] [])) _
    refine XS.iloadN X0.here hx rfl (hb hby d6_0) rfl ?_
    show Steps p.tables e below (s₁.setTop (mkF m 1 #[.val (.ref a0), .val (.int (10 : Int32)), .val (.long q2), .second] [(.int (10 : Int32))])) _
    refine XS.ifNo X0.here hx rfl (hb hby d6_1) rfl ((if0 _ _).trans (tlt (by decide : ((0 : Int32) < (10 : Int32)))).2.2.2) ?_
    show Steps p.tables e below (s₁.setTop (mkF m 4 #[.val (.ref a0), .val (.int (10 : Int32)), .val (.long q2), .second] [])) _
    refine XS.aloadN X0.here hx rfl (hb hby d6_4) rfl rfl ?_
    show Steps p.tables e below (s₁.setTop (mkF m 5 #[.val (.ref a0), .val (.int (10 : Int32)), .val (.long q2), .second] [(.ref a0)])) _
    refine XS.lloadN X0.here hx rfl (hb hby d6_5) rfl ?_
    show Steps p.tables e below (s₁.setTop (mkF m 6 #[.val (.ref a0), .val (.int (10 : Int32)), .val (.long q2), .second] [(.long q2), (.ref a0)])) _
    refine XS.iconst X0.here hx rfl (hb hby d6_6) ?_
    show Steps p.tables e below (s₁.setTop (mkF m 7 #[.val (.ref a0), .val (.int (10 : Int32)), .val (.long q2), .second] [(.int (1 : Int32)), (.long q2), (.ref a0)])) _
    refine st1.trans ?_
    show Steps p.tables e below (T1.setTop (mkF m 10 #[.val (.ref a0), .val (.int (10 : Int32)), .val (.long q2), .second] [])) _
    refine XS.iloadN X1.here hx rfl (hb hby d6_10) rfl ?_
    show Steps p.tables e below (T1.setTop (mkF m 11 #[.val (.ref a0), .val (.int (10 : Int32)), .val (.long q2), .second] [(.int (10 : Int32))])) _
    refine XS.iconst X1.here hx rfl (hb hby d6_11) ?_
    show Steps p.tables e below (T1.setTop (mkF m 12 #[.val (.ref a0), .val (.int (10 : Int32)), .val (.long q2), .second] [(.int (1 : Int32)), (.int (10 : Int32))])) _
    refine XS.icmpNo X1.here hx rfl (hb hby d6_12) rfl (tlt (by decide : ((1 : Int32) < (10 : Int32)))).2.2.2 ?_
    show Steps p.tables e below (T1.setTop (mkF m 15 #[.val (.ref a0), .val (.int (10 : Int32)), .val (.long q2), .second] [])) _
    refine XS.aloadN X1.here hx rfl (hb hby d6_15) rfl rfl ?_
    show Steps p.tables e below (T1.setTop (mkF m 16 #[.val (.ref a0), .val (.int (10 : Int32)), .val (.long q2), .second] [(.ref a0)])) _
    refine XS.lloadN X1.here hx rfl (hb hby d6_16) rfl ?_
    show Steps p.tables e below (T1.setTop (mkF m 17 #[.val (.ref a0), .val (.int (10 : Int32)), .val (.long q2), .second] [(.long q2), (.ref a0)])) _
    refine XS.iconst X1.here hx rfl (hb hby d6_17) ?_
    show Steps p.tables e below (T1.setTop (mkF m 18 #[.val (.ref a0), .val (.int (10 : Int32)), .val (.long q2), .second] [(.int (1 : Int32)), (.long q2), (.ref a0)])) _
    refine st3.trans ?_
    show Steps p.tables e below (T3.setTop (mkF m 21 #[.val (.ref a0), .val (.int (10 : Int32)), .val (.long q2), .second] [])) _
    refine XS.iloadN X3.here hx rfl (hb hby d6_21) rfl ?_
    show Steps p.tables e below (T3.setTop (mkF m 22 #[.val (.ref a0), .val (.int (10 : Int32)), .val (.long q2), .second] [(.int (10 : Int32))])) _
    refine XS.iconst X3.here hx rfl (hb hby d6_22) ?_
    show Steps p.tables e below (T3.setTop (mkF m 23 #[.val (.ref a0), .val (.int (10 : Int32)), .val (.long q2), .second] [(.int (2 : Int32)), (.int (10 : Int32))])) _
    refine XS.icmpNo X3.here hx rfl (hb hby d6_23) rfl (tlt (by decide : ((2 : Int32) < (10 : Int32)))).2.2.2 ?_
    show Steps p.tables e below (T3.setTop (mkF m 26 #[.val (.ref a0), .val (.int (10 : Int32)), .val (.long q2), .second] [])) _
    refine XS.aloadN X3.here hx rfl (hb hby d6_26) rfl rfl ?_
    show Steps p.tables e below (T3.setTop (mkF m 27 #[.val (.ref a0), .val (.int (10 : Int32)), .val (.long q2), .second] [(.ref a0)])) _
    refine XS.lloadN X3.here hx rfl (hb hby d6_27) rfl ?_
    show Steps p.tables e below (T3.setTop (mkF m 28 #[.val (.ref a0), .val (.int (10 : Int32)), .val (.long q2), .second] [(.long q2), (.ref a0)])) _
    refine XS.iconst X3.here hx rfl (hb hby d6_28) ?_
    show Steps p.tables e below (T3.setTop (mkF m 29 #[.val (.ref a0), .val (.int (10 : Int32)), .val (.long q2), .second] [(.int (1 : Int32)), (.long q2), (.ref a0)])) _
    refine st6.trans ?_
    show Steps p.tables e below (T6.setTop (mkF m 32 #[.val (.ref a0), .val (.int (10 : Int32)), .val (.long q2), .second] [])) _
    refine XS.iloadN X6.here hx rfl (hb hby d6_32) rfl ?_
    show Steps p.tables e below (T6.setTop (mkF m 33 #[.val (.ref a0), .val (.int (10 : Int32)), .val (.long q2), .second] [(.int (10 : Int32))])) _
    refine XS.iconst X6.here hx rfl (hb hby d6_33) ?_
    show Steps p.tables e below (T6.setTop (mkF m 34 #[.val (.ref a0), .val (.int (10 : Int32)), .val (.long q2), .second] [(.int (3 : Int32)), (.int (10 : Int32))])) _
    refine XS.icmpNo X6.here hx rfl (hb hby d6_34) rfl (tlt (by decide : ((3 : Int32) < (10 : Int32)))).2.2.2 ?_
    show Steps p.tables e below (T6.setTop (mkF m 37 #[.val (.ref a0), .val (.int (10 : Int32)), .val (.long q2), .second] [])) _
    refine XS.aloadN X6.here hx rfl (hb hby d6_37) rfl rfl ?_
    show Steps p.tables e below (T6.setTop (mkF m 38 #[.val (.ref a0), .val (.int (10 : Int32)), .val (.long q2), .second] [(.ref a0)])) _
    refine XS.lloadN X6.here hx rfl (hb hby d6_38) rfl ?_
    show Steps p.tables e below (T6.setTop (mkF m 39 #[.val (.ref a0), .val (.int (10 : Int32)), .val (.long q2), .second] [(.long q2), (.ref a0)])) _
    refine XS.iconst X6.here hx rfl (hb hby d6_39) ?_
    show Steps p.tables e below (T6.setTop (mkF m 40 #[.val (.ref a0), .val (.int (10 : Int32)), .val (.long q2), .second] [(.int (1 : Int32)), (.long q2), (.ref a0)])) _
    refine st9.trans ?_
    show Steps p.tables e below (T9.setTop (mkF m 43 #[.val (.ref a0), .val (.int (10 : Int32)), .val (.long q2), .second] [])) _
    refine XS.iloadN X9.here hx rfl (hb hby d6_43) rfl ?_
    show Steps p.tables e below (T9.setTop (mkF m 44 #[.val (.ref a0), .val (.int (10 : Int32)), .val (.long q2), .second] [(.int (10 : Int32))])) _
    refine XS.iconst X9.here hx rfl (hb hby d6_44) ?_
    show Steps p.tables e below (T9.setTop (mkF m 45 #[.val (.ref a0), .val (.int (10 : Int32)), .val (.long q2), .second] [(.int (4 : Int32)), (.int (10 : Int32))])) _
    refine XS.icmpNo X9.here hx rfl (hb hby d6_45) rfl (tlt (by decide : ((4 : Int32) < (10 : Int32)))).2.2.2 ?_
    show Steps p.tables e below (T9.setTop (mkF m 48 #[.val (.ref a0), .val (.int (10 : Int32)), .val (.long q2), .second] [])) _
    refine XS.aloadN X9.here hx rfl (hb hby d6_48) rfl rfl ?_
    show Steps p.tables e below (T9.setTop (mkF m 49 #[.val (.ref a0), .val (.int (10 : Int32)), .val (.long q2), .second] [(.ref a0)])) _
    refine XS.lloadN X9.here hx rfl (hb hby d6_49) rfl ?_
    show Steps p.tables e below (T9.setTop (mkF m 50 #[.val (.ref a0), .val (.int (10 : Int32)), .val (.long q2), .second] [(.long q2), (.ref a0)])) _
    refine XS.iconst X9.here hx rfl (hb hby d6_50) ?_
    show Steps p.tables e below (T9.setTop (mkF m 51 #[.val (.ref a0), .val (.int (10 : Int32)), .val (.long q2), .second] [(.int (1 : Int32)), (.long q2), (.ref a0)])) _
    refine st12.trans ?_
    show Steps p.tables e below (T12.setTop (mkF m 54 #[.val (.ref a0), .val (.int (10 : Int32)), .val (.long q2), .second] [])) _
    refine XS.iloadN X12.here hx rfl (hb hby d6_54) rfl ?_
    show Steps p.tables e below (T12.setTop (mkF m 55 #[.val (.ref a0), .val (.int (10 : Int32)), .val (.long q2), .second] [(.int (10 : Int32))])) _
    refine XS.iconst X12.here hx rfl (hb hby d6_55) ?_
    show Steps p.tables e below (T12.setTop (mkF m 56 #[.val (.ref a0), .val (.int (10 : Int32)), .val (.long q2), .second] [(.int (5 : Int32)), (.int (10 : Int32))])) _
    refine XS.icmpNo X12.here hx rfl (hb hby d6_56) rfl (tlt (by decide : ((5 : Int32) < (10 : Int32)))).2.2.2 ?_
    show Steps p.tables e below (T12.setTop (mkF m 59 #[.val (.ref a0), .val (.int (10 : Int32)), .val (.long q2), .second] [])) _
    refine XS.aloadN X12.here hx rfl (hb hby d6_59) rfl rfl ?_
    show Steps p.tables e below (T12.setTop (mkF m 60 #[.val (.ref a0), .val (.int (10 : Int32)), .val (.long q2), .second] [(.ref a0)])) _
    refine XS.lloadN X12.here hx rfl (hb hby d6_60) rfl ?_
    show Steps p.tables e below (T12.setTop (mkF m 61 #[.val (.ref a0), .val (.int (10 : Int32)), .val (.long q2), .second] [(.long q2), (.ref a0)])) _
    refine XS.iconst X12.here hx rfl (hb hby d6_61) ?_
    show Steps p.tables e below (T12.setTop (mkF m 62 #[.val (.ref a0), .val (.int (10 : Int32)), .val (.long q2), .second] [(.int (1 : Int32)), (.long q2), (.ref a0)])) _
    refine st15.trans ?_
    show Steps p.tables e below (T15.setTop (mkF m 65 #[.val (.ref a0), .val (.int (10 : Int32)), .val (.long q2), .second] [])) _
    refine XS.iloadN X15.here hx rfl (hb hby d6_65) rfl ?_
    show Steps p.tables e below (T15.setTop (mkF m 66 #[.val (.ref a0), .val (.int (10 : Int32)), .val (.long q2), .second] [(.int (10 : Int32))])) _
    refine XS.bipush X15.here hx rfl (hb hby d6_66) ?_
    show Steps p.tables e below (T15.setTop (mkF m 68 #[.val (.ref a0), .val (.int (10 : Int32)), .val (.long q2), .second] [(.int (6 : Int32)), (.int (10 : Int32))])) _
    refine XS.icmpNo X15.here hx rfl (hb hby d6_68) rfl (tlt (by decide : ((6 : Int32) < (10 : Int32)))).2.2.2 ?_
    show Steps p.tables e below (T15.setTop (mkF m 71 #[.val (.ref a0), .val (.int (10 : Int32)), .val (.long q2), .second] [])) _
    refine XS.aloadN X15.here hx rfl (hb hby d6_71) rfl rfl ?_
    show Steps p.tables e below (T15.setTop (mkF m 72 #[.val (.ref a0), .val (.int (10 : Int32)), .val (.long q2), .second] [(.ref a0)])) _
    refine XS.lloadN X15.here hx rfl (hb hby d6_72) rfl ?_
    show Steps p.tables e below (T15.setTop (mkF m 73 #[.val (.ref a0), .val (.int (10 : Int32)), .val (.long q2), .second] [(.long q2), (.ref a0)])) _
    refine XS.iconst X15.here hx rfl (hb hby d6_73) ?_
    show Steps p.tables e below (T15.setTop (mkF m 74 #[.val (.ref a0), .val (.int (10 : Int32)), .val (.long q2), .second] [(.int (1 : Int32)), (.long q2), (.ref a0)])) _
    refine st18.trans ?_
    show Steps p.tables e below (T18.setTop (mkF m 77 #[.val (.ref a0), .val (.int (10 : Int32)), .val (.long q2), .second] [])) _
    refine XS.iloadN X18.here hx rfl (hb hby d6_77) rfl ?_
    show Steps p.tables e below (T18.setTop (mkF m 78 #[.val (.ref a0), .val (.int (10 : Int32)), .val (.long q2), .second] [(.int (10 : Int32))])) _
    refine XS.bipush X18.here hx rfl (hb hby d6_78) ?_
    show Steps p.tables e below (T18.setTop (mkF m 80 #[.val (.ref a0), .val (.int (10 : Int32)), .val (.long q2), .second] [(.int (7 : Int32)), (.int (10 : Int32))])) _
    refine XS.icmpNo X18.here hx rfl (hb hby d6_80) rfl (tlt (by decide : ((7 : Int32) < (10 : Int32)))).2.2.2 ?_
    show Steps p.tables e below (T18.setTop (mkF m 83 #[.val (.ref a0), .val (.int (10 : Int32)), .val (.long q2), .second] [])) _
    refine XS.aloadN X18.here hx rfl (hb hby d6_83) rfl rfl ?_
    show Steps p.tables e below (T18.setTop (mkF m 84 #[.val (.ref a0), .val (.int (10 : Int32)), .val (.long q2), .second] [(.ref a0)])) _
    refine XS.lloadN X18.here hx rfl (hb hby d6_84) rfl ?_
    show Steps p.tables e below (T18.setTop (mkF m 85 #[.val (.ref a0), .val (.int (10 : Int32)), .val (.long q2), .second] [(.long q2), (.ref a0)])) _
    refine XS.iconst X18.here hx rfl (hb hby d6_85) ?_
    show Steps p.tables e below (T18.setTop (mkF m 86 #[.val (.ref a0), .val (.int (10 : Int32)), .val (.long q2), .second] [(.int (1 : Int32)), (.long q2), (.ref a0)])) _
    refine st21.trans ?_
    show Steps p.tables e below (T21.setTop (mkF m 89 #[.val (.ref a0), .val (.int (10 : Int32)), .val (.long q2), .second] [])) _
    refine XS.iloadN X21.here hx rfl (hb hby d6_89) rfl ?_
    show Steps p.tables e below (T21.setTop (mkF m 90 #[.val (.ref a0), .val (.int (10 : Int32)), .val (.long q2), .second] [(.int (10 : Int32))])) _
    refine XS.bipush X21.here hx rfl (hb hby d6_90) ?_
    show Steps p.tables e below (T21.setTop (mkF m 92 #[.val (.ref a0), .val (.int (10 : Int32)), .val (.long q2), .second] [(.int (8 : Int32)), (.int (10 : Int32))])) _
    refine XS.icmpNo X21.here hx rfl (hb hby d6_92) rfl (tlt (by decide : ((8 : Int32) < (10 : Int32)))).2.2.2 ?_
    show Steps p.tables e below (T21.setTop (mkF m 95 #[.val (.ref a0), .val (.int (10 : Int32)), .val (.long q2), .second] [])) _
    refine XS.aloadN X21.here hx rfl (hb hby d6_95) rfl rfl ?_
    show Steps p.tables e below (T21.setTop (mkF m 96 #[.val (.ref a0), .val (.int (10 : Int32)), .val (.long q2), .second] [(.ref a0)])) _
    refine XS.lloadN X21.here hx rfl (hb hby d6_96) rfl ?_
    show Steps p.tables e below (T21.setTop (mkF m 97 #[.val (.ref a0), .val (.int (10 : Int32)), .val (.long q2), .second] [(.long q2), (.ref a0)])) _
    refine XS.iconst X21.here hx rfl (hb hby d6_97) ?_
    show Steps p.tables e below (T21.setTop (mkF m 98 #[.val (.ref a0), .val (.int (10 : Int32)), .val (.long q2), .second] [(.int (1 : Int32)), (.long q2), (.ref a0)])) _
    refine st24.trans ?_
    show Steps p.tables e below (T24.setTop (mkF m 101 #[.val (.ref a0), .val (.int (10 : Int32)), .val (.long q2), .second] [])) _
    refine XS.iloadN X24.here hx rfl (hb hby d6_101) rfl ?_
    show Steps p.tables e below (T24.setTop (mkF m 102 #[.val (.ref a0), .val (.int (10 : Int32)), .val (.long q2), .second] [(.int (10 : Int32))])) _
    refine XS.bipush X24.here hx rfl (hb hby d6_102) ?_
    show Steps p.tables e below (T24.setTop (mkF m 104 #[.val (.ref a0), .val (.int (10 : Int32)), .val (.long q2), .second] [(.int (9 : Int32)), (.int (10 : Int32))])) _
    refine XS.icmpNo X24.here hx rfl (hb hby d6_104) rfl (tlt (by decide : ((9 : Int32) < (10 : Int32)))).2.2.2 ?_
    show Steps p.tables e below (T24.setTop (mkF m 107 #[.val (.ref a0), .val (.int (10 : Int32)), .val (.long q2), .second] [])) _
    refine XS.aloadN X24.here hx rfl (hb hby d6_107) rfl rfl ?_
    show Steps p.tables e below (T24.setTop (mkF m 108 #[.val (.ref a0), .val (.int (10 : Int32)), .val (.long q2), .second] [(.ref a0)])) _
    refine XS.lloadN X24.here hx rfl (hb hby d6_108) rfl ?_
    show Steps p.tables e below (T24.setTop (mkF m 109 #[.val (.ref a0), .val (.int (10 : Int32)), .val (.long q2), .second] [(.long q2), (.ref a0)])) _
    refine XS.iconst X24.here hx rfl (hb hby d6_109) ?_
    show Steps p.tables e below (T24.setTop (mkF m 110 #[.val (.ref a0), .val (.int (10 : Int32)), .val (.long q2), .second] [(.int (1 : Int32)), (.long q2), (.ref a0)])) _
    refine st27.trans ?_
    show Steps p.tables e below (T27.setTop (mkF m 113 #[.val (.ref a0), .val (.int (10 : Int32)), .val (.long q2), .second] [])) _
    exact X27.returnOut hx Bd.returns (hb hby d6_113) hr
  · show Q6X Z a0 q2 th xt sc us xs es ss bb pq pb pd h0 n0 _ T27.heap _
    unfold Q6X
    refine ⟨rfl, N27, kp29, po27_0, ?_, ?_, ?_, ?_, ?_, ?_, ?_, ?_, ?_, ?_, ?_, ?_, ?_⟩
    · exact po27_1
    · exact po27_2
    · exact po27_3
    · rw [show (own_p6X_seconds sc) = (((((((((((((((((((sc + (1 : Int64))) + (1 : Int64))) + (1 : Int64))) + (1 : Int64))) + (1 : Int64))) + (1 : Int64))) + (1 : Int64))) + (1 : Int64))) + (1 : Int64))) + (1 : Int64)) from (by simp only [own_p6X_seconds])]; exact po27_4
    · exact po27_5
    · exact po27_6
    · exact po27_7
    · exact po27_8
    · exact po27_9
    · exact po27_10
    · exact po27_11
    · exact po27_12
    · exact po27_13
theorem own_up {m a b : Int32} (h : ¬ a < m) (q : a ≤ b) : ¬ b < m := by
  rw [Int32.lt_iff_toInt_lt] at h ⊢; rw [Int32.le_iff_toInt_le] at q; omega
theorem ef_6K (m : MethodId) (a0 : Addr) (p1 : Int32) (q2 : Int64) : entryFrame m #[(.ref a0), (.int p1), (.long q2)] 4 = mkF m 0 #[.val (.ref a0), .val (.int p1), .val (.long q2), .second] [] := by first | (simp [entryFrame, mkF, argsToLocals, Value.category]; done) | rfl
def own_p6K_seconds (p1 : Int32) (sc : Int64) : Int64 := (if (0 : Int32) < p1 then (if (1 : Int32) < p1 then (if (2 : Int32) < p1 then (if (3 : Int32) < p1 then (if (4 : Int32) < p1 then (if (5 : Int32) < p1 then (if (6 : Int32) < p1 then (if (7 : Int32) < p1 then (if (8 : Int32) < p1 then (((((((((((((((((sc + (1 : Int64))) + (1 : Int64))) + (1 : Int64))) + (1 : Int64))) + (1 : Int64))) + (1 : Int64))) + (1 : Int64))) + (1 : Int64))) + (1 : Int64)) else (((((((((((((((sc + (1 : Int64))) + (1 : Int64))) + (1 : Int64))) + (1 : Int64))) + (1 : Int64))) + (1 : Int64))) + (1 : Int64))) + (1 : Int64))) else (((((((((((((sc + (1 : Int64))) + (1 : Int64))) + (1 : Int64))) + (1 : Int64))) + (1 : Int64))) + (1 : Int64))) + (1 : Int64))) else (((((((((((sc + (1 : Int64))) + (1 : Int64))) + (1 : Int64))) + (1 : Int64))) + (1 : Int64))) + (1 : Int64))) else (((((((((sc + (1 : Int64))) + (1 : Int64))) + (1 : Int64))) + (1 : Int64))) + (1 : Int64))) else (((((((sc + (1 : Int64))) + (1 : Int64))) + (1 : Int64))) + (1 : Int64))) else (((((sc + (1 : Int64))) + (1 : Int64))) + (1 : Int64))) else (((sc + (1 : Int64))) + (1 : Int64))) else (sc + (1 : Int64))) else sc)
def own_p6K_pending (p1 : Int32) : Int64 := (if (0 : Int32) < p1 then (if (1 : Int32) < p1 then (if (2 : Int32) < p1 then (if (3 : Int32) < p1 then (if (4 : Int32) < p1 then (if (5 : Int32) < p1 then (if (6 : Int32) < p1 then (if (7 : Int32) < p1 then (if (8 : Int32) < p1 then (9 : Int64) else (8 : Int64)) else (7 : Int64)) else (6 : Int64)) else (5 : Int64)) else (4 : Int64)) else (3 : Int64)) else (2 : Int64)) else (1 : Int64)) else (0 : Int64))
def Q6K (Z : State) (a0 : Addr) (p1 : Int32) (q2 : Int64) (th : Int64) (xt : Int64) (sc : Int64) (us : Int64) (xs : Int64) (es : Int64) (ss : Int64) (bb : Int64) (pq : Int64) (pb : Int64) (pd : Int64) (h0 : Heap) (n0 : Nat) (v : Option Value) (h : Heap) (L : List Loc) : Prop := v = none ∧ Fr n0 L ∧ Keep h0 h [a0] ∧ Exa Z h a0 "com/example/hopchuan/hopchuan/ErrorCounter" ∧ Fld Z h a0 "com/example/hopchuan/hopchuan/ErrorCounter" "available" "Z" (.int (1 : Int32)) ∧ Fld Z h a0 "com/example/hopchuan/hopchuan/ErrorCounter" "sesErroredBlocks" "J" (.long th) ∧ Fld Z h a0 "com/example/hopchuan/hopchuan/ErrorCounter" "extendingPeriodSeconds" "J" (.long xt) ∧ Fld Z h a0 "com/example/hopchuan/hopchuan/ErrorCounter" "seconds" "J" (.long (own_p6K_seconds p1 sc)) ∧ Fld Z h a0 "com/example/hopchuan/hopchuan/ErrorCounter" "unavailableSeconds" "J" (.long us) ∧ Fld Z h a0 "com/example/hopchuan/hopchuan/ErrorCounter" "extendingSeconds" "J" (.long xs) ∧ Fld Z h a0 "com/example/hopchuan/hopchuan/ErrorCounter" "erroredSeconds" "J" (.long es) ∧ Fld Z h a0 "com/example/hopchuan/hopchuan/ErrorCounter" "severelyErroredSeconds" "J" (.long ss) ∧ Fld Z h a0 "com/example/hopchuan/hopchuan/ErrorCounter" "backgroundBlockErrors" "J" (.long bb) ∧ Fld Z h a0 "com/example/hopchuan/hopchuan/ErrorCounter" "pending" "J" (.long (own_p6K_pending p1)) ∧ Fld Z h a0 "com/example/hopchuan/hopchuan/ErrorCounter" "pendingErrored" "J" (.long pq) ∧ Fld Z h a0 "com/example/hopchuan/hopchuan/ErrorCounter" "pendingBlocks" "J" (.long pb) ∧ Fld Z h a0 "com/example/hopchuan/hopchuan/ErrorCounter" "period" "J" (.long pd)
set_option maxRecDepth 65536 in
set_option maxHeartbeats 40000000 in
theorem rm6K (l : Launch) (Z : State) (aw : Array Value) (hw : ∀ d ∈ tables_1, d.before aw Z = true) (wq : List Jvm.Cond) (a0 : Addr) (p1 : Int32) (q2 : Int64) (th : Int64) (xt : Int64) (sc : Int64) (us : Int64) (xs : Int64) (es : Int64) (ss : Int64) (bb : Int64) (pq : Int64) (pb : Int64) (pd : Int64) (h0 : Heap) (n0 : Nat) (Z0 : n0 ≤ h0.size) (E_a0 : Exa Z h0 a0 "com/example/hopchuan/hopchuan/ErrorCounter") (F_a0_available : Fld Z h0 a0 "com/example/hopchuan/hopchuan/ErrorCounter" "available" "Z" (.int (1 : Int32))) (F_a0_sesErroredBlocks : Fld Z h0 a0 "com/example/hopchuan/hopchuan/ErrorCounter" "sesErroredBlocks" "J" (.long th)) (F_a0_extendingPeriodSeconds : Fld Z h0 a0 "com/example/hopchuan/hopchuan/ErrorCounter" "extendingPeriodSeconds" "J" (.long xt)) (F_a0_seconds : Fld Z h0 a0 "com/example/hopchuan/hopchuan/ErrorCounter" "seconds" "J" (.long sc)) (F_a0_unavailableSeconds : Fld Z h0 a0 "com/example/hopchuan/hopchuan/ErrorCounter" "unavailableSeconds" "J" (.long us)) (F_a0_extendingSeconds : Fld Z h0 a0 "com/example/hopchuan/hopchuan/ErrorCounter" "extendingSeconds" "J" (.long xs)) (F_a0_erroredSeconds : Fld Z h0 a0 "com/example/hopchuan/hopchuan/ErrorCounter" "erroredSeconds" "J" (.long es)) (F_a0_severelyErroredSeconds : Fld Z h0 a0 "com/example/hopchuan/hopchuan/ErrorCounter" "severelyErroredSeconds" "J" (.long ss)) (F_a0_backgroundBlockErrors : Fld Z h0 a0 "com/example/hopchuan/hopchuan/ErrorCounter" "backgroundBlockErrors" "J" (.long bb)) (F_a0_pending : Fld Z h0 a0 "com/example/hopchuan/hopchuan/ErrorCounter" "pending" "J" (.long (0 : Int64))) (F_a0_pendingErrored : Fld Z h0 a0 "com/example/hopchuan/hopchuan/ErrorCounter" "pendingErrored" "J" (.long pq)) (F_a0_pendingBlocks : Fld Z h0 a0 "com/example/hopchuan/hopchuan/ErrorCounter" "pendingBlocks" "J" (.long pb)) (F_a0_period : Fld Z h0 a0 "com/example/hopchuan/hopchuan/ErrorCounter" "period" "J" (.long pd)) (g_a0 : n0 ≤ a0) (hk : ¬ (9 : Int32) < p1) :
    MetFree l (⟨"com/example/hopchuan/hopchuan/ErrorCounterEndPinLaw", "severe", "(Lcom/example/hopchuan/hopchuan/ErrorCounter;IJ)V"⟩ : MethodName) (head1 (Jvm.Cond.code (⟨"com/example/hopchuan/hopchuan/ErrorCounterEndPinLaw", "severe", "(Lcom/example/hopchuan/hopchuan/ErrorCounter;IJ)V"⟩ : MethodName) method_3_code 4 none :: wq) ({ frames := 1, cells := 0, slots := 0, locals := 16 } : Room)) (fun a U => a = #[(.ref a0), (.int p1), (.long q2)] ∧ Z.Warmed39 U.vm ∧ U.heap = h0) (fun _ _ _ _ _ => True) (fun _ U o U' => ∃ v L, o = .returned v ∧ Q6K Z a0 p1 q2 th xt sc us xs es ss bb pq pb pd h0 n0 v U'.heap L ∧ FrameEnd U o U' L ({ frames := 1, cells := 0, slots := 0, locals := 16 } : Room).cells ({ frames := 1, cells := 0, slots := 0, locals := 16 } : Room).slots) := by
  refine MetFree.of_bodySF (plainFor_of_name pn_1) hisR ?_
  intro p e s m args below meth c s₁ Bd hml0 hP hK
  obtain ⟨rfl, hZ, hh⟩ := hP
  have hx := Bd.exec
  have hby := Bd.bytes
  have hml : c.maxLocals = 4 := hml0
  have hown : s.vm.findClass "com/example/hopchuan/hopchuan/ErrorCounterEndPinLaw" = some m.cls := findClass_of_methodNamed Bd.named
  have hnm := (name_of_methodNamed Bd.named Bd.method).1
  have X0 : Stand p l e ({ frames := 1, cells := 0, slots := 0, locals := 16 } : Room) s m #[(.ref a0), (.int p1), (.long q2)] below meth c s₁ [] 0 0 := Stand.of_body Bd
  have e0 : s₁.heap = h0 := by rw [← hh, Bd.state]; rfl
  have N0 := Fr.nil n0
  have pre0 : own_Pre p e below (s₁.setTop (entryFrame m #[(.ref a0), (.int p1), (.long q2)] 4)) (s₁.setTop (mkF m 0 #[.val (.ref a0), .val (.int p1), .val (.long q2), .second] [])) := fun t k => castTop (ef_6K m a0 p1 q2) k
  have pre1 : own_Pre p e below (s₁.setTop (entryFrame m #[(.ref a0), (.int p1), (.long q2)] 4)) (s₁.setTop (mkF m 1 #[.val (.ref a0), .val (.int p1), .val (.long q2), .second] [(.int p1)])) := fun t k => pre0 t (by
      show Steps p.tables e below (s₁.setTop (mkF m 0 #[.val (.ref a0), .val (.int p1), .val (.long q2), .second] [])) _
      refine XS.iloadN X0.here hx rfl (hb hby d6_0) rfl ?_
      exact k)
  by_cases hc1 : (0 : Int32) < p1
  · obtain ⟨cq2, kq2, q2a, q2b, q2c⟩ := isOf hZ e0 E_a0
    obtain ⟨_, _, ⟨T2, L2, k2, n2⟩, -, X2, ⟨Lc2, hQ2, l2, y2, z2⟩, st2⟩ := X0.virtualBack hx (y := (⟨"com/example/hopchuan/hopchuan/ErrorCounter", "second", "(JZ)V"⟩ : MethodName)) (z := (⟨"com/example/hopchuan/hopchuan/ErrorCounter", "second", "(JZ)V"⟩ : MethodName)) hown (mvT hZ (hw _ (List.mem_of_getElem? (i := 21) rfl))) (mvT hZ (hw _ (List.mem_of_getElem? (i := 22) rfl))) (notFace_of_selects (args := #[]) (mvT hZ (hw _ (List.mem_of_getElem? (i := 24) rfl)))) (mvT hZ (hw _ (List.mem_of_getElem? (i := 24) rfl))) (mvT hZ (hw _ (List.mem_of_getElem? (i := 23) rfl))) (by decide) (backOf (W := 0) (rm4B l Z aw hw [] (a0) (q2) (th) (xt) (sc) (us) (xs) (es) (ss) (bb) ((0 : Int64)) (pq) (pb) (pd) (h0) n0 Z0 E_a0 F_a0_available F_a0_sesErroredBlocks F_a0_extendingPeriodSeconds F_a0_seconds F_a0_unavailableSeconds F_a0_extendingSeconds F_a0_erroredSeconds F_a0_severelyErroredSeconds F_a0_backgroundBlockErrors F_a0_pending F_a0_pendingErrored F_a0_pendingBlocks F_a0_period g_a0 (by decide)) hZ (hw _ (List.mem_of_getElem? (i := 25) rfl)) (hw _ (List.mem_of_getElem? (i := 8) rfl)) (by decide) (by decide)) q2a q2c (g := (mkF m 7 #[.val (.ref a0), .val (.int p1), .val (.long q2), .second] [(.int (1 : Int32)), (.long q2), (.ref a0)])) rfl (by rw [hml]; rfl) (Steps.refl _) (argsL := [(.long q2), (.int (1 : Int32))]) (rest := []) (lenOf pd_1 rfl) rfl (by show 2 * 0 + _ ≤ _; exact Nat.le_of_eq rfl) (hb hby d6_7) (fun _ _ => ⟨rfl, e0, (by decide : 0 + 0 ≤ _), (by decide : 0 + 0 ≤ _)⟩)
    dsimp only [Pt.U, Pt.locs, Pt.cells, Pt.slots] at X2 l2 y2 z2 st2 hQ2
    subst l2 y2 z2
    obtain ⟨rfl, Nq2, K2, po2_0, po2_1, po2_2, po2_3, po2_4, po2_5, po2_6, po2_7, po2_8, po2_9, po2_10, po2_11, po2_12, po2_13⟩ := hQ2
    have N2 := Fr.app N0 Nq2
    have kp3 : Keep h0 T2.heap [a0] := (Keep.refl h0 [a0]).trans K2 (allS (Or.inl (List.mem_of_getElem? (i := 0) rfl)) all0)
    have pre4 : own_Pre p e below (s₁.setTop (entryFrame m #[(.ref a0), (.int p1), (.long q2)] 4)) (T2.setTop (mkF m 12 #[.val (.ref a0), .val (.int p1), .val (.long q2), .second] [(.int (1 : Int32)), (.int p1)])) := fun t k => pre1 t (by
        show Steps p.tables e below (s₁.setTop (mkF m 1 #[.val (.ref a0), .val (.int p1), .val (.long q2), .second] [(.int p1)])) _
        refine XS.ifNo X0.here hx rfl (hb hby d6_1) rfl ((if0 _ _).trans (tlt hc1).2.2.2) ?_
        show Steps p.tables e below (s₁.setTop (mkF m 4 #[.val (.ref a0), .val (.int p1), .val (.long q2), .second] [])) _
        refine XS.aloadN X0.here hx rfl (hb hby d6_4) rfl rfl ?_
        show Steps p.tables e below (s₁.setTop (mkF m 5 #[.val (.ref a0), .val (.int p1), .val (.long q2), .second] [(.ref a0)])) _
        refine XS.lloadN X0.here hx rfl (hb hby d6_5) rfl ?_
        show Steps p.tables e below (s₁.setTop (mkF m 6 #[.val (.ref a0), .val (.int p1), .val (.long q2), .second] [(.long q2), (.ref a0)])) _
        refine XS.iconst X0.here hx rfl (hb hby d6_6) ?_
        show Steps p.tables e below (s₁.setTop (mkF m 7 #[.val (.ref a0), .val (.int p1), .val (.long q2), .second] [(.int (1 : Int32)), (.long q2), (.ref a0)])) _
        refine st2.trans ?_
        show Steps p.tables e below (T2.setTop (mkF m 10 #[.val (.ref a0), .val (.int p1), .val (.long q2), .second] [])) _
        refine XS.iloadN X2.here hx rfl (hb hby d6_10) rfl ?_
        show Steps p.tables e below (T2.setTop (mkF m 11 #[.val (.ref a0), .val (.int p1), .val (.long q2), .second] [(.int p1)])) _
        refine XS.iconst X2.here hx rfl (hb hby d6_11) ?_
        exact k)
    by_cases hc12 : (1 : Int32) < p1
    · have z6 : n0 ≤ (T2.heap).size := (Nat.le_trans Z0 K2.1)
      obtain ⟨cq5, kq5, q5a, q5b, q5c⟩ := isOf hZ rfl po2_0
      obtain ⟨_, _, ⟨T5, L5, k5, n5⟩, -, X5, ⟨Lc5, hQ5, l5, y5, z5⟩, st5⟩ := X2.virtualBack hx (y := (⟨"com/example/hopchuan/hopchuan/ErrorCounter", "second", "(JZ)V"⟩ : MethodName)) (z := (⟨"com/example/hopchuan/hopchuan/ErrorCounter", "second", "(JZ)V"⟩ : MethodName)) hown (mvT hZ (hw _ (List.mem_of_getElem? (i := 21) rfl))) (mvT hZ (hw _ (List.mem_of_getElem? (i := 22) rfl))) (notFace_of_selects (args := #[]) (mvT hZ (hw _ (List.mem_of_getElem? (i := 24) rfl)))) (mvT hZ (hw _ (List.mem_of_getElem? (i := 24) rfl))) (mvT hZ (hw _ (List.mem_of_getElem? (i := 23) rfl))) (by decide) (backOf (W := 0) (rm4B l Z aw hw [] (a0) (q2) (th) (xt) ((sc + (1 : Int64))) (us) (xs) (es) (ss) (bb) ((1 : Int64)) (pq) (pb) (pd) (T2.heap) n0 z6 po2_0 po2_1 po2_2 po2_3 po2_4 po2_5 po2_6 po2_7 po2_8 po2_9 po2_10 po2_11 po2_12 po2_13 g_a0 (by decide)) hZ (hw _ (List.mem_of_getElem? (i := 25) rfl)) (hw _ (List.mem_of_getElem? (i := 8) rfl)) (by decide) (by decide)) q5a q5c (g := (mkF m 18 #[.val (.ref a0), .val (.int p1), .val (.long q2), .second] [(.int (1 : Int32)), (.long q2), (.ref a0)])) rfl (by rw [hml]; rfl) (Steps.refl _) (argsL := [(.long q2), (.int (1 : Int32))]) (rest := []) (lenOf pd_1 rfl) rfl (by show 2 * 0 + _ ≤ _; exact Nat.le_of_eq rfl) (hb hby d6_18) (fun _ _ => ⟨rfl, rfl, (by decide : 0 + 0 ≤ _), (by decide : 0 + 0 ≤ _)⟩)
      dsimp only [Pt.U, Pt.locs, Pt.cells, Pt.slots] at X5 l5 y5 z5 st5 hQ5
      subst l5 y5 z5
      obtain ⟨rfl, Nq5, K5, po5_0, po5_1, po5_2, po5_3, po5_4, po5_5, po5_6, po5_7, po5_8, po5_9, po5_10, po5_11, po5_12, po5_13⟩ := hQ5
      have N5 := Fr.app N2 Nq5
      have kp7 : Keep h0 T5.heap [a0] := kp3.trans K5 (allS (Or.inl (List.mem_of_getElem? (i := 0) rfl)) all0)
      have pre8 : own_Pre p e below (s₁.setTop (entryFrame m #[(.ref a0), (.int p1), (.long q2)] 4)) (T5.setTop (mkF m 23 #[.val (.ref a0), .val (.int p1), .val (.long q2), .second] [(.int (2 : Int32)), (.int p1)])) := fun t k => pre4 t (by
          show Steps p.tables e below (T2.setTop (mkF m 12 #[.val (.ref a0), .val (.int p1), .val (.long q2), .second] [(.int (1 : Int32)), (.int p1)])) _
          refine XS.icmpNo X2.here hx rfl (hb hby d6_12) rfl (tlt hc12).2.2.2 ?_
          show Steps p.tables e below (T2.setTop (mkF m 15 #[.val (.ref a0), .val (.int p1), .val (.long q2), .second] [])) _
          refine XS.aloadN X2.here hx rfl (hb hby d6_15) rfl rfl ?_
          show Steps p.tables e below (T2.setTop (mkF m 16 #[.val (.ref a0), .val (.int p1), .val (.long q2), .second] [(.ref a0)])) _
          refine XS.lloadN X2.here hx rfl (hb hby d6_16) rfl ?_
          show Steps p.tables e below (T2.setTop (mkF m 17 #[.val (.ref a0), .val (.int p1), .val (.long q2), .second] [(.long q2), (.ref a0)])) _
          refine XS.iconst X2.here hx rfl (hb hby d6_17) ?_
          show Steps p.tables e below (T2.setTop (mkF m 18 #[.val (.ref a0), .val (.int p1), .val (.long q2), .second] [(.int (1 : Int32)), (.long q2), (.ref a0)])) _
          refine st5.trans ?_
          show Steps p.tables e below (T5.setTop (mkF m 21 #[.val (.ref a0), .val (.int p1), .val (.long q2), .second] [])) _
          refine XS.iloadN X5.here hx rfl (hb hby d6_21) rfl ?_
          show Steps p.tables e below (T5.setTop (mkF m 22 #[.val (.ref a0), .val (.int p1), .val (.long q2), .second] [(.int p1)])) _
          refine XS.iconst X5.here hx rfl (hb hby d6_22) ?_
          exact k)
      by_cases hc23 : (2 : Int32) < p1
      · have z10 : n0 ≤ (T5.heap).size := (Nat.le_trans z6 K5.1)
        obtain ⟨cq9, kq9, q9a, q9b, q9c⟩ := isOf hZ rfl po5_0
        obtain ⟨_, _, ⟨T9, L9, k9, n9⟩, -, X9, ⟨Lc9, hQ9, l9, y9, z9⟩, st9⟩ := X5.virtualBack hx (y := (⟨"com/example/hopchuan/hopchuan/ErrorCounter", "second", "(JZ)V"⟩ : MethodName)) (z := (⟨"com/example/hopchuan/hopchuan/ErrorCounter", "second", "(JZ)V"⟩ : MethodName)) hown (mvT hZ (hw _ (List.mem_of_getElem? (i := 21) rfl))) (mvT hZ (hw _ (List.mem_of_getElem? (i := 22) rfl))) (notFace_of_selects (args := #[]) (mvT hZ (hw _ (List.mem_of_getElem? (i := 24) rfl)))) (mvT hZ (hw _ (List.mem_of_getElem? (i := 24) rfl))) (mvT hZ (hw _ (List.mem_of_getElem? (i := 23) rfl))) (by decide) (backOf (W := 0) (rm4B l Z aw hw [] (a0) (q2) (th) (xt) ((((sc + (1 : Int64))) + (1 : Int64))) (us) (xs) (es) (ss) (bb) ((2 : Int64)) (pq) (pb) (pd) (T5.heap) n0 z10 po5_0 po5_1 po5_2 po5_3 po5_4 po5_5 po5_6 po5_7 po5_8 po5_9 po5_10 po5_11 po5_12 po5_13 g_a0 (by decide)) hZ (hw _ (List.mem_of_getElem? (i := 25) rfl)) (hw _ (List.mem_of_getElem? (i := 8) rfl)) (by decide) (by decide)) q9a q9c (g := (mkF m 29 #[.val (.ref a0), .val (.int p1), .val (.long q2), .second] [(.int (1 : Int32)), (.long q2), (.ref a0)])) rfl (by rw [hml]; rfl) (Steps.refl _) (argsL := [(.long q2), (.int (1 : Int32))]) (rest := []) (lenOf pd_1 rfl) rfl (by show 2 * 0 + _ ≤ _; exact Nat.le_of_eq rfl) (hb hby d6_29) (fun _ _ => ⟨rfl, rfl, (by decide : 0 + 0 ≤ _), (by decide : 0 + 0 ≤ _)⟩)
        dsimp only [Pt.U, Pt.locs, Pt.cells, Pt.slots] at X9 l9 y9 z9 st9 hQ9
        subst l9 y9 z9
        obtain ⟨rfl, Nq9, K9, po9_0, po9_1, po9_2, po9_3, po9_4, po9_5, po9_6, po9_7, po9_8, po9_9, po9_10, po9_11, po9_12, po9_13⟩ := hQ9
        have N9 := Fr.app N5 Nq9
        have kp11 : Keep h0 T9.heap [a0] := kp7.trans K9 (allS (Or.inl (List.mem_of_getElem? (i := 0) rfl)) all0)
        have pre12 : own_Pre p e below (s₁.setTop (entryFrame m #[(.ref a0), (.int p1), (.long q2)] 4)) (T9.setTop (mkF m 34 #[.val (.ref a0), .val (.int p1), .val (.long q2), .second] [(.int (3 : Int32)), (.int p1)])) := fun t k => pre8 t (by
            show Steps p.tables e below (T5.setTop (mkF m 23 #[.val (.ref a0), .val (.int p1), .val (.long q2), .second] [(.int (2 : Int32)), (.int p1)])) _
            refine XS.icmpNo X5.here hx rfl (hb hby d6_23) rfl (tlt hc23).2.2.2 ?_
            show Steps p.tables e below (T5.setTop (mkF m 26 #[.val (.ref a0), .val (.int p1), .val (.long q2), .second] [])) _
            refine XS.aloadN X5.here hx rfl (hb hby d6_26) rfl rfl ?_
            show Steps p.tables e below (T5.setTop (mkF m 27 #[.val (.ref a0), .val (.int p1), .val (.long q2), .second] [(.ref a0)])) _
            refine XS.lloadN X5.here hx rfl (hb hby d6_27) rfl ?_
            show Steps p.tables e below (T5.setTop (mkF m 28 #[.val (.ref a0), .val (.int p1), .val (.long q2), .second] [(.long q2), (.ref a0)])) _
            refine XS.iconst X5.here hx rfl (hb hby d6_28) ?_
            show Steps p.tables e below (T5.setTop (mkF m 29 #[.val (.ref a0), .val (.int p1), .val (.long q2), .second] [(.int (1 : Int32)), (.long q2), (.ref a0)])) _
            refine st9.trans ?_
            show Steps p.tables e below (T9.setTop (mkF m 32 #[.val (.ref a0), .val (.int p1), .val (.long q2), .second] [])) _
            refine XS.iloadN X9.here hx rfl (hb hby d6_32) rfl ?_
            show Steps p.tables e below (T9.setTop (mkF m 33 #[.val (.ref a0), .val (.int p1), .val (.long q2), .second] [(.int p1)])) _
            refine XS.iconst X9.here hx rfl (hb hby d6_33) ?_
            exact k)
        by_cases hc34 : (3 : Int32) < p1
        · have z14 : n0 ≤ (T9.heap).size := (Nat.le_trans z10 K9.1)
          obtain ⟨cq13, kq13, q13a, q13b, q13c⟩ := isOf hZ rfl po9_0
          obtain ⟨_, _, ⟨T13, L13, k13, n13⟩, -, X13, ⟨Lc13, hQ13, l13, y13, z13⟩, st13⟩ := X9.virtualBack hx (y := (⟨"com/example/hopchuan/hopchuan/ErrorCounter", "second", "(JZ)V"⟩ : MethodName)) (z := (⟨"com/example/hopchuan/hopchuan/ErrorCounter", "second", "(JZ)V"⟩ : MethodName)) hown (mvT hZ (hw _ (List.mem_of_getElem? (i := 21) rfl))) (mvT hZ (hw _ (List.mem_of_getElem? (i := 22) rfl))) (notFace_of_selects (args := #[]) (mvT hZ (hw _ (List.mem_of_getElem? (i := 24) rfl)))) (mvT hZ (hw _ (List.mem_of_getElem? (i := 24) rfl))) (mvT hZ (hw _ (List.mem_of_getElem? (i := 23) rfl))) (by decide) (backOf (W := 0) (rm4B l Z aw hw [] (a0) (q2) (th) (xt) ((((((sc + (1 : Int64))) + (1 : Int64))) + (1 : Int64))) (us) (xs) (es) (ss) (bb) ((3 : Int64)) (pq) (pb) (pd) (T9.heap) n0 z14 po9_0 po9_1 po9_2 po9_3 po9_4 po9_5 po9_6 po9_7 po9_8 po9_9 po9_10 po9_11 po9_12 po9_13 g_a0 (by decide)) hZ (hw _ (List.mem_of_getElem? (i := 25) rfl)) (hw _ (List.mem_of_getElem? (i := 8) rfl)) (by decide) (by decide)) q13a q13c (g := (mkF m 40 #[.val (.ref a0), .val (.int p1), .val (.long q2), .second] [(.int (1 : Int32)), (.long q2), (.ref a0)])) rfl (by rw [hml]; rfl) (Steps.refl _) (argsL := [(.long q2), (.int (1 : Int32))]) (rest := []) (lenOf pd_1 rfl) rfl (by show 2 * 0 + _ ≤ _; exact Nat.le_of_eq rfl) (hb hby d6_40) (fun _ _ => ⟨rfl, rfl, (by decide : 0 + 0 ≤ _), (by decide : 0 + 0 ≤ _)⟩)
          dsimp only [Pt.U, Pt.locs, Pt.cells, Pt.slots] at X13 l13 y13 z13 st13 hQ13
          subst l13 y13 z13
          obtain ⟨rfl, Nq13, K13, po13_0, po13_1, po13_2, po13_3, po13_4, po13_5, po13_6, po13_7, po13_8, po13_9, po13_10, po13_11, po13_12, po13_13⟩ := hQ13
          have N13 := Fr.app N9 Nq13
          have kp15 : Keep h0 T13.heap [a0] := kp11.trans K13 (allS (Or.inl (List.mem_of_getElem? (i := 0) rfl)) all0)
          have pre16 : own_Pre p e below (s₁.setTop (entryFrame m #[(.ref a0), (.int p1), (.long q2)] 4)) (T13.setTop (mkF m 45 #[.val (.ref a0), .val (.int p1), .val (.long q2), .second] [(.int (4 : Int32)), (.int p1)])) := fun t k => pre12 t (by
              show Steps p.tables e below (T9.setTop (mkF m 34 #[.val (.ref a0), .val (.int p1), .val (.long q2), .second] [(.int (3 : Int32)), (.int p1)])) _
              refine XS.icmpNo X9.here hx rfl (hb hby d6_34) rfl (tlt hc34).2.2.2 ?_
              show Steps p.tables e below (T9.setTop (mkF m 37 #[.val (.ref a0), .val (.int p1), .val (.long q2), .second] [])) _
              refine XS.aloadN X9.here hx rfl (hb hby d6_37) rfl rfl ?_
              show Steps p.tables e below (T9.setTop (mkF m 38 #[.val (.ref a0), .val (.int p1), .val (.long q2), .second] [(.ref a0)])) _
              refine XS.lloadN X9.here hx rfl (hb hby d6_38) rfl ?_
              show Steps p.tables e below (T9.setTop (mkF m 39 #[.val (.ref a0), .val (.int p1), .val (.long q2), .second] [(.long q2), (.ref a0)])) _
              refine XS.iconst X9.here hx rfl (hb hby d6_39) ?_
              show Steps p.tables e below (T9.setTop (mkF m 40 #[.val (.ref a0), .val (.int p1), .val (.long q2), .second] [(.int (1 : Int32)), (.long q2), (.ref a0)])) _
              refine st13.trans ?_
              show Steps p.tables e below (T13.setTop (mkF m 43 #[.val (.ref a0), .val (.int p1), .val (.long q2), .second] [])) _
              refine XS.iloadN X13.here hx rfl (hb hby d6_43) rfl ?_
              show Steps p.tables e below (T13.setTop (mkF m 44 #[.val (.ref a0), .val (.int p1), .val (.long q2), .second] [(.int p1)])) _
              refine XS.iconst X13.here hx rfl (hb hby d6_44) ?_
              exact k)
          by_cases hc45 : (4 : Int32) < p1
          · have z18 : n0 ≤ (T13.heap).size := (Nat.le_trans z14 K13.1)
            obtain ⟨cq17, kq17, q17a, q17b, q17c⟩ := isOf hZ rfl po13_0
            obtain ⟨_, _, ⟨T17, L17, k17, n17⟩, -, X17, ⟨Lc17, hQ17, l17, y17, z17⟩, st17⟩ := X13.virtualBack hx (y := (⟨"com/example/hopchuan/hopchuan/ErrorCounter", "second", "(JZ)V"⟩ : MethodName)) (z := (⟨"com/example/hopchuan/hopchuan/ErrorCounter", "second", "(JZ)V"⟩ : MethodName)) hown (mvT hZ (hw _ (List.mem_of_getElem? (i := 21) rfl))) (mvT hZ (hw _ (List.mem_of_getElem? (i := 22) rfl))) (notFace_of_selects (args := #[]) (mvT hZ (hw _ (List.mem_of_getElem? (i := 24) rfl)))) (mvT hZ (hw _ (List.mem_of_getElem? (i := 24) rfl))) (mvT hZ (hw _ (List.mem_of_getElem? (i := 23) rfl))) (by decide) (backOf (W := 0) (rm4B l Z aw hw [] (a0) (q2) (th) (xt) ((((((((sc + (1 : Int64))) + (1 : Int64))) + (1 : Int64))) + (1 : Int64))) (us) (xs) (es) (ss) (bb) ((4 : Int64)) (pq) (pb) (pd) (T13.heap) n0 z18 po13_0 po13_1 po13_2 po13_3 po13_4 po13_5 po13_6 po13_7 po13_8 po13_9 po13_10 po13_11 po13_12 po13_13 g_a0 (by decide)) hZ (hw _ (List.mem_of_getElem? (i := 25) rfl)) (hw _ (List.mem_of_getElem? (i := 8) rfl)) (by decide) (by decide)) q17a q17c (g := (mkF m 51 #[.val (.ref a0), .val (.int p1), .val (.long q2), .second] [(.int (1 : Int32)), (.long q2), (.ref a0)])) rfl (by rw [hml]; rfl) (Steps.refl _) (argsL := [(.long q2), (.int (1 : Int32))]) (rest := []) (lenOf pd_1 rfl) rfl (by show 2 * 0 + _ ≤ _; exact Nat.le_of_eq rfl) (hb hby d6_51) (fun _ _ => ⟨rfl, rfl, (by decide : 0 + 0 ≤ _), (by decide : 0 + 0 ≤ _)⟩)
            dsimp only [Pt.U, Pt.locs, Pt.cells, Pt.slots] at X17 l17 y17 z17 st17 hQ17
            subst l17 y17 z17
            obtain ⟨rfl, Nq17, K17, po17_0, po17_1, po17_2, po17_3, po17_4, po17_5, po17_6, po17_7, po17_8, po17_9, po17_10, po17_11, po17_12, po17_13⟩ := hQ17
            have N17 := Fr.app N13 Nq17
            have kp19 : Keep h0 T17.heap [a0] := kp15.trans K17 (allS (Or.inl (List.mem_of_getElem? (i := 0) rfl)) all0)
            have pre20 : own_Pre p e below (s₁.setTop (entryFrame m #[(.ref a0), (.int p1), (.long q2)] 4)) (T17.setTop (mkF m 56 #[.val (.ref a0), .val (.int p1), .val (.long q2), .second] [(.int (5 : Int32)), (.int p1)])) := fun t k => pre16 t (by
                show Steps p.tables e below (T13.setTop (mkF m 45 #[.val (.ref a0), .val (.int p1), .val (.long q2), .second] [(.int (4 : Int32)), (.int p1)])) _
                refine XS.icmpNo X13.here hx rfl (hb hby d6_45) rfl (tlt hc45).2.2.2 ?_
                show Steps p.tables e below (T13.setTop (mkF m 48 #[.val (.ref a0), .val (.int p1), .val (.long q2), .second] [])) _
                refine XS.aloadN X13.here hx rfl (hb hby d6_48) rfl rfl ?_
                show Steps p.tables e below (T13.setTop (mkF m 49 #[.val (.ref a0), .val (.int p1), .val (.long q2), .second] [(.ref a0)])) _
                refine XS.lloadN X13.here hx rfl (hb hby d6_49) rfl ?_
                show Steps p.tables e below (T13.setTop (mkF m 50 #[.val (.ref a0), .val (.int p1), .val (.long q2), .second] [(.long q2), (.ref a0)])) _
                refine XS.iconst X13.here hx rfl (hb hby d6_50) ?_
                show Steps p.tables e below (T13.setTop (mkF m 51 #[.val (.ref a0), .val (.int p1), .val (.long q2), .second] [(.int (1 : Int32)), (.long q2), (.ref a0)])) _
                refine st17.trans ?_
                show Steps p.tables e below (T17.setTop (mkF m 54 #[.val (.ref a0), .val (.int p1), .val (.long q2), .second] [])) _
                refine XS.iloadN X17.here hx rfl (hb hby d6_54) rfl ?_
                show Steps p.tables e below (T17.setTop (mkF m 55 #[.val (.ref a0), .val (.int p1), .val (.long q2), .second] [(.int p1)])) _
                refine XS.iconst X17.here hx rfl (hb hby d6_55) ?_
                exact k)
            by_cases hc56 : (5 : Int32) < p1
            · have z22 : n0 ≤ (T17.heap).size := (Nat.le_trans z18 K17.1)
              obtain ⟨cq21, kq21, q21a, q21b, q21c⟩ := isOf hZ rfl po17_0
              obtain ⟨_, _, ⟨T21, L21, k21, n21⟩, -, X21, ⟨Lc21, hQ21, l21, y21, z21⟩, st21⟩ := X17.virtualBack hx (y := (⟨"com/example/hopchuan/hopchuan/ErrorCounter", "second", "(JZ)V"⟩ : MethodName)) (z := (⟨"com/example/hopchuan/hopchuan/ErrorCounter", "second", "(JZ)V"⟩ : MethodName)) hown (mvT hZ (hw _ (List.mem_of_getElem? (i := 21) rfl))) (mvT hZ (hw _ (List.mem_of_getElem? (i := 22) rfl))) (notFace_of_selects (args := #[]) (mvT hZ (hw _ (List.mem_of_getElem? (i := 24) rfl)))) (mvT hZ (hw _ (List.mem_of_getElem? (i := 24) rfl))) (mvT hZ (hw _ (List.mem_of_getElem? (i := 23) rfl))) (by decide) (backOf (W := 0) (rm4B l Z aw hw [] (a0) (q2) (th) (xt) ((((((((((sc + (1 : Int64))) + (1 : Int64))) + (1 : Int64))) + (1 : Int64))) + (1 : Int64))) (us) (xs) (es) (ss) (bb) ((5 : Int64)) (pq) (pb) (pd) (T17.heap) n0 z22 po17_0 po17_1 po17_2 po17_3 po17_4 po17_5 po17_6 po17_7 po17_8 po17_9 po17_10 po17_11 po17_12 po17_13 g_a0 (by decide)) hZ (hw _ (List.mem_of_getElem? (i := 25) rfl)) (hw _ (List.mem_of_getElem? (i := 8) rfl)) (by decide) (by decide)) q21a q21c (g := (mkF m 62 #[.val (.ref a0), .val (.int p1), .val (.long q2), .second] [(.int (1 : Int32)), (.long q2), (.ref a0)])) rfl (by rw [hml]; rfl) (Steps.refl _) (argsL := [(.long q2), (.int (1 : Int32))]) (rest := []) (lenOf pd_1 rfl) rfl (by show 2 * 0 + _ ≤ _; exact Nat.le_of_eq rfl) (hb hby d6_62) (fun _ _ => ⟨rfl, rfl, (by decide : 0 + 0 ≤ _), (by decide : 0 + 0 ≤ _)⟩)
              dsimp only [Pt.U, Pt.locs, Pt.cells, Pt.slots] at X21 l21 y21 z21 st21 hQ21
              subst l21 y21 z21
              obtain ⟨rfl, Nq21, K21, po21_0, po21_1, po21_2, po21_3, po21_4, po21_5, po21_6, po21_7, po21_8, po21_9, po21_10, po21_11, po21_12, po21_13⟩ := hQ21
              have N21 := Fr.app N17 Nq21
              have kp23 : Keep h0 T21.heap [a0] := kp19.trans K21 (allS (Or.inl (List.mem_of_getElem? (i := 0) rfl)) all0)
              have pre24 : own_Pre p e below (s₁.setTop (entryFrame m #[(.ref a0), (.int p1), (.long q2)] 4)) (T21.setTop (mkF m 68 #[.val (.ref a0), .val (.int p1), .val (.long q2), .second] [(.int (6 : Int32)), (.int p1)])) := fun t k => pre20 t (by
                  show Steps p.tables e below (T17.setTop (mkF m 56 #[.val (.ref a0), .val (.int p1), .val (.long q2), .second] [(.int (5 : Int32)), (.int p1)])) _
                  refine XS.icmpNo X17.here hx rfl (hb hby d6_56) rfl (tlt hc56).2.2.2 ?_
                  show Steps p.tables e below (T17.setTop (mkF m 59 #[.val (.ref a0), .val (.int p1), .val (.long q2), .second] [])) _
                  refine XS.aloadN X17.here hx rfl (hb hby d6_59) rfl rfl ?_
                  show Steps p.tables e below (T17.setTop (mkF m 60 #[.val (.ref a0), .val (.int p1), .val (.long q2), .second] [(.ref a0)])) _
                  refine XS.lloadN X17.here hx rfl (hb hby d6_60) rfl ?_
                  show Steps p.tables e below (T17.setTop (mkF m 61 #[.val (.ref a0), .val (.int p1), .val (.long q2), .second] [(.long q2), (.ref a0)])) _
                  refine XS.iconst X17.here hx rfl (hb hby d6_61) ?_
                  show Steps p.tables e below (T17.setTop (mkF m 62 #[.val (.ref a0), .val (.int p1), .val (.long q2), .second] [(.int (1 : Int32)), (.long q2), (.ref a0)])) _
                  refine st21.trans ?_
                  show Steps p.tables e below (T21.setTop (mkF m 65 #[.val (.ref a0), .val (.int p1), .val (.long q2), .second] [])) _
                  refine XS.iloadN X21.here hx rfl (hb hby d6_65) rfl ?_
                  show Steps p.tables e below (T21.setTop (mkF m 66 #[.val (.ref a0), .val (.int p1), .val (.long q2), .second] [(.int p1)])) _
                  refine XS.bipush X21.here hx rfl (hb hby d6_66) ?_
                  exact k)
              by_cases hc68 : (6 : Int32) < p1
              · have z26 : n0 ≤ (T21.heap).size := (Nat.le_trans z22 K21.1)
                obtain ⟨cq25, kq25, q25a, q25b, q25c⟩ := isOf hZ rfl po21_0
                obtain ⟨_, _, ⟨T25, L25, k25, n25⟩, -, X25, ⟨Lc25, hQ25, l25, y25, z25⟩, st25⟩ := X21.virtualBack hx (y := (⟨"com/example/hopchuan/hopchuan/ErrorCounter", "second", "(JZ)V"⟩ : MethodName)) (z := (⟨"com/example/hopchuan/hopchuan/ErrorCounter", "second", "(JZ)V"⟩ : MethodName)) hown (mvT hZ (hw _ (List.mem_of_getElem? (i := 21) rfl))) (mvT hZ (hw _ (List.mem_of_getElem? (i := 22) rfl))) (notFace_of_selects (args := #[]) (mvT hZ (hw _ (List.mem_of_getElem? (i := 24) rfl)))) (mvT hZ (hw _ (List.mem_of_getElem? (i := 24) rfl))) (mvT hZ (hw _ (List.mem_of_getElem? (i := 23) rfl))) (by decide) (backOf (W := 0) (rm4B l Z aw hw [] (a0) (q2) (th) (xt) ((((((((((((sc + (1 : Int64))) + (1 : Int64))) + (1 : Int64))) + (1 : Int64))) + (1 : Int64))) + (1 : Int64))) (us) (xs) (es) (ss) (bb) ((6 : Int64)) (pq) (pb) (pd) (T21.heap) n0 z26 po21_0 po21_1 po21_2 po21_3 po21_4 po21_5 po21_6 po21_7 po21_8 po21_9 po21_10 po21_11 po21_12 po21_13 g_a0 (by decide)) hZ (hw _ (List.mem_of_getElem? (i := 25) rfl)) (hw _ (List.mem_of_getElem? (i := 8) rfl)) (by decide) (by decide)) q25a q25c (g := (mkF m 74 #[.val (.ref a0), .val (.int p1), .val (.long q2), .second] [(.int (1 : Int32)), (.long q2), (.ref a0)])) rfl (by rw [hml]; rfl) (Steps.refl _) (argsL := [(.long q2), (.int (1 : Int32))]) (rest := []) (lenOf pd_1 rfl) rfl (by show 2 * 0 + _ ≤ _; exact Nat.le_of_eq rfl) (hb hby d6_74) (fun _ _ => ⟨rfl, rfl, (by decide : 0 + 0 ≤ _), (by decide : 0 + 0 ≤ _)⟩)
                dsimp only [Pt.U, Pt.locs, Pt.cells, Pt.slots] at X25 l25 y25 z25 st25 hQ25
                subst l25 y25 z25
                obtain ⟨rfl, Nq25, K25, po25_0, po25_1, po25_2, po25_3, po25_4, po25_5, po25_6, po25_7, po25_8, po25_9, po25_10, po25_11, po25_12, po25_13⟩ := hQ25
                have N25 := Fr.app N21 Nq25
                have kp27 : Keep h0 T25.heap [a0] := kp23.trans K25 (allS (Or.inl (List.mem_of_getElem? (i := 0) rfl)) all0)
                have pre28 : own_Pre p e below (s₁.setTop (entryFrame m #[(.ref a0), (.int p1), (.long q2)] 4)) (T25.setTop (mkF m 80 #[.val (.ref a0), .val (.int p1), .val (.long q2), .second] [(.int (7 : Int32)), (.int p1)])) := fun t k => pre24 t (by
                    show Steps p.tables e below (T21.setTop (mkF m 68 #[.val (.ref a0), .val (.int p1), .val (.long q2), .second] [(.int (6 : Int32)), (.int p1)])) _
                    refine XS.icmpNo X21.here hx rfl (hb hby d6_68) rfl (tlt hc68).2.2.2 ?_
                    show Steps p.tables e below (T21.setTop (mkF m 71 #[.val (.ref a0), .val (.int p1), .val (.long q2), .second] [])) _
                    refine XS.aloadN X21.here hx rfl (hb hby d6_71) rfl rfl ?_
                    show Steps p.tables e below (T21.setTop (mkF m 72 #[.val (.ref a0), .val (.int p1), .val (.long q2), .second] [(.ref a0)])) _
                    refine XS.lloadN X21.here hx rfl (hb hby d6_72) rfl ?_
                    show Steps p.tables e below (T21.setTop (mkF m 73 #[.val (.ref a0), .val (.int p1), .val (.long q2), .second] [(.long q2), (.ref a0)])) _
                    refine XS.iconst X21.here hx rfl (hb hby d6_73) ?_
                    show Steps p.tables e below (T21.setTop (mkF m 74 #[.val (.ref a0), .val (.int p1), .val (.long q2), .second] [(.int (1 : Int32)), (.long q2), (.ref a0)])) _
                    refine st25.trans ?_
                    show Steps p.tables e below (T25.setTop (mkF m 77 #[.val (.ref a0), .val (.int p1), .val (.long q2), .second] [])) _
                    refine XS.iloadN X25.here hx rfl (hb hby d6_77) rfl ?_
                    show Steps p.tables e below (T25.setTop (mkF m 78 #[.val (.ref a0), .val (.int p1), .val (.long q2), .second] [(.int p1)])) _
                    refine XS.bipush X25.here hx rfl (hb hby d6_78) ?_
                    exact k)
                by_cases hc80 : (7 : Int32) < p1
                · have z30 : n0 ≤ (T25.heap).size := (Nat.le_trans z26 K25.1)
                  obtain ⟨cq29, kq29, q29a, q29b, q29c⟩ := isOf hZ rfl po25_0
                  obtain ⟨_, _, ⟨T29, L29, k29, n29⟩, -, X29, ⟨Lc29, hQ29, l29, y29, z29⟩, st29⟩ := X25.virtualBack hx (y := (⟨"com/example/hopchuan/hopchuan/ErrorCounter", "second", "(JZ)V"⟩ : MethodName)) (z := (⟨"com/example/hopchuan/hopchuan/ErrorCounter", "second", "(JZ)V"⟩ : MethodName)) hown (mvT hZ (hw _ (List.mem_of_getElem? (i := 21) rfl))) (mvT hZ (hw _ (List.mem_of_getElem? (i := 22) rfl))) (notFace_of_selects (args := #[]) (mvT hZ (hw _ (List.mem_of_getElem? (i := 24) rfl)))) (mvT hZ (hw _ (List.mem_of_getElem? (i := 24) rfl))) (mvT hZ (hw _ (List.mem_of_getElem? (i := 23) rfl))) (by decide) (backOf (W := 0) (rm4B l Z aw hw [] (a0) (q2) (th) (xt) ((((((((((((((sc + (1 : Int64))) + (1 : Int64))) + (1 : Int64))) + (1 : Int64))) + (1 : Int64))) + (1 : Int64))) + (1 : Int64))) (us) (xs) (es) (ss) (bb) ((7 : Int64)) (pq) (pb) (pd) (T25.heap) n0 z30 po25_0 po25_1 po25_2 po25_3 po25_4 po25_5 po25_6 po25_7 po25_8 po25_9 po25_10 po25_11 po25_12 po25_13 g_a0 (by decide)) hZ (hw _ (List.mem_of_getElem? (i := 25) rfl)) (hw _ (List.mem_of_getElem? (i := 8) rfl)) (by decide) (by decide)) q29a q29c (g := (mkF m 86 #[.val (.ref a0), .val (.int p1), .val (.long q2), .second] [(.int (1 : Int32)), (.long q2), (.ref a0)])) rfl (by rw [hml]; rfl) (Steps.refl _) (argsL := [(.long q2), (.int (1 : Int32))]) (rest := []) (lenOf pd_1 rfl) rfl (by show 2 * 0 + _ ≤ _; exact Nat.le_of_eq rfl) (hb hby d6_86) (fun _ _ => ⟨rfl, rfl, (by decide : 0 + 0 ≤ _), (by decide : 0 + 0 ≤ _)⟩)
                  dsimp only [Pt.U, Pt.locs, Pt.cells, Pt.slots] at X29 l29 y29 z29 st29 hQ29
                  subst l29 y29 z29
                  obtain ⟨rfl, Nq29, K29, po29_0, po29_1, po29_2, po29_3, po29_4, po29_5, po29_6, po29_7, po29_8, po29_9, po29_10, po29_11, po29_12, po29_13⟩ := hQ29
                  have N29 := Fr.app N25 Nq29
                  have kp31 : Keep h0 T29.heap [a0] := kp27.trans K29 (allS (Or.inl (List.mem_of_getElem? (i := 0) rfl)) all0)
                  have pre32 : own_Pre p e below (s₁.setTop (entryFrame m #[(.ref a0), (.int p1), (.long q2)] 4)) (T29.setTop (mkF m 92 #[.val (.ref a0), .val (.int p1), .val (.long q2), .second] [(.int (8 : Int32)), (.int p1)])) := fun t k => pre28 t (by
                      show Steps p.tables e below (T25.setTop (mkF m 80 #[.val (.ref a0), .val (.int p1), .val (.long q2), .second] [(.int (7 : Int32)), (.int p1)])) _
                      refine XS.icmpNo X25.here hx rfl (hb hby d6_80) rfl (tlt hc80).2.2.2 ?_
                      show Steps p.tables e below (T25.setTop (mkF m 83 #[.val (.ref a0), .val (.int p1), .val (.long q2), .second] [])) _
                      refine XS.aloadN X25.here hx rfl (hb hby d6_83) rfl rfl ?_
                      show Steps p.tables e below (T25.setTop (mkF m 84 #[.val (.ref a0), .val (.int p1), .val (.long q2), .second] [(.ref a0)])) _
                      refine XS.lloadN X25.here hx rfl (hb hby d6_84) rfl ?_
                      show Steps p.tables e below (T25.setTop (mkF m 85 #[.val (.ref a0), .val (.int p1), .val (.long q2), .second] [(.long q2), (.ref a0)])) _
                      refine XS.iconst X25.here hx rfl (hb hby d6_85) ?_
                      show Steps p.tables e below (T25.setTop (mkF m 86 #[.val (.ref a0), .val (.int p1), .val (.long q2), .second] [(.int (1 : Int32)), (.long q2), (.ref a0)])) _
                      refine st29.trans ?_
                      show Steps p.tables e below (T29.setTop (mkF m 89 #[.val (.ref a0), .val (.int p1), .val (.long q2), .second] [])) _
                      refine XS.iloadN X29.here hx rfl (hb hby d6_89) rfl ?_
                      show Steps p.tables e below (T29.setTop (mkF m 90 #[.val (.ref a0), .val (.int p1), .val (.long q2), .second] [(.int p1)])) _
                      refine XS.bipush X29.here hx rfl (hb hby d6_90) ?_
                      exact k)
                  by_cases hc92 : (8 : Int32) < p1
                  · have z34 : n0 ≤ (T29.heap).size := (Nat.le_trans z30 K29.1)
                    obtain ⟨cq33, kq33, q33a, q33b, q33c⟩ := isOf hZ rfl po29_0
                    obtain ⟨_, _, ⟨T33, L33, k33, n33⟩, -, X33, ⟨Lc33, hQ33, l33, y33, z33⟩, st33⟩ := X29.virtualBack hx (y := (⟨"com/example/hopchuan/hopchuan/ErrorCounter", "second", "(JZ)V"⟩ : MethodName)) (z := (⟨"com/example/hopchuan/hopchuan/ErrorCounter", "second", "(JZ)V"⟩ : MethodName)) hown (mvT hZ (hw _ (List.mem_of_getElem? (i := 21) rfl))) (mvT hZ (hw _ (List.mem_of_getElem? (i := 22) rfl))) (notFace_of_selects (args := #[]) (mvT hZ (hw _ (List.mem_of_getElem? (i := 24) rfl)))) (mvT hZ (hw _ (List.mem_of_getElem? (i := 24) rfl))) (mvT hZ (hw _ (List.mem_of_getElem? (i := 23) rfl))) (by decide) (backOf (W := 0) (rm4B l Z aw hw [] (a0) (q2) (th) (xt) ((((((((((((((((sc + (1 : Int64))) + (1 : Int64))) + (1 : Int64))) + (1 : Int64))) + (1 : Int64))) + (1 : Int64))) + (1 : Int64))) + (1 : Int64))) (us) (xs) (es) (ss) (bb) ((8 : Int64)) (pq) (pb) (pd) (T29.heap) n0 z34 po29_0 po29_1 po29_2 po29_3 po29_4 po29_5 po29_6 po29_7 po29_8 po29_9 po29_10 po29_11 po29_12 po29_13 g_a0 (by decide)) hZ (hw _ (List.mem_of_getElem? (i := 25) rfl)) (hw _ (List.mem_of_getElem? (i := 8) rfl)) (by decide) (by decide)) q33a q33c (g := (mkF m 98 #[.val (.ref a0), .val (.int p1), .val (.long q2), .second] [(.int (1 : Int32)), (.long q2), (.ref a0)])) rfl (by rw [hml]; rfl) (Steps.refl _) (argsL := [(.long q2), (.int (1 : Int32))]) (rest := []) (lenOf pd_1 rfl) rfl (by show 2 * 0 + _ ≤ _; exact Nat.le_of_eq rfl) (hb hby d6_98) (fun _ _ => ⟨rfl, rfl, (by decide : 0 + 0 ≤ _), (by decide : 0 + 0 ≤ _)⟩)
                    dsimp only [Pt.U, Pt.locs, Pt.cells, Pt.slots] at X33 l33 y33 z33 st33 hQ33
                    subst l33 y33 z33
                    obtain ⟨rfl, Nq33, K33, po33_0, po33_1, po33_2, po33_3, po33_4, po33_5, po33_6, po33_7, po33_8, po33_9, po33_10, po33_11, po33_12, po33_13⟩ := hQ33
                    have N33 := Fr.app N29 Nq33
                    have kp35 : Keep h0 T33.heap [a0] := kp31.trans K33 (allS (Or.inl (List.mem_of_getElem? (i := 0) rfl)) all0)
                    have hc104 : ¬ ((9 : Int32) < p1) := hk
                    obtain ⟨fs, hr, hrun, hended, hW, hsame⟩ := X33.leave (v := none) (fun _ => rfl)
                    refine ⟨_, _, pre32 _ ?_, hrun, hended, _, _, rfl, ?_, ⟨_, rfl⟩, hW, hsame.mono (by decide) (by decide)⟩
                    · show Steps p.tables e below (T29.setTop (mkF m 92 #[.val (.ref a0), .val (.int p1), .val (.long q2), .second] [(.int (8 : Int32)), (.int p1)])) _
                      refine XS.icmpNo X29.here hx rfl (hb hby d6_92) rfl (tlt hc92).2.2.2 ?_
                      show Steps p.tables e below (T29.setTop (mkF m 95 #[.val (.ref a0), .val (.int p1), .val (.long q2), .second] [])) _
                      refine XS.aloadN X29.here hx rfl (hb hby d6_95) rfl rfl ?_
                      show Steps p.tables e below (T29.setTop (mkF m 96 #[.val (.ref a0), .val (.int p1), .val (.long q2), .second] [(.ref a0)])) _
                      refine XS.lloadN X29.here hx rfl (hb hby d6_96) rfl ?_
                      show Steps p.tables e below (T29.setTop (mkF m 97 #[.val (.ref a0), .val (.int p1), .val (.long q2), .second] [(.long q2), (.ref a0)])) _
                      refine XS.iconst X29.here hx rfl (hb hby d6_97) ?_
                      show Steps p.tables e below (T29.setTop (mkF m 98 #[.val (.ref a0), .val (.int p1), .val (.long q2), .second] [(.int (1 : Int32)), (.long q2), (.ref a0)])) _
                      refine st33.trans ?_
                      show Steps p.tables e below (T33.setTop (mkF m 101 #[.val (.ref a0), .val (.int p1), .val (.long q2), .second] [])) _
                      refine XS.iloadN X33.here hx rfl (hb hby d6_101) rfl ?_
                      show Steps p.tables e below (T33.setTop (mkF m 102 #[.val (.ref a0), .val (.int p1), .val (.long q2), .second] [(.int p1)])) _
                      refine XS.bipush X33.here hx rfl (hb hby d6_102) ?_
                      show Steps p.tables e below (T33.setTop (mkF m 104 #[.val (.ref a0), .val (.int p1), .val (.long q2), .second] [(.int (9 : Int32)), (.int p1)])) _
                      refine XS.icmpYes X33.here hx rfl (pc0 := 104) (pc' := 113) rfl (hb hby d6_104) rfl (flt hc104).2.2.2 (by decide) (by decide) ?_
                      show Steps p.tables e below (T33.setTop (mkF m 113 #[.val (.ref a0), .val (.int p1), .val (.long q2), .second] [])) _
                      exact X33.returnOut hx Bd.returns (hb hby d6_113) hr
                    · show Q6K Z a0 p1 q2 th xt sc us xs es ss bb pq pb pd h0 n0 _ T33.heap _
                      unfold Q6K
                      refine ⟨rfl, N33, kp35, po33_0, ?_, ?_, ?_, ?_, ?_, ?_, ?_, ?_, ?_, ?_, ?_, ?_, ?_⟩
                      · exact po33_1
                      · exact po33_2
                      · exact po33_3
                      · rw [show (own_p6K_seconds p1 sc) = (((((((((((((((((sc + (1 : Int64))) + (1 : Int64))) + (1 : Int64))) + (1 : Int64))) + (1 : Int64))) + (1 : Int64))) + (1 : Int64))) + (1 : Int64))) + (1 : Int64)) from (by simp only [own_p6K_seconds, if_pos hc1, if_pos hc12, if_pos hc23, if_pos hc34, if_pos hc45, if_pos hc56, if_pos hc68, if_pos hc80, if_pos hc92])]; exact po33_4
                      · exact po33_5
                      · exact po33_6
                      · exact po33_7
                      · exact po33_8
                      · exact po33_9
                      · rw [show (own_p6K_pending p1) = (9 : Int64) from (by simp only [own_p6K_pending, if_pos hc1, if_pos hc12, if_pos hc23, if_pos hc34, if_pos hc45, if_pos hc56, if_pos hc68, if_pos hc80, if_pos hc92])]; exact po33_10
                      · exact po33_11
                      · exact po33_12
                      · exact po33_13
                  · have hc104 : ¬ ((9 : Int32) < p1) := hk
                    obtain ⟨fs, hr, hrun, hended, hW, hsame⟩ := X29.leave (v := none) (fun _ => rfl)
                    refine ⟨_, _, pre32 _ ?_, hrun, hended, _, _, rfl, ?_, ⟨_, rfl⟩, hW, hsame.mono (by decide) (by decide)⟩
                    · show Steps p.tables e below (T29.setTop (mkF m 92 #[.val (.ref a0), .val (.int p1), .val (.long q2), .second] [(.int (8 : Int32)), (.int p1)])) _
                      refine XS.icmpYes X29.here hx rfl (pc0 := 92) (pc' := 101) rfl (hb hby d6_92) rfl (flt hc92).2.2.2 (by decide) (by decide) ?_
                      show Steps p.tables e below (T29.setTop (mkF m 101 #[.val (.ref a0), .val (.int p1), .val (.long q2), .second] [])) _
                      refine XS.iloadN X29.here hx rfl (hb hby d6_101) rfl ?_
                      show Steps p.tables e below (T29.setTop (mkF m 102 #[.val (.ref a0), .val (.int p1), .val (.long q2), .second] [(.int p1)])) _
                      refine XS.bipush X29.here hx rfl (hb hby d6_102) ?_
                      show Steps p.tables e below (T29.setTop (mkF m 104 #[.val (.ref a0), .val (.int p1), .val (.long q2), .second] [(.int (9 : Int32)), (.int p1)])) _
                      refine XS.icmpYes X29.here hx rfl (pc0 := 104) (pc' := 113) rfl (hb hby d6_104) rfl (flt hc104).2.2.2 (by decide) (by decide) ?_
                      show Steps p.tables e below (T29.setTop (mkF m 113 #[.val (.ref a0), .val (.int p1), .val (.long q2), .second] [])) _
                      exact X29.returnOut hx Bd.returns (hb hby d6_113) hr
                    · show Q6K Z a0 p1 q2 th xt sc us xs es ss bb pq pb pd h0 n0 _ T29.heap _
                      unfold Q6K
                      refine ⟨rfl, N29, kp31, po29_0, ?_, ?_, ?_, ?_, ?_, ?_, ?_, ?_, ?_, ?_, ?_, ?_, ?_⟩
                      · exact po29_1
                      · exact po29_2
                      · exact po29_3
                      · rw [show (own_p6K_seconds p1 sc) = (((((((((((((((sc + (1 : Int64))) + (1 : Int64))) + (1 : Int64))) + (1 : Int64))) + (1 : Int64))) + (1 : Int64))) + (1 : Int64))) + (1 : Int64)) from (by simp only [own_p6K_seconds, if_pos hc1, if_pos hc12, if_pos hc23, if_pos hc34, if_pos hc45, if_pos hc56, if_pos hc68, if_pos hc80, if_neg hc92])]; exact po29_4
                      · exact po29_5
                      · exact po29_6
                      · exact po29_7
                      · exact po29_8
                      · exact po29_9
                      · rw [show (own_p6K_pending p1) = (8 : Int64) from (by simp only [own_p6K_pending, if_pos hc1, if_pos hc12, if_pos hc23, if_pos hc34, if_pos hc45, if_pos hc56, if_pos hc68, if_pos hc80, if_neg hc92])]; exact po29_10
                      · exact po29_11
                      · exact po29_12
                      · exact po29_13
                · have hc92 : ¬ ((8 : Int32) < p1) := own_up hc80 (by decide)
                  have hc104 : ¬ ((9 : Int32) < p1) := hk
                  obtain ⟨fs, hr, hrun, hended, hW, hsame⟩ := X25.leave (v := none) (fun _ => rfl)
                  refine ⟨_, _, pre28 _ ?_, hrun, hended, _, _, rfl, ?_, ⟨_, rfl⟩, hW, hsame.mono (by decide) (by decide)⟩
                  · show Steps p.tables e below (T25.setTop (mkF m 80 #[.val (.ref a0), .val (.int p1), .val (.long q2), .second] [(.int (7 : Int32)), (.int p1)])) _
                    refine XS.icmpYes X25.here hx rfl (pc0 := 80) (pc' := 89) rfl (hb hby d6_80) rfl (flt hc80).2.2.2 (by decide) (by decide) ?_
                    show Steps p.tables e below (T25.setTop (mkF m 89 #[.val (.ref a0), .val (.int p1), .val (.long q2), .second] [])) _
                    refine XS.iloadN X25.here hx rfl (hb hby d6_89) rfl ?_
                    show Steps p.tables e below (T25.setTop (mkF m 90 #[.val (.ref a0), .val (.int p1), .val (.long q2), .second] [(.int p1)])) _
                    refine XS.bipush X25.here hx rfl (hb hby d6_90) ?_
                    show Steps p.tables e below (T25.setTop (mkF m 92 #[.val (.ref a0), .val (.int p1), .val (.long q2), .second] [(.int (8 : Int32)), (.int p1)])) _
                    refine XS.icmpYes X25.here hx rfl (pc0 := 92) (pc' := 101) rfl (hb hby d6_92) rfl (flt hc92).2.2.2 (by decide) (by decide) ?_
                    show Steps p.tables e below (T25.setTop (mkF m 101 #[.val (.ref a0), .val (.int p1), .val (.long q2), .second] [])) _
                    refine XS.iloadN X25.here hx rfl (hb hby d6_101) rfl ?_
                    show Steps p.tables e below (T25.setTop (mkF m 102 #[.val (.ref a0), .val (.int p1), .val (.long q2), .second] [(.int p1)])) _
                    refine XS.bipush X25.here hx rfl (hb hby d6_102) ?_
                    show Steps p.tables e below (T25.setTop (mkF m 104 #[.val (.ref a0), .val (.int p1), .val (.long q2), .second] [(.int (9 : Int32)), (.int p1)])) _
                    refine XS.icmpYes X25.here hx rfl (pc0 := 104) (pc' := 113) rfl (hb hby d6_104) rfl (flt hc104).2.2.2 (by decide) (by decide) ?_
                    show Steps p.tables e below (T25.setTop (mkF m 113 #[.val (.ref a0), .val (.int p1), .val (.long q2), .second] [])) _
                    exact X25.returnOut hx Bd.returns (hb hby d6_113) hr
                  · show Q6K Z a0 p1 q2 th xt sc us xs es ss bb pq pb pd h0 n0 _ T25.heap _
                    unfold Q6K
                    refine ⟨rfl, N25, kp27, po25_0, ?_, ?_, ?_, ?_, ?_, ?_, ?_, ?_, ?_, ?_, ?_, ?_, ?_⟩
                    · exact po25_1
                    · exact po25_2
                    · exact po25_3
                    · rw [show (own_p6K_seconds p1 sc) = (((((((((((((sc + (1 : Int64))) + (1 : Int64))) + (1 : Int64))) + (1 : Int64))) + (1 : Int64))) + (1 : Int64))) + (1 : Int64)) from (by simp only [own_p6K_seconds, if_pos hc1, if_pos hc12, if_pos hc23, if_pos hc34, if_pos hc45, if_pos hc56, if_pos hc68, if_neg hc80])]; exact po25_4
                    · exact po25_5
                    · exact po25_6
                    · exact po25_7
                    · exact po25_8
                    · exact po25_9
                    · rw [show (own_p6K_pending p1) = (7 : Int64) from (by simp only [own_p6K_pending, if_pos hc1, if_pos hc12, if_pos hc23, if_pos hc34, if_pos hc45, if_pos hc56, if_pos hc68, if_neg hc80])]; exact po25_10
                    · exact po25_11
                    · exact po25_12
                    · exact po25_13
              · have hc80 : ¬ ((7 : Int32) < p1) := own_up hc68 (by decide)
                have hc92 : ¬ ((8 : Int32) < p1) := own_up hc68 (by decide)
                have hc104 : ¬ ((9 : Int32) < p1) := hk
                obtain ⟨fs, hr, hrun, hended, hW, hsame⟩ := X21.leave (v := none) (fun _ => rfl)
                refine ⟨_, _, pre24 _ ?_, hrun, hended, _, _, rfl, ?_, ⟨_, rfl⟩, hW, hsame.mono (by decide) (by decide)⟩
                · show Steps p.tables e below (T21.setTop (mkF m 68 #[.val (.ref a0), .val (.int p1), .val (.long q2), .second] [(.int (6 : Int32)), (.int p1)])) _
                  refine XS.icmpYes X21.here hx rfl (pc0 := 68) (pc' := 77) rfl (hb hby d6_68) rfl (flt hc68).2.2.2 (by decide) (by decide) ?_
                  show Steps p.tables e below (T21.setTop (mkF m 77 #[.val (.ref a0), .val (.int p1), .val (.long q2), .second] [])) _
                  refine XS.iloadN X21.here hx rfl (hb hby d6_77) rfl ?_
                  show Steps p.tables e below (T21.setTop (mkF m 78 #[.val (.ref a0), .val (.int p1), .val (.long q2), .second] [(.int p1)])) _
                  refine XS.bipush X21.here hx rfl (hb hby d6_78) ?_
                  show Steps p.tables e below (T21.setTop (mkF m 80 #[.val (.ref a0), .val (.int p1), .val (.long q2), .second] [(.int (7 : Int32)), (.int p1)])) _
                  refine XS.icmpYes X21.here hx rfl (pc0 := 80) (pc' := 89) rfl (hb hby d6_80) rfl (flt hc80).2.2.2 (by decide) (by decide) ?_
                  show Steps p.tables e below (T21.setTop (mkF m 89 #[.val (.ref a0), .val (.int p1), .val (.long q2), .second] [])) _
                  refine XS.iloadN X21.here hx rfl (hb hby d6_89) rfl ?_
                  show Steps p.tables e below (T21.setTop (mkF m 90 #[.val (.ref a0), .val (.int p1), .val (.long q2), .second] [(.int p1)])) _
                  refine XS.bipush X21.here hx rfl (hb hby d6_90) ?_
                  show Steps p.tables e below (T21.setTop (mkF m 92 #[.val (.ref a0), .val (.int p1), .val (.long q2), .second] [(.int (8 : Int32)), (.int p1)])) _
                  refine XS.icmpYes X21.here hx rfl (pc0 := 92) (pc' := 101) rfl (hb hby d6_92) rfl (flt hc92).2.2.2 (by decide) (by decide) ?_
                  show Steps p.tables e below (T21.setTop (mkF m 101 #[.val (.ref a0), .val (.int p1), .val (.long q2), .second] [])) _
                  refine XS.iloadN X21.here hx rfl (hb hby d6_101) rfl ?_
                  show Steps p.tables e below (T21.setTop (mkF m 102 #[.val (.ref a0), .val (.int p1), .val (.long q2), .second] [(.int p1)])) _
                  refine XS.bipush X21.here hx rfl (hb hby d6_102) ?_
                  show Steps p.tables e below (T21.setTop (mkF m 104 #[.val (.ref a0), .val (.int p1), .val (.long q2), .second] [(.int (9 : Int32)), (.int p1)])) _
                  refine XS.icmpYes X21.here hx rfl (pc0 := 104) (pc' := 113) rfl (hb hby d6_104) rfl (flt hc104).2.2.2 (by decide) (by decide) ?_
                  show Steps p.tables e below (T21.setTop (mkF m 113 #[.val (.ref a0), .val (.int p1), .val (.long q2), .second] [])) _
                  exact X21.returnOut hx Bd.returns (hb hby d6_113) hr
                · show Q6K Z a0 p1 q2 th xt sc us xs es ss bb pq pb pd h0 n0 _ T21.heap _
                  unfold Q6K
                  refine ⟨rfl, N21, kp23, po21_0, ?_, ?_, ?_, ?_, ?_, ?_, ?_, ?_, ?_, ?_, ?_, ?_, ?_⟩
                  · exact po21_1
                  · exact po21_2
                  · exact po21_3
                  · rw [show (own_p6K_seconds p1 sc) = (((((((((((sc + (1 : Int64))) + (1 : Int64))) + (1 : Int64))) + (1 : Int64))) + (1 : Int64))) + (1 : Int64)) from (by simp only [own_p6K_seconds, if_pos hc1, if_pos hc12, if_pos hc23, if_pos hc34, if_pos hc45, if_pos hc56, if_neg hc68])]; exact po21_4
                  · exact po21_5
                  · exact po21_6
                  · exact po21_7
                  · exact po21_8
                  · exact po21_9
                  · rw [show (own_p6K_pending p1) = (6 : Int64) from (by simp only [own_p6K_pending, if_pos hc1, if_pos hc12, if_pos hc23, if_pos hc34, if_pos hc45, if_pos hc56, if_neg hc68])]; exact po21_10
                  · exact po21_11
                  · exact po21_12
                  · exact po21_13
            · have hc68 : ¬ ((6 : Int32) < p1) := own_up hc56 (by decide)
              have hc80 : ¬ ((7 : Int32) < p1) := own_up hc56 (by decide)
              have hc92 : ¬ ((8 : Int32) < p1) := own_up hc56 (by decide)
              have hc104 : ¬ ((9 : Int32) < p1) := hk
              obtain ⟨fs, hr, hrun, hended, hW, hsame⟩ := X17.leave (v := none) (fun _ => rfl)
              refine ⟨_, _, pre20 _ ?_, hrun, hended, _, _, rfl, ?_, ⟨_, rfl⟩, hW, hsame.mono (by decide) (by decide)⟩
              · show Steps p.tables e below (T17.setTop (mkF m 56 #[.val (.ref a0), .val (.int p1), .val (.long q2), .second] [(.int (5 : Int32)), (.int p1)])) _
                refine XS.icmpYes X17.here hx rfl (pc0 := 56) (pc' := 65) rfl (hb hby d6_56) rfl (flt hc56).2.2.2 (by decide) (by decide) ?_
                show Steps p.tables e below (T17.setTop (mkF m 65 #[.val (.ref a0), .val (.int p1), .val (.long q2), .second] [])) _
                refine XS.iloadN X17.here hx rfl (hb hby d6_65) rfl ?_
                show Steps p.tables e below (T17.setTop (mkF m 66 #[.val (.ref a0), .val (.int p1), .val (.long q2), .second] [(.int p1)])) _
                refine XS.bipush X17.here hx rfl (hb hby d6_66) ?_
                show Steps p.tables e below (T17.setTop (mkF m 68 #[.val (.ref a0), .val (.int p1), .val (.long q2), .second] [(.int (6 : Int32)), (.int p1)])) _
                refine XS.icmpYes X17.here hx rfl (pc0 := 68) (pc' := 77) rfl (hb hby d6_68) rfl (flt hc68).2.2.2 (by decide) (by decide) ?_
                show Steps p.tables e below (T17.setTop (mkF m 77 #[.val (.ref a0), .val (.int p1), .val (.long q2), .second] [])) _
                refine XS.iloadN X17.here hx rfl (hb hby d6_77) rfl ?_
                show Steps p.tables e below (T17.setTop (mkF m 78 #[.val (.ref a0), .val (.int p1), .val (.long q2), .second] [(.int p1)])) _
                refine XS.bipush X17.here hx rfl (hb hby d6_78) ?_
                show Steps p.tables e below (T17.setTop (mkF m 80 #[.val (.ref a0), .val (.int p1), .val (.long q2), .second] [(.int (7 : Int32)), (.int p1)])) _
                refine XS.icmpYes X17.here hx rfl (pc0 := 80) (pc' := 89) rfl (hb hby d6_80) rfl (flt hc80).2.2.2 (by decide) (by decide) ?_
                show Steps p.tables e below (T17.setTop (mkF m 89 #[.val (.ref a0), .val (.int p1), .val (.long q2), .second] [])) _
                refine XS.iloadN X17.here hx rfl (hb hby d6_89) rfl ?_
                show Steps p.tables e below (T17.setTop (mkF m 90 #[.val (.ref a0), .val (.int p1), .val (.long q2), .second] [(.int p1)])) _
                refine XS.bipush X17.here hx rfl (hb hby d6_90) ?_
                show Steps p.tables e below (T17.setTop (mkF m 92 #[.val (.ref a0), .val (.int p1), .val (.long q2), .second] [(.int (8 : Int32)), (.int p1)])) _
                refine XS.icmpYes X17.here hx rfl (pc0 := 92) (pc' := 101) rfl (hb hby d6_92) rfl (flt hc92).2.2.2 (by decide) (by decide) ?_
                show Steps p.tables e below (T17.setTop (mkF m 101 #[.val (.ref a0), .val (.int p1), .val (.long q2), .second] [])) _
                refine XS.iloadN X17.here hx rfl (hb hby d6_101) rfl ?_
                show Steps p.tables e below (T17.setTop (mkF m 102 #[.val (.ref a0), .val (.int p1), .val (.long q2), .second] [(.int p1)])) _
                refine XS.bipush X17.here hx rfl (hb hby d6_102) ?_
                show Steps p.tables e below (T17.setTop (mkF m 104 #[.val (.ref a0), .val (.int p1), .val (.long q2), .second] [(.int (9 : Int32)), (.int p1)])) _
                refine XS.icmpYes X17.here hx rfl (pc0 := 104) (pc' := 113) rfl (hb hby d6_104) rfl (flt hc104).2.2.2 (by decide) (by decide) ?_
                show Steps p.tables e below (T17.setTop (mkF m 113 #[.val (.ref a0), .val (.int p1), .val (.long q2), .second] [])) _
                exact X17.returnOut hx Bd.returns (hb hby d6_113) hr
              · show Q6K Z a0 p1 q2 th xt sc us xs es ss bb pq pb pd h0 n0 _ T17.heap _
                unfold Q6K
                refine ⟨rfl, N17, kp19, po17_0, ?_, ?_, ?_, ?_, ?_, ?_, ?_, ?_, ?_, ?_, ?_, ?_, ?_⟩
                · exact po17_1
                · exact po17_2
                · exact po17_3
                · rw [show (own_p6K_seconds p1 sc) = (((((((((sc + (1 : Int64))) + (1 : Int64))) + (1 : Int64))) + (1 : Int64))) + (1 : Int64)) from (by simp only [own_p6K_seconds, if_pos hc1, if_pos hc12, if_pos hc23, if_pos hc34, if_pos hc45, if_neg hc56])]; exact po17_4
                · exact po17_5
                · exact po17_6
                · exact po17_7
                · exact po17_8
                · exact po17_9
                · rw [show (own_p6K_pending p1) = (5 : Int64) from (by simp only [own_p6K_pending, if_pos hc1, if_pos hc12, if_pos hc23, if_pos hc34, if_pos hc45, if_neg hc56])]; exact po17_10
                · exact po17_11
                · exact po17_12
                · exact po17_13
          · have hc56 : ¬ ((5 : Int32) < p1) := own_up hc45 (by decide)
            have hc68 : ¬ ((6 : Int32) < p1) := own_up hc45 (by decide)
            have hc80 : ¬ ((7 : Int32) < p1) := own_up hc45 (by decide)
            have hc92 : ¬ ((8 : Int32) < p1) := own_up hc45 (by decide)
            have hc104 : ¬ ((9 : Int32) < p1) := hk
            obtain ⟨fs, hr, hrun, hended, hW, hsame⟩ := X13.leave (v := none) (fun _ => rfl)
            refine ⟨_, _, pre16 _ ?_, hrun, hended, _, _, rfl, ?_, ⟨_, rfl⟩, hW, hsame.mono (by decide) (by decide)⟩
            · show Steps p.tables e below (T13.setTop (mkF m 45 #[.val (.ref a0), .val (.int p1), .val (.long q2), .second] [(.int (4 : Int32)), (.int p1)])) _
              refine XS.icmpYes X13.here hx rfl (pc0 := 45) (pc' := 54) rfl (hb hby d6_45) rfl (flt hc45).2.2.2 (by decide) (by decide) ?_
              show Steps p.tables e below (T13.setTop (mkF m 54 #[.val (.ref a0), .val (.int p1), .val (.long q2), .second] [])) _
              refine XS.iloadN X13.here hx rfl (hb hby d6_54) rfl ?_
              show Steps p.tables e below (T13.setTop (mkF m 55 #[.val (.ref a0), .val (.int p1), .val (.long q2), .second] [(.int p1)])) _
              refine XS.iconst X13.here hx rfl (hb hby d6_55) ?_
              show Steps p.tables e below (T13.setTop (mkF m 56 #[.val (.ref a0), .val (.int p1), .val (.long q2), .second] [(.int (5 : Int32)), (.int p1)])) _
              refine XS.icmpYes X13.here hx rfl (pc0 := 56) (pc' := 65) rfl (hb hby d6_56) rfl (flt hc56).2.2.2 (by decide) (by decide) ?_
              show Steps p.tables e below (T13.setTop (mkF m 65 #[.val (.ref a0), .val (.int p1), .val (.long q2), .second] [])) _
              refine XS.iloadN X13.here hx rfl (hb hby d6_65) rfl ?_
              show Steps p.tables e below (T13.setTop (mkF m 66 #[.val (.ref a0), .val (.int p1), .val (.long q2), .second] [(.int p1)])) _
              refine XS.bipush X13.here hx rfl (hb hby d6_66) ?_
              show Steps p.tables e below (T13.setTop (mkF m 68 #[.val (.ref a0), .val (.int p1), .val (.long q2), .second] [(.int (6 : Int32)), (.int p1)])) _
              refine XS.icmpYes X13.here hx rfl (pc0 := 68) (pc' := 77) rfl (hb hby d6_68) rfl (flt hc68).2.2.2 (by decide) (by decide) ?_
              show Steps p.tables e below (T13.setTop (mkF m 77 #[.val (.ref a0), .val (.int p1), .val (.long q2), .second] [])) _
              refine XS.iloadN X13.here hx rfl (hb hby d6_77) rfl ?_
              show Steps p.tables e below (T13.setTop (mkF m 78 #[.val (.ref a0), .val (.int p1), .val (.long q2), .second] [(.int p1)])) _
              refine XS.bipush X13.here hx rfl (hb hby d6_78) ?_
              show Steps p.tables e below (T13.setTop (mkF m 80 #[.val (.ref a0), .val (.int p1), .val (.long q2), .second] [(.int (7 : Int32)), (.int p1)])) _
              refine XS.icmpYes X13.here hx rfl (pc0 := 80) (pc' := 89) rfl (hb hby d6_80) rfl (flt hc80).2.2.2 (by decide) (by decide) ?_
              show Steps p.tables e below (T13.setTop (mkF m 89 #[.val (.ref a0), .val (.int p1), .val (.long q2), .second] [])) _
              refine XS.iloadN X13.here hx rfl (hb hby d6_89) rfl ?_
              show Steps p.tables e below (T13.setTop (mkF m 90 #[.val (.ref a0), .val (.int p1), .val (.long q2), .second] [(.int p1)])) _
              refine XS.bipush X13.here hx rfl (hb hby d6_90) ?_
              show Steps p.tables e below (T13.setTop (mkF m 92 #[.val (.ref a0), .val (.int p1), .val (.long q2), .second] [(.int (8 : Int32)), (.int p1)])) _
              refine XS.icmpYes X13.here hx rfl (pc0 := 92) (pc' := 101) rfl (hb hby d6_92) rfl (flt hc92).2.2.2 (by decide) (by decide) ?_
              show Steps p.tables e below (T13.setTop (mkF m 101 #[.val (.ref a0), .val (.int p1), .val (.long q2), .second] [])) _
              refine XS.iloadN X13.here hx rfl (hb hby d6_101) rfl ?_
              show Steps p.tables e below (T13.setTop (mkF m 102 #[.val (.ref a0), .val (.int p1), .val (.long q2), .second] [(.int p1)])) _
              refine XS.bipush X13.here hx rfl (hb hby d6_102) ?_
              show Steps p.tables e below (T13.setTop (mkF m 104 #[.val (.ref a0), .val (.int p1), .val (.long q2), .second] [(.int (9 : Int32)), (.int p1)])) _
              refine XS.icmpYes X13.here hx rfl (pc0 := 104) (pc' := 113) rfl (hb hby d6_104) rfl (flt hc104).2.2.2 (by decide) (by decide) ?_
              show Steps p.tables e below (T13.setTop (mkF m 113 #[.val (.ref a0), .val (.int p1), .val (.long q2), .second] [])) _
              exact X13.returnOut hx Bd.returns (hb hby d6_113) hr
            · show Q6K Z a0 p1 q2 th xt sc us xs es ss bb pq pb pd h0 n0 _ T13.heap _
              unfold Q6K
              refine ⟨rfl, N13, kp15, po13_0, ?_, ?_, ?_, ?_, ?_, ?_, ?_, ?_, ?_, ?_, ?_, ?_, ?_⟩
              · exact po13_1
              · exact po13_2
              · exact po13_3
              · rw [show (own_p6K_seconds p1 sc) = (((((((sc + (1 : Int64))) + (1 : Int64))) + (1 : Int64))) + (1 : Int64)) from (by simp only [own_p6K_seconds, if_pos hc1, if_pos hc12, if_pos hc23, if_pos hc34, if_neg hc45])]; exact po13_4
              · exact po13_5
              · exact po13_6
              · exact po13_7
              · exact po13_8
              · exact po13_9
              · rw [show (own_p6K_pending p1) = (4 : Int64) from (by simp only [own_p6K_pending, if_pos hc1, if_pos hc12, if_pos hc23, if_pos hc34, if_neg hc45])]; exact po13_10
              · exact po13_11
              · exact po13_12
              · exact po13_13
        · have hc45 : ¬ ((4 : Int32) < p1) := own_up hc34 (by decide)
          have hc56 : ¬ ((5 : Int32) < p1) := own_up hc34 (by decide)
          have hc68 : ¬ ((6 : Int32) < p1) := own_up hc34 (by decide)
          have hc80 : ¬ ((7 : Int32) < p1) := own_up hc34 (by decide)
          have hc92 : ¬ ((8 : Int32) < p1) := own_up hc34 (by decide)
          have hc104 : ¬ ((9 : Int32) < p1) := hk
          obtain ⟨fs, hr, hrun, hended, hW, hsame⟩ := X9.leave (v := none) (fun _ => rfl)
          refine ⟨_, _, pre12 _ ?_, hrun, hended, _, _, rfl, ?_, ⟨_, rfl⟩, hW, hsame.mono (by decide) (by decide)⟩
          · show Steps p.tables e below (T9.setTop (mkF m 34 #[.val (.ref a0), .val (.int p1), .val (.long q2), .second] [(.int (3 : Int32)), (.int p1)])) _
            refine XS.icmpYes X9.here hx rfl (pc0 := 34) (pc' := 43) rfl (hb hby d6_34) rfl (flt hc34).2.2.2 (by decide) (by decide) ?_
            show Steps p.tables e below (T9.setTop (mkF m 43 #[.val (.ref a0), .val (.int p1), .val (.long q2), .second] [])) _
            refine XS.iloadN X9.here hx rfl (hb hby d6_43) rfl ?_
            show Steps p.tables e below (T9.setTop (mkF m 44 #[.val (.ref a0), .val (.int p1), .val (.long q2), .second] [(.int p1)])) _
            refine XS.iconst X9.here hx rfl (hb hby d6_44) ?_
            show Steps p.tables e below (T9.setTop (mkF m 45 #[.val (.ref a0), .val (.int p1), .val (.long q2), .second] [(.int (4 : Int32)), (.int p1)])) _
            refine XS.icmpYes X9.here hx rfl (pc0 := 45) (pc' := 54) rfl (hb hby d6_45) rfl (flt hc45).2.2.2 (by decide) (by decide) ?_
            show Steps p.tables e below (T9.setTop (mkF m 54 #[.val (.ref a0), .val (.int p1), .val (.long q2), .second] [])) _
            refine XS.iloadN X9.here hx rfl (hb hby d6_54) rfl ?_
            show Steps p.tables e below (T9.setTop (mkF m 55 #[.val (.ref a0), .val (.int p1), .val (.long q2), .second] [(.int p1)])) _
            refine XS.iconst X9.here hx rfl (hb hby d6_55) ?_
            show Steps p.tables e below (T9.setTop (mkF m 56 #[.val (.ref a0), .val (.int p1), .val (.long q2), .second] [(.int (5 : Int32)), (.int p1)])) _
            refine XS.icmpYes X9.here hx rfl (pc0 := 56) (pc' := 65) rfl (hb hby d6_56) rfl (flt hc56).2.2.2 (by decide) (by decide) ?_
            show Steps p.tables e below (T9.setTop (mkF m 65 #[.val (.ref a0), .val (.int p1), .val (.long q2), .second] [])) _
            refine XS.iloadN X9.here hx rfl (hb hby d6_65) rfl ?_
            show Steps p.tables e below (T9.setTop (mkF m 66 #[.val (.ref a0), .val (.int p1), .val (.long q2), .second] [(.int p1)])) _
            refine XS.bipush X9.here hx rfl (hb hby d6_66) ?_
            show Steps p.tables e below (T9.setTop (mkF m 68 #[.val (.ref a0), .val (.int p1), .val (.long q2), .second] [(.int (6 : Int32)), (.int p1)])) _
            refine XS.icmpYes X9.here hx rfl (pc0 := 68) (pc' := 77) rfl (hb hby d6_68) rfl (flt hc68).2.2.2 (by decide) (by decide) ?_
            show Steps p.tables e below (T9.setTop (mkF m 77 #[.val (.ref a0), .val (.int p1), .val (.long q2), .second] [])) _
            refine XS.iloadN X9.here hx rfl (hb hby d6_77) rfl ?_
            show Steps p.tables e below (T9.setTop (mkF m 78 #[.val (.ref a0), .val (.int p1), .val (.long q2), .second] [(.int p1)])) _
            refine XS.bipush X9.here hx rfl (hb hby d6_78) ?_
            show Steps p.tables e below (T9.setTop (mkF m 80 #[.val (.ref a0), .val (.int p1), .val (.long q2), .second] [(.int (7 : Int32)), (.int p1)])) _
            refine XS.icmpYes X9.here hx rfl (pc0 := 80) (pc' := 89) rfl (hb hby d6_80) rfl (flt hc80).2.2.2 (by decide) (by decide) ?_
            show Steps p.tables e below (T9.setTop (mkF m 89 #[.val (.ref a0), .val (.int p1), .val (.long q2), .second] [])) _
            refine XS.iloadN X9.here hx rfl (hb hby d6_89) rfl ?_
            show Steps p.tables e below (T9.setTop (mkF m 90 #[.val (.ref a0), .val (.int p1), .val (.long q2), .second] [(.int p1)])) _
            refine XS.bipush X9.here hx rfl (hb hby d6_90) ?_
            show Steps p.tables e below (T9.setTop (mkF m 92 #[.val (.ref a0), .val (.int p1), .val (.long q2), .second] [(.int (8 : Int32)), (.int p1)])) _
            refine XS.icmpYes X9.here hx rfl (pc0 := 92) (pc' := 101) rfl (hb hby d6_92) rfl (flt hc92).2.2.2 (by decide) (by decide) ?_
            show Steps p.tables e below (T9.setTop (mkF m 101 #[.val (.ref a0), .val (.int p1), .val (.long q2), .second] [])) _
            refine XS.iloadN X9.here hx rfl (hb hby d6_101) rfl ?_
            show Steps p.tables e below (T9.setTop (mkF m 102 #[.val (.ref a0), .val (.int p1), .val (.long q2), .second] [(.int p1)])) _
            refine XS.bipush X9.here hx rfl (hb hby d6_102) ?_
            show Steps p.tables e below (T9.setTop (mkF m 104 #[.val (.ref a0), .val (.int p1), .val (.long q2), .second] [(.int (9 : Int32)), (.int p1)])) _
            refine XS.icmpYes X9.here hx rfl (pc0 := 104) (pc' := 113) rfl (hb hby d6_104) rfl (flt hc104).2.2.2 (by decide) (by decide) ?_
            show Steps p.tables e below (T9.setTop (mkF m 113 #[.val (.ref a0), .val (.int p1), .val (.long q2), .second] [])) _
            exact X9.returnOut hx Bd.returns (hb hby d6_113) hr
          · show Q6K Z a0 p1 q2 th xt sc us xs es ss bb pq pb pd h0 n0 _ T9.heap _
            unfold Q6K
            refine ⟨rfl, N9, kp11, po9_0, ?_, ?_, ?_, ?_, ?_, ?_, ?_, ?_, ?_, ?_, ?_, ?_, ?_⟩
            · exact po9_1
            · exact po9_2
            · exact po9_3
            · rw [show (own_p6K_seconds p1 sc) = (((((sc + (1 : Int64))) + (1 : Int64))) + (1 : Int64)) from (by simp only [own_p6K_seconds, if_pos hc1, if_pos hc12, if_pos hc23, if_neg hc34])]; exact po9_4
            · exact po9_5
            · exact po9_6
            · exact po9_7
            · exact po9_8
            · exact po9_9
            · rw [show (own_p6K_pending p1) = (3 : Int64) from (by simp only [own_p6K_pending, if_pos hc1, if_pos hc12, if_pos hc23, if_neg hc34])]; exact po9_10
            · exact po9_11
            · exact po9_12
            · exact po9_13
      · have hc34 : ¬ ((3 : Int32) < p1) := own_up hc23 (by decide)
        have hc45 : ¬ ((4 : Int32) < p1) := own_up hc23 (by decide)
        have hc56 : ¬ ((5 : Int32) < p1) := own_up hc23 (by decide)
        have hc68 : ¬ ((6 : Int32) < p1) := own_up hc23 (by decide)
        have hc80 : ¬ ((7 : Int32) < p1) := own_up hc23 (by decide)
        have hc92 : ¬ ((8 : Int32) < p1) := own_up hc23 (by decide)
        have hc104 : ¬ ((9 : Int32) < p1) := hk
        obtain ⟨fs, hr, hrun, hended, hW, hsame⟩ := X5.leave (v := none) (fun _ => rfl)
        refine ⟨_, _, pre8 _ ?_, hrun, hended, _, _, rfl, ?_, ⟨_, rfl⟩, hW, hsame.mono (by decide) (by decide)⟩
        · show Steps p.tables e below (T5.setTop (mkF m 23 #[.val (.ref a0), .val (.int p1), .val (.long q2), .second] [(.int (2 : Int32)), (.int p1)])) _
          refine XS.icmpYes X5.here hx rfl (pc0 := 23) (pc' := 32) rfl (hb hby d6_23) rfl (flt hc23).2.2.2 (by decide) (by decide) ?_
          show Steps p.tables e below (T5.setTop (mkF m 32 #[.val (.ref a0), .val (.int p1), .val (.long q2), .second] [])) _
          refine XS.iloadN X5.here hx rfl (hb hby d6_32) rfl ?_
          show Steps p.tables e below (T5.setTop (mkF m 33 #[.val (.ref a0), .val (.int p1), .val (.long q2), .second] [(.int p1)])) _
          refine XS.iconst X5.here hx rfl (hb hby d6_33) ?_
          show Steps p.tables e below (T5.setTop (mkF m 34 #[.val (.ref a0), .val (.int p1), .val (.long q2), .second] [(.int (3 : Int32)), (.int p1)])) _
          refine XS.icmpYes X5.here hx rfl (pc0 := 34) (pc' := 43) rfl (hb hby d6_34) rfl (flt hc34).2.2.2 (by decide) (by decide) ?_
          show Steps p.tables e below (T5.setTop (mkF m 43 #[.val (.ref a0), .val (.int p1), .val (.long q2), .second] [])) _
          refine XS.iloadN X5.here hx rfl (hb hby d6_43) rfl ?_
          show Steps p.tables e below (T5.setTop (mkF m 44 #[.val (.ref a0), .val (.int p1), .val (.long q2), .second] [(.int p1)])) _
          refine XS.iconst X5.here hx rfl (hb hby d6_44) ?_
          show Steps p.tables e below (T5.setTop (mkF m 45 #[.val (.ref a0), .val (.int p1), .val (.long q2), .second] [(.int (4 : Int32)), (.int p1)])) _
          refine XS.icmpYes X5.here hx rfl (pc0 := 45) (pc' := 54) rfl (hb hby d6_45) rfl (flt hc45).2.2.2 (by decide) (by decide) ?_
          show Steps p.tables e below (T5.setTop (mkF m 54 #[.val (.ref a0), .val (.int p1), .val (.long q2), .second] [])) _
          refine XS.iloadN X5.here hx rfl (hb hby d6_54) rfl ?_
          show Steps p.tables e below (T5.setTop (mkF m 55 #[.val (.ref a0), .val (.int p1), .val (.long q2), .second] [(.int p1)])) _
          refine XS.iconst X5.here hx rfl (hb hby d6_55) ?_
          show Steps p.tables e below (T5.setTop (mkF m 56 #[.val (.ref a0), .val (.int p1), .val (.long q2), .second] [(.int (5 : Int32)), (.int p1)])) _
          refine XS.icmpYes X5.here hx rfl (pc0 := 56) (pc' := 65) rfl (hb hby d6_56) rfl (flt hc56).2.2.2 (by decide) (by decide) ?_
          show Steps p.tables e below (T5.setTop (mkF m 65 #[.val (.ref a0), .val (.int p1), .val (.long q2), .second] [])) _
          refine XS.iloadN X5.here hx rfl (hb hby d6_65) rfl ?_
          show Steps p.tables e below (T5.setTop (mkF m 66 #[.val (.ref a0), .val (.int p1), .val (.long q2), .second] [(.int p1)])) _
          refine XS.bipush X5.here hx rfl (hb hby d6_66) ?_
          show Steps p.tables e below (T5.setTop (mkF m 68 #[.val (.ref a0), .val (.int p1), .val (.long q2), .second] [(.int (6 : Int32)), (.int p1)])) _
          refine XS.icmpYes X5.here hx rfl (pc0 := 68) (pc' := 77) rfl (hb hby d6_68) rfl (flt hc68).2.2.2 (by decide) (by decide) ?_
          show Steps p.tables e below (T5.setTop (mkF m 77 #[.val (.ref a0), .val (.int p1), .val (.long q2), .second] [])) _
          refine XS.iloadN X5.here hx rfl (hb hby d6_77) rfl ?_
          show Steps p.tables e below (T5.setTop (mkF m 78 #[.val (.ref a0), .val (.int p1), .val (.long q2), .second] [(.int p1)])) _
          refine XS.bipush X5.here hx rfl (hb hby d6_78) ?_
          show Steps p.tables e below (T5.setTop (mkF m 80 #[.val (.ref a0), .val (.int p1), .val (.long q2), .second] [(.int (7 : Int32)), (.int p1)])) _
          refine XS.icmpYes X5.here hx rfl (pc0 := 80) (pc' := 89) rfl (hb hby d6_80) rfl (flt hc80).2.2.2 (by decide) (by decide) ?_
          show Steps p.tables e below (T5.setTop (mkF m 89 #[.val (.ref a0), .val (.int p1), .val (.long q2), .second] [])) _
          refine XS.iloadN X5.here hx rfl (hb hby d6_89) rfl ?_
          show Steps p.tables e below (T5.setTop (mkF m 90 #[.val (.ref a0), .val (.int p1), .val (.long q2), .second] [(.int p1)])) _
          refine XS.bipush X5.here hx rfl (hb hby d6_90) ?_
          show Steps p.tables e below (T5.setTop (mkF m 92 #[.val (.ref a0), .val (.int p1), .val (.long q2), .second] [(.int (8 : Int32)), (.int p1)])) _
          refine XS.icmpYes X5.here hx rfl (pc0 := 92) (pc' := 101) rfl (hb hby d6_92) rfl (flt hc92).2.2.2 (by decide) (by decide) ?_
          show Steps p.tables e below (T5.setTop (mkF m 101 #[.val (.ref a0), .val (.int p1), .val (.long q2), .second] [])) _
          refine XS.iloadN X5.here hx rfl (hb hby d6_101) rfl ?_
          show Steps p.tables e below (T5.setTop (mkF m 102 #[.val (.ref a0), .val (.int p1), .val (.long q2), .second] [(.int p1)])) _
          refine XS.bipush X5.here hx rfl (hb hby d6_102) ?_
          show Steps p.tables e below (T5.setTop (mkF m 104 #[.val (.ref a0), .val (.int p1), .val (.long q2), .second] [(.int (9 : Int32)), (.int p1)])) _
          refine XS.icmpYes X5.here hx rfl (pc0 := 104) (pc' := 113) rfl (hb hby d6_104) rfl (flt hc104).2.2.2 (by decide) (by decide) ?_
          show Steps p.tables e below (T5.setTop (mkF m 113 #[.val (.ref a0), .val (.int p1), .val (.long q2), .second] [])) _
          exact X5.returnOut hx Bd.returns (hb hby d6_113) hr
        · show Q6K Z a0 p1 q2 th xt sc us xs es ss bb pq pb pd h0 n0 _ T5.heap _
          unfold Q6K
          refine ⟨rfl, N5, kp7, po5_0, ?_, ?_, ?_, ?_, ?_, ?_, ?_, ?_, ?_, ?_, ?_, ?_, ?_⟩
          · exact po5_1
          · exact po5_2
          · exact po5_3
          · rw [show (own_p6K_seconds p1 sc) = (((sc + (1 : Int64))) + (1 : Int64)) from (by simp only [own_p6K_seconds, if_pos hc1, if_pos hc12, if_neg hc23])]; exact po5_4
          · exact po5_5
          · exact po5_6
          · exact po5_7
          · exact po5_8
          · exact po5_9
          · rw [show (own_p6K_pending p1) = (2 : Int64) from (by simp only [own_p6K_pending, if_pos hc1, if_pos hc12, if_neg hc23])]; exact po5_10
          · exact po5_11
          · exact po5_12
          · exact po5_13
    · have hc23 : ¬ ((2 : Int32) < p1) := own_up hc12 (by decide)
      have hc34 : ¬ ((3 : Int32) < p1) := own_up hc12 (by decide)
      have hc45 : ¬ ((4 : Int32) < p1) := own_up hc12 (by decide)
      have hc56 : ¬ ((5 : Int32) < p1) := own_up hc12 (by decide)
      have hc68 : ¬ ((6 : Int32) < p1) := own_up hc12 (by decide)
      have hc80 : ¬ ((7 : Int32) < p1) := own_up hc12 (by decide)
      have hc92 : ¬ ((8 : Int32) < p1) := own_up hc12 (by decide)
      have hc104 : ¬ ((9 : Int32) < p1) := hk
      obtain ⟨fs, hr, hrun, hended, hW, hsame⟩ := X2.leave (v := none) (fun _ => rfl)
      refine ⟨_, _, pre4 _ ?_, hrun, hended, _, _, rfl, ?_, ⟨_, rfl⟩, hW, hsame.mono (by decide) (by decide)⟩
      · show Steps p.tables e below (T2.setTop (mkF m 12 #[.val (.ref a0), .val (.int p1), .val (.long q2), .second] [(.int (1 : Int32)), (.int p1)])) _
        refine XS.icmpYes X2.here hx rfl (pc0 := 12) (pc' := 21) rfl (hb hby d6_12) rfl (flt hc12).2.2.2 (by decide) (by decide) ?_
        show Steps p.tables e below (T2.setTop (mkF m 21 #[.val (.ref a0), .val (.int p1), .val (.long q2), .second] [])) _
        refine XS.iloadN X2.here hx rfl (hb hby d6_21) rfl ?_
        show Steps p.tables e below (T2.setTop (mkF m 22 #[.val (.ref a0), .val (.int p1), .val (.long q2), .second] [(.int p1)])) _
        refine XS.iconst X2.here hx rfl (hb hby d6_22) ?_
        show Steps p.tables e below (T2.setTop (mkF m 23 #[.val (.ref a0), .val (.int p1), .val (.long q2), .second] [(.int (2 : Int32)), (.int p1)])) _
        refine XS.icmpYes X2.here hx rfl (pc0 := 23) (pc' := 32) rfl (hb hby d6_23) rfl (flt hc23).2.2.2 (by decide) (by decide) ?_
        show Steps p.tables e below (T2.setTop (mkF m 32 #[.val (.ref a0), .val (.int p1), .val (.long q2), .second] [])) _
        refine XS.iloadN X2.here hx rfl (hb hby d6_32) rfl ?_
        show Steps p.tables e below (T2.setTop (mkF m 33 #[.val (.ref a0), .val (.int p1), .val (.long q2), .second] [(.int p1)])) _
        refine XS.iconst X2.here hx rfl (hb hby d6_33) ?_
        show Steps p.tables e below (T2.setTop (mkF m 34 #[.val (.ref a0), .val (.int p1), .val (.long q2), .second] [(.int (3 : Int32)), (.int p1)])) _
        refine XS.icmpYes X2.here hx rfl (pc0 := 34) (pc' := 43) rfl (hb hby d6_34) rfl (flt hc34).2.2.2 (by decide) (by decide) ?_
        show Steps p.tables e below (T2.setTop (mkF m 43 #[.val (.ref a0), .val (.int p1), .val (.long q2), .second] [])) _
        refine XS.iloadN X2.here hx rfl (hb hby d6_43) rfl ?_
        show Steps p.tables e below (T2.setTop (mkF m 44 #[.val (.ref a0), .val (.int p1), .val (.long q2), .second] [(.int p1)])) _
        refine XS.iconst X2.here hx rfl (hb hby d6_44) ?_
        show Steps p.tables e below (T2.setTop (mkF m 45 #[.val (.ref a0), .val (.int p1), .val (.long q2), .second] [(.int (4 : Int32)), (.int p1)])) _
        refine XS.icmpYes X2.here hx rfl (pc0 := 45) (pc' := 54) rfl (hb hby d6_45) rfl (flt hc45).2.2.2 (by decide) (by decide) ?_
        show Steps p.tables e below (T2.setTop (mkF m 54 #[.val (.ref a0), .val (.int p1), .val (.long q2), .second] [])) _
        refine XS.iloadN X2.here hx rfl (hb hby d6_54) rfl ?_
        show Steps p.tables e below (T2.setTop (mkF m 55 #[.val (.ref a0), .val (.int p1), .val (.long q2), .second] [(.int p1)])) _
        refine XS.iconst X2.here hx rfl (hb hby d6_55) ?_
        show Steps p.tables e below (T2.setTop (mkF m 56 #[.val (.ref a0), .val (.int p1), .val (.long q2), .second] [(.int (5 : Int32)), (.int p1)])) _
        refine XS.icmpYes X2.here hx rfl (pc0 := 56) (pc' := 65) rfl (hb hby d6_56) rfl (flt hc56).2.2.2 (by decide) (by decide) ?_
        show Steps p.tables e below (T2.setTop (mkF m 65 #[.val (.ref a0), .val (.int p1), .val (.long q2), .second] [])) _
        refine XS.iloadN X2.here hx rfl (hb hby d6_65) rfl ?_
        show Steps p.tables e below (T2.setTop (mkF m 66 #[.val (.ref a0), .val (.int p1), .val (.long q2), .second] [(.int p1)])) _
        refine XS.bipush X2.here hx rfl (hb hby d6_66) ?_
        show Steps p.tables e below (T2.setTop (mkF m 68 #[.val (.ref a0), .val (.int p1), .val (.long q2), .second] [(.int (6 : Int32)), (.int p1)])) _
        refine XS.icmpYes X2.here hx rfl (pc0 := 68) (pc' := 77) rfl (hb hby d6_68) rfl (flt hc68).2.2.2 (by decide) (by decide) ?_
        show Steps p.tables e below (T2.setTop (mkF m 77 #[.val (.ref a0), .val (.int p1), .val (.long q2), .second] [])) _
        refine XS.iloadN X2.here hx rfl (hb hby d6_77) rfl ?_
        show Steps p.tables e below (T2.setTop (mkF m 78 #[.val (.ref a0), .val (.int p1), .val (.long q2), .second] [(.int p1)])) _
        refine XS.bipush X2.here hx rfl (hb hby d6_78) ?_
        show Steps p.tables e below (T2.setTop (mkF m 80 #[.val (.ref a0), .val (.int p1), .val (.long q2), .second] [(.int (7 : Int32)), (.int p1)])) _
        refine XS.icmpYes X2.here hx rfl (pc0 := 80) (pc' := 89) rfl (hb hby d6_80) rfl (flt hc80).2.2.2 (by decide) (by decide) ?_
        show Steps p.tables e below (T2.setTop (mkF m 89 #[.val (.ref a0), .val (.int p1), .val (.long q2), .second] [])) _
        refine XS.iloadN X2.here hx rfl (hb hby d6_89) rfl ?_
        show Steps p.tables e below (T2.setTop (mkF m 90 #[.val (.ref a0), .val (.int p1), .val (.long q2), .second] [(.int p1)])) _
        refine XS.bipush X2.here hx rfl (hb hby d6_90) ?_
        show Steps p.tables e below (T2.setTop (mkF m 92 #[.val (.ref a0), .val (.int p1), .val (.long q2), .second] [(.int (8 : Int32)), (.int p1)])) _
        refine XS.icmpYes X2.here hx rfl (pc0 := 92) (pc' := 101) rfl (hb hby d6_92) rfl (flt hc92).2.2.2 (by decide) (by decide) ?_
        show Steps p.tables e below (T2.setTop (mkF m 101 #[.val (.ref a0), .val (.int p1), .val (.long q2), .second] [])) _
        refine XS.iloadN X2.here hx rfl (hb hby d6_101) rfl ?_
        show Steps p.tables e below (T2.setTop (mkF m 102 #[.val (.ref a0), .val (.int p1), .val (.long q2), .second] [(.int p1)])) _
        refine XS.bipush X2.here hx rfl (hb hby d6_102) ?_
        show Steps p.tables e below (T2.setTop (mkF m 104 #[.val (.ref a0), .val (.int p1), .val (.long q2), .second] [(.int (9 : Int32)), (.int p1)])) _
        refine XS.icmpYes X2.here hx rfl (pc0 := 104) (pc' := 113) rfl (hb hby d6_104) rfl (flt hc104).2.2.2 (by decide) (by decide) ?_
        show Steps p.tables e below (T2.setTop (mkF m 113 #[.val (.ref a0), .val (.int p1), .val (.long q2), .second] [])) _
        exact X2.returnOut hx Bd.returns (hb hby d6_113) hr
      · show Q6K Z a0 p1 q2 th xt sc us xs es ss bb pq pb pd h0 n0 _ T2.heap _
        unfold Q6K
        refine ⟨rfl, N2, kp3, po2_0, ?_, ?_, ?_, ?_, ?_, ?_, ?_, ?_, ?_, ?_, ?_, ?_, ?_⟩
        · exact po2_1
        · exact po2_2
        · exact po2_3
        · rw [show (own_p6K_seconds p1 sc) = (sc + (1 : Int64)) from (by simp only [own_p6K_seconds, if_pos hc1, if_neg hc12])]; exact po2_4
        · exact po2_5
        · exact po2_6
        · exact po2_7
        · exact po2_8
        · exact po2_9
        · rw [show (own_p6K_pending p1) = (1 : Int64) from (by simp only [own_p6K_pending, if_pos hc1, if_neg hc12])]; exact po2_10
        · exact po2_11
        · exact po2_12
        · exact po2_13
  · have hc12 : ¬ ((1 : Int32) < p1) := own_up hc1 (by decide)
    have hc23 : ¬ ((2 : Int32) < p1) := own_up hc1 (by decide)
    have hc34 : ¬ ((3 : Int32) < p1) := own_up hc1 (by decide)
    have hc45 : ¬ ((4 : Int32) < p1) := own_up hc1 (by decide)
    have hc56 : ¬ ((5 : Int32) < p1) := own_up hc1 (by decide)
    have hc68 : ¬ ((6 : Int32) < p1) := own_up hc1 (by decide)
    have hc80 : ¬ ((7 : Int32) < p1) := own_up hc1 (by decide)
    have hc92 : ¬ ((8 : Int32) < p1) := own_up hc1 (by decide)
    have hc104 : ¬ ((9 : Int32) < p1) := hk
    obtain ⟨fs, hr, hrun, hended, hW, hsame⟩ := X0.leave (v := none) (fun _ => rfl)
    refine ⟨_, _, pre1 _ ?_, hrun, hended, _, _, rfl, ?_, ⟨_, rfl⟩, hW, hsame.mono (by decide) (by decide)⟩
    · show Steps p.tables e below (s₁.setTop (mkF m 1 #[.val (.ref a0), .val (.int p1), .val (.long q2), .second] [(.int p1)])) _
      refine XS.ifYes X0.here hx rfl (pc0 := 1) (pc' := 10) rfl (hb hby d6_1) rfl ((if0 _ _).trans (flt hc1).2.2.2) (by decide) (by decide) ?_
      show Steps p.tables e below (s₁.setTop (mkF m 10 #[.val (.ref a0), .val (.int p1), .val (.long q2), .second] [])) _
      refine XS.iloadN X0.here hx rfl (hb hby d6_10) rfl ?_
      show Steps p.tables e below (s₁.setTop (mkF m 11 #[.val (.ref a0), .val (.int p1), .val (.long q2), .second] [(.int p1)])) _
      refine XS.iconst X0.here hx rfl (hb hby d6_11) ?_
      show Steps p.tables e below (s₁.setTop (mkF m 12 #[.val (.ref a0), .val (.int p1), .val (.long q2), .second] [(.int (1 : Int32)), (.int p1)])) _
      refine XS.icmpYes X0.here hx rfl (pc0 := 12) (pc' := 21) rfl (hb hby d6_12) rfl (flt hc12).2.2.2 (by decide) (by decide) ?_
      show Steps p.tables e below (s₁.setTop (mkF m 21 #[.val (.ref a0), .val (.int p1), .val (.long q2), .second] [])) _
      refine XS.iloadN X0.here hx rfl (hb hby d6_21) rfl ?_
      show Steps p.tables e below (s₁.setTop (mkF m 22 #[.val (.ref a0), .val (.int p1), .val (.long q2), .second] [(.int p1)])) _
      refine XS.iconst X0.here hx rfl (hb hby d6_22) ?_
      show Steps p.tables e below (s₁.setTop (mkF m 23 #[.val (.ref a0), .val (.int p1), .val (.long q2), .second] [(.int (2 : Int32)), (.int p1)])) _
      refine XS.icmpYes X0.here hx rfl (pc0 := 23) (pc' := 32) rfl (hb hby d6_23) rfl (flt hc23).2.2.2 (by decide) (by decide) ?_
      show Steps p.tables e below (s₁.setTop (mkF m 32 #[.val (.ref a0), .val (.int p1), .val (.long q2), .second] [])) _
      refine XS.iloadN X0.here hx rfl (hb hby d6_32) rfl ?_
      show Steps p.tables e below (s₁.setTop (mkF m 33 #[.val (.ref a0), .val (.int p1), .val (.long q2), .second] [(.int p1)])) _
      refine XS.iconst X0.here hx rfl (hb hby d6_33) ?_
      show Steps p.tables e below (s₁.setTop (mkF m 34 #[.val (.ref a0), .val (.int p1), .val (.long q2), .second] [(.int (3 : Int32)), (.int p1)])) _
      refine XS.icmpYes X0.here hx rfl (pc0 := 34) (pc' := 43) rfl (hb hby d6_34) rfl (flt hc34).2.2.2 (by decide) (by decide) ?_
      show Steps p.tables e below (s₁.setTop (mkF m 43 #[.val (.ref a0), .val (.int p1), .val (.long q2), .second] [])) _
      refine XS.iloadN X0.here hx rfl (hb hby d6_43) rfl ?_
      show Steps p.tables e below (s₁.setTop (mkF m 44 #[.val (.ref a0), .val (.int p1), .val (.long q2), .second] [(.int p1)])) _
      refine XS.iconst X0.here hx rfl (hb hby d6_44) ?_
      show Steps p.tables e below (s₁.setTop (mkF m 45 #[.val (.ref a0), .val (.int p1), .val (.long q2), .second] [(.int (4 : Int32)), (.int p1)])) _
      refine XS.icmpYes X0.here hx rfl (pc0 := 45) (pc' := 54) rfl (hb hby d6_45) rfl (flt hc45).2.2.2 (by decide) (by decide) ?_
      show Steps p.tables e below (s₁.setTop (mkF m 54 #[.val (.ref a0), .val (.int p1), .val (.long q2), .second] [])) _
      refine XS.iloadN X0.here hx rfl (hb hby d6_54) rfl ?_
      show Steps p.tables e below (s₁.setTop (mkF m 55 #[.val (.ref a0), .val (.int p1), .val (.long q2), .second] [(.int p1)])) _
      refine XS.iconst X0.here hx rfl (hb hby d6_55) ?_
      show Steps p.tables e below (s₁.setTop (mkF m 56 #[.val (.ref a0), .val (.int p1), .val (.long q2), .second] [(.int (5 : Int32)), (.int p1)])) _
      refine XS.icmpYes X0.here hx rfl (pc0 := 56) (pc' := 65) rfl (hb hby d6_56) rfl (flt hc56).2.2.2 (by decide) (by decide) ?_
      show Steps p.tables e below (s₁.setTop (mkF m 65 #[.val (.ref a0), .val (.int p1), .val (.long q2), .second] [])) _
      refine XS.iloadN X0.here hx rfl (hb hby d6_65) rfl ?_
      show Steps p.tables e below (s₁.setTop (mkF m 66 #[.val (.ref a0), .val (.int p1), .val (.long q2), .second] [(.int p1)])) _
      refine XS.bipush X0.here hx rfl (hb hby d6_66) ?_
      show Steps p.tables e below (s₁.setTop (mkF m 68 #[.val (.ref a0), .val (.int p1), .val (.long q2), .second] [(.int (6 : Int32)), (.int p1)])) _
      refine XS.icmpYes X0.here hx rfl (pc0 := 68) (pc' := 77) rfl (hb hby d6_68) rfl (flt hc68).2.2.2 (by decide) (by decide) ?_
      show Steps p.tables e below (s₁.setTop (mkF m 77 #[.val (.ref a0), .val (.int p1), .val (.long q2), .second] [])) _
      refine XS.iloadN X0.here hx rfl (hb hby d6_77) rfl ?_
      show Steps p.tables e below (s₁.setTop (mkF m 78 #[.val (.ref a0), .val (.int p1), .val (.long q2), .second] [(.int p1)])) _
      refine XS.bipush X0.here hx rfl (hb hby d6_78) ?_
      show Steps p.tables e below (s₁.setTop (mkF m 80 #[.val (.ref a0), .val (.int p1), .val (.long q2), .second] [(.int (7 : Int32)), (.int p1)])) _
      refine XS.icmpYes X0.here hx rfl (pc0 := 80) (pc' := 89) rfl (hb hby d6_80) rfl (flt hc80).2.2.2 (by decide) (by decide) ?_
      show Steps p.tables e below (s₁.setTop (mkF m 89 #[.val (.ref a0), .val (.int p1), .val (.long q2), .second] [])) _
      refine XS.iloadN X0.here hx rfl (hb hby d6_89) rfl ?_
      show Steps p.tables e below (s₁.setTop (mkF m 90 #[.val (.ref a0), .val (.int p1), .val (.long q2), .second] [(.int p1)])) _
      refine XS.bipush X0.here hx rfl (hb hby d6_90) ?_
      show Steps p.tables e below (s₁.setTop (mkF m 92 #[.val (.ref a0), .val (.int p1), .val (.long q2), .second] [(.int (8 : Int32)), (.int p1)])) _
      refine XS.icmpYes X0.here hx rfl (pc0 := 92) (pc' := 101) rfl (hb hby d6_92) rfl (flt hc92).2.2.2 (by decide) (by decide) ?_
      show Steps p.tables e below (s₁.setTop (mkF m 101 #[.val (.ref a0), .val (.int p1), .val (.long q2), .second] [])) _
      refine XS.iloadN X0.here hx rfl (hb hby d6_101) rfl ?_
      show Steps p.tables e below (s₁.setTop (mkF m 102 #[.val (.ref a0), .val (.int p1), .val (.long q2), .second] [(.int p1)])) _
      refine XS.bipush X0.here hx rfl (hb hby d6_102) ?_
      show Steps p.tables e below (s₁.setTop (mkF m 104 #[.val (.ref a0), .val (.int p1), .val (.long q2), .second] [(.int (9 : Int32)), (.int p1)])) _
      refine XS.icmpYes X0.here hx rfl (pc0 := 104) (pc' := 113) rfl (hb hby d6_104) rfl (flt hc104).2.2.2 (by decide) (by decide) ?_
      show Steps p.tables e below (s₁.setTop (mkF m 113 #[.val (.ref a0), .val (.int p1), .val (.long q2), .second] [])) _
      exact X0.returnOut hx Bd.returns (hb hby d6_113) hr
    · show Q6K Z a0 p1 q2 th xt sc us xs es ss bb pq pb pd h0 n0 _ s₁.heap _
      rw [e0]
      unfold Q6K
      refine ⟨rfl, N0, (Keep.refl h0 [a0]), E_a0, ?_, ?_, ?_, ?_, ?_, ?_, ?_, ?_, ?_, ?_, ?_, ?_, ?_⟩
      · exact F_a0_available
      · exact F_a0_sesErroredBlocks
      · exact F_a0_extendingPeriodSeconds
      · rw [show (own_p6K_seconds p1 sc) = sc from (by simp only [own_p6K_seconds, if_neg hc1])]; exact F_a0_seconds
      · exact F_a0_unavailableSeconds
      · exact F_a0_extendingSeconds
      · exact F_a0_erroredSeconds
      · exact F_a0_severelyErroredSeconds
      · exact F_a0_backgroundBlockErrors
      · rw [show (own_p6K_pending p1) = (0 : Int64) from (by simp only [own_p6K_pending, if_neg hc1])]; exact F_a0_pending
      · exact F_a0_pendingErrored
      · exact F_a0_pendingBlocks
      · exact F_a0_period
theorem own_cl8 {q : Int64} (h : ¬ (8 : Int64) < q) : ¬ (8 : Int64) < own_f8 q (10 : Int64) := by
  unfold own_f8
  have e : (10 : Int64).toInt = 10 := rfl
  have e8 : (8 : Int64).toInt = 8 := rfl
  rw [Int64.lt_iff_toInt_lt] at h
  split
  · rename_i h2; rw [Int64.lt_iff_toInt_lt] at h2; omega
  · rw [Int64.lt_iff_toInt_lt]; omega

theorem d7_0 : decode prog_5_method_3_code 0 = .ok (.lload_n 1, 1) := by decide +kernel
theorem d7_1 : decode prog_5_method_3_code 1 = .ok (.ldc2_w 26, 3) := by decide +kernel
theorem d7_4 : decode prog_5_method_3_code 4 = .ok (.invokestatic 52, 3) := by decide +kernel
theorem d7_7 : decode prog_5_method_3_code 7 = .ok (.lstore_n 3, 1) := by decide +kernel
theorem d7_8 : decode prog_5_method_3_code 8 = .ok (.lconst 0, 1) := by decide +kernel
theorem d7_9 : decode prog_5_method_3_code 9 = .ok (.lstore 5, 2) := by decide +kernel
theorem d7_11 : decode prog_5_method_3_code 11 = .ok (.lload 5, 2) := by decide +kernel
theorem d7_13 : decode prog_5_method_3_code 13 = .ok (.lload_n 3, 1) := by decide +kernel
theorem d7_14 : decode prog_5_method_3_code 14 = .ok (.lcmp, 1) := by decide +kernel
theorem d7_15 : decode prog_5_method_3_code 15 = .ok (.ifCond .ge 18, 3) := by decide +kernel
theorem d7_18 : decode prog_5_method_3_code 18 = .ok (.aload_n 0, 1) := by decide +kernel
theorem d7_19 : decode prog_5_method_3_code 19 = .ok (.lconst 0, 1) := by decide +kernel
theorem d7_20 : decode prog_5_method_3_code 20 = .ok (.iconst 0, 1) := by decide +kernel
theorem d7_21 : decode prog_5_method_3_code 21 = .ok (.invokevirtual 58, 3) := by decide +kernel
theorem d7_24 : decode prog_5_method_3_code 24 = .ok (.lload 5, 2) := by decide +kernel
theorem d7_26 : decode prog_5_method_3_code 26 = .ok (.lconst 1, 1) := by decide +kernel
theorem d7_27 : decode prog_5_method_3_code 27 = .ok (.ladd, 1) := by decide +kernel
theorem d7_28 : decode prog_5_method_3_code 28 = .ok (.lstore 5, 2) := by decide +kernel
theorem d7_30 : decode prog_5_method_3_code 30 = .ok (.goto (-19), 3) := by decide +kernel
theorem d7_33 : decode prog_5_method_3_code 33 = .ok (.aload_n 0, 1) := by decide +kernel
theorem d7_34 : decode prog_5_method_3_code 34 = .ok (.dup, 1) := by decide +kernel
theorem d7_35 : decode prog_5_method_3_code 35 = .ok (.getfield 20, 3) := by decide +kernel
theorem d7_38 : decode prog_5_method_3_code 38 = .ok (.lload_n 1, 1) := by decide +kernel
theorem d7_39 : decode prog_5_method_3_code 39 = .ok (.lload_n 3, 1) := by decide +kernel
theorem d7_40 : decode prog_5_method_3_code 40 = .ok (.lsub, 1) := by decide +kernel
theorem d7_41 : decode prog_5_method_3_code 41 = .ok (.ladd, 1) := by decide +kernel
theorem d7_42 : decode prog_5_method_3_code 42 = .ok (.putfield 20, 3) := by decide +kernel
theorem d7_45 : decode prog_5_method_3_code 45 = .ok (.return_, 1) := by decide +kernel
theorem pd_2 : parseMethodDescriptor "(JJ)J" = some ⟨[.long, .long], some .long⟩ := by decide +kernel
theorem ef_7 (m : MethodId) (a0 : Addr) (q1 : Int64) : entryFrame m #[(.ref a0), (.long q1)] 7 = mkF m 0 #[.val (.ref a0), .val (.long q1), .second, .unset, .unset, .unset, .unset] [] := by first | (simp [entryFrame, mkF, argsToLocals, Value.category]; done) | rfl
def own_p7_seconds (q1 : Int64) (sc : Int64) : Int64 := (if (0 : Int64) < ((own_f8 q1 ((10 : Int64)))) then (if (1 : Int64) < ((own_f8 q1 ((10 : Int64)))) then (if (2 : Int64) < ((own_f8 q1 ((10 : Int64)))) then (if (3 : Int64) < ((own_f8 q1 ((10 : Int64)))) then (if (4 : Int64) < ((own_f8 q1 ((10 : Int64)))) then (if (5 : Int64) < ((own_f8 q1 ((10 : Int64)))) then (if (6 : Int64) < ((own_f8 q1 ((10 : Int64)))) then (if (7 : Int64) < ((own_f8 q1 ((10 : Int64)))) then ((((((((((((((((sc + (1 : Int64))) + (1 : Int64))) + (1 : Int64))) + (1 : Int64))) + (1 : Int64))) + (1 : Int64))) + (1 : Int64))) + (1 : Int64)) + (q1 - ((own_f8 q1 ((10 : Int64)))))) else ((((((((((((((sc + (1 : Int64))) + (1 : Int64))) + (1 : Int64))) + (1 : Int64))) + (1 : Int64))) + (1 : Int64))) + (1 : Int64)) + (q1 - ((own_f8 q1 ((10 : Int64))))))) else ((((((((((((sc + (1 : Int64))) + (1 : Int64))) + (1 : Int64))) + (1 : Int64))) + (1 : Int64))) + (1 : Int64)) + (q1 - ((own_f8 q1 ((10 : Int64))))))) else ((((((((((sc + (1 : Int64))) + (1 : Int64))) + (1 : Int64))) + (1 : Int64))) + (1 : Int64)) + (q1 - ((own_f8 q1 ((10 : Int64))))))) else ((((((((sc + (1 : Int64))) + (1 : Int64))) + (1 : Int64))) + (1 : Int64)) + (q1 - ((own_f8 q1 ((10 : Int64))))))) else ((((((sc + (1 : Int64))) + (1 : Int64))) + (1 : Int64)) + (q1 - ((own_f8 q1 ((10 : Int64))))))) else ((((sc + (1 : Int64))) + (1 : Int64)) + (q1 - ((own_f8 q1 ((10 : Int64))))))) else ((sc + (1 : Int64)) + (q1 - ((own_f8 q1 ((10 : Int64))))))) else (sc + (q1 - ((own_f8 q1 ((10 : Int64)))))))
def own_p7_pending (q1 : Int64) : Int64 := (if (0 : Int64) < ((own_f8 q1 ((10 : Int64)))) then (if (1 : Int64) < ((own_f8 q1 ((10 : Int64)))) then (if (2 : Int64) < ((own_f8 q1 ((10 : Int64)))) then (if (3 : Int64) < ((own_f8 q1 ((10 : Int64)))) then (if (4 : Int64) < ((own_f8 q1 ((10 : Int64)))) then (if (5 : Int64) < ((own_f8 q1 ((10 : Int64)))) then (if (6 : Int64) < ((own_f8 q1 ((10 : Int64)))) then (if (7 : Int64) < ((own_f8 q1 ((10 : Int64)))) then (9 : Int64) else (8 : Int64)) else (7 : Int64)) else (6 : Int64)) else (5 : Int64)) else (4 : Int64)) else (3 : Int64)) else (2 : Int64)) else (1 : Int64))
def own_p7_pendingErrored (q1 : Int64) (pq : Int64) : Int64 := (if (0 : Int64) < ((own_f8 q1 ((10 : Int64)))) then (if (1 : Int64) < ((own_f8 q1 ((10 : Int64)))) then (if (2 : Int64) < ((own_f8 q1 ((10 : Int64)))) then (if (3 : Int64) < ((own_f8 q1 ((10 : Int64)))) then (if (4 : Int64) < ((own_f8 q1 ((10 : Int64)))) then (if (5 : Int64) < ((own_f8 q1 ((10 : Int64)))) then (if (6 : Int64) < ((own_f8 q1 ((10 : Int64)))) then (if (7 : Int64) < ((own_f8 q1 ((10 : Int64)))) then (own_p4D_pendingErrored (0 : Int64) ((own_p4D_pendingErrored (0 : Int64) ((own_p4D_pendingErrored (0 : Int64) ((own_p4D_pendingErrored (0 : Int64) ((own_p4D_pendingErrored (0 : Int64) ((own_p4D_pendingErrored (0 : Int64) ((own_p4D_pendingErrored (0 : Int64) ((own_p4D_pendingErrored (0 : Int64) pq))))))))))))))) else (own_p4D_pendingErrored (0 : Int64) ((own_p4D_pendingErrored (0 : Int64) ((own_p4D_pendingErrored (0 : Int64) ((own_p4D_pendingErrored (0 : Int64) ((own_p4D_pendingErrored (0 : Int64) ((own_p4D_pendingErrored (0 : Int64) ((own_p4D_pendingErrored (0 : Int64) pq)))))))))))))) else (own_p4D_pendingErrored (0 : Int64) ((own_p4D_pendingErrored (0 : Int64) ((own_p4D_pendingErrored (0 : Int64) ((own_p4D_pendingErrored (0 : Int64) ((own_p4D_pendingErrored (0 : Int64) ((own_p4D_pendingErrored (0 : Int64) pq)))))))))))) else (own_p4D_pendingErrored (0 : Int64) ((own_p4D_pendingErrored (0 : Int64) ((own_p4D_pendingErrored (0 : Int64) ((own_p4D_pendingErrored (0 : Int64) ((own_p4D_pendingErrored (0 : Int64) pq)))))))))) else (own_p4D_pendingErrored (0 : Int64) ((own_p4D_pendingErrored (0 : Int64) ((own_p4D_pendingErrored (0 : Int64) ((own_p4D_pendingErrored (0 : Int64) pq)))))))) else (own_p4D_pendingErrored (0 : Int64) ((own_p4D_pendingErrored (0 : Int64) ((own_p4D_pendingErrored (0 : Int64) pq)))))) else (own_p4D_pendingErrored (0 : Int64) ((own_p4D_pendingErrored (0 : Int64) pq)))) else (own_p4D_pendingErrored (0 : Int64) pq)) else pq)
def own_p7_pendingBlocks (q1 : Int64) (pb : Int64) : Int64 := (if (0 : Int64) < ((own_f8 q1 ((10 : Int64)))) then (if (1 : Int64) < ((own_f8 q1 ((10 : Int64)))) then (if (2 : Int64) < ((own_f8 q1 ((10 : Int64)))) then (if (3 : Int64) < ((own_f8 q1 ((10 : Int64)))) then (if (4 : Int64) < ((own_f8 q1 ((10 : Int64)))) then (if (5 : Int64) < ((own_f8 q1 ((10 : Int64)))) then (if (6 : Int64) < ((own_f8 q1 ((10 : Int64)))) then (if (7 : Int64) < ((own_f8 q1 ((10 : Int64)))) then (own_p4D_pendingBlocks (0 : Int64) ((own_p4D_pendingBlocks (0 : Int64) ((own_p4D_pendingBlocks (0 : Int64) ((own_p4D_pendingBlocks (0 : Int64) ((own_p4D_pendingBlocks (0 : Int64) ((own_p4D_pendingBlocks (0 : Int64) ((own_p4D_pendingBlocks (0 : Int64) ((own_p4D_pendingBlocks (0 : Int64) pb))))))))))))))) else (own_p4D_pendingBlocks (0 : Int64) ((own_p4D_pendingBlocks (0 : Int64) ((own_p4D_pendingBlocks (0 : Int64) ((own_p4D_pendingBlocks (0 : Int64) ((own_p4D_pendingBlocks (0 : Int64) ((own_p4D_pendingBlocks (0 : Int64) ((own_p4D_pendingBlocks (0 : Int64) pb)))))))))))))) else (own_p4D_pendingBlocks (0 : Int64) ((own_p4D_pendingBlocks (0 : Int64) ((own_p4D_pendingBlocks (0 : Int64) ((own_p4D_pendingBlocks (0 : Int64) ((own_p4D_pendingBlocks (0 : Int64) ((own_p4D_pendingBlocks (0 : Int64) pb)))))))))))) else (own_p4D_pendingBlocks (0 : Int64) ((own_p4D_pendingBlocks (0 : Int64) ((own_p4D_pendingBlocks (0 : Int64) ((own_p4D_pendingBlocks (0 : Int64) ((own_p4D_pendingBlocks (0 : Int64) pb)))))))))) else (own_p4D_pendingBlocks (0 : Int64) ((own_p4D_pendingBlocks (0 : Int64) ((own_p4D_pendingBlocks (0 : Int64) ((own_p4D_pendingBlocks (0 : Int64) pb)))))))) else (own_p4D_pendingBlocks (0 : Int64) ((own_p4D_pendingBlocks (0 : Int64) ((own_p4D_pendingBlocks (0 : Int64) pb)))))) else (own_p4D_pendingBlocks (0 : Int64) ((own_p4D_pendingBlocks (0 : Int64) pb)))) else (own_p4D_pendingBlocks (0 : Int64) pb)) else pb)
def Q7 (Z : State) (a0 : Addr) (q1 : Int64) (th : Int64) (xt : Int64) (sc : Int64) (us : Int64) (xs : Int64) (es : Int64) (ss : Int64) (bb : Int64) (pq : Int64) (pb : Int64) (pd : Int64) (h0 : Heap) (n0 : Nat) (v : Option Value) (h : Heap) (L : List Loc) : Prop := v = none ∧ Fr n0 L ∧ Keep h0 h [a0] ∧ Exa Z h a0 "com/example/hopchuan/hopchuan/ErrorCounter" ∧ Fld Z h a0 "com/example/hopchuan/hopchuan/ErrorCounter" "available" "Z" (.int (0 : Int32)) ∧ Fld Z h a0 "com/example/hopchuan/hopchuan/ErrorCounter" "sesErroredBlocks" "J" (.long th) ∧ Fld Z h a0 "com/example/hopchuan/hopchuan/ErrorCounter" "extendingPeriodSeconds" "J" (.long xt) ∧ Fld Z h a0 "com/example/hopchuan/hopchuan/ErrorCounter" "seconds" "J" (.long (own_p7_seconds q1 sc)) ∧ Fld Z h a0 "com/example/hopchuan/hopchuan/ErrorCounter" "unavailableSeconds" "J" (.long us) ∧ Fld Z h a0 "com/example/hopchuan/hopchuan/ErrorCounter" "extendingSeconds" "J" (.long xs) ∧ Fld Z h a0 "com/example/hopchuan/hopchuan/ErrorCounter" "erroredSeconds" "J" (.long es) ∧ Fld Z h a0 "com/example/hopchuan/hopchuan/ErrorCounter" "severelyErroredSeconds" "J" (.long ss) ∧ Fld Z h a0 "com/example/hopchuan/hopchuan/ErrorCounter" "backgroundBlockErrors" "J" (.long bb) ∧ Fld Z h a0 "com/example/hopchuan/hopchuan/ErrorCounter" "pending" "J" (.long (own_p7_pending q1)) ∧ Fld Z h a0 "com/example/hopchuan/hopchuan/ErrorCounter" "pendingErrored" "J" (.long (own_p7_pendingErrored q1 pq)) ∧ Fld Z h a0 "com/example/hopchuan/hopchuan/ErrorCounter" "pendingBlocks" "J" (.long (own_p7_pendingBlocks q1 pb)) ∧ Fld Z h a0 "com/example/hopchuan/hopchuan/ErrorCounter" "period" "J" (.long pd)
set_option maxRecDepth 65536 in
set_option maxHeartbeats 40000000 in
theorem rm7 (l : Launch) (Z : State) (aw : Array Value) (hw : ∀ d ∈ tables_1, d.before aw Z = true) (wq : List Jvm.Cond) (a0 : Addr) (q1 : Int64) (th : Int64) (xt : Int64) (sc : Int64) (us : Int64) (xs : Int64) (es : Int64) (ss : Int64) (bb : Int64) (pq : Int64) (pb : Int64) (pd : Int64) (h0 : Heap) (n0 : Nat) (Z0 : n0 ≤ h0.size) (E_a0 : Exa Z h0 a0 "com/example/hopchuan/hopchuan/ErrorCounter") (F_a0_available : Fld Z h0 a0 "com/example/hopchuan/hopchuan/ErrorCounter" "available" "Z" (.int (0 : Int32))) (F_a0_sesErroredBlocks : Fld Z h0 a0 "com/example/hopchuan/hopchuan/ErrorCounter" "sesErroredBlocks" "J" (.long th)) (F_a0_extendingPeriodSeconds : Fld Z h0 a0 "com/example/hopchuan/hopchuan/ErrorCounter" "extendingPeriodSeconds" "J" (.long xt)) (F_a0_seconds : Fld Z h0 a0 "com/example/hopchuan/hopchuan/ErrorCounter" "seconds" "J" (.long sc)) (F_a0_unavailableSeconds : Fld Z h0 a0 "com/example/hopchuan/hopchuan/ErrorCounter" "unavailableSeconds" "J" (.long us)) (F_a0_extendingSeconds : Fld Z h0 a0 "com/example/hopchuan/hopchuan/ErrorCounter" "extendingSeconds" "J" (.long xs)) (F_a0_erroredSeconds : Fld Z h0 a0 "com/example/hopchuan/hopchuan/ErrorCounter" "erroredSeconds" "J" (.long es)) (F_a0_severelyErroredSeconds : Fld Z h0 a0 "com/example/hopchuan/hopchuan/ErrorCounter" "severelyErroredSeconds" "J" (.long ss)) (F_a0_backgroundBlockErrors : Fld Z h0 a0 "com/example/hopchuan/hopchuan/ErrorCounter" "backgroundBlockErrors" "J" (.long bb)) (F_a0_pending : Fld Z h0 a0 "com/example/hopchuan/hopchuan/ErrorCounter" "pending" "J" (.long (1 : Int64))) (F_a0_pendingErrored : Fld Z h0 a0 "com/example/hopchuan/hopchuan/ErrorCounter" "pendingErrored" "J" (.long pq)) (F_a0_pendingBlocks : Fld Z h0 a0 "com/example/hopchuan/hopchuan/ErrorCounter" "pendingBlocks" "J" (.long pb)) (F_a0_period : Fld Z h0 a0 "com/example/hopchuan/hopchuan/ErrorCounter" "period" "J" (.long pd)) (g_a0 : n0 ≤ a0) (hth : (0 : Int64) < th) (hj : ¬ (8 : Int64) < q1) :
    MetFree l (⟨"com/example/hopchuan/hopchuan/ErrorCounter", "clean", "(J)V"⟩ : MethodName) (head1 (Jvm.Cond.code (⟨"com/example/hopchuan/hopchuan/ErrorCounter", "clean", "(J)V"⟩ : MethodName) prog_5_method_3_code 7 none :: wq) ({ frames := 1, cells := 0, slots := 0, locals := 16 } : Room)) (fun a U => a = #[(.ref a0), (.long q1)] ∧ Z.Warmed39 U.vm ∧ U.heap = h0) (fun _ _ _ _ _ => True) (fun _ U o U' => ∃ v L, o = .returned v ∧ Q7 Z a0 q1 th xt sc us xs es ss bb pq pb pd h0 n0 v U'.heap L ∧ FrameEnd U o U' L ({ frames := 1, cells := 0, slots := 0, locals := 16 } : Room).cells ({ frames := 1, cells := 0, slots := 0, locals := 16 } : Room).slots) := by
  refine MetFree.of_bodySF (plainFor_of_name pn_0) hisR ?_
  intro p e s m args below meth c s₁ Bd hml0 hP hK
  obtain ⟨rfl, hZ, hh⟩ := hP
  have hx := Bd.exec
  have hby := Bd.bytes
  have hml : c.maxLocals = 7 := hml0
  have hown : s.vm.findClass "com/example/hopchuan/hopchuan/ErrorCounter" = some m.cls := findClass_of_methodNamed Bd.named
  have hnm := (name_of_methodNamed Bd.named Bd.method).1
  have X0 : Stand p l e ({ frames := 1, cells := 0, slots := 0, locals := 16 } : Room) s m #[(.ref a0), (.long q1)] below meth c s₁ [] 0 0 := Stand.of_body Bd
  have e0 : s₁.heap = h0 := by rw [← hh, Bd.state]; rfl
  have N0 := Fr.nil n0
  have pre0 : own_Pre p e below (s₁.setTop (entryFrame m #[(.ref a0), (.long q1)] 7)) (s₁.setTop (mkF m 0 #[.val (.ref a0), .val (.long q1), .second, .unset, .unset, .unset, .unset] [])) := fun t k => castTop (ef_7 m a0 q1) k
  obtain ⟨_, _, ⟨T1, L1, k1, n1⟩, -, X1, ⟨Lc1, hQ1, l1, y1, z1⟩, st1⟩ := Jvm.LawKit.callS X0 hx (y := (⟨"java/lang/Math", "min", "(JJ)J"⟩ : MethodName)) hown (mvT hZ (hw _ (List.mem_of_getElem? (i := 50) rfl))) (mvT hZ (hw _ (List.mem_of_getElem? (i := 51) rfl))) (mvT hZ (hw _ (List.mem_of_getElem? (i := 3) rfl))) (mvT hZ (hw _ (List.mem_of_getElem? (i := 52) rfl))) (by decide) (backOf (W := 0) (rm8 l Z aw hw [] (q1) ((10 : Int64)) (h0) n0 Z0) hZ (hw _ (List.mem_of_getElem? (i := 52) rfl)) (hw _ (List.mem_of_getElem? (i := 3) rfl)) (by decide) (by decide)) (g := (mkF m 4 #[.val (.ref a0), .val (.long q1), .second, .unset, .unset, .unset, .unset] [(.long (10 : Int64)), (.long q1)])) rfl (by rw [hml]; rfl) (argsL := [(.long q1), (.long (10 : Int64))]) (rest := []) (lenOf pd_2 rfl) rfl (by show 2 * 0 + _ ≤ _; exact Nat.le_of_eq rfl) (hb hby d7_4) (fun _ _ => ⟨rfl, e0, (by decide : 0 + 0 ≤ _), (by decide : 0 + 0 ≤ _)⟩)
  dsimp only [Pt.U, Pt.locs, Pt.cells, Pt.slots] at X1 l1 y1 z1 st1 hQ1
  subst l1 y1 z1
  obtain ⟨rfl, Nq1, eq1⟩ := hQ1
  have N1 := Fr.app N0 Nq1
  obtain ⟨x3_8, hx3_8, pre2⟩ : ∃ z : Int64, z = (own_f8 q1 ((10 : Int64))) ∧ own_Pre p e below (s₁.setTop (entryFrame m #[(.ref a0), (.long q1)] 7)) (T1.setTop (mkF m 8 #[.val (.ref a0), .val (.long q1), .second, .val (.long z), .second, .unset, .unset] [])) := ⟨_, rfl, fun t k => pre0 t (by
      show Steps p.tables e below (s₁.setTop (mkF m 0 #[.val (.ref a0), .val (.long q1), .second, .unset, .unset, .unset, .unset] [])) _
      refine XS.lloadN X0.here hx rfl (hb hby d7_0) rfl ?_
      show Steps p.tables e below (s₁.setTop (mkF m 1 #[.val (.ref a0), .val (.long q1), .second, .unset, .unset, .unset, .unset] [(.long q1)])) _
      refine X0.ldc2Long hx hown (mvT hZ (hw _ (List.mem_of_getElem? (i := 42) rfl))) (g := (mkF m 1 #[.val (.ref a0), .val (.long q1), .second, .unset, .unset, .unset, .unset] [(.long q1)])) rfl (hb hby d7_1) _ ?_
      show Steps p.tables e below (s₁.setTop (mkF m 4 #[.val (.ref a0), .val (.long q1), .second, .unset, .unset, .unset, .unset] [(.long (10 : Int64)), (.long q1)])) _
      refine st1 _ ?_
      show Steps p.tables e below (T1.setTop (mkF m 7 #[.val (.ref a0), .val (.long q1), .second, .unset, .unset, .unset, .unset] [(.long (own_f8 q1 ((10 : Int64))))])) _
      refine XS.lstoreN X1.here hx rfl (hb hby d7_7) rfl (l' := #[.val (.ref a0), .val (.long q1), .second, .val (.long (own_f8 q1 ((10 : Int64)))), .second, .unset, .unset]) rfl ?_
      exact k)⟩
  have pre3 : own_Pre p e below (s₁.setTop (entryFrame m #[(.ref a0), (.long q1)] 7)) (T1.setTop (mkF m 15 #[.val (.ref a0), .val (.long q1), .second, .val (.long x3_8), .second, .val (.long (0 : Int64)), .second] [(.int (lcmpW (0 : Int64) x3_8))])) := fun t k => pre2 t (by
      show Steps p.tables e below (T1.setTop (mkF m 8 #[.val (.ref a0), .val (.long q1), .second, .val (.long x3_8), .second, .unset, .unset] [])) _
      refine XS.lconst X1.here hx rfl (hb hby d7_8) ?_
      show Steps p.tables e below (T1.setTop (mkF m 9 #[.val (.ref a0), .val (.long q1), .second, .val (.long x3_8), .second, .unset, .unset] [(.long (0 : Int64))])) _
      refine XS.lstore X1.here hx rfl (hb hby d7_9) rfl (l' := #[.val (.ref a0), .val (.long q1), .second, .val (.long x3_8), .second, .val (.long (0 : Int64)), .second]) rfl ?_
      show Steps p.tables e below (T1.setTop (mkF m 11 #[.val (.ref a0), .val (.long q1), .second, .val (.long x3_8), .second, .val (.long (0 : Int64)), .second] [])) _
      refine XS.lload X1.here hx rfl (hb hby d7_11) rfl ?_
      show Steps p.tables e below (T1.setTop (mkF m 13 #[.val (.ref a0), .val (.long q1), .second, .val (.long x3_8), .second, .val (.long (0 : Int64)), .second] [(.long (0 : Int64))])) _
      refine XS.lloadN X1.here hx rfl (hb hby d7_13) rfl ?_
      show Steps p.tables e below (T1.setTop (mkF m 14 #[.val (.ref a0), .val (.long q1), .second, .val (.long x3_8), .second, .val (.long (0 : Int64)), .second] [(.long x3_8), (.long (0 : Int64))])) _
      refine XS.lcmp X1.here hx rfl (hb hby d7_14) rfl ?_
      exact k)
  by_cases hc15 : (0 : Int64) < x3_8
  · obtain ⟨cq4, kq4, q4a, q4b, q4c⟩ := isOf hZ eq1 E_a0
    obtain ⟨_, _, ⟨T4, L4, k4, n4⟩, -, X4, ⟨Lc4, hQ4, l4, y4, z4⟩, st4⟩ := X1.virtualBack hx (y := (⟨"com/example/hopchuan/hopchuan/ErrorCounter", "second", "(JZ)V"⟩ : MethodName)) (z := (⟨"com/example/hopchuan/hopchuan/ErrorCounter", "second", "(JZ)V"⟩ : MethodName)) hown (mvT hZ (hw _ (List.mem_of_getElem? (i := 53) rfl))) (mvT hZ (hw _ (List.mem_of_getElem? (i := 22) rfl))) (notFace_of_selects (args := #[]) (mvT hZ (hw _ (List.mem_of_getElem? (i := 24) rfl)))) (mvT hZ (hw _ (List.mem_of_getElem? (i := 24) rfl))) (mvT hZ (hw _ (List.mem_of_getElem? (i := 23) rfl))) (by decide) (backOf (W := 0) (rm4D l Z aw hw [] (a0) ((0 : Int64)) (th) (xt) (sc) (us) (xs) (es) (ss) (bb) ((1 : Int64)) (pq) (pb) (pd) (h0) n0 Z0 E_a0 F_a0_available F_a0_sesErroredBlocks F_a0_extendingPeriodSeconds F_a0_seconds F_a0_unavailableSeconds F_a0_extendingSeconds F_a0_erroredSeconds F_a0_severelyErroredSeconds F_a0_backgroundBlockErrors F_a0_pending F_a0_pendingErrored F_a0_pendingBlocks F_a0_period g_a0 hth (by decide)) hZ (hw _ (List.mem_of_getElem? (i := 25) rfl)) (hw _ (List.mem_of_getElem? (i := 8) rfl)) (by decide) (by decide)) q4a q4c (g := (mkF m 21 #[.val (.ref a0), .val (.long q1), .second, .val (.long x3_8), .second, .val (.long (0 : Int64)), .second] [(.int (0 : Int32)), (.long (0 : Int64)), (.ref a0)])) rfl (by rw [hml]; rfl) (Steps.refl _) (argsL := [(.long (0 : Int64)), (.int (0 : Int32))]) (rest := []) (lenOf pd_1 rfl) rfl (by show 2 * 0 + _ ≤ _; exact Nat.le_of_eq rfl) (hb hby d7_21) (fun _ _ => ⟨rfl, eq1, (by decide : 0 + 0 ≤ _), (by decide : 0 + 0 ≤ _)⟩)
    dsimp only [Pt.U, Pt.locs, Pt.cells, Pt.slots] at X4 l4 y4 z4 st4 hQ4
    subst l4 y4 z4
    obtain ⟨rfl, Nq4, K4, po4_0, po4_1, po4_2, po4_3, po4_4, po4_5, po4_6, po4_7, po4_8, po4_9, po4_10, po4_11, po4_12, po4_13⟩ := hQ4
    have N4 := Fr.app N1 Nq4
    have kp5 : Keep h0 T4.heap [a0] := (Keep.refl h0 [a0]).trans K4 (allS (Or.inl (List.mem_of_getElem? (i := 0) rfl)) all0)
    have pre6 : own_Pre p e below (s₁.setTop (entryFrame m #[(.ref a0), (.long q1)] 7)) (T4.setTop (mkF m 15 #[.val (.ref a0), .val (.long q1), .second, .val (.long x3_8), .second, .val (.long (1 : Int64)), .second] [(.int (lcmpW (1 : Int64) x3_8))])) := fun t k => pre3 t (by
        show Steps p.tables e below (T1.setTop (mkF m 15 #[.val (.ref a0), .val (.long q1), .second, .val (.long x3_8), .second, .val (.long (0 : Int64)), .second] [(.int (lcmpW (0 : Int64) x3_8))])) _
        refine XS.ifNo X1.here hx rfl (hb hby d7_15) rfl ((if0 _ _).trans (tlt ((lw_lt _ _).mpr hc15)).2.1) ?_
        show Steps p.tables e below (T1.setTop (mkF m 18 #[.val (.ref a0), .val (.long q1), .second, .val (.long x3_8), .second, .val (.long (0 : Int64)), .second] [])) _
        refine XS.aloadN X1.here hx rfl (hb hby d7_18) rfl rfl ?_
        show Steps p.tables e below (T1.setTop (mkF m 19 #[.val (.ref a0), .val (.long q1), .second, .val (.long x3_8), .second, .val (.long (0 : Int64)), .second] [(.ref a0)])) _
        refine XS.lconst X1.here hx rfl (hb hby d7_19) ?_
        show Steps p.tables e below (T1.setTop (mkF m 20 #[.val (.ref a0), .val (.long q1), .second, .val (.long x3_8), .second, .val (.long (0 : Int64)), .second] [(.long (0 : Int64)), (.ref a0)])) _
        refine XS.iconst X1.here hx rfl (hb hby d7_20) ?_
        show Steps p.tables e below (T1.setTop (mkF m 21 #[.val (.ref a0), .val (.long q1), .second, .val (.long x3_8), .second, .val (.long (0 : Int64)), .second] [(.int (0 : Int32)), (.long (0 : Int64)), (.ref a0)])) _
        refine st4.trans ?_
        show Steps p.tables e below (T4.setTop (mkF m 24 #[.val (.ref a0), .val (.long q1), .second, .val (.long x3_8), .second, .val (.long (0 : Int64)), .second] [])) _
        refine XS.lload X4.here hx rfl (hb hby d7_24) rfl ?_
        show Steps p.tables e below (T4.setTop (mkF m 26 #[.val (.ref a0), .val (.long q1), .second, .val (.long x3_8), .second, .val (.long (0 : Int64)), .second] [(.long (0 : Int64))])) _
        refine XS.lconst X4.here hx rfl (hb hby d7_26) ?_
        show Steps p.tables e below (T4.setTop (mkF m 27 #[.val (.ref a0), .val (.long q1), .second, .val (.long x3_8), .second, .val (.long (0 : Int64)), .second] [(.long (1 : Int64)), (.long (0 : Int64))])) _
        refine XS.ladd X4.here hx rfl (hb hby d7_27) rfl ?_
        show Steps p.tables e below (T4.setTop (mkF m 28 #[.val (.ref a0), .val (.long q1), .second, .val (.long x3_8), .second, .val (.long (0 : Int64)), .second] [(.long (1 : Int64))])) _
        refine XS.lstore X4.here hx rfl (hb hby d7_28) rfl (l' := #[.val (.ref a0), .val (.long q1), .second, .val (.long x3_8), .second, .val (.long (1 : Int64)), .second]) rfl ?_
        show Steps p.tables e below (T4.setTop (mkF m 30 #[.val (.ref a0), .val (.long q1), .second, .val (.long x3_8), .second, .val (.long (1 : Int64)), .second] [])) _
        refine XS.goto X4.here hx rfl (pc0 := 30) (pc' := 11) rfl (hb hby d7_30) (by decide) (by decide) ?_
        show Steps p.tables e below (T4.setTop (mkF m 11 #[.val (.ref a0), .val (.long q1), .second, .val (.long x3_8), .second, .val (.long (1 : Int64)), .second] [])) _
        refine XS.lload X4.here hx rfl (hb hby d7_11) rfl ?_
        show Steps p.tables e below (T4.setTop (mkF m 13 #[.val (.ref a0), .val (.long q1), .second, .val (.long x3_8), .second, .val (.long (1 : Int64)), .second] [(.long (1 : Int64))])) _
        refine XS.lloadN X4.here hx rfl (hb hby d7_13) rfl ?_
        show Steps p.tables e below (T4.setTop (mkF m 14 #[.val (.ref a0), .val (.long q1), .second, .val (.long x3_8), .second, .val (.long (1 : Int64)), .second] [(.long x3_8), (.long (1 : Int64))])) _
        refine XS.lcmp X4.here hx rfl (hb hby d7_14) rfl ?_
        exact k)
    by_cases hc15_2 : (1 : Int64) < x3_8
    · have z8 : n0 ≤ (T4.heap).size := (Nat.le_trans Z0 K4.1)
      obtain ⟨cq7, kq7, q7a, q7b, q7c⟩ := isOf hZ rfl po4_0
      obtain ⟨_, _, ⟨T7, L7, k7, n7⟩, -, X7, ⟨Lc7, hQ7, l7, y7, z7⟩, st7⟩ := X4.virtualBack hx (y := (⟨"com/example/hopchuan/hopchuan/ErrorCounter", "second", "(JZ)V"⟩ : MethodName)) (z := (⟨"com/example/hopchuan/hopchuan/ErrorCounter", "second", "(JZ)V"⟩ : MethodName)) hown (mvT hZ (hw _ (List.mem_of_getElem? (i := 53) rfl))) (mvT hZ (hw _ (List.mem_of_getElem? (i := 22) rfl))) (notFace_of_selects (args := #[]) (mvT hZ (hw _ (List.mem_of_getElem? (i := 24) rfl)))) (mvT hZ (hw _ (List.mem_of_getElem? (i := 24) rfl))) (mvT hZ (hw _ (List.mem_of_getElem? (i := 23) rfl))) (by decide) (backOf (W := 0) (rm4D l Z aw hw [] (a0) ((0 : Int64)) (th) (xt) ((sc + (1 : Int64))) (us) (xs) (es) (ss) (bb) ((2 : Int64)) ((own_p4D_pendingErrored (0 : Int64) pq)) ((own_p4D_pendingBlocks (0 : Int64) pb)) (pd) (T4.heap) n0 z8 po4_0 po4_1 po4_2 po4_3 po4_4 po4_5 po4_6 po4_7 po4_8 po4_9 po4_10 po4_11 po4_12 po4_13 g_a0 hth (by decide)) hZ (hw _ (List.mem_of_getElem? (i := 25) rfl)) (hw _ (List.mem_of_getElem? (i := 8) rfl)) (by decide) (by decide)) q7a q7c (g := (mkF m 21 #[.val (.ref a0), .val (.long q1), .second, .val (.long x3_8), .second, .val (.long (1 : Int64)), .second] [(.int (0 : Int32)), (.long (0 : Int64)), (.ref a0)])) rfl (by rw [hml]; rfl) (Steps.refl _) (argsL := [(.long (0 : Int64)), (.int (0 : Int32))]) (rest := []) (lenOf pd_1 rfl) rfl (by show 2 * 0 + _ ≤ _; exact Nat.le_of_eq rfl) (hb hby d7_21) (fun _ _ => ⟨rfl, rfl, (by decide : 0 + 0 ≤ _), (by decide : 0 + 0 ≤ _)⟩)
      dsimp only [Pt.U, Pt.locs, Pt.cells, Pt.slots] at X7 l7 y7 z7 st7 hQ7
      subst l7 y7 z7
      obtain ⟨rfl, Nq7, K7, po7_0, po7_1, po7_2, po7_3, po7_4, po7_5, po7_6, po7_7, po7_8, po7_9, po7_10, po7_11, po7_12, po7_13⟩ := hQ7
      have N7 := Fr.app N4 Nq7
      have kp9 : Keep h0 T7.heap [a0] := kp5.trans K7 (allS (Or.inl (List.mem_of_getElem? (i := 0) rfl)) all0)
      have pre10 : own_Pre p e below (s₁.setTop (entryFrame m #[(.ref a0), (.long q1)] 7)) (T7.setTop (mkF m 15 #[.val (.ref a0), .val (.long q1), .second, .val (.long x3_8), .second, .val (.long (2 : Int64)), .second] [(.int (lcmpW (2 : Int64) x3_8))])) := fun t k => pre6 t (by
          show Steps p.tables e below (T4.setTop (mkF m 15 #[.val (.ref a0), .val (.long q1), .second, .val (.long x3_8), .second, .val (.long (1 : Int64)), .second] [(.int (lcmpW (1 : Int64) x3_8))])) _
          refine XS.ifNo X4.here hx rfl (hb hby d7_15) rfl ((if0 _ _).trans (tlt ((lw_lt _ _).mpr hc15_2)).2.1) ?_
          show Steps p.tables e below (T4.setTop (mkF m 18 #[.val (.ref a0), .val (.long q1), .second, .val (.long x3_8), .second, .val (.long (1 : Int64)), .second] [])) _
          refine XS.aloadN X4.here hx rfl (hb hby d7_18) rfl rfl ?_
          show Steps p.tables e below (T4.setTop (mkF m 19 #[.val (.ref a0), .val (.long q1), .second, .val (.long x3_8), .second, .val (.long (1 : Int64)), .second] [(.ref a0)])) _
          refine XS.lconst X4.here hx rfl (hb hby d7_19) ?_
          show Steps p.tables e below (T4.setTop (mkF m 20 #[.val (.ref a0), .val (.long q1), .second, .val (.long x3_8), .second, .val (.long (1 : Int64)), .second] [(.long (0 : Int64)), (.ref a0)])) _
          refine XS.iconst X4.here hx rfl (hb hby d7_20) ?_
          show Steps p.tables e below (T4.setTop (mkF m 21 #[.val (.ref a0), .val (.long q1), .second, .val (.long x3_8), .second, .val (.long (1 : Int64)), .second] [(.int (0 : Int32)), (.long (0 : Int64)), (.ref a0)])) _
          refine st7.trans ?_
          show Steps p.tables e below (T7.setTop (mkF m 24 #[.val (.ref a0), .val (.long q1), .second, .val (.long x3_8), .second, .val (.long (1 : Int64)), .second] [])) _
          refine XS.lload X7.here hx rfl (hb hby d7_24) rfl ?_
          show Steps p.tables e below (T7.setTop (mkF m 26 #[.val (.ref a0), .val (.long q1), .second, .val (.long x3_8), .second, .val (.long (1 : Int64)), .second] [(.long (1 : Int64))])) _
          refine XS.lconst X7.here hx rfl (hb hby d7_26) ?_
          show Steps p.tables e below (T7.setTop (mkF m 27 #[.val (.ref a0), .val (.long q1), .second, .val (.long x3_8), .second, .val (.long (1 : Int64)), .second] [(.long (1 : Int64)), (.long (1 : Int64))])) _
          refine XS.ladd X7.here hx rfl (hb hby d7_27) rfl ?_
          show Steps p.tables e below (T7.setTop (mkF m 28 #[.val (.ref a0), .val (.long q1), .second, .val (.long x3_8), .second, .val (.long (1 : Int64)), .second] [(.long (2 : Int64))])) _
          refine XS.lstore X7.here hx rfl (hb hby d7_28) rfl (l' := #[.val (.ref a0), .val (.long q1), .second, .val (.long x3_8), .second, .val (.long (2 : Int64)), .second]) rfl ?_
          show Steps p.tables e below (T7.setTop (mkF m 30 #[.val (.ref a0), .val (.long q1), .second, .val (.long x3_8), .second, .val (.long (2 : Int64)), .second] [])) _
          refine XS.goto X7.here hx rfl (pc0 := 30) (pc' := 11) rfl (hb hby d7_30) (by decide) (by decide) ?_
          show Steps p.tables e below (T7.setTop (mkF m 11 #[.val (.ref a0), .val (.long q1), .second, .val (.long x3_8), .second, .val (.long (2 : Int64)), .second] [])) _
          refine XS.lload X7.here hx rfl (hb hby d7_11) rfl ?_
          show Steps p.tables e below (T7.setTop (mkF m 13 #[.val (.ref a0), .val (.long q1), .second, .val (.long x3_8), .second, .val (.long (2 : Int64)), .second] [(.long (2 : Int64))])) _
          refine XS.lloadN X7.here hx rfl (hb hby d7_13) rfl ?_
          show Steps p.tables e below (T7.setTop (mkF m 14 #[.val (.ref a0), .val (.long q1), .second, .val (.long x3_8), .second, .val (.long (2 : Int64)), .second] [(.long x3_8), (.long (2 : Int64))])) _
          refine XS.lcmp X7.here hx rfl (hb hby d7_14) rfl ?_
          exact k)
      by_cases hc15_3 : (2 : Int64) < x3_8
      · have z12 : n0 ≤ (T7.heap).size := (Nat.le_trans z8 K7.1)
        obtain ⟨cq11, kq11, q11a, q11b, q11c⟩ := isOf hZ rfl po7_0
        obtain ⟨_, _, ⟨T11, L11, k11, n11⟩, -, X11, ⟨Lc11, hQ11, l11, y11, z11⟩, st11⟩ := X7.virtualBack hx (y := (⟨"com/example/hopchuan/hopchuan/ErrorCounter", "second", "(JZ)V"⟩ : MethodName)) (z := (⟨"com/example/hopchuan/hopchuan/ErrorCounter", "second", "(JZ)V"⟩ : MethodName)) hown (mvT hZ (hw _ (List.mem_of_getElem? (i := 53) rfl))) (mvT hZ (hw _ (List.mem_of_getElem? (i := 22) rfl))) (notFace_of_selects (args := #[]) (mvT hZ (hw _ (List.mem_of_getElem? (i := 24) rfl)))) (mvT hZ (hw _ (List.mem_of_getElem? (i := 24) rfl))) (mvT hZ (hw _ (List.mem_of_getElem? (i := 23) rfl))) (by decide) (backOf (W := 0) (rm4D l Z aw hw [] (a0) ((0 : Int64)) (th) (xt) ((((sc + (1 : Int64))) + (1 : Int64))) (us) (xs) (es) (ss) (bb) ((3 : Int64)) ((own_p4D_pendingErrored (0 : Int64) ((own_p4D_pendingErrored (0 : Int64) pq)))) ((own_p4D_pendingBlocks (0 : Int64) ((own_p4D_pendingBlocks (0 : Int64) pb)))) (pd) (T7.heap) n0 z12 po7_0 po7_1 po7_2 po7_3 po7_4 po7_5 po7_6 po7_7 po7_8 po7_9 po7_10 po7_11 po7_12 po7_13 g_a0 hth (by decide)) hZ (hw _ (List.mem_of_getElem? (i := 25) rfl)) (hw _ (List.mem_of_getElem? (i := 8) rfl)) (by decide) (by decide)) q11a q11c (g := (mkF m 21 #[.val (.ref a0), .val (.long q1), .second, .val (.long x3_8), .second, .val (.long (2 : Int64)), .second] [(.int (0 : Int32)), (.long (0 : Int64)), (.ref a0)])) rfl (by rw [hml]; rfl) (Steps.refl _) (argsL := [(.long (0 : Int64)), (.int (0 : Int32))]) (rest := []) (lenOf pd_1 rfl) rfl (by show 2 * 0 + _ ≤ _; exact Nat.le_of_eq rfl) (hb hby d7_21) (fun _ _ => ⟨rfl, rfl, (by decide : 0 + 0 ≤ _), (by decide : 0 + 0 ≤ _)⟩)
        dsimp only [Pt.U, Pt.locs, Pt.cells, Pt.slots] at X11 l11 y11 z11 st11 hQ11
        subst l11 y11 z11
        obtain ⟨rfl, Nq11, K11, po11_0, po11_1, po11_2, po11_3, po11_4, po11_5, po11_6, po11_7, po11_8, po11_9, po11_10, po11_11, po11_12, po11_13⟩ := hQ11
        have N11 := Fr.app N7 Nq11
        have kp13 : Keep h0 T11.heap [a0] := kp9.trans K11 (allS (Or.inl (List.mem_of_getElem? (i := 0) rfl)) all0)
        have pre14 : own_Pre p e below (s₁.setTop (entryFrame m #[(.ref a0), (.long q1)] 7)) (T11.setTop (mkF m 15 #[.val (.ref a0), .val (.long q1), .second, .val (.long x3_8), .second, .val (.long (3 : Int64)), .second] [(.int (lcmpW (3 : Int64) x3_8))])) := fun t k => pre10 t (by
            show Steps p.tables e below (T7.setTop (mkF m 15 #[.val (.ref a0), .val (.long q1), .second, .val (.long x3_8), .second, .val (.long (2 : Int64)), .second] [(.int (lcmpW (2 : Int64) x3_8))])) _
            refine XS.ifNo X7.here hx rfl (hb hby d7_15) rfl ((if0 _ _).trans (tlt ((lw_lt _ _).mpr hc15_3)).2.1) ?_
            show Steps p.tables e below (T7.setTop (mkF m 18 #[.val (.ref a0), .val (.long q1), .second, .val (.long x3_8), .second, .val (.long (2 : Int64)), .second] [])) _
            refine XS.aloadN X7.here hx rfl (hb hby d7_18) rfl rfl ?_
            show Steps p.tables e below (T7.setTop (mkF m 19 #[.val (.ref a0), .val (.long q1), .second, .val (.long x3_8), .second, .val (.long (2 : Int64)), .second] [(.ref a0)])) _
            refine XS.lconst X7.here hx rfl (hb hby d7_19) ?_
            show Steps p.tables e below (T7.setTop (mkF m 20 #[.val (.ref a0), .val (.long q1), .second, .val (.long x3_8), .second, .val (.long (2 : Int64)), .second] [(.long (0 : Int64)), (.ref a0)])) _
            refine XS.iconst X7.here hx rfl (hb hby d7_20) ?_
            show Steps p.tables e below (T7.setTop (mkF m 21 #[.val (.ref a0), .val (.long q1), .second, .val (.long x3_8), .second, .val (.long (2 : Int64)), .second] [(.int (0 : Int32)), (.long (0 : Int64)), (.ref a0)])) _
            refine st11.trans ?_
            show Steps p.tables e below (T11.setTop (mkF m 24 #[.val (.ref a0), .val (.long q1), .second, .val (.long x3_8), .second, .val (.long (2 : Int64)), .second] [])) _
            refine XS.lload X11.here hx rfl (hb hby d7_24) rfl ?_
            show Steps p.tables e below (T11.setTop (mkF m 26 #[.val (.ref a0), .val (.long q1), .second, .val (.long x3_8), .second, .val (.long (2 : Int64)), .second] [(.long (2 : Int64))])) _
            refine XS.lconst X11.here hx rfl (hb hby d7_26) ?_
            show Steps p.tables e below (T11.setTop (mkF m 27 #[.val (.ref a0), .val (.long q1), .second, .val (.long x3_8), .second, .val (.long (2 : Int64)), .second] [(.long (1 : Int64)), (.long (2 : Int64))])) _
            refine XS.ladd X11.here hx rfl (hb hby d7_27) rfl ?_
            show Steps p.tables e below (T11.setTop (mkF m 28 #[.val (.ref a0), .val (.long q1), .second, .val (.long x3_8), .second, .val (.long (2 : Int64)), .second] [(.long (3 : Int64))])) _
            refine XS.lstore X11.here hx rfl (hb hby d7_28) rfl (l' := #[.val (.ref a0), .val (.long q1), .second, .val (.long x3_8), .second, .val (.long (3 : Int64)), .second]) rfl ?_
            show Steps p.tables e below (T11.setTop (mkF m 30 #[.val (.ref a0), .val (.long q1), .second, .val (.long x3_8), .second, .val (.long (3 : Int64)), .second] [])) _
            refine XS.goto X11.here hx rfl (pc0 := 30) (pc' := 11) rfl (hb hby d7_30) (by decide) (by decide) ?_
            show Steps p.tables e below (T11.setTop (mkF m 11 #[.val (.ref a0), .val (.long q1), .second, .val (.long x3_8), .second, .val (.long (3 : Int64)), .second] [])) _
            refine XS.lload X11.here hx rfl (hb hby d7_11) rfl ?_
            show Steps p.tables e below (T11.setTop (mkF m 13 #[.val (.ref a0), .val (.long q1), .second, .val (.long x3_8), .second, .val (.long (3 : Int64)), .second] [(.long (3 : Int64))])) _
            refine XS.lloadN X11.here hx rfl (hb hby d7_13) rfl ?_
            show Steps p.tables e below (T11.setTop (mkF m 14 #[.val (.ref a0), .val (.long q1), .second, .val (.long x3_8), .second, .val (.long (3 : Int64)), .second] [(.long x3_8), (.long (3 : Int64))])) _
            refine XS.lcmp X11.here hx rfl (hb hby d7_14) rfl ?_
            exact k)
        by_cases hc15_4 : (3 : Int64) < x3_8
        · have z16 : n0 ≤ (T11.heap).size := (Nat.le_trans z12 K11.1)
          obtain ⟨cq15, kq15, q15a, q15b, q15c⟩ := isOf hZ rfl po11_0
          obtain ⟨_, _, ⟨T15, L15, k15, n15⟩, -, X15, ⟨Lc15, hQ15, l15, y15, z15⟩, st15⟩ := X11.virtualBack hx (y := (⟨"com/example/hopchuan/hopchuan/ErrorCounter", "second", "(JZ)V"⟩ : MethodName)) (z := (⟨"com/example/hopchuan/hopchuan/ErrorCounter", "second", "(JZ)V"⟩ : MethodName)) hown (mvT hZ (hw _ (List.mem_of_getElem? (i := 53) rfl))) (mvT hZ (hw _ (List.mem_of_getElem? (i := 22) rfl))) (notFace_of_selects (args := #[]) (mvT hZ (hw _ (List.mem_of_getElem? (i := 24) rfl)))) (mvT hZ (hw _ (List.mem_of_getElem? (i := 24) rfl))) (mvT hZ (hw _ (List.mem_of_getElem? (i := 23) rfl))) (by decide) (backOf (W := 0) (rm4D l Z aw hw [] (a0) ((0 : Int64)) (th) (xt) ((((((sc + (1 : Int64))) + (1 : Int64))) + (1 : Int64))) (us) (xs) (es) (ss) (bb) ((4 : Int64)) ((own_p4D_pendingErrored (0 : Int64) ((own_p4D_pendingErrored (0 : Int64) ((own_p4D_pendingErrored (0 : Int64) pq)))))) ((own_p4D_pendingBlocks (0 : Int64) ((own_p4D_pendingBlocks (0 : Int64) ((own_p4D_pendingBlocks (0 : Int64) pb)))))) (pd) (T11.heap) n0 z16 po11_0 po11_1 po11_2 po11_3 po11_4 po11_5 po11_6 po11_7 po11_8 po11_9 po11_10 po11_11 po11_12 po11_13 g_a0 hth (by decide)) hZ (hw _ (List.mem_of_getElem? (i := 25) rfl)) (hw _ (List.mem_of_getElem? (i := 8) rfl)) (by decide) (by decide)) q15a q15c (g := (mkF m 21 #[.val (.ref a0), .val (.long q1), .second, .val (.long x3_8), .second, .val (.long (3 : Int64)), .second] [(.int (0 : Int32)), (.long (0 : Int64)), (.ref a0)])) rfl (by rw [hml]; rfl) (Steps.refl _) (argsL := [(.long (0 : Int64)), (.int (0 : Int32))]) (rest := []) (lenOf pd_1 rfl) rfl (by show 2 * 0 + _ ≤ _; exact Nat.le_of_eq rfl) (hb hby d7_21) (fun _ _ => ⟨rfl, rfl, (by decide : 0 + 0 ≤ _), (by decide : 0 + 0 ≤ _)⟩)
          dsimp only [Pt.U, Pt.locs, Pt.cells, Pt.slots] at X15 l15 y15 z15 st15 hQ15
          subst l15 y15 z15
          obtain ⟨rfl, Nq15, K15, po15_0, po15_1, po15_2, po15_3, po15_4, po15_5, po15_6, po15_7, po15_8, po15_9, po15_10, po15_11, po15_12, po15_13⟩ := hQ15
          have N15 := Fr.app N11 Nq15
          have kp17 : Keep h0 T15.heap [a0] := kp13.trans K15 (allS (Or.inl (List.mem_of_getElem? (i := 0) rfl)) all0)
          have pre18 : own_Pre p e below (s₁.setTop (entryFrame m #[(.ref a0), (.long q1)] 7)) (T15.setTop (mkF m 15 #[.val (.ref a0), .val (.long q1), .second, .val (.long x3_8), .second, .val (.long (4 : Int64)), .second] [(.int (lcmpW (4 : Int64) x3_8))])) := fun t k => pre14 t (by
              show Steps p.tables e below (T11.setTop (mkF m 15 #[.val (.ref a0), .val (.long q1), .second, .val (.long x3_8), .second, .val (.long (3 : Int64)), .second] [(.int (lcmpW (3 : Int64) x3_8))])) _
              refine XS.ifNo X11.here hx rfl (hb hby d7_15) rfl ((if0 _ _).trans (tlt ((lw_lt _ _).mpr hc15_4)).2.1) ?_
              show Steps p.tables e below (T11.setTop (mkF m 18 #[.val (.ref a0), .val (.long q1), .second, .val (.long x3_8), .second, .val (.long (3 : Int64)), .second] [])) _
              refine XS.aloadN X11.here hx rfl (hb hby d7_18) rfl rfl ?_
              show Steps p.tables e below (T11.setTop (mkF m 19 #[.val (.ref a0), .val (.long q1), .second, .val (.long x3_8), .second, .val (.long (3 : Int64)), .second] [(.ref a0)])) _
              refine XS.lconst X11.here hx rfl (hb hby d7_19) ?_
              show Steps p.tables e below (T11.setTop (mkF m 20 #[.val (.ref a0), .val (.long q1), .second, .val (.long x3_8), .second, .val (.long (3 : Int64)), .second] [(.long (0 : Int64)), (.ref a0)])) _
              refine XS.iconst X11.here hx rfl (hb hby d7_20) ?_
              show Steps p.tables e below (T11.setTop (mkF m 21 #[.val (.ref a0), .val (.long q1), .second, .val (.long x3_8), .second, .val (.long (3 : Int64)), .second] [(.int (0 : Int32)), (.long (0 : Int64)), (.ref a0)])) _
              refine st15.trans ?_
              show Steps p.tables e below (T15.setTop (mkF m 24 #[.val (.ref a0), .val (.long q1), .second, .val (.long x3_8), .second, .val (.long (3 : Int64)), .second] [])) _
              refine XS.lload X15.here hx rfl (hb hby d7_24) rfl ?_
              show Steps p.tables e below (T15.setTop (mkF m 26 #[.val (.ref a0), .val (.long q1), .second, .val (.long x3_8), .second, .val (.long (3 : Int64)), .second] [(.long (3 : Int64))])) _
              refine XS.lconst X15.here hx rfl (hb hby d7_26) ?_
              show Steps p.tables e below (T15.setTop (mkF m 27 #[.val (.ref a0), .val (.long q1), .second, .val (.long x3_8), .second, .val (.long (3 : Int64)), .second] [(.long (1 : Int64)), (.long (3 : Int64))])) _
              refine XS.ladd X15.here hx rfl (hb hby d7_27) rfl ?_
              show Steps p.tables e below (T15.setTop (mkF m 28 #[.val (.ref a0), .val (.long q1), .second, .val (.long x3_8), .second, .val (.long (3 : Int64)), .second] [(.long (4 : Int64))])) _
              refine XS.lstore X15.here hx rfl (hb hby d7_28) rfl (l' := #[.val (.ref a0), .val (.long q1), .second, .val (.long x3_8), .second, .val (.long (4 : Int64)), .second]) rfl ?_
              show Steps p.tables e below (T15.setTop (mkF m 30 #[.val (.ref a0), .val (.long q1), .second, .val (.long x3_8), .second, .val (.long (4 : Int64)), .second] [])) _
              refine XS.goto X15.here hx rfl (pc0 := 30) (pc' := 11) rfl (hb hby d7_30) (by decide) (by decide) ?_
              show Steps p.tables e below (T15.setTop (mkF m 11 #[.val (.ref a0), .val (.long q1), .second, .val (.long x3_8), .second, .val (.long (4 : Int64)), .second] [])) _
              refine XS.lload X15.here hx rfl (hb hby d7_11) rfl ?_
              show Steps p.tables e below (T15.setTop (mkF m 13 #[.val (.ref a0), .val (.long q1), .second, .val (.long x3_8), .second, .val (.long (4 : Int64)), .second] [(.long (4 : Int64))])) _
              refine XS.lloadN X15.here hx rfl (hb hby d7_13) rfl ?_
              show Steps p.tables e below (T15.setTop (mkF m 14 #[.val (.ref a0), .val (.long q1), .second, .val (.long x3_8), .second, .val (.long (4 : Int64)), .second] [(.long x3_8), (.long (4 : Int64))])) _
              refine XS.lcmp X15.here hx rfl (hb hby d7_14) rfl ?_
              exact k)
          by_cases hc15_5 : (4 : Int64) < x3_8
          · have z20 : n0 ≤ (T15.heap).size := (Nat.le_trans z16 K15.1)
            obtain ⟨cq19, kq19, q19a, q19b, q19c⟩ := isOf hZ rfl po15_0
            obtain ⟨_, _, ⟨T19, L19, k19, n19⟩, -, X19, ⟨Lc19, hQ19, l19, y19, z19⟩, st19⟩ := X15.virtualBack hx (y := (⟨"com/example/hopchuan/hopchuan/ErrorCounter", "second", "(JZ)V"⟩ : MethodName)) (z := (⟨"com/example/hopchuan/hopchuan/ErrorCounter", "second", "(JZ)V"⟩ : MethodName)) hown (mvT hZ (hw _ (List.mem_of_getElem? (i := 53) rfl))) (mvT hZ (hw _ (List.mem_of_getElem? (i := 22) rfl))) (notFace_of_selects (args := #[]) (mvT hZ (hw _ (List.mem_of_getElem? (i := 24) rfl)))) (mvT hZ (hw _ (List.mem_of_getElem? (i := 24) rfl))) (mvT hZ (hw _ (List.mem_of_getElem? (i := 23) rfl))) (by decide) (backOf (W := 0) (rm4D l Z aw hw [] (a0) ((0 : Int64)) (th) (xt) ((((((((sc + (1 : Int64))) + (1 : Int64))) + (1 : Int64))) + (1 : Int64))) (us) (xs) (es) (ss) (bb) ((5 : Int64)) ((own_p4D_pendingErrored (0 : Int64) ((own_p4D_pendingErrored (0 : Int64) ((own_p4D_pendingErrored (0 : Int64) ((own_p4D_pendingErrored (0 : Int64) pq)))))))) ((own_p4D_pendingBlocks (0 : Int64) ((own_p4D_pendingBlocks (0 : Int64) ((own_p4D_pendingBlocks (0 : Int64) ((own_p4D_pendingBlocks (0 : Int64) pb)))))))) (pd) (T15.heap) n0 z20 po15_0 po15_1 po15_2 po15_3 po15_4 po15_5 po15_6 po15_7 po15_8 po15_9 po15_10 po15_11 po15_12 po15_13 g_a0 hth (by decide)) hZ (hw _ (List.mem_of_getElem? (i := 25) rfl)) (hw _ (List.mem_of_getElem? (i := 8) rfl)) (by decide) (by decide)) q19a q19c (g := (mkF m 21 #[.val (.ref a0), .val (.long q1), .second, .val (.long x3_8), .second, .val (.long (4 : Int64)), .second] [(.int (0 : Int32)), (.long (0 : Int64)), (.ref a0)])) rfl (by rw [hml]; rfl) (Steps.refl _) (argsL := [(.long (0 : Int64)), (.int (0 : Int32))]) (rest := []) (lenOf pd_1 rfl) rfl (by show 2 * 0 + _ ≤ _; exact Nat.le_of_eq rfl) (hb hby d7_21) (fun _ _ => ⟨rfl, rfl, (by decide : 0 + 0 ≤ _), (by decide : 0 + 0 ≤ _)⟩)
            dsimp only [Pt.U, Pt.locs, Pt.cells, Pt.slots] at X19 l19 y19 z19 st19 hQ19
            subst l19 y19 z19
            obtain ⟨rfl, Nq19, K19, po19_0, po19_1, po19_2, po19_3, po19_4, po19_5, po19_6, po19_7, po19_8, po19_9, po19_10, po19_11, po19_12, po19_13⟩ := hQ19
            have N19 := Fr.app N15 Nq19
            have kp21 : Keep h0 T19.heap [a0] := kp17.trans K19 (allS (Or.inl (List.mem_of_getElem? (i := 0) rfl)) all0)
            have pre22 : own_Pre p e below (s₁.setTop (entryFrame m #[(.ref a0), (.long q1)] 7)) (T19.setTop (mkF m 15 #[.val (.ref a0), .val (.long q1), .second, .val (.long x3_8), .second, .val (.long (5 : Int64)), .second] [(.int (lcmpW (5 : Int64) x3_8))])) := fun t k => pre18 t (by
                show Steps p.tables e below (T15.setTop (mkF m 15 #[.val (.ref a0), .val (.long q1), .second, .val (.long x3_8), .second, .val (.long (4 : Int64)), .second] [(.int (lcmpW (4 : Int64) x3_8))])) _
                refine XS.ifNo X15.here hx rfl (hb hby d7_15) rfl ((if0 _ _).trans (tlt ((lw_lt _ _).mpr hc15_5)).2.1) ?_
                show Steps p.tables e below (T15.setTop (mkF m 18 #[.val (.ref a0), .val (.long q1), .second, .val (.long x3_8), .second, .val (.long (4 : Int64)), .second] [])) _
                refine XS.aloadN X15.here hx rfl (hb hby d7_18) rfl rfl ?_
                show Steps p.tables e below (T15.setTop (mkF m 19 #[.val (.ref a0), .val (.long q1), .second, .val (.long x3_8), .second, .val (.long (4 : Int64)), .second] [(.ref a0)])) _
                refine XS.lconst X15.here hx rfl (hb hby d7_19) ?_
                show Steps p.tables e below (T15.setTop (mkF m 20 #[.val (.ref a0), .val (.long q1), .second, .val (.long x3_8), .second, .val (.long (4 : Int64)), .second] [(.long (0 : Int64)), (.ref a0)])) _
                refine XS.iconst X15.here hx rfl (hb hby d7_20) ?_
                show Steps p.tables e below (T15.setTop (mkF m 21 #[.val (.ref a0), .val (.long q1), .second, .val (.long x3_8), .second, .val (.long (4 : Int64)), .second] [(.int (0 : Int32)), (.long (0 : Int64)), (.ref a0)])) _
                refine st19.trans ?_
                show Steps p.tables e below (T19.setTop (mkF m 24 #[.val (.ref a0), .val (.long q1), .second, .val (.long x3_8), .second, .val (.long (4 : Int64)), .second] [])) _
                refine XS.lload X19.here hx rfl (hb hby d7_24) rfl ?_
                show Steps p.tables e below (T19.setTop (mkF m 26 #[.val (.ref a0), .val (.long q1), .second, .val (.long x3_8), .second, .val (.long (4 : Int64)), .second] [(.long (4 : Int64))])) _
                refine XS.lconst X19.here hx rfl (hb hby d7_26) ?_
                show Steps p.tables e below (T19.setTop (mkF m 27 #[.val (.ref a0), .val (.long q1), .second, .val (.long x3_8), .second, .val (.long (4 : Int64)), .second] [(.long (1 : Int64)), (.long (4 : Int64))])) _
                refine XS.ladd X19.here hx rfl (hb hby d7_27) rfl ?_
                show Steps p.tables e below (T19.setTop (mkF m 28 #[.val (.ref a0), .val (.long q1), .second, .val (.long x3_8), .second, .val (.long (4 : Int64)), .second] [(.long (5 : Int64))])) _
                refine XS.lstore X19.here hx rfl (hb hby d7_28) rfl (l' := #[.val (.ref a0), .val (.long q1), .second, .val (.long x3_8), .second, .val (.long (5 : Int64)), .second]) rfl ?_
                show Steps p.tables e below (T19.setTop (mkF m 30 #[.val (.ref a0), .val (.long q1), .second, .val (.long x3_8), .second, .val (.long (5 : Int64)), .second] [])) _
                refine XS.goto X19.here hx rfl (pc0 := 30) (pc' := 11) rfl (hb hby d7_30) (by decide) (by decide) ?_
                show Steps p.tables e below (T19.setTop (mkF m 11 #[.val (.ref a0), .val (.long q1), .second, .val (.long x3_8), .second, .val (.long (5 : Int64)), .second] [])) _
                refine XS.lload X19.here hx rfl (hb hby d7_11) rfl ?_
                show Steps p.tables e below (T19.setTop (mkF m 13 #[.val (.ref a0), .val (.long q1), .second, .val (.long x3_8), .second, .val (.long (5 : Int64)), .second] [(.long (5 : Int64))])) _
                refine XS.lloadN X19.here hx rfl (hb hby d7_13) rfl ?_
                show Steps p.tables e below (T19.setTop (mkF m 14 #[.val (.ref a0), .val (.long q1), .second, .val (.long x3_8), .second, .val (.long (5 : Int64)), .second] [(.long x3_8), (.long (5 : Int64))])) _
                refine XS.lcmp X19.here hx rfl (hb hby d7_14) rfl ?_
                exact k)
            by_cases hc15_6 : (5 : Int64) < x3_8
            · have z24 : n0 ≤ (T19.heap).size := (Nat.le_trans z20 K19.1)
              obtain ⟨cq23, kq23, q23a, q23b, q23c⟩ := isOf hZ rfl po19_0
              obtain ⟨_, _, ⟨T23, L23, k23, n23⟩, -, X23, ⟨Lc23, hQ23, l23, y23, z23⟩, st23⟩ := X19.virtualBack hx (y := (⟨"com/example/hopchuan/hopchuan/ErrorCounter", "second", "(JZ)V"⟩ : MethodName)) (z := (⟨"com/example/hopchuan/hopchuan/ErrorCounter", "second", "(JZ)V"⟩ : MethodName)) hown (mvT hZ (hw _ (List.mem_of_getElem? (i := 53) rfl))) (mvT hZ (hw _ (List.mem_of_getElem? (i := 22) rfl))) (notFace_of_selects (args := #[]) (mvT hZ (hw _ (List.mem_of_getElem? (i := 24) rfl)))) (mvT hZ (hw _ (List.mem_of_getElem? (i := 24) rfl))) (mvT hZ (hw _ (List.mem_of_getElem? (i := 23) rfl))) (by decide) (backOf (W := 0) (rm4D l Z aw hw [] (a0) ((0 : Int64)) (th) (xt) ((((((((((sc + (1 : Int64))) + (1 : Int64))) + (1 : Int64))) + (1 : Int64))) + (1 : Int64))) (us) (xs) (es) (ss) (bb) ((6 : Int64)) ((own_p4D_pendingErrored (0 : Int64) ((own_p4D_pendingErrored (0 : Int64) ((own_p4D_pendingErrored (0 : Int64) ((own_p4D_pendingErrored (0 : Int64) ((own_p4D_pendingErrored (0 : Int64) pq)))))))))) ((own_p4D_pendingBlocks (0 : Int64) ((own_p4D_pendingBlocks (0 : Int64) ((own_p4D_pendingBlocks (0 : Int64) ((own_p4D_pendingBlocks (0 : Int64) ((own_p4D_pendingBlocks (0 : Int64) pb)))))))))) (pd) (T19.heap) n0 z24 po19_0 po19_1 po19_2 po19_3 po19_4 po19_5 po19_6 po19_7 po19_8 po19_9 po19_10 po19_11 po19_12 po19_13 g_a0 hth (by decide)) hZ (hw _ (List.mem_of_getElem? (i := 25) rfl)) (hw _ (List.mem_of_getElem? (i := 8) rfl)) (by decide) (by decide)) q23a q23c (g := (mkF m 21 #[.val (.ref a0), .val (.long q1), .second, .val (.long x3_8), .second, .val (.long (5 : Int64)), .second] [(.int (0 : Int32)), (.long (0 : Int64)), (.ref a0)])) rfl (by rw [hml]; rfl) (Steps.refl _) (argsL := [(.long (0 : Int64)), (.int (0 : Int32))]) (rest := []) (lenOf pd_1 rfl) rfl (by show 2 * 0 + _ ≤ _; exact Nat.le_of_eq rfl) (hb hby d7_21) (fun _ _ => ⟨rfl, rfl, (by decide : 0 + 0 ≤ _), (by decide : 0 + 0 ≤ _)⟩)
              dsimp only [Pt.U, Pt.locs, Pt.cells, Pt.slots] at X23 l23 y23 z23 st23 hQ23
              subst l23 y23 z23
              obtain ⟨rfl, Nq23, K23, po23_0, po23_1, po23_2, po23_3, po23_4, po23_5, po23_6, po23_7, po23_8, po23_9, po23_10, po23_11, po23_12, po23_13⟩ := hQ23
              have N23 := Fr.app N19 Nq23
              have kp25 : Keep h0 T23.heap [a0] := kp21.trans K23 (allS (Or.inl (List.mem_of_getElem? (i := 0) rfl)) all0)
              have pre26 : own_Pre p e below (s₁.setTop (entryFrame m #[(.ref a0), (.long q1)] 7)) (T23.setTop (mkF m 15 #[.val (.ref a0), .val (.long q1), .second, .val (.long x3_8), .second, .val (.long (6 : Int64)), .second] [(.int (lcmpW (6 : Int64) x3_8))])) := fun t k => pre22 t (by
                  show Steps p.tables e below (T19.setTop (mkF m 15 #[.val (.ref a0), .val (.long q1), .second, .val (.long x3_8), .second, .val (.long (5 : Int64)), .second] [(.int (lcmpW (5 : Int64) x3_8))])) _
                  refine XS.ifNo X19.here hx rfl (hb hby d7_15) rfl ((if0 _ _).trans (tlt ((lw_lt _ _).mpr hc15_6)).2.1) ?_
                  show Steps p.tables e below (T19.setTop (mkF m 18 #[.val (.ref a0), .val (.long q1), .second, .val (.long x3_8), .second, .val (.long (5 : Int64)), .second] [])) _
                  refine XS.aloadN X19.here hx rfl (hb hby d7_18) rfl rfl ?_
                  show Steps p.tables e below (T19.setTop (mkF m 19 #[.val (.ref a0), .val (.long q1), .second, .val (.long x3_8), .second, .val (.long (5 : Int64)), .second] [(.ref a0)])) _
                  refine XS.lconst X19.here hx rfl (hb hby d7_19) ?_
                  show Steps p.tables e below (T19.setTop (mkF m 20 #[.val (.ref a0), .val (.long q1), .second, .val (.long x3_8), .second, .val (.long (5 : Int64)), .second] [(.long (0 : Int64)), (.ref a0)])) _
                  refine XS.iconst X19.here hx rfl (hb hby d7_20) ?_
                  show Steps p.tables e below (T19.setTop (mkF m 21 #[.val (.ref a0), .val (.long q1), .second, .val (.long x3_8), .second, .val (.long (5 : Int64)), .second] [(.int (0 : Int32)), (.long (0 : Int64)), (.ref a0)])) _
                  refine st23.trans ?_
                  show Steps p.tables e below (T23.setTop (mkF m 24 #[.val (.ref a0), .val (.long q1), .second, .val (.long x3_8), .second, .val (.long (5 : Int64)), .second] [])) _
                  refine XS.lload X23.here hx rfl (hb hby d7_24) rfl ?_
                  show Steps p.tables e below (T23.setTop (mkF m 26 #[.val (.ref a0), .val (.long q1), .second, .val (.long x3_8), .second, .val (.long (5 : Int64)), .second] [(.long (5 : Int64))])) _
                  refine XS.lconst X23.here hx rfl (hb hby d7_26) ?_
                  show Steps p.tables e below (T23.setTop (mkF m 27 #[.val (.ref a0), .val (.long q1), .second, .val (.long x3_8), .second, .val (.long (5 : Int64)), .second] [(.long (1 : Int64)), (.long (5 : Int64))])) _
                  refine XS.ladd X23.here hx rfl (hb hby d7_27) rfl ?_
                  show Steps p.tables e below (T23.setTop (mkF m 28 #[.val (.ref a0), .val (.long q1), .second, .val (.long x3_8), .second, .val (.long (5 : Int64)), .second] [(.long (6 : Int64))])) _
                  refine XS.lstore X23.here hx rfl (hb hby d7_28) rfl (l' := #[.val (.ref a0), .val (.long q1), .second, .val (.long x3_8), .second, .val (.long (6 : Int64)), .second]) rfl ?_
                  show Steps p.tables e below (T23.setTop (mkF m 30 #[.val (.ref a0), .val (.long q1), .second, .val (.long x3_8), .second, .val (.long (6 : Int64)), .second] [])) _
                  refine XS.goto X23.here hx rfl (pc0 := 30) (pc' := 11) rfl (hb hby d7_30) (by decide) (by decide) ?_
                  show Steps p.tables e below (T23.setTop (mkF m 11 #[.val (.ref a0), .val (.long q1), .second, .val (.long x3_8), .second, .val (.long (6 : Int64)), .second] [])) _
                  refine XS.lload X23.here hx rfl (hb hby d7_11) rfl ?_
                  show Steps p.tables e below (T23.setTop (mkF m 13 #[.val (.ref a0), .val (.long q1), .second, .val (.long x3_8), .second, .val (.long (6 : Int64)), .second] [(.long (6 : Int64))])) _
                  refine XS.lloadN X23.here hx rfl (hb hby d7_13) rfl ?_
                  show Steps p.tables e below (T23.setTop (mkF m 14 #[.val (.ref a0), .val (.long q1), .second, .val (.long x3_8), .second, .val (.long (6 : Int64)), .second] [(.long x3_8), (.long (6 : Int64))])) _
                  refine XS.lcmp X23.here hx rfl (hb hby d7_14) rfl ?_
                  exact k)
              by_cases hc15_7 : (6 : Int64) < x3_8
              · have z28 : n0 ≤ (T23.heap).size := (Nat.le_trans z24 K23.1)
                obtain ⟨cq27, kq27, q27a, q27b, q27c⟩ := isOf hZ rfl po23_0
                obtain ⟨_, _, ⟨T27, L27, k27, n27⟩, -, X27, ⟨Lc27, hQ27, l27, y27, z27⟩, st27⟩ := X23.virtualBack hx (y := (⟨"com/example/hopchuan/hopchuan/ErrorCounter", "second", "(JZ)V"⟩ : MethodName)) (z := (⟨"com/example/hopchuan/hopchuan/ErrorCounter", "second", "(JZ)V"⟩ : MethodName)) hown (mvT hZ (hw _ (List.mem_of_getElem? (i := 53) rfl))) (mvT hZ (hw _ (List.mem_of_getElem? (i := 22) rfl))) (notFace_of_selects (args := #[]) (mvT hZ (hw _ (List.mem_of_getElem? (i := 24) rfl)))) (mvT hZ (hw _ (List.mem_of_getElem? (i := 24) rfl))) (mvT hZ (hw _ (List.mem_of_getElem? (i := 23) rfl))) (by decide) (backOf (W := 0) (rm4D l Z aw hw [] (a0) ((0 : Int64)) (th) (xt) ((((((((((((sc + (1 : Int64))) + (1 : Int64))) + (1 : Int64))) + (1 : Int64))) + (1 : Int64))) + (1 : Int64))) (us) (xs) (es) (ss) (bb) ((7 : Int64)) ((own_p4D_pendingErrored (0 : Int64) ((own_p4D_pendingErrored (0 : Int64) ((own_p4D_pendingErrored (0 : Int64) ((own_p4D_pendingErrored (0 : Int64) ((own_p4D_pendingErrored (0 : Int64) ((own_p4D_pendingErrored (0 : Int64) pq)))))))))))) ((own_p4D_pendingBlocks (0 : Int64) ((own_p4D_pendingBlocks (0 : Int64) ((own_p4D_pendingBlocks (0 : Int64) ((own_p4D_pendingBlocks (0 : Int64) ((own_p4D_pendingBlocks (0 : Int64) ((own_p4D_pendingBlocks (0 : Int64) pb)))))))))))) (pd) (T23.heap) n0 z28 po23_0 po23_1 po23_2 po23_3 po23_4 po23_5 po23_6 po23_7 po23_8 po23_9 po23_10 po23_11 po23_12 po23_13 g_a0 hth (by decide)) hZ (hw _ (List.mem_of_getElem? (i := 25) rfl)) (hw _ (List.mem_of_getElem? (i := 8) rfl)) (by decide) (by decide)) q27a q27c (g := (mkF m 21 #[.val (.ref a0), .val (.long q1), .second, .val (.long x3_8), .second, .val (.long (6 : Int64)), .second] [(.int (0 : Int32)), (.long (0 : Int64)), (.ref a0)])) rfl (by rw [hml]; rfl) (Steps.refl _) (argsL := [(.long (0 : Int64)), (.int (0 : Int32))]) (rest := []) (lenOf pd_1 rfl) rfl (by show 2 * 0 + _ ≤ _; exact Nat.le_of_eq rfl) (hb hby d7_21) (fun _ _ => ⟨rfl, rfl, (by decide : 0 + 0 ≤ _), (by decide : 0 + 0 ≤ _)⟩)
                dsimp only [Pt.U, Pt.locs, Pt.cells, Pt.slots] at X27 l27 y27 z27 st27 hQ27
                subst l27 y27 z27
                obtain ⟨rfl, Nq27, K27, po27_0, po27_1, po27_2, po27_3, po27_4, po27_5, po27_6, po27_7, po27_8, po27_9, po27_10, po27_11, po27_12, po27_13⟩ := hQ27
                have N27 := Fr.app N23 Nq27
                have kp29 : Keep h0 T27.heap [a0] := kp25.trans K27 (allS (Or.inl (List.mem_of_getElem? (i := 0) rfl)) all0)
                have pre30 : own_Pre p e below (s₁.setTop (entryFrame m #[(.ref a0), (.long q1)] 7)) (T27.setTop (mkF m 15 #[.val (.ref a0), .val (.long q1), .second, .val (.long x3_8), .second, .val (.long (7 : Int64)), .second] [(.int (lcmpW (7 : Int64) x3_8))])) := fun t k => pre26 t (by
                    show Steps p.tables e below (T23.setTop (mkF m 15 #[.val (.ref a0), .val (.long q1), .second, .val (.long x3_8), .second, .val (.long (6 : Int64)), .second] [(.int (lcmpW (6 : Int64) x3_8))])) _
                    refine XS.ifNo X23.here hx rfl (hb hby d7_15) rfl ((if0 _ _).trans (tlt ((lw_lt _ _).mpr hc15_7)).2.1) ?_
                    show Steps p.tables e below (T23.setTop (mkF m 18 #[.val (.ref a0), .val (.long q1), .second, .val (.long x3_8), .second, .val (.long (6 : Int64)), .second] [])) _
                    refine XS.aloadN X23.here hx rfl (hb hby d7_18) rfl rfl ?_
                    show Steps p.tables e below (T23.setTop (mkF m 19 #[.val (.ref a0), .val (.long q1), .second, .val (.long x3_8), .second, .val (.long (6 : Int64)), .second] [(.ref a0)])) _
                    refine XS.lconst X23.here hx rfl (hb hby d7_19) ?_
                    show Steps p.tables e below (T23.setTop (mkF m 20 #[.val (.ref a0), .val (.long q1), .second, .val (.long x3_8), .second, .val (.long (6 : Int64)), .second] [(.long (0 : Int64)), (.ref a0)])) _
                    refine XS.iconst X23.here hx rfl (hb hby d7_20) ?_
                    show Steps p.tables e below (T23.setTop (mkF m 21 #[.val (.ref a0), .val (.long q1), .second, .val (.long x3_8), .second, .val (.long (6 : Int64)), .second] [(.int (0 : Int32)), (.long (0 : Int64)), (.ref a0)])) _
                    refine st27.trans ?_
                    show Steps p.tables e below (T27.setTop (mkF m 24 #[.val (.ref a0), .val (.long q1), .second, .val (.long x3_8), .second, .val (.long (6 : Int64)), .second] [])) _
                    refine XS.lload X27.here hx rfl (hb hby d7_24) rfl ?_
                    show Steps p.tables e below (T27.setTop (mkF m 26 #[.val (.ref a0), .val (.long q1), .second, .val (.long x3_8), .second, .val (.long (6 : Int64)), .second] [(.long (6 : Int64))])) _
                    refine XS.lconst X27.here hx rfl (hb hby d7_26) ?_
                    show Steps p.tables e below (T27.setTop (mkF m 27 #[.val (.ref a0), .val (.long q1), .second, .val (.long x3_8), .second, .val (.long (6 : Int64)), .second] [(.long (1 : Int64)), (.long (6 : Int64))])) _
                    refine XS.ladd X27.here hx rfl (hb hby d7_27) rfl ?_
                    show Steps p.tables e below (T27.setTop (mkF m 28 #[.val (.ref a0), .val (.long q1), .second, .val (.long x3_8), .second, .val (.long (6 : Int64)), .second] [(.long (7 : Int64))])) _
                    refine XS.lstore X27.here hx rfl (hb hby d7_28) rfl (l' := #[.val (.ref a0), .val (.long q1), .second, .val (.long x3_8), .second, .val (.long (7 : Int64)), .second]) rfl ?_
                    show Steps p.tables e below (T27.setTop (mkF m 30 #[.val (.ref a0), .val (.long q1), .second, .val (.long x3_8), .second, .val (.long (7 : Int64)), .second] [])) _
                    refine XS.goto X27.here hx rfl (pc0 := 30) (pc' := 11) rfl (hb hby d7_30) (by decide) (by decide) ?_
                    show Steps p.tables e below (T27.setTop (mkF m 11 #[.val (.ref a0), .val (.long q1), .second, .val (.long x3_8), .second, .val (.long (7 : Int64)), .second] [])) _
                    refine XS.lload X27.here hx rfl (hb hby d7_11) rfl ?_
                    show Steps p.tables e below (T27.setTop (mkF m 13 #[.val (.ref a0), .val (.long q1), .second, .val (.long x3_8), .second, .val (.long (7 : Int64)), .second] [(.long (7 : Int64))])) _
                    refine XS.lloadN X27.here hx rfl (hb hby d7_13) rfl ?_
                    show Steps p.tables e below (T27.setTop (mkF m 14 #[.val (.ref a0), .val (.long q1), .second, .val (.long x3_8), .second, .val (.long (7 : Int64)), .second] [(.long x3_8), (.long (7 : Int64))])) _
                    refine XS.lcmp X27.here hx rfl (hb hby d7_14) rfl ?_
                    exact k)
                by_cases hc15_8 : (7 : Int64) < x3_8
                · have z32 : n0 ≤ (T27.heap).size := (Nat.le_trans z28 K27.1)
                  obtain ⟨cq31, kq31, q31a, q31b, q31c⟩ := isOf hZ rfl po27_0
                  obtain ⟨_, _, ⟨T31, L31, k31, n31⟩, -, X31, ⟨Lc31, hQ31, l31, y31, z31⟩, st31⟩ := X27.virtualBack hx (y := (⟨"com/example/hopchuan/hopchuan/ErrorCounter", "second", "(JZ)V"⟩ : MethodName)) (z := (⟨"com/example/hopchuan/hopchuan/ErrorCounter", "second", "(JZ)V"⟩ : MethodName)) hown (mvT hZ (hw _ (List.mem_of_getElem? (i := 53) rfl))) (mvT hZ (hw _ (List.mem_of_getElem? (i := 22) rfl))) (notFace_of_selects (args := #[]) (mvT hZ (hw _ (List.mem_of_getElem? (i := 24) rfl)))) (mvT hZ (hw _ (List.mem_of_getElem? (i := 24) rfl))) (mvT hZ (hw _ (List.mem_of_getElem? (i := 23) rfl))) (by decide) (backOf (W := 0) (rm4D l Z aw hw [] (a0) ((0 : Int64)) (th) (xt) ((((((((((((((sc + (1 : Int64))) + (1 : Int64))) + (1 : Int64))) + (1 : Int64))) + (1 : Int64))) + (1 : Int64))) + (1 : Int64))) (us) (xs) (es) (ss) (bb) ((8 : Int64)) ((own_p4D_pendingErrored (0 : Int64) ((own_p4D_pendingErrored (0 : Int64) ((own_p4D_pendingErrored (0 : Int64) ((own_p4D_pendingErrored (0 : Int64) ((own_p4D_pendingErrored (0 : Int64) ((own_p4D_pendingErrored (0 : Int64) ((own_p4D_pendingErrored (0 : Int64) pq)))))))))))))) ((own_p4D_pendingBlocks (0 : Int64) ((own_p4D_pendingBlocks (0 : Int64) ((own_p4D_pendingBlocks (0 : Int64) ((own_p4D_pendingBlocks (0 : Int64) ((own_p4D_pendingBlocks (0 : Int64) ((own_p4D_pendingBlocks (0 : Int64) ((own_p4D_pendingBlocks (0 : Int64) pb)))))))))))))) (pd) (T27.heap) n0 z32 po27_0 po27_1 po27_2 po27_3 po27_4 po27_5 po27_6 po27_7 po27_8 po27_9 po27_10 po27_11 po27_12 po27_13 g_a0 hth (by decide)) hZ (hw _ (List.mem_of_getElem? (i := 25) rfl)) (hw _ (List.mem_of_getElem? (i := 8) rfl)) (by decide) (by decide)) q31a q31c (g := (mkF m 21 #[.val (.ref a0), .val (.long q1), .second, .val (.long x3_8), .second, .val (.long (7 : Int64)), .second] [(.int (0 : Int32)), (.long (0 : Int64)), (.ref a0)])) rfl (by rw [hml]; rfl) (Steps.refl _) (argsL := [(.long (0 : Int64)), (.int (0 : Int32))]) (rest := []) (lenOf pd_1 rfl) rfl (by show 2 * 0 + _ ≤ _; exact Nat.le_of_eq rfl) (hb hby d7_21) (fun _ _ => ⟨rfl, rfl, (by decide : 0 + 0 ≤ _), (by decide : 0 + 0 ≤ _)⟩)
                  dsimp only [Pt.U, Pt.locs, Pt.cells, Pt.slots] at X31 l31 y31 z31 st31 hQ31
                  subst l31 y31 z31
                  obtain ⟨rfl, Nq31, K31, po31_0, po31_1, po31_2, po31_3, po31_4, po31_5, po31_6, po31_7, po31_8, po31_9, po31_10, po31_11, po31_12, po31_13⟩ := hQ31
                  have N31 := Fr.app N27 Nq31
                  have kp33 : Keep h0 T31.heap [a0] := kp29.trans K31 (allS (Or.inl (List.mem_of_getElem? (i := 0) rfl)) all0)
                  have hc15_9 : ¬ ((8 : Int64) < x3_8) := by rw [hx3_8]; exact own_cl8 hj
                  obtain ⟨T34, X34, e34, st34⟩ := getF X31 hx hZ hown (host := "") (Or.inl (hw _ (List.mem_of_getElem? (i := 26) rfl))) Via.refl rfl po31_4 (g := (mkF m 35 #[.val (.ref a0), .val (.long q1), .second, .val (.long x3_8), .second, .val (.long (8 : Int64)), .second] [(.ref a0), (.ref a0)])) rfl rfl (hb hby d7_35)
                  obtain ⟨T35, h35, X35, e35, W35, st35⟩ := putF X34 hx hZ hown (host := "") (Or.inl (hw _ (List.mem_of_getElem? (i := 26) rfl))) Via.refl e34 po31_4 po31_0 (Or.inl (hw _ (List.mem_of_getElem? (i := 27) rfl))) (hw _ (List.mem_of_getElem? (i := 7) rfl)) (ty := .long) (by decide) rfl rfl (g := (mkF m 42 #[.val (.ref a0), .val (.long q1), .second, .val (.long x3_8), .second, .val (.long (8 : Int64)), .second] [(.long ((((((((((((((((sc + (1 : Int64))) + (1 : Int64))) + (1 : Int64))) + (1 : Int64))) + (1 : Int64))) + (1 : Int64))) + (1 : Int64))) + (1 : Int64)) + (q1 - x3_8))), (.ref a0)])) rfl rfl (hb hby d7_42)
                  have Fw35 := po31_4.same W35
                  have N35 := Fr.snoc X35 N31 g_a0
                  have kp36 : Keep h0 h35 [a0] := kp33.wr W35 (Or.inl (List.mem_of_getElem? (i := 0) rfl))
                  obtain ⟨fs, hr, hrun, hended, hW, hsame⟩ := X35.leave (v := none) (fun _ => rfl)
                  refine ⟨_, _, pre30 _ ?_, hrun, hended, _, _, rfl, ?_, ⟨_, rfl⟩, hW, hsame.mono (by decide) (by decide)⟩
                  · show Steps p.tables e below (T27.setTop (mkF m 15 #[.val (.ref a0), .val (.long q1), .second, .val (.long x3_8), .second, .val (.long (7 : Int64)), .second] [(.int (lcmpW (7 : Int64) x3_8))])) _
                    refine XS.ifNo X27.here hx rfl (hb hby d7_15) rfl ((if0 _ _).trans (tlt ((lw_lt _ _).mpr hc15_8)).2.1) ?_
                    show Steps p.tables e below (T27.setTop (mkF m 18 #[.val (.ref a0), .val (.long q1), .second, .val (.long x3_8), .second, .val (.long (7 : Int64)), .second] [])) _
                    refine XS.aloadN X27.here hx rfl (hb hby d7_18) rfl rfl ?_
                    show Steps p.tables e below (T27.setTop (mkF m 19 #[.val (.ref a0), .val (.long q1), .second, .val (.long x3_8), .second, .val (.long (7 : Int64)), .second] [(.ref a0)])) _
                    refine XS.lconst X27.here hx rfl (hb hby d7_19) ?_
                    show Steps p.tables e below (T27.setTop (mkF m 20 #[.val (.ref a0), .val (.long q1), .second, .val (.long x3_8), .second, .val (.long (7 : Int64)), .second] [(.long (0 : Int64)), (.ref a0)])) _
                    refine XS.iconst X27.here hx rfl (hb hby d7_20) ?_
                    show Steps p.tables e below (T27.setTop (mkF m 21 #[.val (.ref a0), .val (.long q1), .second, .val (.long x3_8), .second, .val (.long (7 : Int64)), .second] [(.int (0 : Int32)), (.long (0 : Int64)), (.ref a0)])) _
                    refine st31.trans ?_
                    show Steps p.tables e below (T31.setTop (mkF m 24 #[.val (.ref a0), .val (.long q1), .second, .val (.long x3_8), .second, .val (.long (7 : Int64)), .second] [])) _
                    refine XS.lload X31.here hx rfl (hb hby d7_24) rfl ?_
                    show Steps p.tables e below (T31.setTop (mkF m 26 #[.val (.ref a0), .val (.long q1), .second, .val (.long x3_8), .second, .val (.long (7 : Int64)), .second] [(.long (7 : Int64))])) _
                    refine XS.lconst X31.here hx rfl (hb hby d7_26) ?_
                    show Steps p.tables e below (T31.setTop (mkF m 27 #[.val (.ref a0), .val (.long q1), .second, .val (.long x3_8), .second, .val (.long (7 : Int64)), .second] [(.long (1 : Int64)), (.long (7 : Int64))])) _
                    refine XS.ladd X31.here hx rfl (hb hby d7_27) rfl ?_
                    show Steps p.tables e below (T31.setTop (mkF m 28 #[.val (.ref a0), .val (.long q1), .second, .val (.long x3_8), .second, .val (.long (7 : Int64)), .second] [(.long (8 : Int64))])) _
                    refine XS.lstore X31.here hx rfl (hb hby d7_28) rfl (l' := #[.val (.ref a0), .val (.long q1), .second, .val (.long x3_8), .second, .val (.long (8 : Int64)), .second]) rfl ?_
                    show Steps p.tables e below (T31.setTop (mkF m 30 #[.val (.ref a0), .val (.long q1), .second, .val (.long x3_8), .second, .val (.long (8 : Int64)), .second] [])) _
                    refine XS.goto X31.here hx rfl (pc0 := 30) (pc' := 11) rfl (hb hby d7_30) (by decide) (by decide) ?_
                    show Steps p.tables e below (T31.setTop (mkF m 11 #[.val (.ref a0), .val (.long q1), .second, .val (.long x3_8), .second, .val (.long (8 : Int64)), .second] [])) _
                    refine XS.lload X31.here hx rfl (hb hby d7_11) rfl ?_
                    show Steps p.tables e below (T31.setTop (mkF m 13 #[.val (.ref a0), .val (.long q1), .second, .val (.long x3_8), .second, .val (.long (8 : Int64)), .second] [(.long (8 : Int64))])) _
                    refine XS.lloadN X31.here hx rfl (hb hby d7_13) rfl ?_
                    show Steps p.tables e below (T31.setTop (mkF m 14 #[.val (.ref a0), .val (.long q1), .second, .val (.long x3_8), .second, .val (.long (8 : Int64)), .second] [(.long x3_8), (.long (8 : Int64))])) _
                    refine XS.lcmp X31.here hx rfl (hb hby d7_14) rfl ?_
                    show Steps p.tables e below (T31.setTop (mkF m 15 #[.val (.ref a0), .val (.long q1), .second, .val (.long x3_8), .second, .val (.long (8 : Int64)), .second] [(.int (lcmpW (8 : Int64) x3_8))])) _
                    refine XS.ifYes X31.here hx rfl (pc0 := 15) (pc' := 33) rfl (hb hby d7_15) rfl ((if0 _ _).trans (flt (mt (lw_lt _ _).mp hc15_9)).2.1) (by decide) (by decide) ?_
                    show Steps p.tables e below (T31.setTop (mkF m 33 #[.val (.ref a0), .val (.long q1), .second, .val (.long x3_8), .second, .val (.long (8 : Int64)), .second] [])) _
                    refine XS.aloadN X31.here hx rfl (hb hby d7_33) rfl rfl ?_
                    show Steps p.tables e below (T31.setTop (mkF m 34 #[.val (.ref a0), .val (.long q1), .second, .val (.long x3_8), .second, .val (.long (8 : Int64)), .second] [(.ref a0)])) _
                    refine XS.dup X31.here hx rfl (hb hby d7_34) rfl rfl ?_
                    show Steps p.tables e below (T31.setTop (mkF m 35 #[.val (.ref a0), .val (.long q1), .second, .val (.long x3_8), .second, .val (.long (8 : Int64)), .second] [(.ref a0), (.ref a0)])) _
                    refine st34 _ ?_
                    show Steps p.tables e below (T34.setTop (mkF m 38 #[.val (.ref a0), .val (.long q1), .second, .val (.long x3_8), .second, .val (.long (8 : Int64)), .second] [(.long (((((((((((((((sc + (1 : Int64))) + (1 : Int64))) + (1 : Int64))) + (1 : Int64))) + (1 : Int64))) + (1 : Int64))) + (1 : Int64))) + (1 : Int64))), (.ref a0)])) _
                    refine XS.lloadN X34.here hx rfl (hb hby d7_38) rfl ?_
                    show Steps p.tables e below (T34.setTop (mkF m 39 #[.val (.ref a0), .val (.long q1), .second, .val (.long x3_8), .second, .val (.long (8 : Int64)), .second] [(.long q1), (.long (((((((((((((((sc + (1 : Int64))) + (1 : Int64))) + (1 : Int64))) + (1 : Int64))) + (1 : Int64))) + (1 : Int64))) + (1 : Int64))) + (1 : Int64))), (.ref a0)])) _
                    refine XS.lloadN X34.here hx rfl (hb hby d7_39) rfl ?_
                    show Steps p.tables e below (T34.setTop (mkF m 40 #[.val (.ref a0), .val (.long q1), .second, .val (.long x3_8), .second, .val (.long (8 : Int64)), .second] [(.long x3_8), (.long q1), (.long (((((((((((((((sc + (1 : Int64))) + (1 : Int64))) + (1 : Int64))) + (1 : Int64))) + (1 : Int64))) + (1 : Int64))) + (1 : Int64))) + (1 : Int64))), (.ref a0)])) _
                    refine XS.lsub X34.here hx rfl (hb hby d7_40) rfl ?_
                    show Steps p.tables e below (T34.setTop (mkF m 41 #[.val (.ref a0), .val (.long q1), .second, .val (.long x3_8), .second, .val (.long (8 : Int64)), .second] [(.long (q1 - x3_8)), (.long (((((((((((((((sc + (1 : Int64))) + (1 : Int64))) + (1 : Int64))) + (1 : Int64))) + (1 : Int64))) + (1 : Int64))) + (1 : Int64))) + (1 : Int64))), (.ref a0)])) _
                    refine XS.ladd X34.here hx rfl (hb hby d7_41) rfl ?_
                    show Steps p.tables e below (T34.setTop (mkF m 42 #[.val (.ref a0), .val (.long q1), .second, .val (.long x3_8), .second, .val (.long (8 : Int64)), .second] [(.long ((((((((((((((((sc + (1 : Int64))) + (1 : Int64))) + (1 : Int64))) + (1 : Int64))) + (1 : Int64))) + (1 : Int64))) + (1 : Int64))) + (1 : Int64)) + (q1 - x3_8))), (.ref a0)])) _
                    refine st35 _ ?_
                    show Steps p.tables e below (T35.setTop (mkF m 45 #[.val (.ref a0), .val (.long q1), .second, .val (.long x3_8), .second, .val (.long (8 : Int64)), .second] [])) _
                    exact X35.returnOut hx Bd.returns (hb hby d7_45) hr
                  · show Q7 Z a0 q1 th xt sc us xs es ss bb pq pb pd h0 n0 _ T35.heap _
                    rw [e35]
                    unfold Q7
                    have f37 := (po31_0.wr W35)
                    have f38 := (po31_1.other W35 (Or.inr (slot_ne (Or.inl (hw _ (List.mem_of_getElem? (i := 16) rfl))) (Or.inl (hw _ (List.mem_of_getElem? (i := 27) rfl))) (by decide) (t := .boolean) (t' := .long) (by decide) (by decide))))
                    have f39 := (po31_2.other W35 (Or.inr (slot_ne (Or.inr (hw _ (List.mem_of_getElem? (i := 18) rfl))) (Or.inl (hw _ (List.mem_of_getElem? (i := 27) rfl))) (by decide) (t := .long) (t' := .long) (by decide) (by decide))))
                    have f40 := (po31_3.other W35 (Or.inr (slot_ne (Or.inr (hw _ (List.mem_of_getElem? (i := 20) rfl))) (Or.inl (hw _ (List.mem_of_getElem? (i := 27) rfl))) (by decide) (t := .long) (t' := .long) (by decide) (by decide))))
                    have f41 := (po31_5.other W35 (Or.inr (slot_ne (Or.inl (hw _ (List.mem_of_getElem? (i := 72) rfl))) (Or.inl (hw _ (List.mem_of_getElem? (i := 27) rfl))) (by decide) (t := .long) (t' := .long) (by decide) (by decide))))
                    have f42 := (po31_6.other W35 (Or.inr (slot_ne (Or.inl (hw _ (List.mem_of_getElem? (i := 74) rfl))) (Or.inl (hw _ (List.mem_of_getElem? (i := 27) rfl))) (by decide) (t := .long) (t' := .long) (by decide) (by decide))))
                    have f43 := (po31_7.other W35 (Or.inr (slot_ne (Or.inl (hw _ (List.mem_of_getElem? (i := 33) rfl))) (Or.inl (hw _ (List.mem_of_getElem? (i := 27) rfl))) (by decide) (t := .long) (t' := .long) (by decide) (by decide))))
                    have f44 := (po31_8.other W35 (Or.inr (slot_ne (Or.inl (hw _ (List.mem_of_getElem? (i := 37) rfl))) (Or.inl (hw _ (List.mem_of_getElem? (i := 27) rfl))) (by decide) (t := .long) (t' := .long) (by decide) (by decide))))
                    have f45 := (po31_9.other W35 (Or.inr (slot_ne (Or.inl (hw _ (List.mem_of_getElem? (i := 97) rfl))) (Or.inl (hw _ (List.mem_of_getElem? (i := 27) rfl))) (by decide) (t := .long) (t' := .long) (by decide) (by decide))))
                    have f46 := (po31_10.other W35 (Or.inr (slot_ne (Or.inl (hw _ (List.mem_of_getElem? (i := 35) rfl))) (Or.inl (hw _ (List.mem_of_getElem? (i := 27) rfl))) (by decide) (t := .long) (t' := .long) (by decide) (by decide))))
                    have f47 := (po31_11.other W35 (Or.inr (slot_ne (Or.inl (hw _ (List.mem_of_getElem? (i := 64) rfl))) (Or.inl (hw _ (List.mem_of_getElem? (i := 27) rfl))) (by decide) (t := .long) (t' := .long) (by decide) (by decide))))
                    have f48 := (po31_12.other W35 (Or.inr (slot_ne (Or.inl (hw _ (List.mem_of_getElem? (i := 66) rfl))) (Or.inl (hw _ (List.mem_of_getElem? (i := 27) rfl))) (by decide) (t := .long) (t' := .long) (by decide) (by decide))))
                    have f49 := (po31_13.other W35 (Or.inr (slot_ne (Or.inl (hw _ (List.mem_of_getElem? (i := 44) rfl))) (Or.inl (hw _ (List.mem_of_getElem? (i := 27) rfl))) (by decide) (t := .long) (t' := .long) (by decide) (by decide))))
                    refine ⟨rfl, N35, kp36, f37, ?_, ?_, ?_, ?_, ?_, ?_, ?_, ?_, ?_, ?_, ?_, ?_, ?_⟩
                    · exact f38
                    · exact f39
                    · exact f40
                    · rw [show (own_p7_seconds q1 sc) = ((((((((((((((((sc + (1 : Int64))) + (1 : Int64))) + (1 : Int64))) + (1 : Int64))) + (1 : Int64))) + (1 : Int64))) + (1 : Int64))) + (1 : Int64)) + (q1 - x3_8)) from (by subst hx3_8; simp only [own_p7_seconds, if_pos hc15, if_pos hc15_2, if_pos hc15_3, if_pos hc15_4, if_pos hc15_5, if_pos hc15_6, if_pos hc15_7, if_pos hc15_8])]; exact Fw35
                    · exact f41
                    · exact f42
                    · exact f43
                    · exact f44
                    · exact f45
                    · rw [show (own_p7_pending q1) = (9 : Int64) from (by subst hx3_8; simp only [own_p7_pending, if_pos hc15, if_pos hc15_2, if_pos hc15_3, if_pos hc15_4, if_pos hc15_5, if_pos hc15_6, if_pos hc15_7, if_pos hc15_8])]; exact f46
                    · rw [show (own_p7_pendingErrored q1 pq) = (own_p4D_pendingErrored (0 : Int64) ((own_p4D_pendingErrored (0 : Int64) ((own_p4D_pendingErrored (0 : Int64) ((own_p4D_pendingErrored (0 : Int64) ((own_p4D_pendingErrored (0 : Int64) ((own_p4D_pendingErrored (0 : Int64) ((own_p4D_pendingErrored (0 : Int64) ((own_p4D_pendingErrored (0 : Int64) pq))))))))))))))) from (by subst hx3_8; simp only [own_p7_pendingErrored, if_pos hc15, if_pos hc15_2, if_pos hc15_3, if_pos hc15_4, if_pos hc15_5, if_pos hc15_6, if_pos hc15_7, if_pos hc15_8])]; exact f47
                    · rw [show (own_p7_pendingBlocks q1 pb) = (own_p4D_pendingBlocks (0 : Int64) ((own_p4D_pendingBlocks (0 : Int64) ((own_p4D_pendingBlocks (0 : Int64) ((own_p4D_pendingBlocks (0 : Int64) ((own_p4D_pendingBlocks (0 : Int64) ((own_p4D_pendingBlocks (0 : Int64) ((own_p4D_pendingBlocks (0 : Int64) ((own_p4D_pendingBlocks (0 : Int64) pb))))))))))))))) from (by subst hx3_8; simp only [own_p7_pendingBlocks, if_pos hc15, if_pos hc15_2, if_pos hc15_3, if_pos hc15_4, if_pos hc15_5, if_pos hc15_6, if_pos hc15_7, if_pos hc15_8])]; exact f48
                    · exact f49
                · obtain ⟨T50, X50, e50, st50⟩ := getF X27 hx hZ hown (host := "") (Or.inl (hw _ (List.mem_of_getElem? (i := 26) rfl))) Via.refl rfl po27_4 (g := (mkF m 35 #[.val (.ref a0), .val (.long q1), .second, .val (.long x3_8), .second, .val (.long (7 : Int64)), .second] [(.ref a0), (.ref a0)])) rfl rfl (hb hby d7_35)
                  obtain ⟨T51, h51, X51, e51, W51, st51⟩ := putF X50 hx hZ hown (host := "") (Or.inl (hw _ (List.mem_of_getElem? (i := 26) rfl))) Via.refl e50 po27_4 po27_0 (Or.inl (hw _ (List.mem_of_getElem? (i := 27) rfl))) (hw _ (List.mem_of_getElem? (i := 7) rfl)) (ty := .long) (by decide) rfl rfl (g := (mkF m 42 #[.val (.ref a0), .val (.long q1), .second, .val (.long x3_8), .second, .val (.long (7 : Int64)), .second] [(.long ((((((((((((((sc + (1 : Int64))) + (1 : Int64))) + (1 : Int64))) + (1 : Int64))) + (1 : Int64))) + (1 : Int64))) + (1 : Int64)) + (q1 - x3_8))), (.ref a0)])) rfl rfl (hb hby d7_42)
                  have Fw51 := po27_4.same W51
                  have N51 := Fr.snoc X51 N27 g_a0
                  have kp52 : Keep h0 h51 [a0] := kp29.wr W51 (Or.inl (List.mem_of_getElem? (i := 0) rfl))
                  obtain ⟨fs, hr, hrun, hended, hW, hsame⟩ := X51.leave (v := none) (fun _ => rfl)
                  refine ⟨_, _, pre30 _ ?_, hrun, hended, _, _, rfl, ?_, ⟨_, rfl⟩, hW, hsame.mono (by decide) (by decide)⟩
                  · show Steps p.tables e below (T27.setTop (mkF m 15 #[.val (.ref a0), .val (.long q1), .second, .val (.long x3_8), .second, .val (.long (7 : Int64)), .second] [(.int (lcmpW (7 : Int64) x3_8))])) _
                    refine XS.ifYes X27.here hx rfl (pc0 := 15) (pc' := 33) rfl (hb hby d7_15) rfl ((if0 _ _).trans (flt (mt (lw_lt _ _).mp hc15_8)).2.1) (by decide) (by decide) ?_
                    show Steps p.tables e below (T27.setTop (mkF m 33 #[.val (.ref a0), .val (.long q1), .second, .val (.long x3_8), .second, .val (.long (7 : Int64)), .second] [])) _
                    refine XS.aloadN X27.here hx rfl (hb hby d7_33) rfl rfl ?_
                    show Steps p.tables e below (T27.setTop (mkF m 34 #[.val (.ref a0), .val (.long q1), .second, .val (.long x3_8), .second, .val (.long (7 : Int64)), .second] [(.ref a0)])) _
                    refine XS.dup X27.here hx rfl (hb hby d7_34) rfl rfl ?_
                    show Steps p.tables e below (T27.setTop (mkF m 35 #[.val (.ref a0), .val (.long q1), .second, .val (.long x3_8), .second, .val (.long (7 : Int64)), .second] [(.ref a0), (.ref a0)])) _
                    refine st50 _ ?_
                    show Steps p.tables e below (T50.setTop (mkF m 38 #[.val (.ref a0), .val (.long q1), .second, .val (.long x3_8), .second, .val (.long (7 : Int64)), .second] [(.long (((((((((((((sc + (1 : Int64))) + (1 : Int64))) + (1 : Int64))) + (1 : Int64))) + (1 : Int64))) + (1 : Int64))) + (1 : Int64))), (.ref a0)])) _
                    refine XS.lloadN X50.here hx rfl (hb hby d7_38) rfl ?_
                    show Steps p.tables e below (T50.setTop (mkF m 39 #[.val (.ref a0), .val (.long q1), .second, .val (.long x3_8), .second, .val (.long (7 : Int64)), .second] [(.long q1), (.long (((((((((((((sc + (1 : Int64))) + (1 : Int64))) + (1 : Int64))) + (1 : Int64))) + (1 : Int64))) + (1 : Int64))) + (1 : Int64))), (.ref a0)])) _
                    refine XS.lloadN X50.here hx rfl (hb hby d7_39) rfl ?_
                    show Steps p.tables e below (T50.setTop (mkF m 40 #[.val (.ref a0), .val (.long q1), .second, .val (.long x3_8), .second, .val (.long (7 : Int64)), .second] [(.long x3_8), (.long q1), (.long (((((((((((((sc + (1 : Int64))) + (1 : Int64))) + (1 : Int64))) + (1 : Int64))) + (1 : Int64))) + (1 : Int64))) + (1 : Int64))), (.ref a0)])) _
                    refine XS.lsub X50.here hx rfl (hb hby d7_40) rfl ?_
                    show Steps p.tables e below (T50.setTop (mkF m 41 #[.val (.ref a0), .val (.long q1), .second, .val (.long x3_8), .second, .val (.long (7 : Int64)), .second] [(.long (q1 - x3_8)), (.long (((((((((((((sc + (1 : Int64))) + (1 : Int64))) + (1 : Int64))) + (1 : Int64))) + (1 : Int64))) + (1 : Int64))) + (1 : Int64))), (.ref a0)])) _
                    refine XS.ladd X50.here hx rfl (hb hby d7_41) rfl ?_
                    show Steps p.tables e below (T50.setTop (mkF m 42 #[.val (.ref a0), .val (.long q1), .second, .val (.long x3_8), .second, .val (.long (7 : Int64)), .second] [(.long ((((((((((((((sc + (1 : Int64))) + (1 : Int64))) + (1 : Int64))) + (1 : Int64))) + (1 : Int64))) + (1 : Int64))) + (1 : Int64)) + (q1 - x3_8))), (.ref a0)])) _
                    refine st51 _ ?_
                    show Steps p.tables e below (T51.setTop (mkF m 45 #[.val (.ref a0), .val (.long q1), .second, .val (.long x3_8), .second, .val (.long (7 : Int64)), .second] [])) _
                    exact X51.returnOut hx Bd.returns (hb hby d7_45) hr
                  · show Q7 Z a0 q1 th xt sc us xs es ss bb pq pb pd h0 n0 _ T51.heap _
                    rw [e51]
                    unfold Q7
                    have f53 := (po27_0.wr W51)
                    have f54 := (po27_1.other W51 (Or.inr (slot_ne (Or.inl (hw _ (List.mem_of_getElem? (i := 16) rfl))) (Or.inl (hw _ (List.mem_of_getElem? (i := 27) rfl))) (by decide) (t := .boolean) (t' := .long) (by decide) (by decide))))
                    have f55 := (po27_2.other W51 (Or.inr (slot_ne (Or.inr (hw _ (List.mem_of_getElem? (i := 18) rfl))) (Or.inl (hw _ (List.mem_of_getElem? (i := 27) rfl))) (by decide) (t := .long) (t' := .long) (by decide) (by decide))))
                    have f56 := (po27_3.other W51 (Or.inr (slot_ne (Or.inr (hw _ (List.mem_of_getElem? (i := 20) rfl))) (Or.inl (hw _ (List.mem_of_getElem? (i := 27) rfl))) (by decide) (t := .long) (t' := .long) (by decide) (by decide))))
                    have f57 := (po27_5.other W51 (Or.inr (slot_ne (Or.inl (hw _ (List.mem_of_getElem? (i := 72) rfl))) (Or.inl (hw _ (List.mem_of_getElem? (i := 27) rfl))) (by decide) (t := .long) (t' := .long) (by decide) (by decide))))
                    have f58 := (po27_6.other W51 (Or.inr (slot_ne (Or.inl (hw _ (List.mem_of_getElem? (i := 74) rfl))) (Or.inl (hw _ (List.mem_of_getElem? (i := 27) rfl))) (by decide) (t := .long) (t' := .long) (by decide) (by decide))))
                    have f59 := (po27_7.other W51 (Or.inr (slot_ne (Or.inl (hw _ (List.mem_of_getElem? (i := 33) rfl))) (Or.inl (hw _ (List.mem_of_getElem? (i := 27) rfl))) (by decide) (t := .long) (t' := .long) (by decide) (by decide))))
                    have f60 := (po27_8.other W51 (Or.inr (slot_ne (Or.inl (hw _ (List.mem_of_getElem? (i := 37) rfl))) (Or.inl (hw _ (List.mem_of_getElem? (i := 27) rfl))) (by decide) (t := .long) (t' := .long) (by decide) (by decide))))
                    have f61 := (po27_9.other W51 (Or.inr (slot_ne (Or.inl (hw _ (List.mem_of_getElem? (i := 97) rfl))) (Or.inl (hw _ (List.mem_of_getElem? (i := 27) rfl))) (by decide) (t := .long) (t' := .long) (by decide) (by decide))))
                    have f62 := (po27_10.other W51 (Or.inr (slot_ne (Or.inl (hw _ (List.mem_of_getElem? (i := 35) rfl))) (Or.inl (hw _ (List.mem_of_getElem? (i := 27) rfl))) (by decide) (t := .long) (t' := .long) (by decide) (by decide))))
                    have f63 := (po27_11.other W51 (Or.inr (slot_ne (Or.inl (hw _ (List.mem_of_getElem? (i := 64) rfl))) (Or.inl (hw _ (List.mem_of_getElem? (i := 27) rfl))) (by decide) (t := .long) (t' := .long) (by decide) (by decide))))
                    have f64 := (po27_12.other W51 (Or.inr (slot_ne (Or.inl (hw _ (List.mem_of_getElem? (i := 66) rfl))) (Or.inl (hw _ (List.mem_of_getElem? (i := 27) rfl))) (by decide) (t := .long) (t' := .long) (by decide) (by decide))))
                    have f65 := (po27_13.other W51 (Or.inr (slot_ne (Or.inl (hw _ (List.mem_of_getElem? (i := 44) rfl))) (Or.inl (hw _ (List.mem_of_getElem? (i := 27) rfl))) (by decide) (t := .long) (t' := .long) (by decide) (by decide))))
                    refine ⟨rfl, N51, kp52, f53, ?_, ?_, ?_, ?_, ?_, ?_, ?_, ?_, ?_, ?_, ?_, ?_, ?_⟩
                    · exact f54
                    · exact f55
                    · exact f56
                    · rw [show (own_p7_seconds q1 sc) = ((((((((((((((sc + (1 : Int64))) + (1 : Int64))) + (1 : Int64))) + (1 : Int64))) + (1 : Int64))) + (1 : Int64))) + (1 : Int64)) + (q1 - x3_8)) from (by subst hx3_8; simp only [own_p7_seconds, if_pos hc15, if_pos hc15_2, if_pos hc15_3, if_pos hc15_4, if_pos hc15_5, if_pos hc15_6, if_pos hc15_7, if_neg hc15_8])]; exact Fw51
                    · exact f57
                    · exact f58
                    · exact f59
                    · exact f60
                    · exact f61
                    · rw [show (own_p7_pending q1) = (8 : Int64) from (by subst hx3_8; simp only [own_p7_pending, if_pos hc15, if_pos hc15_2, if_pos hc15_3, if_pos hc15_4, if_pos hc15_5, if_pos hc15_6, if_pos hc15_7, if_neg hc15_8])]; exact f62
                    · rw [show (own_p7_pendingErrored q1 pq) = (own_p4D_pendingErrored (0 : Int64) ((own_p4D_pendingErrored (0 : Int64) ((own_p4D_pendingErrored (0 : Int64) ((own_p4D_pendingErrored (0 : Int64) ((own_p4D_pendingErrored (0 : Int64) ((own_p4D_pendingErrored (0 : Int64) ((own_p4D_pendingErrored (0 : Int64) pq))))))))))))) from (by subst hx3_8; simp only [own_p7_pendingErrored, if_pos hc15, if_pos hc15_2, if_pos hc15_3, if_pos hc15_4, if_pos hc15_5, if_pos hc15_6, if_pos hc15_7, if_neg hc15_8])]; exact f63
                    · rw [show (own_p7_pendingBlocks q1 pb) = (own_p4D_pendingBlocks (0 : Int64) ((own_p4D_pendingBlocks (0 : Int64) ((own_p4D_pendingBlocks (0 : Int64) ((own_p4D_pendingBlocks (0 : Int64) ((own_p4D_pendingBlocks (0 : Int64) ((own_p4D_pendingBlocks (0 : Int64) ((own_p4D_pendingBlocks (0 : Int64) pb))))))))))))) from (by subst hx3_8; simp only [own_p7_pendingBlocks, if_pos hc15, if_pos hc15_2, if_pos hc15_3, if_pos hc15_4, if_pos hc15_5, if_pos hc15_6, if_pos hc15_7, if_neg hc15_8])]; exact f64
                    · exact f65
              · obtain ⟨T66, X66, e66, st66⟩ := getF X23 hx hZ hown (host := "") (Or.inl (hw _ (List.mem_of_getElem? (i := 26) rfl))) Via.refl rfl po23_4 (g := (mkF m 35 #[.val (.ref a0), .val (.long q1), .second, .val (.long x3_8), .second, .val (.long (6 : Int64)), .second] [(.ref a0), (.ref a0)])) rfl rfl (hb hby d7_35)
                obtain ⟨T67, h67, X67, e67, W67, st67⟩ := putF X66 hx hZ hown (host := "") (Or.inl (hw _ (List.mem_of_getElem? (i := 26) rfl))) Via.refl e66 po23_4 po23_0 (Or.inl (hw _ (List.mem_of_getElem? (i := 27) rfl))) (hw _ (List.mem_of_getElem? (i := 7) rfl)) (ty := .long) (by decide) rfl rfl (g := (mkF m 42 #[.val (.ref a0), .val (.long q1), .second, .val (.long x3_8), .second, .val (.long (6 : Int64)), .second] [(.long ((((((((((((sc + (1 : Int64))) + (1 : Int64))) + (1 : Int64))) + (1 : Int64))) + (1 : Int64))) + (1 : Int64)) + (q1 - x3_8))), (.ref a0)])) rfl rfl (hb hby d7_42)
                have Fw67 := po23_4.same W67
                have N67 := Fr.snoc X67 N23 g_a0
                have kp68 : Keep h0 h67 [a0] := kp25.wr W67 (Or.inl (List.mem_of_getElem? (i := 0) rfl))
                obtain ⟨fs, hr, hrun, hended, hW, hsame⟩ := X67.leave (v := none) (fun _ => rfl)
                refine ⟨_, _, pre26 _ ?_, hrun, hended, _, _, rfl, ?_, ⟨_, rfl⟩, hW, hsame.mono (by decide) (by decide)⟩
                · show Steps p.tables e below (T23.setTop (mkF m 15 #[.val (.ref a0), .val (.long q1), .second, .val (.long x3_8), .second, .val (.long (6 : Int64)), .second] [(.int (lcmpW (6 : Int64) x3_8))])) _
                  refine XS.ifYes X23.here hx rfl (pc0 := 15) (pc' := 33) rfl (hb hby d7_15) rfl ((if0 _ _).trans (flt (mt (lw_lt _ _).mp hc15_7)).2.1) (by decide) (by decide) ?_
                  show Steps p.tables e below (T23.setTop (mkF m 33 #[.val (.ref a0), .val (.long q1), .second, .val (.long x3_8), .second, .val (.long (6 : Int64)), .second] [])) _
                  refine XS.aloadN X23.here hx rfl (hb hby d7_33) rfl rfl ?_
                  show Steps p.tables e below (T23.setTop (mkF m 34 #[.val (.ref a0), .val (.long q1), .second, .val (.long x3_8), .second, .val (.long (6 : Int64)), .second] [(.ref a0)])) _
                  refine XS.dup X23.here hx rfl (hb hby d7_34) rfl rfl ?_
                  show Steps p.tables e below (T23.setTop (mkF m 35 #[.val (.ref a0), .val (.long q1), .second, .val (.long x3_8), .second, .val (.long (6 : Int64)), .second] [(.ref a0), (.ref a0)])) _
                  refine st66 _ ?_
                  show Steps p.tables e below (T66.setTop (mkF m 38 #[.val (.ref a0), .val (.long q1), .second, .val (.long x3_8), .second, .val (.long (6 : Int64)), .second] [(.long (((((((((((sc + (1 : Int64))) + (1 : Int64))) + (1 : Int64))) + (1 : Int64))) + (1 : Int64))) + (1 : Int64))), (.ref a0)])) _
                  refine XS.lloadN X66.here hx rfl (hb hby d7_38) rfl ?_
                  show Steps p.tables e below (T66.setTop (mkF m 39 #[.val (.ref a0), .val (.long q1), .second, .val (.long x3_8), .second, .val (.long (6 : Int64)), .second] [(.long q1), (.long (((((((((((sc + (1 : Int64))) + (1 : Int64))) + (1 : Int64))) + (1 : Int64))) + (1 : Int64))) + (1 : Int64))), (.ref a0)])) _
                  refine XS.lloadN X66.here hx rfl (hb hby d7_39) rfl ?_
                  show Steps p.tables e below (T66.setTop (mkF m 40 #[.val (.ref a0), .val (.long q1), .second, .val (.long x3_8), .second, .val (.long (6 : Int64)), .second] [(.long x3_8), (.long q1), (.long (((((((((((sc + (1 : Int64))) + (1 : Int64))) + (1 : Int64))) + (1 : Int64))) + (1 : Int64))) + (1 : Int64))), (.ref a0)])) _
                  refine XS.lsub X66.here hx rfl (hb hby d7_40) rfl ?_
                  show Steps p.tables e below (T66.setTop (mkF m 41 #[.val (.ref a0), .val (.long q1), .second, .val (.long x3_8), .second, .val (.long (6 : Int64)), .second] [(.long (q1 - x3_8)), (.long (((((((((((sc + (1 : Int64))) + (1 : Int64))) + (1 : Int64))) + (1 : Int64))) + (1 : Int64))) + (1 : Int64))), (.ref a0)])) _
                  refine XS.ladd X66.here hx rfl (hb hby d7_41) rfl ?_
                  show Steps p.tables e below (T66.setTop (mkF m 42 #[.val (.ref a0), .val (.long q1), .second, .val (.long x3_8), .second, .val (.long (6 : Int64)), .second] [(.long ((((((((((((sc + (1 : Int64))) + (1 : Int64))) + (1 : Int64))) + (1 : Int64))) + (1 : Int64))) + (1 : Int64)) + (q1 - x3_8))), (.ref a0)])) _
                  refine st67 _ ?_
                  show Steps p.tables e below (T67.setTop (mkF m 45 #[.val (.ref a0), .val (.long q1), .second, .val (.long x3_8), .second, .val (.long (6 : Int64)), .second] [])) _
                  exact X67.returnOut hx Bd.returns (hb hby d7_45) hr
                · show Q7 Z a0 q1 th xt sc us xs es ss bb pq pb pd h0 n0 _ T67.heap _
                  rw [e67]
                  unfold Q7
                  have f69 := (po23_0.wr W67)
                  have f70 := (po23_1.other W67 (Or.inr (slot_ne (Or.inl (hw _ (List.mem_of_getElem? (i := 16) rfl))) (Or.inl (hw _ (List.mem_of_getElem? (i := 27) rfl))) (by decide) (t := .boolean) (t' := .long) (by decide) (by decide))))
                  have f71 := (po23_2.other W67 (Or.inr (slot_ne (Or.inr (hw _ (List.mem_of_getElem? (i := 18) rfl))) (Or.inl (hw _ (List.mem_of_getElem? (i := 27) rfl))) (by decide) (t := .long) (t' := .long) (by decide) (by decide))))
                  have f72 := (po23_3.other W67 (Or.inr (slot_ne (Or.inr (hw _ (List.mem_of_getElem? (i := 20) rfl))) (Or.inl (hw _ (List.mem_of_getElem? (i := 27) rfl))) (by decide) (t := .long) (t' := .long) (by decide) (by decide))))
                  have f73 := (po23_5.other W67 (Or.inr (slot_ne (Or.inl (hw _ (List.mem_of_getElem? (i := 72) rfl))) (Or.inl (hw _ (List.mem_of_getElem? (i := 27) rfl))) (by decide) (t := .long) (t' := .long) (by decide) (by decide))))
                  have f74 := (po23_6.other W67 (Or.inr (slot_ne (Or.inl (hw _ (List.mem_of_getElem? (i := 74) rfl))) (Or.inl (hw _ (List.mem_of_getElem? (i := 27) rfl))) (by decide) (t := .long) (t' := .long) (by decide) (by decide))))
                  have f75 := (po23_7.other W67 (Or.inr (slot_ne (Or.inl (hw _ (List.mem_of_getElem? (i := 33) rfl))) (Or.inl (hw _ (List.mem_of_getElem? (i := 27) rfl))) (by decide) (t := .long) (t' := .long) (by decide) (by decide))))
                  have f76 := (po23_8.other W67 (Or.inr (slot_ne (Or.inl (hw _ (List.mem_of_getElem? (i := 37) rfl))) (Or.inl (hw _ (List.mem_of_getElem? (i := 27) rfl))) (by decide) (t := .long) (t' := .long) (by decide) (by decide))))
                  have f77 := (po23_9.other W67 (Or.inr (slot_ne (Or.inl (hw _ (List.mem_of_getElem? (i := 97) rfl))) (Or.inl (hw _ (List.mem_of_getElem? (i := 27) rfl))) (by decide) (t := .long) (t' := .long) (by decide) (by decide))))
                  have f78 := (po23_10.other W67 (Or.inr (slot_ne (Or.inl (hw _ (List.mem_of_getElem? (i := 35) rfl))) (Or.inl (hw _ (List.mem_of_getElem? (i := 27) rfl))) (by decide) (t := .long) (t' := .long) (by decide) (by decide))))
                  have f79 := (po23_11.other W67 (Or.inr (slot_ne (Or.inl (hw _ (List.mem_of_getElem? (i := 64) rfl))) (Or.inl (hw _ (List.mem_of_getElem? (i := 27) rfl))) (by decide) (t := .long) (t' := .long) (by decide) (by decide))))
                  have f80 := (po23_12.other W67 (Or.inr (slot_ne (Or.inl (hw _ (List.mem_of_getElem? (i := 66) rfl))) (Or.inl (hw _ (List.mem_of_getElem? (i := 27) rfl))) (by decide) (t := .long) (t' := .long) (by decide) (by decide))))
                  have f81 := (po23_13.other W67 (Or.inr (slot_ne (Or.inl (hw _ (List.mem_of_getElem? (i := 44) rfl))) (Or.inl (hw _ (List.mem_of_getElem? (i := 27) rfl))) (by decide) (t := .long) (t' := .long) (by decide) (by decide))))
                  refine ⟨rfl, N67, kp68, f69, ?_, ?_, ?_, ?_, ?_, ?_, ?_, ?_, ?_, ?_, ?_, ?_, ?_⟩
                  · exact f70
                  · exact f71
                  · exact f72
                  · rw [show (own_p7_seconds q1 sc) = ((((((((((((sc + (1 : Int64))) + (1 : Int64))) + (1 : Int64))) + (1 : Int64))) + (1 : Int64))) + (1 : Int64)) + (q1 - x3_8)) from (by subst hx3_8; simp only [own_p7_seconds, if_pos hc15, if_pos hc15_2, if_pos hc15_3, if_pos hc15_4, if_pos hc15_5, if_pos hc15_6, if_neg hc15_7])]; exact Fw67
                  · exact f73
                  · exact f74
                  · exact f75
                  · exact f76
                  · exact f77
                  · rw [show (own_p7_pending q1) = (7 : Int64) from (by subst hx3_8; simp only [own_p7_pending, if_pos hc15, if_pos hc15_2, if_pos hc15_3, if_pos hc15_4, if_pos hc15_5, if_pos hc15_6, if_neg hc15_7])]; exact f78
                  · rw [show (own_p7_pendingErrored q1 pq) = (own_p4D_pendingErrored (0 : Int64) ((own_p4D_pendingErrored (0 : Int64) ((own_p4D_pendingErrored (0 : Int64) ((own_p4D_pendingErrored (0 : Int64) ((own_p4D_pendingErrored (0 : Int64) ((own_p4D_pendingErrored (0 : Int64) pq))))))))))) from (by subst hx3_8; simp only [own_p7_pendingErrored, if_pos hc15, if_pos hc15_2, if_pos hc15_3, if_pos hc15_4, if_pos hc15_5, if_pos hc15_6, if_neg hc15_7])]; exact f79
                  · rw [show (own_p7_pendingBlocks q1 pb) = (own_p4D_pendingBlocks (0 : Int64) ((own_p4D_pendingBlocks (0 : Int64) ((own_p4D_pendingBlocks (0 : Int64) ((own_p4D_pendingBlocks (0 : Int64) ((own_p4D_pendingBlocks (0 : Int64) ((own_p4D_pendingBlocks (0 : Int64) pb))))))))))) from (by subst hx3_8; simp only [own_p7_pendingBlocks, if_pos hc15, if_pos hc15_2, if_pos hc15_3, if_pos hc15_4, if_pos hc15_5, if_pos hc15_6, if_neg hc15_7])]; exact f80
                  · exact f81
            · obtain ⟨T82, X82, e82, st82⟩ := getF X19 hx hZ hown (host := "") (Or.inl (hw _ (List.mem_of_getElem? (i := 26) rfl))) Via.refl rfl po19_4 (g := (mkF m 35 #[.val (.ref a0), .val (.long q1), .second, .val (.long x3_8), .second, .val (.long (5 : Int64)), .second] [(.ref a0), (.ref a0)])) rfl rfl (hb hby d7_35)
              obtain ⟨T83, h83, X83, e83, W83, st83⟩ := putF X82 hx hZ hown (host := "") (Or.inl (hw _ (List.mem_of_getElem? (i := 26) rfl))) Via.refl e82 po19_4 po19_0 (Or.inl (hw _ (List.mem_of_getElem? (i := 27) rfl))) (hw _ (List.mem_of_getElem? (i := 7) rfl)) (ty := .long) (by decide) rfl rfl (g := (mkF m 42 #[.val (.ref a0), .val (.long q1), .second, .val (.long x3_8), .second, .val (.long (5 : Int64)), .second] [(.long ((((((((((sc + (1 : Int64))) + (1 : Int64))) + (1 : Int64))) + (1 : Int64))) + (1 : Int64)) + (q1 - x3_8))), (.ref a0)])) rfl rfl (hb hby d7_42)
              have Fw83 := po19_4.same W83
              have N83 := Fr.snoc X83 N19 g_a0
              have kp84 : Keep h0 h83 [a0] := kp21.wr W83 (Or.inl (List.mem_of_getElem? (i := 0) rfl))
              obtain ⟨fs, hr, hrun, hended, hW, hsame⟩ := X83.leave (v := none) (fun _ => rfl)
              refine ⟨_, _, pre22 _ ?_, hrun, hended, _, _, rfl, ?_, ⟨_, rfl⟩, hW, hsame.mono (by decide) (by decide)⟩
              · show Steps p.tables e below (T19.setTop (mkF m 15 #[.val (.ref a0), .val (.long q1), .second, .val (.long x3_8), .second, .val (.long (5 : Int64)), .second] [(.int (lcmpW (5 : Int64) x3_8))])) _
                refine XS.ifYes X19.here hx rfl (pc0 := 15) (pc' := 33) rfl (hb hby d7_15) rfl ((if0 _ _).trans (flt (mt (lw_lt _ _).mp hc15_6)).2.1) (by decide) (by decide) ?_
                show Steps p.tables e below (T19.setTop (mkF m 33 #[.val (.ref a0), .val (.long q1), .second, .val (.long x3_8), .second, .val (.long (5 : Int64)), .second] [])) _
                refine XS.aloadN X19.here hx rfl (hb hby d7_33) rfl rfl ?_
                show Steps p.tables e below (T19.setTop (mkF m 34 #[.val (.ref a0), .val (.long q1), .second, .val (.long x3_8), .second, .val (.long (5 : Int64)), .second] [(.ref a0)])) _
                refine XS.dup X19.here hx rfl (hb hby d7_34) rfl rfl ?_
                show Steps p.tables e below (T19.setTop (mkF m 35 #[.val (.ref a0), .val (.long q1), .second, .val (.long x3_8), .second, .val (.long (5 : Int64)), .second] [(.ref a0), (.ref a0)])) _
                refine st82 _ ?_
                show Steps p.tables e below (T82.setTop (mkF m 38 #[.val (.ref a0), .val (.long q1), .second, .val (.long x3_8), .second, .val (.long (5 : Int64)), .second] [(.long (((((((((sc + (1 : Int64))) + (1 : Int64))) + (1 : Int64))) + (1 : Int64))) + (1 : Int64))), (.ref a0)])) _
                refine XS.lloadN X82.here hx rfl (hb hby d7_38) rfl ?_
                show Steps p.tables e below (T82.setTop (mkF m 39 #[.val (.ref a0), .val (.long q1), .second, .val (.long x3_8), .second, .val (.long (5 : Int64)), .second] [(.long q1), (.long (((((((((sc + (1 : Int64))) + (1 : Int64))) + (1 : Int64))) + (1 : Int64))) + (1 : Int64))), (.ref a0)])) _
                refine XS.lloadN X82.here hx rfl (hb hby d7_39) rfl ?_
                show Steps p.tables e below (T82.setTop (mkF m 40 #[.val (.ref a0), .val (.long q1), .second, .val (.long x3_8), .second, .val (.long (5 : Int64)), .second] [(.long x3_8), (.long q1), (.long (((((((((sc + (1 : Int64))) + (1 : Int64))) + (1 : Int64))) + (1 : Int64))) + (1 : Int64))), (.ref a0)])) _
                refine XS.lsub X82.here hx rfl (hb hby d7_40) rfl ?_
                show Steps p.tables e below (T82.setTop (mkF m 41 #[.val (.ref a0), .val (.long q1), .second, .val (.long x3_8), .second, .val (.long (5 : Int64)), .second] [(.long (q1 - x3_8)), (.long (((((((((sc + (1 : Int64))) + (1 : Int64))) + (1 : Int64))) + (1 : Int64))) + (1 : Int64))), (.ref a0)])) _
                refine XS.ladd X82.here hx rfl (hb hby d7_41) rfl ?_
                show Steps p.tables e below (T82.setTop (mkF m 42 #[.val (.ref a0), .val (.long q1), .second, .val (.long x3_8), .second, .val (.long (5 : Int64)), .second] [(.long ((((((((((sc + (1 : Int64))) + (1 : Int64))) + (1 : Int64))) + (1 : Int64))) + (1 : Int64)) + (q1 - x3_8))), (.ref a0)])) _
                refine st83 _ ?_
                show Steps p.tables e below (T83.setTop (mkF m 45 #[.val (.ref a0), .val (.long q1), .second, .val (.long x3_8), .second, .val (.long (5 : Int64)), .second] [])) _
                exact X83.returnOut hx Bd.returns (hb hby d7_45) hr
              · show Q7 Z a0 q1 th xt sc us xs es ss bb pq pb pd h0 n0 _ T83.heap _
                rw [e83]
                unfold Q7
                have f85 := (po19_0.wr W83)
                have f86 := (po19_1.other W83 (Or.inr (slot_ne (Or.inl (hw _ (List.mem_of_getElem? (i := 16) rfl))) (Or.inl (hw _ (List.mem_of_getElem? (i := 27) rfl))) (by decide) (t := .boolean) (t' := .long) (by decide) (by decide))))
                have f87 := (po19_2.other W83 (Or.inr (slot_ne (Or.inr (hw _ (List.mem_of_getElem? (i := 18) rfl))) (Or.inl (hw _ (List.mem_of_getElem? (i := 27) rfl))) (by decide) (t := .long) (t' := .long) (by decide) (by decide))))
                have f88 := (po19_3.other W83 (Or.inr (slot_ne (Or.inr (hw _ (List.mem_of_getElem? (i := 20) rfl))) (Or.inl (hw _ (List.mem_of_getElem? (i := 27) rfl))) (by decide) (t := .long) (t' := .long) (by decide) (by decide))))
                have f89 := (po19_5.other W83 (Or.inr (slot_ne (Or.inl (hw _ (List.mem_of_getElem? (i := 72) rfl))) (Or.inl (hw _ (List.mem_of_getElem? (i := 27) rfl))) (by decide) (t := .long) (t' := .long) (by decide) (by decide))))
                have f90 := (po19_6.other W83 (Or.inr (slot_ne (Or.inl (hw _ (List.mem_of_getElem? (i := 74) rfl))) (Or.inl (hw _ (List.mem_of_getElem? (i := 27) rfl))) (by decide) (t := .long) (t' := .long) (by decide) (by decide))))
                have f91 := (po19_7.other W83 (Or.inr (slot_ne (Or.inl (hw _ (List.mem_of_getElem? (i := 33) rfl))) (Or.inl (hw _ (List.mem_of_getElem? (i := 27) rfl))) (by decide) (t := .long) (t' := .long) (by decide) (by decide))))
                have f92 := (po19_8.other W83 (Or.inr (slot_ne (Or.inl (hw _ (List.mem_of_getElem? (i := 37) rfl))) (Or.inl (hw _ (List.mem_of_getElem? (i := 27) rfl))) (by decide) (t := .long) (t' := .long) (by decide) (by decide))))
                have f93 := (po19_9.other W83 (Or.inr (slot_ne (Or.inl (hw _ (List.mem_of_getElem? (i := 97) rfl))) (Or.inl (hw _ (List.mem_of_getElem? (i := 27) rfl))) (by decide) (t := .long) (t' := .long) (by decide) (by decide))))
                have f94 := (po19_10.other W83 (Or.inr (slot_ne (Or.inl (hw _ (List.mem_of_getElem? (i := 35) rfl))) (Or.inl (hw _ (List.mem_of_getElem? (i := 27) rfl))) (by decide) (t := .long) (t' := .long) (by decide) (by decide))))
                have f95 := (po19_11.other W83 (Or.inr (slot_ne (Or.inl (hw _ (List.mem_of_getElem? (i := 64) rfl))) (Or.inl (hw _ (List.mem_of_getElem? (i := 27) rfl))) (by decide) (t := .long) (t' := .long) (by decide) (by decide))))
                have f96 := (po19_12.other W83 (Or.inr (slot_ne (Or.inl (hw _ (List.mem_of_getElem? (i := 66) rfl))) (Or.inl (hw _ (List.mem_of_getElem? (i := 27) rfl))) (by decide) (t := .long) (t' := .long) (by decide) (by decide))))
                have f97 := (po19_13.other W83 (Or.inr (slot_ne (Or.inl (hw _ (List.mem_of_getElem? (i := 44) rfl))) (Or.inl (hw _ (List.mem_of_getElem? (i := 27) rfl))) (by decide) (t := .long) (t' := .long) (by decide) (by decide))))
                refine ⟨rfl, N83, kp84, f85, ?_, ?_, ?_, ?_, ?_, ?_, ?_, ?_, ?_, ?_, ?_, ?_, ?_⟩
                · exact f86
                · exact f87
                · exact f88
                · rw [show (own_p7_seconds q1 sc) = ((((((((((sc + (1 : Int64))) + (1 : Int64))) + (1 : Int64))) + (1 : Int64))) + (1 : Int64)) + (q1 - x3_8)) from (by subst hx3_8; simp only [own_p7_seconds, if_pos hc15, if_pos hc15_2, if_pos hc15_3, if_pos hc15_4, if_pos hc15_5, if_neg hc15_6])]; exact Fw83
                · exact f89
                · exact f90
                · exact f91
                · exact f92
                · exact f93
                · rw [show (own_p7_pending q1) = (6 : Int64) from (by subst hx3_8; simp only [own_p7_pending, if_pos hc15, if_pos hc15_2, if_pos hc15_3, if_pos hc15_4, if_pos hc15_5, if_neg hc15_6])]; exact f94
                · rw [show (own_p7_pendingErrored q1 pq) = (own_p4D_pendingErrored (0 : Int64) ((own_p4D_pendingErrored (0 : Int64) ((own_p4D_pendingErrored (0 : Int64) ((own_p4D_pendingErrored (0 : Int64) ((own_p4D_pendingErrored (0 : Int64) pq))))))))) from (by subst hx3_8; simp only [own_p7_pendingErrored, if_pos hc15, if_pos hc15_2, if_pos hc15_3, if_pos hc15_4, if_pos hc15_5, if_neg hc15_6])]; exact f95
                · rw [show (own_p7_pendingBlocks q1 pb) = (own_p4D_pendingBlocks (0 : Int64) ((own_p4D_pendingBlocks (0 : Int64) ((own_p4D_pendingBlocks (0 : Int64) ((own_p4D_pendingBlocks (0 : Int64) ((own_p4D_pendingBlocks (0 : Int64) pb))))))))) from (by subst hx3_8; simp only [own_p7_pendingBlocks, if_pos hc15, if_pos hc15_2, if_pos hc15_3, if_pos hc15_4, if_pos hc15_5, if_neg hc15_6])]; exact f96
                · exact f97
          · obtain ⟨T98, X98, e98, st98⟩ := getF X15 hx hZ hown (host := "") (Or.inl (hw _ (List.mem_of_getElem? (i := 26) rfl))) Via.refl rfl po15_4 (g := (mkF m 35 #[.val (.ref a0), .val (.long q1), .second, .val (.long x3_8), .second, .val (.long (4 : Int64)), .second] [(.ref a0), (.ref a0)])) rfl rfl (hb hby d7_35)
            obtain ⟨T99, h99, X99, e99, W99, st99⟩ := putF X98 hx hZ hown (host := "") (Or.inl (hw _ (List.mem_of_getElem? (i := 26) rfl))) Via.refl e98 po15_4 po15_0 (Or.inl (hw _ (List.mem_of_getElem? (i := 27) rfl))) (hw _ (List.mem_of_getElem? (i := 7) rfl)) (ty := .long) (by decide) rfl rfl (g := (mkF m 42 #[.val (.ref a0), .val (.long q1), .second, .val (.long x3_8), .second, .val (.long (4 : Int64)), .second] [(.long ((((((((sc + (1 : Int64))) + (1 : Int64))) + (1 : Int64))) + (1 : Int64)) + (q1 - x3_8))), (.ref a0)])) rfl rfl (hb hby d7_42)
            have Fw99 := po15_4.same W99
            have N99 := Fr.snoc X99 N15 g_a0
            have kp100 : Keep h0 h99 [a0] := kp17.wr W99 (Or.inl (List.mem_of_getElem? (i := 0) rfl))
            obtain ⟨fs, hr, hrun, hended, hW, hsame⟩ := X99.leave (v := none) (fun _ => rfl)
            refine ⟨_, _, pre18 _ ?_, hrun, hended, _, _, rfl, ?_, ⟨_, rfl⟩, hW, hsame.mono (by decide) (by decide)⟩
            · show Steps p.tables e below (T15.setTop (mkF m 15 #[.val (.ref a0), .val (.long q1), .second, .val (.long x3_8), .second, .val (.long (4 : Int64)), .second] [(.int (lcmpW (4 : Int64) x3_8))])) _
              refine XS.ifYes X15.here hx rfl (pc0 := 15) (pc' := 33) rfl (hb hby d7_15) rfl ((if0 _ _).trans (flt (mt (lw_lt _ _).mp hc15_5)).2.1) (by decide) (by decide) ?_
              show Steps p.tables e below (T15.setTop (mkF m 33 #[.val (.ref a0), .val (.long q1), .second, .val (.long x3_8), .second, .val (.long (4 : Int64)), .second] [])) _
              refine XS.aloadN X15.here hx rfl (hb hby d7_33) rfl rfl ?_
              show Steps p.tables e below (T15.setTop (mkF m 34 #[.val (.ref a0), .val (.long q1), .second, .val (.long x3_8), .second, .val (.long (4 : Int64)), .second] [(.ref a0)])) _
              refine XS.dup X15.here hx rfl (hb hby d7_34) rfl rfl ?_
              show Steps p.tables e below (T15.setTop (mkF m 35 #[.val (.ref a0), .val (.long q1), .second, .val (.long x3_8), .second, .val (.long (4 : Int64)), .second] [(.ref a0), (.ref a0)])) _
              refine st98 _ ?_
              show Steps p.tables e below (T98.setTop (mkF m 38 #[.val (.ref a0), .val (.long q1), .second, .val (.long x3_8), .second, .val (.long (4 : Int64)), .second] [(.long (((((((sc + (1 : Int64))) + (1 : Int64))) + (1 : Int64))) + (1 : Int64))), (.ref a0)])) _
              refine XS.lloadN X98.here hx rfl (hb hby d7_38) rfl ?_
              show Steps p.tables e below (T98.setTop (mkF m 39 #[.val (.ref a0), .val (.long q1), .second, .val (.long x3_8), .second, .val (.long (4 : Int64)), .second] [(.long q1), (.long (((((((sc + (1 : Int64))) + (1 : Int64))) + (1 : Int64))) + (1 : Int64))), (.ref a0)])) _
              refine XS.lloadN X98.here hx rfl (hb hby d7_39) rfl ?_
              show Steps p.tables e below (T98.setTop (mkF m 40 #[.val (.ref a0), .val (.long q1), .second, .val (.long x3_8), .second, .val (.long (4 : Int64)), .second] [(.long x3_8), (.long q1), (.long (((((((sc + (1 : Int64))) + (1 : Int64))) + (1 : Int64))) + (1 : Int64))), (.ref a0)])) _
              refine XS.lsub X98.here hx rfl (hb hby d7_40) rfl ?_
              show Steps p.tables e below (T98.setTop (mkF m 41 #[.val (.ref a0), .val (.long q1), .second, .val (.long x3_8), .second, .val (.long (4 : Int64)), .second] [(.long (q1 - x3_8)), (.long (((((((sc + (1 : Int64))) + (1 : Int64))) + (1 : Int64))) + (1 : Int64))), (.ref a0)])) _
              refine XS.ladd X98.here hx rfl (hb hby d7_41) rfl ?_
              show Steps p.tables e below (T98.setTop (mkF m 42 #[.val (.ref a0), .val (.long q1), .second, .val (.long x3_8), .second, .val (.long (4 : Int64)), .second] [(.long ((((((((sc + (1 : Int64))) + (1 : Int64))) + (1 : Int64))) + (1 : Int64)) + (q1 - x3_8))), (.ref a0)])) _
              refine st99 _ ?_
              show Steps p.tables e below (T99.setTop (mkF m 45 #[.val (.ref a0), .val (.long q1), .second, .val (.long x3_8), .second, .val (.long (4 : Int64)), .second] [])) _
              exact X99.returnOut hx Bd.returns (hb hby d7_45) hr
            · show Q7 Z a0 q1 th xt sc us xs es ss bb pq pb pd h0 n0 _ T99.heap _
              rw [e99]
              unfold Q7
              have f101 := (po15_0.wr W99)
              have f102 := (po15_1.other W99 (Or.inr (slot_ne (Or.inl (hw _ (List.mem_of_getElem? (i := 16) rfl))) (Or.inl (hw _ (List.mem_of_getElem? (i := 27) rfl))) (by decide) (t := .boolean) (t' := .long) (by decide) (by decide))))
              have f103 := (po15_2.other W99 (Or.inr (slot_ne (Or.inr (hw _ (List.mem_of_getElem? (i := 18) rfl))) (Or.inl (hw _ (List.mem_of_getElem? (i := 27) rfl))) (by decide) (t := .long) (t' := .long) (by decide) (by decide))))
              have f104 := (po15_3.other W99 (Or.inr (slot_ne (Or.inr (hw _ (List.mem_of_getElem? (i := 20) rfl))) (Or.inl (hw _ (List.mem_of_getElem? (i := 27) rfl))) (by decide) (t := .long) (t' := .long) (by decide) (by decide))))
              have f105 := (po15_5.other W99 (Or.inr (slot_ne (Or.inl (hw _ (List.mem_of_getElem? (i := 72) rfl))) (Or.inl (hw _ (List.mem_of_getElem? (i := 27) rfl))) (by decide) (t := .long) (t' := .long) (by decide) (by decide))))
              have f106 := (po15_6.other W99 (Or.inr (slot_ne (Or.inl (hw _ (List.mem_of_getElem? (i := 74) rfl))) (Or.inl (hw _ (List.mem_of_getElem? (i := 27) rfl))) (by decide) (t := .long) (t' := .long) (by decide) (by decide))))
              have f107 := (po15_7.other W99 (Or.inr (slot_ne (Or.inl (hw _ (List.mem_of_getElem? (i := 33) rfl))) (Or.inl (hw _ (List.mem_of_getElem? (i := 27) rfl))) (by decide) (t := .long) (t' := .long) (by decide) (by decide))))
              have f108 := (po15_8.other W99 (Or.inr (slot_ne (Or.inl (hw _ (List.mem_of_getElem? (i := 37) rfl))) (Or.inl (hw _ (List.mem_of_getElem? (i := 27) rfl))) (by decide) (t := .long) (t' := .long) (by decide) (by decide))))
              have f109 := (po15_9.other W99 (Or.inr (slot_ne (Or.inl (hw _ (List.mem_of_getElem? (i := 97) rfl))) (Or.inl (hw _ (List.mem_of_getElem? (i := 27) rfl))) (by decide) (t := .long) (t' := .long) (by decide) (by decide))))
              have f110 := (po15_10.other W99 (Or.inr (slot_ne (Or.inl (hw _ (List.mem_of_getElem? (i := 35) rfl))) (Or.inl (hw _ (List.mem_of_getElem? (i := 27) rfl))) (by decide) (t := .long) (t' := .long) (by decide) (by decide))))
              have f111 := (po15_11.other W99 (Or.inr (slot_ne (Or.inl (hw _ (List.mem_of_getElem? (i := 64) rfl))) (Or.inl (hw _ (List.mem_of_getElem? (i := 27) rfl))) (by decide) (t := .long) (t' := .long) (by decide) (by decide))))
              have f112 := (po15_12.other W99 (Or.inr (slot_ne (Or.inl (hw _ (List.mem_of_getElem? (i := 66) rfl))) (Or.inl (hw _ (List.mem_of_getElem? (i := 27) rfl))) (by decide) (t := .long) (t' := .long) (by decide) (by decide))))
              have f113 := (po15_13.other W99 (Or.inr (slot_ne (Or.inl (hw _ (List.mem_of_getElem? (i := 44) rfl))) (Or.inl (hw _ (List.mem_of_getElem? (i := 27) rfl))) (by decide) (t := .long) (t' := .long) (by decide) (by decide))))
              refine ⟨rfl, N99, kp100, f101, ?_, ?_, ?_, ?_, ?_, ?_, ?_, ?_, ?_, ?_, ?_, ?_, ?_⟩
              · exact f102
              · exact f103
              · exact f104
              · rw [show (own_p7_seconds q1 sc) = ((((((((sc + (1 : Int64))) + (1 : Int64))) + (1 : Int64))) + (1 : Int64)) + (q1 - x3_8)) from (by subst hx3_8; simp only [own_p7_seconds, if_pos hc15, if_pos hc15_2, if_pos hc15_3, if_pos hc15_4, if_neg hc15_5])]; exact Fw99
              · exact f105
              · exact f106
              · exact f107
              · exact f108
              · exact f109
              · rw [show (own_p7_pending q1) = (5 : Int64) from (by subst hx3_8; simp only [own_p7_pending, if_pos hc15, if_pos hc15_2, if_pos hc15_3, if_pos hc15_4, if_neg hc15_5])]; exact f110
              · rw [show (own_p7_pendingErrored q1 pq) = (own_p4D_pendingErrored (0 : Int64) ((own_p4D_pendingErrored (0 : Int64) ((own_p4D_pendingErrored (0 : Int64) ((own_p4D_pendingErrored (0 : Int64) pq))))))) from (by subst hx3_8; simp only [own_p7_pendingErrored, if_pos hc15, if_pos hc15_2, if_pos hc15_3, if_pos hc15_4, if_neg hc15_5])]; exact f111
              · rw [show (own_p7_pendingBlocks q1 pb) = (own_p4D_pendingBlocks (0 : Int64) ((own_p4D_pendingBlocks (0 : Int64) ((own_p4D_pendingBlocks (0 : Int64) ((own_p4D_pendingBlocks (0 : Int64) pb))))))) from (by subst hx3_8; simp only [own_p7_pendingBlocks, if_pos hc15, if_pos hc15_2, if_pos hc15_3, if_pos hc15_4, if_neg hc15_5])]; exact f112
              · exact f113
        · obtain ⟨T114, X114, e114, st114⟩ := getF X11 hx hZ hown (host := "") (Or.inl (hw _ (List.mem_of_getElem? (i := 26) rfl))) Via.refl rfl po11_4 (g := (mkF m 35 #[.val (.ref a0), .val (.long q1), .second, .val (.long x3_8), .second, .val (.long (3 : Int64)), .second] [(.ref a0), (.ref a0)])) rfl rfl (hb hby d7_35)
          obtain ⟨T115, h115, X115, e115, W115, st115⟩ := putF X114 hx hZ hown (host := "") (Or.inl (hw _ (List.mem_of_getElem? (i := 26) rfl))) Via.refl e114 po11_4 po11_0 (Or.inl (hw _ (List.mem_of_getElem? (i := 27) rfl))) (hw _ (List.mem_of_getElem? (i := 7) rfl)) (ty := .long) (by decide) rfl rfl (g := (mkF m 42 #[.val (.ref a0), .val (.long q1), .second, .val (.long x3_8), .second, .val (.long (3 : Int64)), .second] [(.long ((((((sc + (1 : Int64))) + (1 : Int64))) + (1 : Int64)) + (q1 - x3_8))), (.ref a0)])) rfl rfl (hb hby d7_42)
          have Fw115 := po11_4.same W115
          have N115 := Fr.snoc X115 N11 g_a0
          have kp116 : Keep h0 h115 [a0] := kp13.wr W115 (Or.inl (List.mem_of_getElem? (i := 0) rfl))
          obtain ⟨fs, hr, hrun, hended, hW, hsame⟩ := X115.leave (v := none) (fun _ => rfl)
          refine ⟨_, _, pre14 _ ?_, hrun, hended, _, _, rfl, ?_, ⟨_, rfl⟩, hW, hsame.mono (by decide) (by decide)⟩
          · show Steps p.tables e below (T11.setTop (mkF m 15 #[.val (.ref a0), .val (.long q1), .second, .val (.long x3_8), .second, .val (.long (3 : Int64)), .second] [(.int (lcmpW (3 : Int64) x3_8))])) _
            refine XS.ifYes X11.here hx rfl (pc0 := 15) (pc' := 33) rfl (hb hby d7_15) rfl ((if0 _ _).trans (flt (mt (lw_lt _ _).mp hc15_4)).2.1) (by decide) (by decide) ?_
            show Steps p.tables e below (T11.setTop (mkF m 33 #[.val (.ref a0), .val (.long q1), .second, .val (.long x3_8), .second, .val (.long (3 : Int64)), .second] [])) _
            refine XS.aloadN X11.here hx rfl (hb hby d7_33) rfl rfl ?_
            show Steps p.tables e below (T11.setTop (mkF m 34 #[.val (.ref a0), .val (.long q1), .second, .val (.long x3_8), .second, .val (.long (3 : Int64)), .second] [(.ref a0)])) _
            refine XS.dup X11.here hx rfl (hb hby d7_34) rfl rfl ?_
            show Steps p.tables e below (T11.setTop (mkF m 35 #[.val (.ref a0), .val (.long q1), .second, .val (.long x3_8), .second, .val (.long (3 : Int64)), .second] [(.ref a0), (.ref a0)])) _
            refine st114 _ ?_
            show Steps p.tables e below (T114.setTop (mkF m 38 #[.val (.ref a0), .val (.long q1), .second, .val (.long x3_8), .second, .val (.long (3 : Int64)), .second] [(.long (((((sc + (1 : Int64))) + (1 : Int64))) + (1 : Int64))), (.ref a0)])) _
            refine XS.lloadN X114.here hx rfl (hb hby d7_38) rfl ?_
            show Steps p.tables e below (T114.setTop (mkF m 39 #[.val (.ref a0), .val (.long q1), .second, .val (.long x3_8), .second, .val (.long (3 : Int64)), .second] [(.long q1), (.long (((((sc + (1 : Int64))) + (1 : Int64))) + (1 : Int64))), (.ref a0)])) _
            refine XS.lloadN X114.here hx rfl (hb hby d7_39) rfl ?_
            show Steps p.tables e below (T114.setTop (mkF m 40 #[.val (.ref a0), .val (.long q1), .second, .val (.long x3_8), .second, .val (.long (3 : Int64)), .second] [(.long x3_8), (.long q1), (.long (((((sc + (1 : Int64))) + (1 : Int64))) + (1 : Int64))), (.ref a0)])) _
            refine XS.lsub X114.here hx rfl (hb hby d7_40) rfl ?_
            show Steps p.tables e below (T114.setTop (mkF m 41 #[.val (.ref a0), .val (.long q1), .second, .val (.long x3_8), .second, .val (.long (3 : Int64)), .second] [(.long (q1 - x3_8)), (.long (((((sc + (1 : Int64))) + (1 : Int64))) + (1 : Int64))), (.ref a0)])) _
            refine XS.ladd X114.here hx rfl (hb hby d7_41) rfl ?_
            show Steps p.tables e below (T114.setTop (mkF m 42 #[.val (.ref a0), .val (.long q1), .second, .val (.long x3_8), .second, .val (.long (3 : Int64)), .second] [(.long ((((((sc + (1 : Int64))) + (1 : Int64))) + (1 : Int64)) + (q1 - x3_8))), (.ref a0)])) _
            refine st115 _ ?_
            show Steps p.tables e below (T115.setTop (mkF m 45 #[.val (.ref a0), .val (.long q1), .second, .val (.long x3_8), .second, .val (.long (3 : Int64)), .second] [])) _
            exact X115.returnOut hx Bd.returns (hb hby d7_45) hr
          · show Q7 Z a0 q1 th xt sc us xs es ss bb pq pb pd h0 n0 _ T115.heap _
            rw [e115]
            unfold Q7
            have f117 := (po11_0.wr W115)
            have f118 := (po11_1.other W115 (Or.inr (slot_ne (Or.inl (hw _ (List.mem_of_getElem? (i := 16) rfl))) (Or.inl (hw _ (List.mem_of_getElem? (i := 27) rfl))) (by decide) (t := .boolean) (t' := .long) (by decide) (by decide))))
            have f119 := (po11_2.other W115 (Or.inr (slot_ne (Or.inr (hw _ (List.mem_of_getElem? (i := 18) rfl))) (Or.inl (hw _ (List.mem_of_getElem? (i := 27) rfl))) (by decide) (t := .long) (t' := .long) (by decide) (by decide))))
            have f120 := (po11_3.other W115 (Or.inr (slot_ne (Or.inr (hw _ (List.mem_of_getElem? (i := 20) rfl))) (Or.inl (hw _ (List.mem_of_getElem? (i := 27) rfl))) (by decide) (t := .long) (t' := .long) (by decide) (by decide))))
            have f121 := (po11_5.other W115 (Or.inr (slot_ne (Or.inl (hw _ (List.mem_of_getElem? (i := 72) rfl))) (Or.inl (hw _ (List.mem_of_getElem? (i := 27) rfl))) (by decide) (t := .long) (t' := .long) (by decide) (by decide))))
            have f122 := (po11_6.other W115 (Or.inr (slot_ne (Or.inl (hw _ (List.mem_of_getElem? (i := 74) rfl))) (Or.inl (hw _ (List.mem_of_getElem? (i := 27) rfl))) (by decide) (t := .long) (t' := .long) (by decide) (by decide))))
            have f123 := (po11_7.other W115 (Or.inr (slot_ne (Or.inl (hw _ (List.mem_of_getElem? (i := 33) rfl))) (Or.inl (hw _ (List.mem_of_getElem? (i := 27) rfl))) (by decide) (t := .long) (t' := .long) (by decide) (by decide))))
            have f124 := (po11_8.other W115 (Or.inr (slot_ne (Or.inl (hw _ (List.mem_of_getElem? (i := 37) rfl))) (Or.inl (hw _ (List.mem_of_getElem? (i := 27) rfl))) (by decide) (t := .long) (t' := .long) (by decide) (by decide))))
            have f125 := (po11_9.other W115 (Or.inr (slot_ne (Or.inl (hw _ (List.mem_of_getElem? (i := 97) rfl))) (Or.inl (hw _ (List.mem_of_getElem? (i := 27) rfl))) (by decide) (t := .long) (t' := .long) (by decide) (by decide))))
            have f126 := (po11_10.other W115 (Or.inr (slot_ne (Or.inl (hw _ (List.mem_of_getElem? (i := 35) rfl))) (Or.inl (hw _ (List.mem_of_getElem? (i := 27) rfl))) (by decide) (t := .long) (t' := .long) (by decide) (by decide))))
            have f127 := (po11_11.other W115 (Or.inr (slot_ne (Or.inl (hw _ (List.mem_of_getElem? (i := 64) rfl))) (Or.inl (hw _ (List.mem_of_getElem? (i := 27) rfl))) (by decide) (t := .long) (t' := .long) (by decide) (by decide))))
            have f128 := (po11_12.other W115 (Or.inr (slot_ne (Or.inl (hw _ (List.mem_of_getElem? (i := 66) rfl))) (Or.inl (hw _ (List.mem_of_getElem? (i := 27) rfl))) (by decide) (t := .long) (t' := .long) (by decide) (by decide))))
            have f129 := (po11_13.other W115 (Or.inr (slot_ne (Or.inl (hw _ (List.mem_of_getElem? (i := 44) rfl))) (Or.inl (hw _ (List.mem_of_getElem? (i := 27) rfl))) (by decide) (t := .long) (t' := .long) (by decide) (by decide))))
            refine ⟨rfl, N115, kp116, f117, ?_, ?_, ?_, ?_, ?_, ?_, ?_, ?_, ?_, ?_, ?_, ?_, ?_⟩
            · exact f118
            · exact f119
            · exact f120
            · rw [show (own_p7_seconds q1 sc) = ((((((sc + (1 : Int64))) + (1 : Int64))) + (1 : Int64)) + (q1 - x3_8)) from (by subst hx3_8; simp only [own_p7_seconds, if_pos hc15, if_pos hc15_2, if_pos hc15_3, if_neg hc15_4])]; exact Fw115
            · exact f121
            · exact f122
            · exact f123
            · exact f124
            · exact f125
            · rw [show (own_p7_pending q1) = (4 : Int64) from (by subst hx3_8; simp only [own_p7_pending, if_pos hc15, if_pos hc15_2, if_pos hc15_3, if_neg hc15_4])]; exact f126
            · rw [show (own_p7_pendingErrored q1 pq) = (own_p4D_pendingErrored (0 : Int64) ((own_p4D_pendingErrored (0 : Int64) ((own_p4D_pendingErrored (0 : Int64) pq))))) from (by subst hx3_8; simp only [own_p7_pendingErrored, if_pos hc15, if_pos hc15_2, if_pos hc15_3, if_neg hc15_4])]; exact f127
            · rw [show (own_p7_pendingBlocks q1 pb) = (own_p4D_pendingBlocks (0 : Int64) ((own_p4D_pendingBlocks (0 : Int64) ((own_p4D_pendingBlocks (0 : Int64) pb))))) from (by subst hx3_8; simp only [own_p7_pendingBlocks, if_pos hc15, if_pos hc15_2, if_pos hc15_3, if_neg hc15_4])]; exact f128
            · exact f129
      · obtain ⟨T130, X130, e130, st130⟩ := getF X7 hx hZ hown (host := "") (Or.inl (hw _ (List.mem_of_getElem? (i := 26) rfl))) Via.refl rfl po7_4 (g := (mkF m 35 #[.val (.ref a0), .val (.long q1), .second, .val (.long x3_8), .second, .val (.long (2 : Int64)), .second] [(.ref a0), (.ref a0)])) rfl rfl (hb hby d7_35)
        obtain ⟨T131, h131, X131, e131, W131, st131⟩ := putF X130 hx hZ hown (host := "") (Or.inl (hw _ (List.mem_of_getElem? (i := 26) rfl))) Via.refl e130 po7_4 po7_0 (Or.inl (hw _ (List.mem_of_getElem? (i := 27) rfl))) (hw _ (List.mem_of_getElem? (i := 7) rfl)) (ty := .long) (by decide) rfl rfl (g := (mkF m 42 #[.val (.ref a0), .val (.long q1), .second, .val (.long x3_8), .second, .val (.long (2 : Int64)), .second] [(.long ((((sc + (1 : Int64))) + (1 : Int64)) + (q1 - x3_8))), (.ref a0)])) rfl rfl (hb hby d7_42)
        have Fw131 := po7_4.same W131
        have N131 := Fr.snoc X131 N7 g_a0
        have kp132 : Keep h0 h131 [a0] := kp9.wr W131 (Or.inl (List.mem_of_getElem? (i := 0) rfl))
        obtain ⟨fs, hr, hrun, hended, hW, hsame⟩ := X131.leave (v := none) (fun _ => rfl)
        refine ⟨_, _, pre10 _ ?_, hrun, hended, _, _, rfl, ?_, ⟨_, rfl⟩, hW, hsame.mono (by decide) (by decide)⟩
        · show Steps p.tables e below (T7.setTop (mkF m 15 #[.val (.ref a0), .val (.long q1), .second, .val (.long x3_8), .second, .val (.long (2 : Int64)), .second] [(.int (lcmpW (2 : Int64) x3_8))])) _
          refine XS.ifYes X7.here hx rfl (pc0 := 15) (pc' := 33) rfl (hb hby d7_15) rfl ((if0 _ _).trans (flt (mt (lw_lt _ _).mp hc15_3)).2.1) (by decide) (by decide) ?_
          show Steps p.tables e below (T7.setTop (mkF m 33 #[.val (.ref a0), .val (.long q1), .second, .val (.long x3_8), .second, .val (.long (2 : Int64)), .second] [])) _
          refine XS.aloadN X7.here hx rfl (hb hby d7_33) rfl rfl ?_
          show Steps p.tables e below (T7.setTop (mkF m 34 #[.val (.ref a0), .val (.long q1), .second, .val (.long x3_8), .second, .val (.long (2 : Int64)), .second] [(.ref a0)])) _
          refine XS.dup X7.here hx rfl (hb hby d7_34) rfl rfl ?_
          show Steps p.tables e below (T7.setTop (mkF m 35 #[.val (.ref a0), .val (.long q1), .second, .val (.long x3_8), .second, .val (.long (2 : Int64)), .second] [(.ref a0), (.ref a0)])) _
          refine st130 _ ?_
          show Steps p.tables e below (T130.setTop (mkF m 38 #[.val (.ref a0), .val (.long q1), .second, .val (.long x3_8), .second, .val (.long (2 : Int64)), .second] [(.long (((sc + (1 : Int64))) + (1 : Int64))), (.ref a0)])) _
          refine XS.lloadN X130.here hx rfl (hb hby d7_38) rfl ?_
          show Steps p.tables e below (T130.setTop (mkF m 39 #[.val (.ref a0), .val (.long q1), .second, .val (.long x3_8), .second, .val (.long (2 : Int64)), .second] [(.long q1), (.long (((sc + (1 : Int64))) + (1 : Int64))), (.ref a0)])) _
          refine XS.lloadN X130.here hx rfl (hb hby d7_39) rfl ?_
          show Steps p.tables e below (T130.setTop (mkF m 40 #[.val (.ref a0), .val (.long q1), .second, .val (.long x3_8), .second, .val (.long (2 : Int64)), .second] [(.long x3_8), (.long q1), (.long (((sc + (1 : Int64))) + (1 : Int64))), (.ref a0)])) _
          refine XS.lsub X130.here hx rfl (hb hby d7_40) rfl ?_
          show Steps p.tables e below (T130.setTop (mkF m 41 #[.val (.ref a0), .val (.long q1), .second, .val (.long x3_8), .second, .val (.long (2 : Int64)), .second] [(.long (q1 - x3_8)), (.long (((sc + (1 : Int64))) + (1 : Int64))), (.ref a0)])) _
          refine XS.ladd X130.here hx rfl (hb hby d7_41) rfl ?_
          show Steps p.tables e below (T130.setTop (mkF m 42 #[.val (.ref a0), .val (.long q1), .second, .val (.long x3_8), .second, .val (.long (2 : Int64)), .second] [(.long ((((sc + (1 : Int64))) + (1 : Int64)) + (q1 - x3_8))), (.ref a0)])) _
          refine st131 _ ?_
          show Steps p.tables e below (T131.setTop (mkF m 45 #[.val (.ref a0), .val (.long q1), .second, .val (.long x3_8), .second, .val (.long (2 : Int64)), .second] [])) _
          exact X131.returnOut hx Bd.returns (hb hby d7_45) hr
        · show Q7 Z a0 q1 th xt sc us xs es ss bb pq pb pd h0 n0 _ T131.heap _
          rw [e131]
          unfold Q7
          have f133 := (po7_0.wr W131)
          have f134 := (po7_1.other W131 (Or.inr (slot_ne (Or.inl (hw _ (List.mem_of_getElem? (i := 16) rfl))) (Or.inl (hw _ (List.mem_of_getElem? (i := 27) rfl))) (by decide) (t := .boolean) (t' := .long) (by decide) (by decide))))
          have f135 := (po7_2.other W131 (Or.inr (slot_ne (Or.inr (hw _ (List.mem_of_getElem? (i := 18) rfl))) (Or.inl (hw _ (List.mem_of_getElem? (i := 27) rfl))) (by decide) (t := .long) (t' := .long) (by decide) (by decide))))
          have f136 := (po7_3.other W131 (Or.inr (slot_ne (Or.inr (hw _ (List.mem_of_getElem? (i := 20) rfl))) (Or.inl (hw _ (List.mem_of_getElem? (i := 27) rfl))) (by decide) (t := .long) (t' := .long) (by decide) (by decide))))
          have f137 := (po7_5.other W131 (Or.inr (slot_ne (Or.inl (hw _ (List.mem_of_getElem? (i := 72) rfl))) (Or.inl (hw _ (List.mem_of_getElem? (i := 27) rfl))) (by decide) (t := .long) (t' := .long) (by decide) (by decide))))
          have f138 := (po7_6.other W131 (Or.inr (slot_ne (Or.inl (hw _ (List.mem_of_getElem? (i := 74) rfl))) (Or.inl (hw _ (List.mem_of_getElem? (i := 27) rfl))) (by decide) (t := .long) (t' := .long) (by decide) (by decide))))
          have f139 := (po7_7.other W131 (Or.inr (slot_ne (Or.inl (hw _ (List.mem_of_getElem? (i := 33) rfl))) (Or.inl (hw _ (List.mem_of_getElem? (i := 27) rfl))) (by decide) (t := .long) (t' := .long) (by decide) (by decide))))
          have f140 := (po7_8.other W131 (Or.inr (slot_ne (Or.inl (hw _ (List.mem_of_getElem? (i := 37) rfl))) (Or.inl (hw _ (List.mem_of_getElem? (i := 27) rfl))) (by decide) (t := .long) (t' := .long) (by decide) (by decide))))
          have f141 := (po7_9.other W131 (Or.inr (slot_ne (Or.inl (hw _ (List.mem_of_getElem? (i := 97) rfl))) (Or.inl (hw _ (List.mem_of_getElem? (i := 27) rfl))) (by decide) (t := .long) (t' := .long) (by decide) (by decide))))
          have f142 := (po7_10.other W131 (Or.inr (slot_ne (Or.inl (hw _ (List.mem_of_getElem? (i := 35) rfl))) (Or.inl (hw _ (List.mem_of_getElem? (i := 27) rfl))) (by decide) (t := .long) (t' := .long) (by decide) (by decide))))
          have f143 := (po7_11.other W131 (Or.inr (slot_ne (Or.inl (hw _ (List.mem_of_getElem? (i := 64) rfl))) (Or.inl (hw _ (List.mem_of_getElem? (i := 27) rfl))) (by decide) (t := .long) (t' := .long) (by decide) (by decide))))
          have f144 := (po7_12.other W131 (Or.inr (slot_ne (Or.inl (hw _ (List.mem_of_getElem? (i := 66) rfl))) (Or.inl (hw _ (List.mem_of_getElem? (i := 27) rfl))) (by decide) (t := .long) (t' := .long) (by decide) (by decide))))
          have f145 := (po7_13.other W131 (Or.inr (slot_ne (Or.inl (hw _ (List.mem_of_getElem? (i := 44) rfl))) (Or.inl (hw _ (List.mem_of_getElem? (i := 27) rfl))) (by decide) (t := .long) (t' := .long) (by decide) (by decide))))
          refine ⟨rfl, N131, kp132, f133, ?_, ?_, ?_, ?_, ?_, ?_, ?_, ?_, ?_, ?_, ?_, ?_, ?_⟩
          · exact f134
          · exact f135
          · exact f136
          · rw [show (own_p7_seconds q1 sc) = ((((sc + (1 : Int64))) + (1 : Int64)) + (q1 - x3_8)) from (by subst hx3_8; simp only [own_p7_seconds, if_pos hc15, if_pos hc15_2, if_neg hc15_3])]; exact Fw131
          · exact f137
          · exact f138
          · exact f139
          · exact f140
          · exact f141
          · rw [show (own_p7_pending q1) = (3 : Int64) from (by subst hx3_8; simp only [own_p7_pending, if_pos hc15, if_pos hc15_2, if_neg hc15_3])]; exact f142
          · rw [show (own_p7_pendingErrored q1 pq) = (own_p4D_pendingErrored (0 : Int64) ((own_p4D_pendingErrored (0 : Int64) pq))) from (by subst hx3_8; simp only [own_p7_pendingErrored, if_pos hc15, if_pos hc15_2, if_neg hc15_3])]; exact f143
          · rw [show (own_p7_pendingBlocks q1 pb) = (own_p4D_pendingBlocks (0 : Int64) ((own_p4D_pendingBlocks (0 : Int64) pb))) from (by subst hx3_8; simp only [own_p7_pendingBlocks, if_pos hc15, if_pos hc15_2, if_neg hc15_3])]; exact f144
          · exact f145
    · obtain ⟨T146, X146, e146, st146⟩ := getF X4 hx hZ hown (host := "") (Or.inl (hw _ (List.mem_of_getElem? (i := 26) rfl))) Via.refl rfl po4_4 (g := (mkF m 35 #[.val (.ref a0), .val (.long q1), .second, .val (.long x3_8), .second, .val (.long (1 : Int64)), .second] [(.ref a0), (.ref a0)])) rfl rfl (hb hby d7_35)
      obtain ⟨T147, h147, X147, e147, W147, st147⟩ := putF X146 hx hZ hown (host := "") (Or.inl (hw _ (List.mem_of_getElem? (i := 26) rfl))) Via.refl e146 po4_4 po4_0 (Or.inl (hw _ (List.mem_of_getElem? (i := 27) rfl))) (hw _ (List.mem_of_getElem? (i := 7) rfl)) (ty := .long) (by decide) rfl rfl (g := (mkF m 42 #[.val (.ref a0), .val (.long q1), .second, .val (.long x3_8), .second, .val (.long (1 : Int64)), .second] [(.long ((sc + (1 : Int64)) + (q1 - x3_8))), (.ref a0)])) rfl rfl (hb hby d7_42)
      have Fw147 := po4_4.same W147
      have N147 := Fr.snoc X147 N4 g_a0
      have kp148 : Keep h0 h147 [a0] := kp5.wr W147 (Or.inl (List.mem_of_getElem? (i := 0) rfl))
      obtain ⟨fs, hr, hrun, hended, hW, hsame⟩ := X147.leave (v := none) (fun _ => rfl)
      refine ⟨_, _, pre6 _ ?_, hrun, hended, _, _, rfl, ?_, ⟨_, rfl⟩, hW, hsame.mono (by decide) (by decide)⟩
      · show Steps p.tables e below (T4.setTop (mkF m 15 #[.val (.ref a0), .val (.long q1), .second, .val (.long x3_8), .second, .val (.long (1 : Int64)), .second] [(.int (lcmpW (1 : Int64) x3_8))])) _
        refine XS.ifYes X4.here hx rfl (pc0 := 15) (pc' := 33) rfl (hb hby d7_15) rfl ((if0 _ _).trans (flt (mt (lw_lt _ _).mp hc15_2)).2.1) (by decide) (by decide) ?_
        show Steps p.tables e below (T4.setTop (mkF m 33 #[.val (.ref a0), .val (.long q1), .second, .val (.long x3_8), .second, .val (.long (1 : Int64)), .second] [])) _
        refine XS.aloadN X4.here hx rfl (hb hby d7_33) rfl rfl ?_
        show Steps p.tables e below (T4.setTop (mkF m 34 #[.val (.ref a0), .val (.long q1), .second, .val (.long x3_8), .second, .val (.long (1 : Int64)), .second] [(.ref a0)])) _
        refine XS.dup X4.here hx rfl (hb hby d7_34) rfl rfl ?_
        show Steps p.tables e below (T4.setTop (mkF m 35 #[.val (.ref a0), .val (.long q1), .second, .val (.long x3_8), .second, .val (.long (1 : Int64)), .second] [(.ref a0), (.ref a0)])) _
        refine st146 _ ?_
        show Steps p.tables e below (T146.setTop (mkF m 38 #[.val (.ref a0), .val (.long q1), .second, .val (.long x3_8), .second, .val (.long (1 : Int64)), .second] [(.long (sc + (1 : Int64))), (.ref a0)])) _
        refine XS.lloadN X146.here hx rfl (hb hby d7_38) rfl ?_
        show Steps p.tables e below (T146.setTop (mkF m 39 #[.val (.ref a0), .val (.long q1), .second, .val (.long x3_8), .second, .val (.long (1 : Int64)), .second] [(.long q1), (.long (sc + (1 : Int64))), (.ref a0)])) _
        refine XS.lloadN X146.here hx rfl (hb hby d7_39) rfl ?_
        show Steps p.tables e below (T146.setTop (mkF m 40 #[.val (.ref a0), .val (.long q1), .second, .val (.long x3_8), .second, .val (.long (1 : Int64)), .second] [(.long x3_8), (.long q1), (.long (sc + (1 : Int64))), (.ref a0)])) _
        refine XS.lsub X146.here hx rfl (hb hby d7_40) rfl ?_
        show Steps p.tables e below (T146.setTop (mkF m 41 #[.val (.ref a0), .val (.long q1), .second, .val (.long x3_8), .second, .val (.long (1 : Int64)), .second] [(.long (q1 - x3_8)), (.long (sc + (1 : Int64))), (.ref a0)])) _
        refine XS.ladd X146.here hx rfl (hb hby d7_41) rfl ?_
        show Steps p.tables e below (T146.setTop (mkF m 42 #[.val (.ref a0), .val (.long q1), .second, .val (.long x3_8), .second, .val (.long (1 : Int64)), .second] [(.long ((sc + (1 : Int64)) + (q1 - x3_8))), (.ref a0)])) _
        refine st147 _ ?_
        show Steps p.tables e below (T147.setTop (mkF m 45 #[.val (.ref a0), .val (.long q1), .second, .val (.long x3_8), .second, .val (.long (1 : Int64)), .second] [])) _
        exact X147.returnOut hx Bd.returns (hb hby d7_45) hr
      · show Q7 Z a0 q1 th xt sc us xs es ss bb pq pb pd h0 n0 _ T147.heap _
        rw [e147]
        unfold Q7
        have f149 := (po4_0.wr W147)
        have f150 := (po4_1.other W147 (Or.inr (slot_ne (Or.inl (hw _ (List.mem_of_getElem? (i := 16) rfl))) (Or.inl (hw _ (List.mem_of_getElem? (i := 27) rfl))) (by decide) (t := .boolean) (t' := .long) (by decide) (by decide))))
        have f151 := (po4_2.other W147 (Or.inr (slot_ne (Or.inr (hw _ (List.mem_of_getElem? (i := 18) rfl))) (Or.inl (hw _ (List.mem_of_getElem? (i := 27) rfl))) (by decide) (t := .long) (t' := .long) (by decide) (by decide))))
        have f152 := (po4_3.other W147 (Or.inr (slot_ne (Or.inr (hw _ (List.mem_of_getElem? (i := 20) rfl))) (Or.inl (hw _ (List.mem_of_getElem? (i := 27) rfl))) (by decide) (t := .long) (t' := .long) (by decide) (by decide))))
        have f153 := (po4_5.other W147 (Or.inr (slot_ne (Or.inl (hw _ (List.mem_of_getElem? (i := 72) rfl))) (Or.inl (hw _ (List.mem_of_getElem? (i := 27) rfl))) (by decide) (t := .long) (t' := .long) (by decide) (by decide))))
        have f154 := (po4_6.other W147 (Or.inr (slot_ne (Or.inl (hw _ (List.mem_of_getElem? (i := 74) rfl))) (Or.inl (hw _ (List.mem_of_getElem? (i := 27) rfl))) (by decide) (t := .long) (t' := .long) (by decide) (by decide))))
        have f155 := (po4_7.other W147 (Or.inr (slot_ne (Or.inl (hw _ (List.mem_of_getElem? (i := 33) rfl))) (Or.inl (hw _ (List.mem_of_getElem? (i := 27) rfl))) (by decide) (t := .long) (t' := .long) (by decide) (by decide))))
        have f156 := (po4_8.other W147 (Or.inr (slot_ne (Or.inl (hw _ (List.mem_of_getElem? (i := 37) rfl))) (Or.inl (hw _ (List.mem_of_getElem? (i := 27) rfl))) (by decide) (t := .long) (t' := .long) (by decide) (by decide))))
        have f157 := (po4_9.other W147 (Or.inr (slot_ne (Or.inl (hw _ (List.mem_of_getElem? (i := 97) rfl))) (Or.inl (hw _ (List.mem_of_getElem? (i := 27) rfl))) (by decide) (t := .long) (t' := .long) (by decide) (by decide))))
        have f158 := (po4_10.other W147 (Or.inr (slot_ne (Or.inl (hw _ (List.mem_of_getElem? (i := 35) rfl))) (Or.inl (hw _ (List.mem_of_getElem? (i := 27) rfl))) (by decide) (t := .long) (t' := .long) (by decide) (by decide))))
        have f159 := (po4_11.other W147 (Or.inr (slot_ne (Or.inl (hw _ (List.mem_of_getElem? (i := 64) rfl))) (Or.inl (hw _ (List.mem_of_getElem? (i := 27) rfl))) (by decide) (t := .long) (t' := .long) (by decide) (by decide))))
        have f160 := (po4_12.other W147 (Or.inr (slot_ne (Or.inl (hw _ (List.mem_of_getElem? (i := 66) rfl))) (Or.inl (hw _ (List.mem_of_getElem? (i := 27) rfl))) (by decide) (t := .long) (t' := .long) (by decide) (by decide))))
        have f161 := (po4_13.other W147 (Or.inr (slot_ne (Or.inl (hw _ (List.mem_of_getElem? (i := 44) rfl))) (Or.inl (hw _ (List.mem_of_getElem? (i := 27) rfl))) (by decide) (t := .long) (t' := .long) (by decide) (by decide))))
        refine ⟨rfl, N147, kp148, f149, ?_, ?_, ?_, ?_, ?_, ?_, ?_, ?_, ?_, ?_, ?_, ?_, ?_⟩
        · exact f150
        · exact f151
        · exact f152
        · rw [show (own_p7_seconds q1 sc) = ((sc + (1 : Int64)) + (q1 - x3_8)) from (by subst hx3_8; simp only [own_p7_seconds, if_pos hc15, if_neg hc15_2])]; exact Fw147
        · exact f153
        · exact f154
        · exact f155
        · exact f156
        · exact f157
        · rw [show (own_p7_pending q1) = (2 : Int64) from (by subst hx3_8; simp only [own_p7_pending, if_pos hc15, if_neg hc15_2])]; exact f158
        · rw [show (own_p7_pendingErrored q1 pq) = (own_p4D_pendingErrored (0 : Int64) pq) from (by subst hx3_8; simp only [own_p7_pendingErrored, if_pos hc15, if_neg hc15_2])]; exact f159
        · rw [show (own_p7_pendingBlocks q1 pb) = (own_p4D_pendingBlocks (0 : Int64) pb) from (by subst hx3_8; simp only [own_p7_pendingBlocks, if_pos hc15, if_neg hc15_2])]; exact f160
        · exact f161
  · obtain ⟨T162, X162, e162, st162⟩ := getF X1 hx hZ hown (host := "") (Or.inl (hw _ (List.mem_of_getElem? (i := 26) rfl))) Via.refl eq1 F_a0_seconds (g := (mkF m 35 #[.val (.ref a0), .val (.long q1), .second, .val (.long x3_8), .second, .val (.long (0 : Int64)), .second] [(.ref a0), (.ref a0)])) rfl rfl (hb hby d7_35)
    obtain ⟨T163, h163, X163, e163, W163, st163⟩ := putF X162 hx hZ hown (host := "") (Or.inl (hw _ (List.mem_of_getElem? (i := 26) rfl))) Via.refl e162 F_a0_seconds E_a0 (Or.inl (hw _ (List.mem_of_getElem? (i := 27) rfl))) (hw _ (List.mem_of_getElem? (i := 7) rfl)) (ty := .long) (by decide) rfl rfl (g := (mkF m 42 #[.val (.ref a0), .val (.long q1), .second, .val (.long x3_8), .second, .val (.long (0 : Int64)), .second] [(.long (sc + (q1 - x3_8))), (.ref a0)])) rfl rfl (hb hby d7_42)
    have Fw163 := F_a0_seconds.same W163
    have N163 := Fr.snoc X163 N1 g_a0
    have kp164 : Keep h0 h163 [a0] := (Keep.refl h0 [a0]).wr W163 (Or.inl (List.mem_of_getElem? (i := 0) rfl))
    obtain ⟨fs, hr, hrun, hended, hW, hsame⟩ := X163.leave (v := none) (fun _ => rfl)
    refine ⟨_, _, pre3 _ ?_, hrun, hended, _, _, rfl, ?_, ⟨_, rfl⟩, hW, hsame.mono (by decide) (by decide)⟩
    · show Steps p.tables e below (T1.setTop (mkF m 15 #[.val (.ref a0), .val (.long q1), .second, .val (.long x3_8), .second, .val (.long (0 : Int64)), .second] [(.int (lcmpW (0 : Int64) x3_8))])) _
      refine XS.ifYes X1.here hx rfl (pc0 := 15) (pc' := 33) rfl (hb hby d7_15) rfl ((if0 _ _).trans (flt (mt (lw_lt _ _).mp hc15)).2.1) (by decide) (by decide) ?_
      show Steps p.tables e below (T1.setTop (mkF m 33 #[.val (.ref a0), .val (.long q1), .second, .val (.long x3_8), .second, .val (.long (0 : Int64)), .second] [])) _
      refine XS.aloadN X1.here hx rfl (hb hby d7_33) rfl rfl ?_
      show Steps p.tables e below (T1.setTop (mkF m 34 #[.val (.ref a0), .val (.long q1), .second, .val (.long x3_8), .second, .val (.long (0 : Int64)), .second] [(.ref a0)])) _
      refine XS.dup X1.here hx rfl (hb hby d7_34) rfl rfl ?_
      show Steps p.tables e below (T1.setTop (mkF m 35 #[.val (.ref a0), .val (.long q1), .second, .val (.long x3_8), .second, .val (.long (0 : Int64)), .second] [(.ref a0), (.ref a0)])) _
      refine st162 _ ?_
      show Steps p.tables e below (T162.setTop (mkF m 38 #[.val (.ref a0), .val (.long q1), .second, .val (.long x3_8), .second, .val (.long (0 : Int64)), .second] [(.long sc), (.ref a0)])) _
      refine XS.lloadN X162.here hx rfl (hb hby d7_38) rfl ?_
      show Steps p.tables e below (T162.setTop (mkF m 39 #[.val (.ref a0), .val (.long q1), .second, .val (.long x3_8), .second, .val (.long (0 : Int64)), .second] [(.long q1), (.long sc), (.ref a0)])) _
      refine XS.lloadN X162.here hx rfl (hb hby d7_39) rfl ?_
      show Steps p.tables e below (T162.setTop (mkF m 40 #[.val (.ref a0), .val (.long q1), .second, .val (.long x3_8), .second, .val (.long (0 : Int64)), .second] [(.long x3_8), (.long q1), (.long sc), (.ref a0)])) _
      refine XS.lsub X162.here hx rfl (hb hby d7_40) rfl ?_
      show Steps p.tables e below (T162.setTop (mkF m 41 #[.val (.ref a0), .val (.long q1), .second, .val (.long x3_8), .second, .val (.long (0 : Int64)), .second] [(.long (q1 - x3_8)), (.long sc), (.ref a0)])) _
      refine XS.ladd X162.here hx rfl (hb hby d7_41) rfl ?_
      show Steps p.tables e below (T162.setTop (mkF m 42 #[.val (.ref a0), .val (.long q1), .second, .val (.long x3_8), .second, .val (.long (0 : Int64)), .second] [(.long (sc + (q1 - x3_8))), (.ref a0)])) _
      refine st163 _ ?_
      show Steps p.tables e below (T163.setTop (mkF m 45 #[.val (.ref a0), .val (.long q1), .second, .val (.long x3_8), .second, .val (.long (0 : Int64)), .second] [])) _
      exact X163.returnOut hx Bd.returns (hb hby d7_45) hr
    · show Q7 Z a0 q1 th xt sc us xs es ss bb pq pb pd h0 n0 _ T163.heap _
      rw [e163]
      unfold Q7
      have f165 := (E_a0.wr W163)
      have f166 := (F_a0_available.other W163 (Or.inr (slot_ne (Or.inl (hw _ (List.mem_of_getElem? (i := 16) rfl))) (Or.inl (hw _ (List.mem_of_getElem? (i := 27) rfl))) (by decide) (t := .boolean) (t' := .long) (by decide) (by decide))))
      have f167 := (F_a0_sesErroredBlocks.other W163 (Or.inr (slot_ne (Or.inr (hw _ (List.mem_of_getElem? (i := 18) rfl))) (Or.inl (hw _ (List.mem_of_getElem? (i := 27) rfl))) (by decide) (t := .long) (t' := .long) (by decide) (by decide))))
      have f168 := (F_a0_extendingPeriodSeconds.other W163 (Or.inr (slot_ne (Or.inr (hw _ (List.mem_of_getElem? (i := 20) rfl))) (Or.inl (hw _ (List.mem_of_getElem? (i := 27) rfl))) (by decide) (t := .long) (t' := .long) (by decide) (by decide))))
      have f169 := (F_a0_unavailableSeconds.other W163 (Or.inr (slot_ne (Or.inl (hw _ (List.mem_of_getElem? (i := 72) rfl))) (Or.inl (hw _ (List.mem_of_getElem? (i := 27) rfl))) (by decide) (t := .long) (t' := .long) (by decide) (by decide))))
      have f170 := (F_a0_extendingSeconds.other W163 (Or.inr (slot_ne (Or.inl (hw _ (List.mem_of_getElem? (i := 74) rfl))) (Or.inl (hw _ (List.mem_of_getElem? (i := 27) rfl))) (by decide) (t := .long) (t' := .long) (by decide) (by decide))))
      have f171 := (F_a0_erroredSeconds.other W163 (Or.inr (slot_ne (Or.inl (hw _ (List.mem_of_getElem? (i := 33) rfl))) (Or.inl (hw _ (List.mem_of_getElem? (i := 27) rfl))) (by decide) (t := .long) (t' := .long) (by decide) (by decide))))
      have f172 := (F_a0_severelyErroredSeconds.other W163 (Or.inr (slot_ne (Or.inl (hw _ (List.mem_of_getElem? (i := 37) rfl))) (Or.inl (hw _ (List.mem_of_getElem? (i := 27) rfl))) (by decide) (t := .long) (t' := .long) (by decide) (by decide))))
      have f173 := (F_a0_backgroundBlockErrors.other W163 (Or.inr (slot_ne (Or.inl (hw _ (List.mem_of_getElem? (i := 97) rfl))) (Or.inl (hw _ (List.mem_of_getElem? (i := 27) rfl))) (by decide) (t := .long) (t' := .long) (by decide) (by decide))))
      have f174 := (F_a0_pending.other W163 (Or.inr (slot_ne (Or.inl (hw _ (List.mem_of_getElem? (i := 35) rfl))) (Or.inl (hw _ (List.mem_of_getElem? (i := 27) rfl))) (by decide) (t := .long) (t' := .long) (by decide) (by decide))))
      have f175 := (F_a0_pendingErrored.other W163 (Or.inr (slot_ne (Or.inl (hw _ (List.mem_of_getElem? (i := 64) rfl))) (Or.inl (hw _ (List.mem_of_getElem? (i := 27) rfl))) (by decide) (t := .long) (t' := .long) (by decide) (by decide))))
      have f176 := (F_a0_pendingBlocks.other W163 (Or.inr (slot_ne (Or.inl (hw _ (List.mem_of_getElem? (i := 66) rfl))) (Or.inl (hw _ (List.mem_of_getElem? (i := 27) rfl))) (by decide) (t := .long) (t' := .long) (by decide) (by decide))))
      have f177 := (F_a0_period.other W163 (Or.inr (slot_ne (Or.inl (hw _ (List.mem_of_getElem? (i := 44) rfl))) (Or.inl (hw _ (List.mem_of_getElem? (i := 27) rfl))) (by decide) (t := .long) (t' := .long) (by decide) (by decide))))
      refine ⟨rfl, N163, kp164, f165, ?_, ?_, ?_, ?_, ?_, ?_, ?_, ?_, ?_, ?_, ?_, ?_, ?_⟩
      · exact f166
      · exact f167
      · exact f168
      · rw [show (own_p7_seconds q1 sc) = (sc + (q1 - x3_8)) from (by subst hx3_8; simp only [own_p7_seconds, if_neg hc15])]; exact Fw163
      · exact f169
      · exact f170
      · exact f171
      · exact f172
      · exact f173
      · rw [show (own_p7_pending q1) = (1 : Int64) from (by subst hx3_8; simp only [own_p7_pending, if_neg hc15])]; exact f174
      · rw [show (own_p7_pendingErrored q1 pq) = pq from (by subst hx3_8; simp only [own_p7_pendingErrored, if_neg hc15])]; exact f175
      · rw [show (own_p7_pendingBlocks q1 pb) = pb from (by subst hx3_8; simp only [own_p7_pendingBlocks, if_neg hc15])]; exact f176
      · exact f177
theorem d9_0 : decode prog_5_method_4_code 0 = .ok (.aload_n 0, 1) := by decide +kernel
theorem d9_1 : decode prog_5_method_4_code 1 = .ok (.getfield 7, 3) := by decide +kernel
theorem d9_4 : decode prog_5_method_4_code 4 = .ok (.ifCond .eq 10, 3) := by decide +kernel
theorem d9_7 : decode prog_5_method_4_code 7 = .ok (.aload_n 0, 1) := by decide +kernel
theorem d9_8 : decode prog_5_method_4_code 8 = .ok (.invokevirtual 31, 3) := by decide +kernel
theorem d9_11 : decode prog_5_method_4_code 11 = .ok (.goto 24, 3) := by decide +kernel
theorem d9_35 : decode prog_5_method_4_code 35 = .ok (.return_, 1) := by decide +kernel
theorem ef_9A (m : MethodId) (a0 : Addr) : entryFrame m #[(.ref a0)] 1 = mkF m 0 #[.val (.ref a0)] [] := by first | (simp [entryFrame, mkF, argsToLocals, Value.category]; done) | rfl
def Q9A (Z : State) (a0 : Addr) (th : Int64) (xt : Int64) (sc : Int64) (us : Int64) (xs : Int64) (es : Int64) (ss : Int64) (bb : Int64) (pe : Int64) (pq : Int64) (pb : Int64) (pd : Int64) (h0 : Heap) (n0 : Nat) (v : Option Value) (h : Heap) (L : List Loc) : Prop := v = none ∧ Fr n0 L ∧ Keep h0 h [a0] ∧ Exa Z h a0 "com/example/hopchuan/hopchuan/ErrorCounter" ∧ Fld Z h a0 "com/example/hopchuan/hopchuan/ErrorCounter" "available" "Z" (.int (1 : Int32)) ∧ Fld Z h a0 "com/example/hopchuan/hopchuan/ErrorCounter" "sesErroredBlocks" "J" (.long th) ∧ Fld Z h a0 "com/example/hopchuan/hopchuan/ErrorCounter" "extendingPeriodSeconds" "J" (.long xt) ∧ Fld Z h a0 "com/example/hopchuan/hopchuan/ErrorCounter" "seconds" "J" (.long sc) ∧ Fld Z h a0 "com/example/hopchuan/hopchuan/ErrorCounter" "unavailableSeconds" "J" (.long us) ∧ Fld Z h a0 "com/example/hopchuan/hopchuan/ErrorCounter" "extendingSeconds" "J" (.long xs) ∧ Fld Z h a0 "com/example/hopchuan/hopchuan/ErrorCounter" "erroredSeconds" "J" (.long (es + pe)) ∧ Fld Z h a0 "com/example/hopchuan/hopchuan/ErrorCounter" "severelyErroredSeconds" "J" (.long (ss + pe)) ∧ Fld Z h a0 "com/example/hopchuan/hopchuan/ErrorCounter" "backgroundBlockErrors" "J" (.long bb) ∧ Fld Z h a0 "com/example/hopchuan/hopchuan/ErrorCounter" "pending" "J" (.long (0 : Int64)) ∧ Fld Z h a0 "com/example/hopchuan/hopchuan/ErrorCounter" "pendingErrored" "J" (.long pq) ∧ Fld Z h a0 "com/example/hopchuan/hopchuan/ErrorCounter" "pendingBlocks" "J" (.long pb) ∧ Fld Z h a0 "com/example/hopchuan/hopchuan/ErrorCounter" "period" "J" (.long pd)
set_option maxRecDepth 65536 in
set_option maxHeartbeats 40000000 in
theorem rm9A (l : Launch) (Z : State) (aw : Array Value) (hw : ∀ d ∈ tables_1, d.before aw Z = true) (wq : List Jvm.Cond) (a0 : Addr) (th : Int64) (xt : Int64) (sc : Int64) (us : Int64) (xs : Int64) (es : Int64) (ss : Int64) (bb : Int64) (pe : Int64) (pq : Int64) (pb : Int64) (pd : Int64) (h0 : Heap) (n0 : Nat) (Z0 : n0 ≤ h0.size) (E_a0 : Exa Z h0 a0 "com/example/hopchuan/hopchuan/ErrorCounter") (F_a0_available : Fld Z h0 a0 "com/example/hopchuan/hopchuan/ErrorCounter" "available" "Z" (.int (1 : Int32))) (F_a0_sesErroredBlocks : Fld Z h0 a0 "com/example/hopchuan/hopchuan/ErrorCounter" "sesErroredBlocks" "J" (.long th)) (F_a0_extendingPeriodSeconds : Fld Z h0 a0 "com/example/hopchuan/hopchuan/ErrorCounter" "extendingPeriodSeconds" "J" (.long xt)) (F_a0_seconds : Fld Z h0 a0 "com/example/hopchuan/hopchuan/ErrorCounter" "seconds" "J" (.long sc)) (F_a0_unavailableSeconds : Fld Z h0 a0 "com/example/hopchuan/hopchuan/ErrorCounter" "unavailableSeconds" "J" (.long us)) (F_a0_extendingSeconds : Fld Z h0 a0 "com/example/hopchuan/hopchuan/ErrorCounter" "extendingSeconds" "J" (.long xs)) (F_a0_erroredSeconds : Fld Z h0 a0 "com/example/hopchuan/hopchuan/ErrorCounter" "erroredSeconds" "J" (.long es)) (F_a0_severelyErroredSeconds : Fld Z h0 a0 "com/example/hopchuan/hopchuan/ErrorCounter" "severelyErroredSeconds" "J" (.long ss)) (F_a0_backgroundBlockErrors : Fld Z h0 a0 "com/example/hopchuan/hopchuan/ErrorCounter" "backgroundBlockErrors" "J" (.long bb)) (F_a0_pending : Fld Z h0 a0 "com/example/hopchuan/hopchuan/ErrorCounter" "pending" "J" (.long pe)) (F_a0_pendingErrored : Fld Z h0 a0 "com/example/hopchuan/hopchuan/ErrorCounter" "pendingErrored" "J" (.long pq)) (F_a0_pendingBlocks : Fld Z h0 a0 "com/example/hopchuan/hopchuan/ErrorCounter" "pendingBlocks" "J" (.long pb)) (F_a0_period : Fld Z h0 a0 "com/example/hopchuan/hopchuan/ErrorCounter" "period" "J" (.long pd)) (g_a0 : n0 ≤ a0) :
    MetFree l (⟨"com/example/hopchuan/hopchuan/ErrorCounter", "end", "()V"⟩ : MethodName) (head1 (Jvm.Cond.code (⟨"com/example/hopchuan/hopchuan/ErrorCounter", "end", "()V"⟩ : MethodName) prog_5_method_4_code 1 none :: wq) ({ frames := 1, cells := 0, slots := 0, locals := 12 } : Room)) (fun a U => a = #[(.ref a0)] ∧ Z.Warmed39 U.vm ∧ U.heap = h0) (fun _ _ _ _ _ => True) (fun _ U o U' => ∃ v L, o = .returned v ∧ Q9A Z a0 th xt sc us xs es ss bb pe pq pb pd h0 n0 v U'.heap L ∧ FrameEnd U o U' L ({ frames := 1, cells := 0, slots := 0, locals := 12 } : Room).cells ({ frames := 1, cells := 0, slots := 0, locals := 12 } : Room).slots) := by
  refine MetFree.of_bodySF (plainFor_of_name pn_0) hisR ?_
  intro p e s m args below meth c s₁ Bd hml0 hP hK
  obtain ⟨rfl, hZ, hh⟩ := hP
  have hx := Bd.exec
  have hby := Bd.bytes
  have hml : c.maxLocals = 1 := hml0
  have hown : s.vm.findClass "com/example/hopchuan/hopchuan/ErrorCounter" = some m.cls := findClass_of_methodNamed Bd.named
  have hnm := (name_of_methodNamed Bd.named Bd.method).1
  have X0 : Stand p l e ({ frames := 1, cells := 0, slots := 0, locals := 12 } : Room) s m #[(.ref a0)] below meth c s₁ [] 0 0 := Stand.of_body Bd
  have e0 : s₁.heap = h0 := by rw [← hh, Bd.state]; rfl
  have N0 := Fr.nil n0
  have pre0 : own_Pre p e below (s₁.setTop (entryFrame m #[(.ref a0)] 1)) (s₁.setTop (mkF m 0 #[.val (.ref a0)] [])) := fun t k => castTop (ef_9A m a0) k
  obtain ⟨T1, X1, e1, st1⟩ := getF X0 hx hZ hown (host := "") (Or.inl (hw _ (List.mem_of_getElem? (i := 15) rfl))) Via.refl e0 F_a0_available (g := (mkF m 1 #[.val (.ref a0)] [(.ref a0)])) rfl rfl (hb hby d9_1)
  obtain ⟨cq2, qa2, qb2⟩ := E_a0.cell
  obtain ⟨_, _, ⟨T2, L2, k2, n2⟩, -, X2, ⟨Lc2, hQ2, l2, y2, z2⟩, st2⟩ := X1.privateBack hx (y := (⟨"com/example/hopchuan/hopchuan/ErrorCounter", "settleAvailableRun", "()V"⟩ : MethodName)) hown (mvT hZ (hw _ (List.mem_of_getElem? (i := 28) rfl))) (mvT hZ (hw _ (List.mem_of_getElem? (i := 29) rfl))) (own_selp (y := (⟨"com/example/hopchuan/hopchuan/ErrorCounter", "settleAvailableRun", "()V"⟩ : MethodName)) (z := (⟨"com/example/hopchuan/hopchuan/ErrorCounter", "second", "(JZ)V"⟩ : MethodName)) (mvT hZ (hw _ (List.mem_of_getElem? (i := 24) rfl))) rfl (Cond.privateMethod_at (mvP hZ (hw _ (List.mem_of_getElem? (i := 30) rfl)) (args := #[]))) (mvT hZ (hw _ (List.mem_of_getElem? (i := 29) rfl))) (by decide)) (Cond.privateMethod_at (mvP hZ (hw _ (List.mem_of_getElem? (i := 30) rfl)) (args := #[]))) (mvT hZ (hw _ (List.mem_of_getElem? (i := 31) rfl))) (by decide) (backOf (W := 0) (rm5 l Z aw hw [] (a0) (th) (xt) (sc) (us) (xs) (es) (ss) (bb) (pe) (pq) (pb) (pd) (h0) n0 Z0 E_a0 F_a0_available F_a0_sesErroredBlocks F_a0_extendingPeriodSeconds F_a0_seconds F_a0_unavailableSeconds F_a0_extendingSeconds F_a0_erroredSeconds F_a0_severelyErroredSeconds F_a0_backgroundBlockErrors F_a0_pending F_a0_pendingErrored F_a0_pendingBlocks F_a0_period g_a0) hZ (hw _ (List.mem_of_getElem? (i := 31) rfl)) (hw _ (List.mem_of_getElem? (i := 8) rfl)) (by decide) (by decide)) (g := (mkF m 8 #[.val (.ref a0)] [(.ref a0)])) rfl (by rw [hml]; rfl) (Steps.refl _) (a := a0) (by rw [e1]; exact qa2) qb2 (argsL := []) (rest := []) (lenOf pd_0 rfl) rfl (by show 2 * 0 + _ ≤ _; exact Nat.le_of_eq rfl) (hb hby d9_8) (fun _ _ => ⟨rfl, e1, (by decide : 0 + 0 ≤ _), (by decide : 0 + 0 ≤ _)⟩)
  dsimp only [Pt.U, Pt.locs, Pt.cells, Pt.slots] at X2 l2 y2 z2 st2 hQ2
  subst l2 y2 z2
  obtain ⟨rfl, Nq2, K2, po2_0, po2_1, po2_2, po2_3, po2_4, po2_5, po2_6, po2_7, po2_8, po2_9, po2_10, po2_11, po2_12, po2_13⟩ := hQ2
  have N2 := Fr.app N0 Nq2
  have kp3 : Keep h0 T2.heap [a0] := (Keep.refl h0 [a0]).trans K2 (allS (Or.inl (List.mem_of_getElem? (i := 0) rfl)) all0)
  obtain ⟨fs, hr, hrun, hended, hW, hsame⟩ := X2.leave (v := none) (fun _ => rfl)
  refine ⟨_, _, pre0 _ ?_, hrun, hended, _, _, rfl, ?_, ⟨_, rfl⟩, hW, hsame.mono (by decide) (by decide)⟩
  · show Steps p.tables e below (s₁.setTop (mkF m 0 #[.val (.ref a0)] [])) _
    refine XS.aloadN X0.here hx rfl (hb hby d9_0) rfl rfl ?_
    show Steps p.tables e below (s₁.setTop (mkF m 1 #[.val (.ref a0)] [(.ref a0)])) _
    refine st1 _ ?_
    show Steps p.tables e below (T1.setTop (mkF m 4 #[.val (.ref a0)] [(.int (1 : Int32))])) _
    refine XS.ifNo X1.here hx rfl (hb hby d9_4) rfl ((if0 _ _).trans (feq (by decide : ¬ ((1 : Int32) = (0 : Int32)))).1) ?_
    show Steps p.tables e below (T1.setTop (mkF m 7 #[.val (.ref a0)] [])) _
    refine XS.aloadN X1.here hx rfl (hb hby d9_7) rfl rfl ?_
    show Steps p.tables e below (T1.setTop (mkF m 8 #[.val (.ref a0)] [(.ref a0)])) _
    refine st2.trans ?_
    show Steps p.tables e below (T2.setTop (mkF m 11 #[.val (.ref a0)] [])) _
    refine XS.goto X2.here hx rfl (pc0 := 11) (pc' := 35) rfl (hb hby d9_11) (by decide) (by decide) ?_
    show Steps p.tables e below (T2.setTop (mkF m 35 #[.val (.ref a0)] [])) _
    exact X2.returnOut hx Bd.returns (hb hby d9_35) hr
  · show Q9A Z a0 th xt sc us xs es ss bb pe pq pb pd h0 n0 _ T2.heap _
    unfold Q9A
    refine ⟨rfl, N2, kp3, po2_0, ?_, ?_, ?_, ?_, ?_, ?_, ?_, ?_, ?_, ?_, ?_, ?_, ?_⟩
    · exact po2_1
    · exact po2_2
    · exact po2_3
    · exact po2_4
    · exact po2_5
    · exact po2_6
    · exact po2_7
    · exact po2_8
    · exact po2_9
    · exact po2_10
    · exact po2_11
    · exact po2_12
    · exact po2_13
theorem d9_14 : decode prog_5_method_4_code 14 = .ok (.aload_n 0, 1) := by decide +kernel
theorem d9_15 : decode prog_5_method_4_code 15 = .ok (.dup, 1) := by decide +kernel
theorem d9_16 : decode prog_5_method_4_code 16 = .ok (.getfield 28, 3) := by decide +kernel
theorem d9_19 : decode prog_5_method_4_code 19 = .ok (.aload_n 0, 1) := by decide +kernel
theorem d9_20 : decode prog_5_method_4_code 20 = .ok (.getfield 23, 3) := by decide +kernel
theorem d9_23 : decode prog_5_method_4_code 23 = .ok (.ladd, 1) := by decide +kernel
theorem d9_24 : decode prog_5_method_4_code 24 = .ok (.putfield 28, 3) := by decide +kernel
theorem d9_27 : decode prog_5_method_4_code 27 = .ok (.aload_n 0, 1) := by decide +kernel
theorem d9_28 : decode prog_5_method_4_code 28 = .ok (.invokevirtual 40, 3) := by decide +kernel
theorem d9_31 : decode prog_5_method_4_code 31 = .ok (.aload_n 0, 1) := by decide +kernel
theorem d9_32 : decode prog_5_method_4_code 32 = .ok (.invokevirtual 49, 3) := by decide +kernel
theorem ef_9U (m : MethodId) (a0 : Addr) : entryFrame m #[(.ref a0)] 1 = mkF m 0 #[.val (.ref a0)] [] := by first | (simp [entryFrame, mkF, argsToLocals, Value.category]; done) | rfl
def own_p9U_unavailableSeconds (us : Int64) (pe : Int64) (pd : Int64) : Int64 := (own_p11_unavailableSeconds us (((pd + pe))))
def own_p9U_extendingSeconds (xt : Int64) (xs : Int64) (pe : Int64) (pd : Int64) : Int64 := (own_p11_extendingSeconds xt xs (((pd + pe))))
def Q9U (Z : State) (a0 : Addr) (th : Int64) (xt : Int64) (sc : Int64) (us : Int64) (xs : Int64) (es : Int64) (ss : Int64) (bb : Int64) (pe : Int64) (pq : Int64) (pb : Int64) (pd : Int64) (h0 : Heap) (n0 : Nat) (v : Option Value) (h : Heap) (L : List Loc) : Prop := v = none ∧ Fr n0 L ∧ Keep h0 h [a0] ∧ Exa Z h a0 "com/example/hopchuan/hopchuan/ErrorCounter" ∧ Fld Z h a0 "com/example/hopchuan/hopchuan/ErrorCounter" "available" "Z" (.int (0 : Int32)) ∧ Fld Z h a0 "com/example/hopchuan/hopchuan/ErrorCounter" "sesErroredBlocks" "J" (.long th) ∧ Fld Z h a0 "com/example/hopchuan/hopchuan/ErrorCounter" "extendingPeriodSeconds" "J" (.long xt) ∧ Fld Z h a0 "com/example/hopchuan/hopchuan/ErrorCounter" "seconds" "J" (.long sc) ∧ Fld Z h a0 "com/example/hopchuan/hopchuan/ErrorCounter" "unavailableSeconds" "J" (.long (own_p9U_unavailableSeconds us pe pd)) ∧ Fld Z h a0 "com/example/hopchuan/hopchuan/ErrorCounter" "extendingSeconds" "J" (.long (own_p9U_extendingSeconds xt xs pe pd)) ∧ Fld Z h a0 "com/example/hopchuan/hopchuan/ErrorCounter" "erroredSeconds" "J" (.long es) ∧ Fld Z h a0 "com/example/hopchuan/hopchuan/ErrorCounter" "severelyErroredSeconds" "J" (.long ss) ∧ Fld Z h a0 "com/example/hopchuan/hopchuan/ErrorCounter" "backgroundBlockErrors" "J" (.long bb) ∧ Fld Z h a0 "com/example/hopchuan/hopchuan/ErrorCounter" "pending" "J" (.long (0 : Int64)) ∧ Fld Z h a0 "com/example/hopchuan/hopchuan/ErrorCounter" "pendingErrored" "J" (.long (0 : Int64)) ∧ Fld Z h a0 "com/example/hopchuan/hopchuan/ErrorCounter" "pendingBlocks" "J" (.long (0 : Int64)) ∧ Fld Z h a0 "com/example/hopchuan/hopchuan/ErrorCounter" "period" "J" (.long (0 : Int64))
set_option maxRecDepth 65536 in
set_option maxHeartbeats 40000000 in
theorem rm9U (l : Launch) (Z : State) (aw : Array Value) (hw : ∀ d ∈ tables_1, d.before aw Z = true) (wq : List Jvm.Cond) (a0 : Addr) (th : Int64) (xt : Int64) (sc : Int64) (us : Int64) (xs : Int64) (es : Int64) (ss : Int64) (bb : Int64) (pe : Int64) (pq : Int64) (pb : Int64) (pd : Int64) (h0 : Heap) (n0 : Nat) (Z0 : n0 ≤ h0.size) (E_a0 : Exa Z h0 a0 "com/example/hopchuan/hopchuan/ErrorCounter") (F_a0_available : Fld Z h0 a0 "com/example/hopchuan/hopchuan/ErrorCounter" "available" "Z" (.int (0 : Int32))) (F_a0_sesErroredBlocks : Fld Z h0 a0 "com/example/hopchuan/hopchuan/ErrorCounter" "sesErroredBlocks" "J" (.long th)) (F_a0_extendingPeriodSeconds : Fld Z h0 a0 "com/example/hopchuan/hopchuan/ErrorCounter" "extendingPeriodSeconds" "J" (.long xt)) (F_a0_seconds : Fld Z h0 a0 "com/example/hopchuan/hopchuan/ErrorCounter" "seconds" "J" (.long sc)) (F_a0_unavailableSeconds : Fld Z h0 a0 "com/example/hopchuan/hopchuan/ErrorCounter" "unavailableSeconds" "J" (.long us)) (F_a0_extendingSeconds : Fld Z h0 a0 "com/example/hopchuan/hopchuan/ErrorCounter" "extendingSeconds" "J" (.long xs)) (F_a0_erroredSeconds : Fld Z h0 a0 "com/example/hopchuan/hopchuan/ErrorCounter" "erroredSeconds" "J" (.long es)) (F_a0_severelyErroredSeconds : Fld Z h0 a0 "com/example/hopchuan/hopchuan/ErrorCounter" "severelyErroredSeconds" "J" (.long ss)) (F_a0_backgroundBlockErrors : Fld Z h0 a0 "com/example/hopchuan/hopchuan/ErrorCounter" "backgroundBlockErrors" "J" (.long bb)) (F_a0_pending : Fld Z h0 a0 "com/example/hopchuan/hopchuan/ErrorCounter" "pending" "J" (.long pe)) (F_a0_pendingErrored : Fld Z h0 a0 "com/example/hopchuan/hopchuan/ErrorCounter" "pendingErrored" "J" (.long pq)) (F_a0_pendingBlocks : Fld Z h0 a0 "com/example/hopchuan/hopchuan/ErrorCounter" "pendingBlocks" "J" (.long pb)) (F_a0_period : Fld Z h0 a0 "com/example/hopchuan/hopchuan/ErrorCounter" "period" "J" (.long pd)) (g_a0 : n0 ≤ a0) :
    MetFree l (⟨"com/example/hopchuan/hopchuan/ErrorCounter", "end", "()V"⟩ : MethodName) (head1 (Jvm.Cond.code (⟨"com/example/hopchuan/hopchuan/ErrorCounter", "end", "()V"⟩ : MethodName) prog_5_method_4_code 1 none :: wq) ({ frames := 1, cells := 0, slots := 0, locals := 12 } : Room)) (fun a U => a = #[(.ref a0)] ∧ Z.Warmed39 U.vm ∧ U.heap = h0) (fun _ _ _ _ _ => True) (fun _ U o U' => ∃ v L, o = .returned v ∧ Q9U Z a0 th xt sc us xs es ss bb pe pq pb pd h0 n0 v U'.heap L ∧ FrameEnd U o U' L ({ frames := 1, cells := 0, slots := 0, locals := 12 } : Room).cells ({ frames := 1, cells := 0, slots := 0, locals := 12 } : Room).slots) := by
  refine MetFree.of_bodySF (plainFor_of_name pn_0) hisR ?_
  intro p e s m args below meth c s₁ Bd hml0 hP hK
  obtain ⟨rfl, hZ, hh⟩ := hP
  have hx := Bd.exec
  have hby := Bd.bytes
  have hml : c.maxLocals = 1 := hml0
  have hown : s.vm.findClass "com/example/hopchuan/hopchuan/ErrorCounter" = some m.cls := findClass_of_methodNamed Bd.named
  have hnm := (name_of_methodNamed Bd.named Bd.method).1
  have X0 : Stand p l e ({ frames := 1, cells := 0, slots := 0, locals := 12 } : Room) s m #[(.ref a0)] below meth c s₁ [] 0 0 := Stand.of_body Bd
  have e0 : s₁.heap = h0 := by rw [← hh, Bd.state]; rfl
  have N0 := Fr.nil n0
  have pre0 : own_Pre p e below (s₁.setTop (entryFrame m #[(.ref a0)] 1)) (s₁.setTop (mkF m 0 #[.val (.ref a0)] [])) := fun t k => castTop (ef_9U m a0) k
  obtain ⟨T1, X1, e1, st1⟩ := getF X0 hx hZ hown (host := "") (Or.inl (hw _ (List.mem_of_getElem? (i := 15) rfl))) Via.refl e0 F_a0_available (g := (mkF m 1 #[.val (.ref a0)] [(.ref a0)])) rfl rfl (hb hby d9_1)
  obtain ⟨T2, X2, e2, st2⟩ := getF X1 hx hZ hown (host := "") (Or.inl (hw _ (List.mem_of_getElem? (i := 43) rfl))) Via.refl e1 F_a0_period (g := (mkF m 16 #[.val (.ref a0)] [(.ref a0), (.ref a0)])) rfl rfl (hb hby d9_16)
  obtain ⟨T3, X3, e3, st3⟩ := getF X2 hx hZ hown (host := "") (Or.inl (hw _ (List.mem_of_getElem? (i := 34) rfl))) Via.refl e2 F_a0_pending (g := (mkF m 20 #[.val (.ref a0)] [(.ref a0), (.long pd), (.ref a0)])) rfl rfl (hb hby d9_20)
  obtain ⟨T4, h4, X4, e4, W4, st4⟩ := putF X3 hx hZ hown (host := "") (Or.inl (hw _ (List.mem_of_getElem? (i := 43) rfl))) Via.refl e3 F_a0_period E_a0 (Or.inl (hw _ (List.mem_of_getElem? (i := 44) rfl))) (hw _ (List.mem_of_getElem? (i := 7) rfl)) (ty := .long) (by decide) rfl rfl (g := (mkF m 24 #[.val (.ref a0)] [(.long (pd + pe)), (.ref a0)])) rfl rfl (hb hby d9_24)
  have Fw4 := F_a0_period.same W4
  have N4 := Fr.snoc X4 N0 g_a0
  have kp5 : Keep h0 h4 [a0] := (Keep.refl h0 [a0]).wr W4 (Or.inl (List.mem_of_getElem? (i := 0) rfl))
  have f7 := (E_a0.wr W4)
  have f8 := (F_a0_available.other W4 (Or.inr (slot_ne (Or.inl (hw _ (List.mem_of_getElem? (i := 16) rfl))) (Or.inl (hw _ (List.mem_of_getElem? (i := 44) rfl))) (by decide) (t := .boolean) (t' := .long) (by decide) (by decide))))
  have f9 := (F_a0_sesErroredBlocks.other W4 (Or.inr (slot_ne (Or.inr (hw _ (List.mem_of_getElem? (i := 18) rfl))) (Or.inl (hw _ (List.mem_of_getElem? (i := 44) rfl))) (by decide) (t := .long) (t' := .long) (by decide) (by decide))))
  have f10 := (F_a0_extendingPeriodSeconds.other W4 (Or.inr (slot_ne (Or.inr (hw _ (List.mem_of_getElem? (i := 20) rfl))) (Or.inl (hw _ (List.mem_of_getElem? (i := 44) rfl))) (by decide) (t := .long) (t' := .long) (by decide) (by decide))))
  have f11 := (F_a0_seconds.other W4 (Or.inr (slot_ne (Or.inl (hw _ (List.mem_of_getElem? (i := 27) rfl))) (Or.inl (hw _ (List.mem_of_getElem? (i := 44) rfl))) (by decide) (t := .long) (t' := .long) (by decide) (by decide))))
  have f12 := (F_a0_unavailableSeconds.other W4 (Or.inr (slot_ne (Or.inl (hw _ (List.mem_of_getElem? (i := 72) rfl))) (Or.inl (hw _ (List.mem_of_getElem? (i := 44) rfl))) (by decide) (t := .long) (t' := .long) (by decide) (by decide))))
  have f13 := (F_a0_extendingSeconds.other W4 (Or.inr (slot_ne (Or.inl (hw _ (List.mem_of_getElem? (i := 74) rfl))) (Or.inl (hw _ (List.mem_of_getElem? (i := 44) rfl))) (by decide) (t := .long) (t' := .long) (by decide) (by decide))))
  have f14 := (F_a0_erroredSeconds.other W4 (Or.inr (slot_ne (Or.inl (hw _ (List.mem_of_getElem? (i := 33) rfl))) (Or.inl (hw _ (List.mem_of_getElem? (i := 44) rfl))) (by decide) (t := .long) (t' := .long) (by decide) (by decide))))
  have f15 := (F_a0_severelyErroredSeconds.other W4 (Or.inr (slot_ne (Or.inl (hw _ (List.mem_of_getElem? (i := 37) rfl))) (Or.inl (hw _ (List.mem_of_getElem? (i := 44) rfl))) (by decide) (t := .long) (t' := .long) (by decide) (by decide))))
  have f16 := (F_a0_backgroundBlockErrors.other W4 (Or.inr (slot_ne (Or.inl (hw _ (List.mem_of_getElem? (i := 97) rfl))) (Or.inl (hw _ (List.mem_of_getElem? (i := 44) rfl))) (by decide) (t := .long) (t' := .long) (by decide) (by decide))))
  have f17 := (F_a0_pending.other W4 (Or.inr (slot_ne (Or.inl (hw _ (List.mem_of_getElem? (i := 35) rfl))) (Or.inl (hw _ (List.mem_of_getElem? (i := 44) rfl))) (by decide) (t := .long) (t' := .long) (by decide) (by decide))))
  have f18 := (F_a0_pendingErrored.other W4 (Or.inr (slot_ne (Or.inl (hw _ (List.mem_of_getElem? (i := 64) rfl))) (Or.inl (hw _ (List.mem_of_getElem? (i := 44) rfl))) (by decide) (t := .long) (t' := .long) (by decide) (by decide))))
  have f19 := (F_a0_pendingBlocks.other W4 (Or.inr (slot_ne (Or.inl (hw _ (List.mem_of_getElem? (i := 66) rfl))) (Or.inl (hw _ (List.mem_of_getElem? (i := 44) rfl))) (by decide) (t := .long) (t' := .long) (by decide) (by decide))))
  have z20 : n0 ≤ (h4).size := (Nat.le_trans Z0 (Keep.of_wr W4).1)
  obtain ⟨cq6, qa6, qb6⟩ := f7.cell
  obtain ⟨_, _, ⟨T6, L6, k6, n6⟩, -, X6, ⟨Lc6, hQ6, l6, y6, z6⟩, st6⟩ := X4.privateBack hx (y := (⟨"com/example/hopchuan/hopchuan/ErrorCounter", "clearPending", "()V"⟩ : MethodName)) hown (mvT hZ (hw _ (List.mem_of_getElem? (i := 59) rfl))) (mvT hZ (hw _ (List.mem_of_getElem? (i := 60) rfl))) (own_selp (y := (⟨"com/example/hopchuan/hopchuan/ErrorCounter", "clearPending", "()V"⟩ : MethodName)) (z := (⟨"com/example/hopchuan/hopchuan/ErrorCounter", "second", "(JZ)V"⟩ : MethodName)) (mvT hZ (hw _ (List.mem_of_getElem? (i := 24) rfl))) rfl (Cond.privateMethod_at (mvP hZ (hw _ (List.mem_of_getElem? (i := 61) rfl)) (args := #[]))) (mvT hZ (hw _ (List.mem_of_getElem? (i := 60) rfl))) (by decide)) (Cond.privateMethod_at (mvP hZ (hw _ (List.mem_of_getElem? (i := 61) rfl)) (args := #[]))) (mvT hZ (hw _ (List.mem_of_getElem? (i := 62) rfl))) (by decide) (backOf (W := 0) (rm10 l Z aw hw [] (a0) (th) (xt) (sc) (us) (xs) (es) (ss) (bb) (pe) (pq) (pb) ((pd + pe)) (h4) n0 z20 f7 f8 f9 f10 f11 f12 f13 f14 f15 f16 f17 f18 f19 Fw4 g_a0) hZ (hw _ (List.mem_of_getElem? (i := 62) rfl)) (hw _ (List.mem_of_getElem? (i := 8) rfl)) (by decide) (by decide)) (g := (mkF m 28 #[.val (.ref a0)] [(.ref a0)])) rfl (by rw [hml]; rfl) (Steps.refl _) (a := a0) (by rw [e4]; exact qa6) qb6 (argsL := []) (rest := []) (lenOf pd_0 rfl) rfl (by show 2 * 0 + _ ≤ _; exact Nat.le_of_eq rfl) (hb hby d9_28) (fun _ _ => ⟨rfl, e4, (by decide : 0 + 0 ≤ _), (by decide : 0 + 0 ≤ _)⟩)
  dsimp only [Pt.U, Pt.locs, Pt.cells, Pt.slots] at X6 l6 y6 z6 st6 hQ6
  subst l6 y6 z6
  obtain ⟨rfl, Nq6, K6, po6_0, po6_1, po6_2, po6_3, po6_4, po6_5, po6_6, po6_7, po6_8, po6_9, po6_10, po6_11, po6_12, po6_13⟩ := hQ6
  have N6 := Fr.app N4 Nq6
  have kp21 : Keep h0 T6.heap [a0] := kp5.trans K6 (allS (Or.inl (List.mem_of_getElem? (i := 0) rfl)) all0)
  have z23 : n0 ≤ (T6.heap).size := (Nat.le_trans z20 K6.1)
  obtain ⟨cq22, qa22, qb22⟩ := po6_0.cell
  obtain ⟨_, _, ⟨T22, L22, k22, n22⟩, -, X22, ⟨Lc22, hQ22, l22, y22, z22⟩, st22⟩ := X6.privateBack hx (y := (⟨"com/example/hopchuan/hopchuan/ErrorCounter", "endPeriod", "()V"⟩ : MethodName)) hown (mvT hZ (hw _ (List.mem_of_getElem? (i := 67) rfl))) (mvT hZ (hw _ (List.mem_of_getElem? (i := 68) rfl))) (own_selp (y := (⟨"com/example/hopchuan/hopchuan/ErrorCounter", "endPeriod", "()V"⟩ : MethodName)) (z := (⟨"com/example/hopchuan/hopchuan/ErrorCounter", "second", "(JZ)V"⟩ : MethodName)) (mvT hZ (hw _ (List.mem_of_getElem? (i := 24) rfl))) rfl (Cond.privateMethod_at (mvP hZ (hw _ (List.mem_of_getElem? (i := 69) rfl)) (args := #[]))) (mvT hZ (hw _ (List.mem_of_getElem? (i := 68) rfl))) (by decide)) (Cond.privateMethod_at (mvP hZ (hw _ (List.mem_of_getElem? (i := 69) rfl)) (args := #[]))) (mvT hZ (hw _ (List.mem_of_getElem? (i := 70) rfl))) (by decide) (backOf (W := 0) (rm11 l Z aw hw [] (a0) (th) (xt) (sc) (us) (xs) (es) (ss) (bb) ((0 : Int64)) ((0 : Int64)) ((0 : Int64)) (((pd + pe))) (T6.heap) n0 z23 po6_0 po6_1 po6_2 po6_3 po6_4 po6_5 po6_6 po6_7 po6_8 po6_9 po6_10 po6_11 po6_12 po6_13 g_a0) hZ (hw _ (List.mem_of_getElem? (i := 70) rfl)) (hw _ (List.mem_of_getElem? (i := 8) rfl)) (by decide) (by decide)) (g := (mkF m 32 #[.val (.ref a0)] [(.ref a0)])) rfl (by rw [hml]; rfl) (Steps.refl _) (a := a0) qa22 qb22 (argsL := []) (rest := []) (lenOf pd_0 rfl) rfl (by show 2 * 0 + _ ≤ _; exact Nat.le_of_eq rfl) (hb hby d9_32) (fun _ _ => ⟨rfl, rfl, (by decide : 0 + 0 ≤ _), (by decide : 0 + 0 ≤ _)⟩)
  dsimp only [Pt.U, Pt.locs, Pt.cells, Pt.slots] at X22 l22 y22 z22 st22 hQ22
  subst l22 y22 z22
  obtain ⟨rfl, Nq22, K22, po22_0, po22_1, po22_2, po22_3, po22_4, po22_5, po22_6, po22_7, po22_8, po22_9, po22_10, po22_11, po22_12, po22_13⟩ := hQ22
  have N22 := Fr.app N6 Nq22
  have kp24 : Keep h0 T22.heap [a0] := kp21.trans K22 (allS (Or.inl (List.mem_of_getElem? (i := 0) rfl)) all0)
  obtain ⟨fs, hr, hrun, hended, hW, hsame⟩ := X22.leave (v := none) (fun _ => rfl)
  refine ⟨_, _, pre0 _ ?_, hrun, hended, _, _, rfl, ?_, ⟨_, rfl⟩, hW, hsame.mono (by decide) (by decide)⟩
  · show Steps p.tables e below (s₁.setTop (mkF m 0 #[.val (.ref a0)] [])) _
    refine XS.aloadN X0.here hx rfl (hb hby d9_0) rfl rfl ?_
    show Steps p.tables e below (s₁.setTop (mkF m 1 #[.val (.ref a0)] [(.ref a0)])) _
    refine st1 _ ?_
    show Steps p.tables e below (T1.setTop (mkF m 4 #[.val (.ref a0)] [(.int (0 : Int32))])) _
    refine XS.ifYes X1.here hx rfl (pc0 := 4) (pc' := 14) rfl (hb hby d9_4) rfl ((if0 _ _).trans (teq (by decide : ((0 : Int32) = (0 : Int32)))).1) (by decide) (by decide) ?_
    show Steps p.tables e below (T1.setTop (mkF m 14 #[.val (.ref a0)] [])) _
    refine XS.aloadN X1.here hx rfl (hb hby d9_14) rfl rfl ?_
    show Steps p.tables e below (T1.setTop (mkF m 15 #[.val (.ref a0)] [(.ref a0)])) _
    refine XS.dup X1.here hx rfl (hb hby d9_15) rfl rfl ?_
    show Steps p.tables e below (T1.setTop (mkF m 16 #[.val (.ref a0)] [(.ref a0), (.ref a0)])) _
    refine st2 _ ?_
    show Steps p.tables e below (T2.setTop (mkF m 19 #[.val (.ref a0)] [(.long pd), (.ref a0)])) _
    refine XS.aloadN X2.here hx rfl (hb hby d9_19) rfl rfl ?_
    show Steps p.tables e below (T2.setTop (mkF m 20 #[.val (.ref a0)] [(.ref a0), (.long pd), (.ref a0)])) _
    refine st3 _ ?_
    show Steps p.tables e below (T3.setTop (mkF m 23 #[.val (.ref a0)] [(.long pe), (.long pd), (.ref a0)])) _
    refine XS.ladd X3.here hx rfl (hb hby d9_23) rfl ?_
    show Steps p.tables e below (T3.setTop (mkF m 24 #[.val (.ref a0)] [(.long (pd + pe)), (.ref a0)])) _
    refine st4 _ ?_
    show Steps p.tables e below (T4.setTop (mkF m 27 #[.val (.ref a0)] [])) _
    refine XS.aloadN X4.here hx rfl (hb hby d9_27) rfl rfl ?_
    show Steps p.tables e below (T4.setTop (mkF m 28 #[.val (.ref a0)] [(.ref a0)])) _
    refine st6.trans ?_
    show Steps p.tables e below (T6.setTop (mkF m 31 #[.val (.ref a0)] [])) _
    refine XS.aloadN X6.here hx rfl (hb hby d9_31) rfl rfl ?_
    show Steps p.tables e below (T6.setTop (mkF m 32 #[.val (.ref a0)] [(.ref a0)])) _
    refine st22.trans ?_
    show Steps p.tables e below (T22.setTop (mkF m 35 #[.val (.ref a0)] [])) _
    exact X22.returnOut hx Bd.returns (hb hby d9_35) hr
  · show Q9U Z a0 th xt sc us xs es ss bb pe pq pb pd h0 n0 _ T22.heap _
    unfold Q9U
    refine ⟨rfl, N22, kp24, po22_0, ?_, ?_, ?_, ?_, ?_, ?_, ?_, ?_, ?_, ?_, ?_, ?_, ?_⟩
    · exact po22_1
    · exact po22_2
    · exact po22_3
    · exact po22_4
    · rw [show (own_p9U_unavailableSeconds us pe pd) = (own_p11_unavailableSeconds us (((pd + pe)))) from (by simp only [own_p9U_unavailableSeconds])]; exact po22_5
    · rw [show (own_p9U_extendingSeconds xt xs pe pd) = (own_p11_extendingSeconds xt xs (((pd + pe)))) from (by simp only [own_p9U_extendingSeconds])]; exact po22_6
    · exact po22_7
    · exact po22_8
    · exact po22_9
    · exact po22_10
    · exact po22_11
    · exact po22_12
    · exact po22_13
theorem d12_0 : decode prog_5_method_5_code 0 = .ok (.aload_n 0, 1) := by decide +kernel
theorem d12_1 : decode prog_5_method_5_code 1 = .ok (.getfield 20, 3) := by decide +kernel
theorem d12_4 : decode prog_5_method_5_code 4 = .ok (.lreturn, 1) := by decide +kernel
theorem ef_12 (m : MethodId) (a0 : Addr) : entryFrame m #[(.ref a0)] 1 = mkF m 0 #[.val (.ref a0)] [] := by first | (simp [entryFrame, mkF, argsToLocals, Value.category]; done) | rfl
def Q12 (Z : State) (a0 : Addr) (w : Int64) (h0 : Heap) (n0 : Nat) (v : Option Value) (h : Heap) (L : List Loc) : Prop := v = some (.long w) ∧ Fr n0 L ∧ h = h0
set_option maxRecDepth 65536 in
set_option maxHeartbeats 40000000 in
theorem rm12 (l : Launch) (Z : State) (aw : Array Value) (hw : ∀ d ∈ tables_1, d.before aw Z = true) (wq : List Jvm.Cond) (a0 : Addr) (w : Int64) (h0 : Heap) (n0 : Nat) (Z0 : n0 ≤ h0.size) (F_a0_seconds : Fld Z h0 a0 "com/example/hopchuan/hopchuan/ErrorCounter" "seconds" "J" (.long w)) :
    MetFree l (⟨"com/example/hopchuan/hopchuan/ErrorCounter", "seconds", "()J"⟩ : MethodName) (head1 (Jvm.Cond.code (⟨"com/example/hopchuan/hopchuan/ErrorCounter", "seconds", "()J"⟩ : MethodName) prog_5_method_5_code 1 (some .long) :: wq) ({ frames := 0, cells := 0, slots := 0, locals := 0 } : Room)) (fun a U => a = #[(.ref a0)] ∧ Z.Warmed39 U.vm ∧ U.heap = h0) (fun _ _ _ _ _ => True) (fun _ U o U' => ∃ v L, o = .returned v ∧ Q12 Z a0 w h0 n0 v U'.heap L ∧ FrameEnd U o U' L ({ frames := 0, cells := 0, slots := 0, locals := 0 } : Room).cells ({ frames := 0, cells := 0, slots := 0, locals := 0 } : Room).slots) := by
  refine MetFree.of_bodySF (plainFor_of_name pn_0) hisR ?_
  intro p e s m args below meth c s₁ Bd hml0 hP hK
  obtain ⟨rfl, hZ, hh⟩ := hP
  have hx := Bd.exec
  have hby := Bd.bytes
  have hml : c.maxLocals = 1 := hml0
  have hown : s.vm.findClass "com/example/hopchuan/hopchuan/ErrorCounter" = some m.cls := findClass_of_methodNamed Bd.named
  have hnm := (name_of_methodNamed Bd.named Bd.method).1
  have X0 : Stand p l e ({ frames := 0, cells := 0, slots := 0, locals := 0 } : Room) s m #[(.ref a0)] below meth c s₁ [] 0 0 := Stand.of_body Bd
  have e0 : s₁.heap = h0 := by rw [← hh, Bd.state]; rfl
  have N0 := Fr.nil n0
  have pre0 : own_Pre p e below (s₁.setTop (entryFrame m #[(.ref a0)] 1)) (s₁.setTop (mkF m 0 #[.val (.ref a0)] [])) := fun t k => castTop (ef_12 m a0) k
  obtain ⟨T1, X1, e1, st1⟩ := getF X0 hx hZ hown (host := "") (Or.inl (hw _ (List.mem_of_getElem? (i := 26) rfl))) Via.refl e0 F_a0_seconds (g := (mkF m 1 #[.val (.ref a0)] [(.ref a0)])) rfl rfl (hb hby d12_1)
  obtain ⟨fs, hr, hrun, hended, hW, hsame⟩ := X1.leave (v := some (.long w)) (fun h => by rw [Bd.returns] at h; cases h)
  refine ⟨_, _, pre0 _ ?_, hrun, hended, _, _, rfl, ?_, ⟨_, rfl⟩, hW, hsame.mono (by decide) (by decide)⟩
  · show Steps p.tables e below (s₁.setTop (mkF m 0 #[.val (.ref a0)] [])) _
    refine XS.aloadN X0.here hx rfl (hb hby d12_0) rfl rfl ?_
    show Steps p.tables e below (s₁.setTop (mkF m 1 #[.val (.ref a0)] [(.ref a0)])) _
    refine st1 _ ?_
    show Steps p.tables e below (T1.setTop (mkF m 4 #[.val (.ref a0)] [(.long w)])) _
    exact retJ X1 hx Bd.returns (hb hby d12_4) hr
  · show Q12 Z a0 w h0 n0 _ T1.heap _
    rw [e1]
    unfold Q12
    refine ⟨rfl, N0, rfl⟩
theorem d13_0 : decode prog_5_method_9_code 0 = .ok (.aload_n 0, 1) := by decide +kernel
theorem d13_1 : decode prog_5_method_9_code 1 = .ok (.getfield 34, 3) := by decide +kernel
theorem d13_4 : decode prog_5_method_9_code 4 = .ok (.lreturn, 1) := by decide +kernel
theorem ef_13 (m : MethodId) (a0 : Addr) : entryFrame m #[(.ref a0)] 1 = mkF m 0 #[.val (.ref a0)] [] := by first | (simp [entryFrame, mkF, argsToLocals, Value.category]; done) | rfl
def Q13 (Z : State) (a0 : Addr) (w : Int64) (h0 : Heap) (n0 : Nat) (v : Option Value) (h : Heap) (L : List Loc) : Prop := v = some (.long w) ∧ Fr n0 L ∧ h = h0
set_option maxRecDepth 65536 in
set_option maxHeartbeats 40000000 in
theorem rm13 (l : Launch) (Z : State) (aw : Array Value) (hw : ∀ d ∈ tables_1, d.before aw Z = true) (wq : List Jvm.Cond) (a0 : Addr) (w : Int64) (h0 : Heap) (n0 : Nat) (Z0 : n0 ≤ h0.size) (F_a0_erroredSeconds : Fld Z h0 a0 "com/example/hopchuan/hopchuan/ErrorCounter" "erroredSeconds" "J" (.long w)) :
    MetFree l (⟨"com/example/hopchuan/hopchuan/ErrorCounter", "erroredSeconds", "()J"⟩ : MethodName) (head1 (Jvm.Cond.code (⟨"com/example/hopchuan/hopchuan/ErrorCounter", "erroredSeconds", "()J"⟩ : MethodName) prog_5_method_9_code 1 (some .long) :: wq) ({ frames := 0, cells := 0, slots := 0, locals := 0 } : Room)) (fun a U => a = #[(.ref a0)] ∧ Z.Warmed39 U.vm ∧ U.heap = h0) (fun _ _ _ _ _ => True) (fun _ U o U' => ∃ v L, o = .returned v ∧ Q13 Z a0 w h0 n0 v U'.heap L ∧ FrameEnd U o U' L ({ frames := 0, cells := 0, slots := 0, locals := 0 } : Room).cells ({ frames := 0, cells := 0, slots := 0, locals := 0 } : Room).slots) := by
  refine MetFree.of_bodySF (plainFor_of_name pn_0) hisR ?_
  intro p e s m args below meth c s₁ Bd hml0 hP hK
  obtain ⟨rfl, hZ, hh⟩ := hP
  have hx := Bd.exec
  have hby := Bd.bytes
  have hml : c.maxLocals = 1 := hml0
  have hown : s.vm.findClass "com/example/hopchuan/hopchuan/ErrorCounter" = some m.cls := findClass_of_methodNamed Bd.named
  have hnm := (name_of_methodNamed Bd.named Bd.method).1
  have X0 : Stand p l e ({ frames := 0, cells := 0, slots := 0, locals := 0 } : Room) s m #[(.ref a0)] below meth c s₁ [] 0 0 := Stand.of_body Bd
  have e0 : s₁.heap = h0 := by rw [← hh, Bd.state]; rfl
  have N0 := Fr.nil n0
  have pre0 : own_Pre p e below (s₁.setTop (entryFrame m #[(.ref a0)] 1)) (s₁.setTop (mkF m 0 #[.val (.ref a0)] [])) := fun t k => castTop (ef_13 m a0) k
  obtain ⟨T1, X1, e1, st1⟩ := getF X0 hx hZ hown (host := "") (Or.inl (hw _ (List.mem_of_getElem? (i := 32) rfl))) Via.refl e0 F_a0_erroredSeconds (g := (mkF m 1 #[.val (.ref a0)] [(.ref a0)])) rfl rfl (hb hby d13_1)
  obtain ⟨fs, hr, hrun, hended, hW, hsame⟩ := X1.leave (v := some (.long w)) (fun h => by rw [Bd.returns] at h; cases h)
  refine ⟨_, _, pre0 _ ?_, hrun, hended, _, _, rfl, ?_, ⟨_, rfl⟩, hW, hsame.mono (by decide) (by decide)⟩
  · show Steps p.tables e below (s₁.setTop (mkF m 0 #[.val (.ref a0)] [])) _
    refine XS.aloadN X0.here hx rfl (hb hby d13_0) rfl rfl ?_
    show Steps p.tables e below (s₁.setTop (mkF m 1 #[.val (.ref a0)] [(.ref a0)])) _
    refine st1 _ ?_
    show Steps p.tables e below (T1.setTop (mkF m 4 #[.val (.ref a0)] [(.long w)])) _
    exact retJ X1 hx Bd.returns (hb hby d13_4) hr
  · show Q13 Z a0 w h0 n0 _ T1.heap _
    rw [e1]
    unfold Q13
    refine ⟨rfl, N0, rfl⟩
theorem d14_0 : decode prog_5_method_10_code 0 = .ok (.aload_n 0, 1) := by decide +kernel
theorem d14_1 : decode prog_5_method_10_code 1 = .ok (.getfield 68, 3) := by decide +kernel
theorem d14_4 : decode prog_5_method_10_code 4 = .ok (.lreturn, 1) := by decide +kernel
theorem ef_14 (m : MethodId) (a0 : Addr) : entryFrame m #[(.ref a0)] 1 = mkF m 0 #[.val (.ref a0)] [] := by first | (simp [entryFrame, mkF, argsToLocals, Value.category]; done) | rfl
def Q14 (Z : State) (a0 : Addr) (w : Int64) (h0 : Heap) (n0 : Nat) (v : Option Value) (h : Heap) (L : List Loc) : Prop := v = some (.long w) ∧ Fr n0 L ∧ h = h0
set_option maxRecDepth 65536 in
set_option maxHeartbeats 40000000 in
theorem rm14 (l : Launch) (Z : State) (aw : Array Value) (hw : ∀ d ∈ tables_1, d.before aw Z = true) (wq : List Jvm.Cond) (a0 : Addr) (w : Int64) (h0 : Heap) (n0 : Nat) (Z0 : n0 ≤ h0.size) (F_a0_severelyErroredSeconds : Fld Z h0 a0 "com/example/hopchuan/hopchuan/ErrorCounter" "severelyErroredSeconds" "J" (.long w)) :
    MetFree l (⟨"com/example/hopchuan/hopchuan/ErrorCounter", "severelyErroredSeconds", "()J"⟩ : MethodName) (head1 (Jvm.Cond.code (⟨"com/example/hopchuan/hopchuan/ErrorCounter", "severelyErroredSeconds", "()J"⟩ : MethodName) prog_5_method_10_code 1 (some .long) :: wq) ({ frames := 0, cells := 0, slots := 0, locals := 0 } : Room)) (fun a U => a = #[(.ref a0)] ∧ Z.Warmed39 U.vm ∧ U.heap = h0) (fun _ _ _ _ _ => True) (fun _ U o U' => ∃ v L, o = .returned v ∧ Q14 Z a0 w h0 n0 v U'.heap L ∧ FrameEnd U o U' L ({ frames := 0, cells := 0, slots := 0, locals := 0 } : Room).cells ({ frames := 0, cells := 0, slots := 0, locals := 0 } : Room).slots) := by
  refine MetFree.of_bodySF (plainFor_of_name pn_0) hisR ?_
  intro p e s m args below meth c s₁ Bd hml0 hP hK
  obtain ⟨rfl, hZ, hh⟩ := hP
  have hx := Bd.exec
  have hby := Bd.bytes
  have hml : c.maxLocals = 1 := hml0
  have hown : s.vm.findClass "com/example/hopchuan/hopchuan/ErrorCounter" = some m.cls := findClass_of_methodNamed Bd.named
  have hnm := (name_of_methodNamed Bd.named Bd.method).1
  have X0 : Stand p l e ({ frames := 0, cells := 0, slots := 0, locals := 0 } : Room) s m #[(.ref a0)] below meth c s₁ [] 0 0 := Stand.of_body Bd
  have e0 : s₁.heap = h0 := by rw [← hh, Bd.state]; rfl
  have N0 := Fr.nil n0
  have pre0 : own_Pre p e below (s₁.setTop (entryFrame m #[(.ref a0)] 1)) (s₁.setTop (mkF m 0 #[.val (.ref a0)] [])) := fun t k => castTop (ef_14 m a0) k
  obtain ⟨T1, X1, e1, st1⟩ := getF X0 hx hZ hown (host := "") (Or.inl (hw _ (List.mem_of_getElem? (i := 36) rfl))) Via.refl e0 F_a0_severelyErroredSeconds (g := (mkF m 1 #[.val (.ref a0)] [(.ref a0)])) rfl rfl (hb hby d14_1)
  obtain ⟨fs, hr, hrun, hended, hW, hsame⟩ := X1.leave (v := some (.long w)) (fun h => by rw [Bd.returns] at h; cases h)
  refine ⟨_, _, pre0 _ ?_, hrun, hended, _, _, rfl, ?_, ⟨_, rfl⟩, hW, hsame.mono (by decide) (by decide)⟩
  · show Steps p.tables e below (s₁.setTop (mkF m 0 #[.val (.ref a0)] [])) _
    refine XS.aloadN X0.here hx rfl (hb hby d14_0) rfl rfl ?_
    show Steps p.tables e below (s₁.setTop (mkF m 1 #[.val (.ref a0)] [(.ref a0)])) _
    refine st1 _ ?_
    show Steps p.tables e below (T1.setTop (mkF m 4 #[.val (.ref a0)] [(.long w)])) _
    exact retJ X1 hx Bd.returns (hb hby d14_4) hr
  · show Q14 Z a0 w h0 n0 _ T1.heap _
    rw [e1]
    unfold Q14
    refine ⟨rfl, N0, rfl⟩
theorem d15_0 : decode prog_5_method_11_code 0 = .ok (.aload_n 0, 1) := by decide +kernel
theorem d15_1 : decode prog_5_method_11_code 1 = .ok (.getfield 37, 3) := by decide +kernel
theorem d15_4 : decode prog_5_method_11_code 4 = .ok (.lreturn, 1) := by decide +kernel
theorem ef_15 (m : MethodId) (a0 : Addr) : entryFrame m #[(.ref a0)] 1 = mkF m 0 #[.val (.ref a0)] [] := by first | (simp [entryFrame, mkF, argsToLocals, Value.category]; done) | rfl
def Q15 (Z : State) (a0 : Addr) (w : Int64) (h0 : Heap) (n0 : Nat) (v : Option Value) (h : Heap) (L : List Loc) : Prop := v = some (.long w) ∧ Fr n0 L ∧ h = h0
set_option maxRecDepth 65536 in
set_option maxHeartbeats 40000000 in
theorem rm15 (l : Launch) (Z : State) (aw : Array Value) (hw : ∀ d ∈ tables_1, d.before aw Z = true) (wq : List Jvm.Cond) (a0 : Addr) (w : Int64) (h0 : Heap) (n0 : Nat) (Z0 : n0 ≤ h0.size) (F_a0_backgroundBlockErrors : Fld Z h0 a0 "com/example/hopchuan/hopchuan/ErrorCounter" "backgroundBlockErrors" "J" (.long w)) :
    MetFree l (⟨"com/example/hopchuan/hopchuan/ErrorCounter", "backgroundBlockErrors", "()J"⟩ : MethodName) (head1 (Jvm.Cond.code (⟨"com/example/hopchuan/hopchuan/ErrorCounter", "backgroundBlockErrors", "()J"⟩ : MethodName) prog_5_method_11_code 1 (some .long) :: wq) ({ frames := 0, cells := 0, slots := 0, locals := 0 } : Room)) (fun a U => a = #[(.ref a0)] ∧ Z.Warmed39 U.vm ∧ U.heap = h0) (fun _ _ _ _ _ => True) (fun _ U o U' => ∃ v L, o = .returned v ∧ Q15 Z a0 w h0 n0 v U'.heap L ∧ FrameEnd U o U' L ({ frames := 0, cells := 0, slots := 0, locals := 0 } : Room).cells ({ frames := 0, cells := 0, slots := 0, locals := 0 } : Room).slots) := by
  refine MetFree.of_bodySF (plainFor_of_name pn_0) hisR ?_
  intro p e s m args below meth c s₁ Bd hml0 hP hK
  obtain ⟨rfl, hZ, hh⟩ := hP
  have hx := Bd.exec
  have hby := Bd.bytes
  have hml : c.maxLocals = 1 := hml0
  have hown : s.vm.findClass "com/example/hopchuan/hopchuan/ErrorCounter" = some m.cls := findClass_of_methodNamed Bd.named
  have hnm := (name_of_methodNamed Bd.named Bd.method).1
  have X0 : Stand p l e ({ frames := 0, cells := 0, slots := 0, locals := 0 } : Room) s m #[(.ref a0)] below meth c s₁ [] 0 0 := Stand.of_body Bd
  have e0 : s₁.heap = h0 := by rw [← hh, Bd.state]; rfl
  have N0 := Fr.nil n0
  have pre0 : own_Pre p e below (s₁.setTop (entryFrame m #[(.ref a0)] 1)) (s₁.setTop (mkF m 0 #[.val (.ref a0)] [])) := fun t k => castTop (ef_15 m a0) k
  obtain ⟨T1, X1, e1, st1⟩ := getF X0 hx hZ hown (host := "") (Or.inl (hw _ (List.mem_of_getElem? (i := 96) rfl))) Via.refl e0 F_a0_backgroundBlockErrors (g := (mkF m 1 #[.val (.ref a0)] [(.ref a0)])) rfl rfl (hb hby d15_1)
  obtain ⟨fs, hr, hrun, hended, hW, hsame⟩ := X1.leave (v := some (.long w)) (fun h => by rw [Bd.returns] at h; cases h)
  refine ⟨_, _, pre0 _ ?_, hrun, hended, _, _, rfl, ?_, ⟨_, rfl⟩, hW, hsame.mono (by decide) (by decide)⟩
  · show Steps p.tables e below (s₁.setTop (mkF m 0 #[.val (.ref a0)] [])) _
    refine XS.aloadN X0.here hx rfl (hb hby d15_0) rfl rfl ?_
    show Steps p.tables e below (s₁.setTop (mkF m 1 #[.val (.ref a0)] [(.ref a0)])) _
    refine st1 _ ?_
    show Steps p.tables e below (T1.setTop (mkF m 4 #[.val (.ref a0)] [(.long w)])) _
    exact retJ X1 hx Bd.returns (hb hby d15_4) hr
  · show Q15 Z a0 w h0 n0 _ T1.heap _
    rw [e1]
    unfold Q15
    refine ⟨rfl, N0, rfl⟩
theorem d16_0 : decode prog_5_method_6_code 0 = .ok (.aload_n 0, 1) := by decide +kernel
theorem d16_1 : decode prog_5_method_6_code 1 = .ok (.getfield 62, 3) := by decide +kernel
theorem d16_4 : decode prog_5_method_6_code 4 = .ok (.lreturn, 1) := by decide +kernel
theorem ef_16 (m : MethodId) (a0 : Addr) : entryFrame m #[(.ref a0)] 1 = mkF m 0 #[.val (.ref a0)] [] := by first | (simp [entryFrame, mkF, argsToLocals, Value.category]; done) | rfl
def Q16 (Z : State) (a0 : Addr) (w : Int64) (h0 : Heap) (n0 : Nat) (v : Option Value) (h : Heap) (L : List Loc) : Prop := v = some (.long w) ∧ Fr n0 L ∧ h = h0
set_option maxRecDepth 65536 in
set_option maxHeartbeats 40000000 in
theorem rm16 (l : Launch) (Z : State) (aw : Array Value) (hw : ∀ d ∈ tables_1, d.before aw Z = true) (wq : List Jvm.Cond) (a0 : Addr) (w : Int64) (h0 : Heap) (n0 : Nat) (Z0 : n0 ≤ h0.size) (F_a0_unavailableSeconds : Fld Z h0 a0 "com/example/hopchuan/hopchuan/ErrorCounter" "unavailableSeconds" "J" (.long w)) :
    MetFree l (⟨"com/example/hopchuan/hopchuan/ErrorCounter", "unavailableSeconds", "()J"⟩ : MethodName) (head1 (Jvm.Cond.code (⟨"com/example/hopchuan/hopchuan/ErrorCounter", "unavailableSeconds", "()J"⟩ : MethodName) prog_5_method_6_code 1 (some .long) :: wq) ({ frames := 0, cells := 0, slots := 0, locals := 0 } : Room)) (fun a U => a = #[(.ref a0)] ∧ Z.Warmed39 U.vm ∧ U.heap = h0) (fun _ _ _ _ _ => True) (fun _ U o U' => ∃ v L, o = .returned v ∧ Q16 Z a0 w h0 n0 v U'.heap L ∧ FrameEnd U o U' L ({ frames := 0, cells := 0, slots := 0, locals := 0 } : Room).cells ({ frames := 0, cells := 0, slots := 0, locals := 0 } : Room).slots) := by
  refine MetFree.of_bodySF (plainFor_of_name pn_0) hisR ?_
  intro p e s m args below meth c s₁ Bd hml0 hP hK
  obtain ⟨rfl, hZ, hh⟩ := hP
  have hx := Bd.exec
  have hby := Bd.bytes
  have hml : c.maxLocals = 1 := hml0
  have hown : s.vm.findClass "com/example/hopchuan/hopchuan/ErrorCounter" = some m.cls := findClass_of_methodNamed Bd.named
  have hnm := (name_of_methodNamed Bd.named Bd.method).1
  have X0 : Stand p l e ({ frames := 0, cells := 0, slots := 0, locals := 0 } : Room) s m #[(.ref a0)] below meth c s₁ [] 0 0 := Stand.of_body Bd
  have e0 : s₁.heap = h0 := by rw [← hh, Bd.state]; rfl
  have N0 := Fr.nil n0
  have pre0 : own_Pre p e below (s₁.setTop (entryFrame m #[(.ref a0)] 1)) (s₁.setTop (mkF m 0 #[.val (.ref a0)] [])) := fun t k => castTop (ef_16 m a0) k
  obtain ⟨T1, X1, e1, st1⟩ := getF X0 hx hZ hown (host := "") (Or.inl (hw _ (List.mem_of_getElem? (i := 71) rfl))) Via.refl e0 F_a0_unavailableSeconds (g := (mkF m 1 #[.val (.ref a0)] [(.ref a0)])) rfl rfl (hb hby d16_1)
  obtain ⟨fs, hr, hrun, hended, hW, hsame⟩ := X1.leave (v := some (.long w)) (fun h => by rw [Bd.returns] at h; cases h)
  refine ⟨_, _, pre0 _ ?_, hrun, hended, _, _, rfl, ?_, ⟨_, rfl⟩, hW, hsame.mono (by decide) (by decide)⟩
  · show Steps p.tables e below (s₁.setTop (mkF m 0 #[.val (.ref a0)] [])) _
    refine XS.aloadN X0.here hx rfl (hb hby d16_0) rfl rfl ?_
    show Steps p.tables e below (s₁.setTop (mkF m 1 #[.val (.ref a0)] [(.ref a0)])) _
    refine st1 _ ?_
    show Steps p.tables e below (T1.setTop (mkF m 4 #[.val (.ref a0)] [(.long w)])) _
    exact retJ X1 hx Bd.returns (hb hby d16_4) hr
  · show Q16 Z a0 w h0 n0 _ T1.heap _
    rw [e1]
    unfold Q16
    refine ⟨rfl, N0, rfl⟩
theorem d17_0 : decode prog_5_method_8_code 0 = .ok (.aload_n 0, 1) := by decide +kernel
theorem d17_1 : decode prog_5_method_8_code 1 = .ok (.getfield 65, 3) := by decide +kernel
theorem d17_4 : decode prog_5_method_8_code 4 = .ok (.lreturn, 1) := by decide +kernel
theorem ef_17 (m : MethodId) (a0 : Addr) : entryFrame m #[(.ref a0)] 1 = mkF m 0 #[.val (.ref a0)] [] := by first | (simp [entryFrame, mkF, argsToLocals, Value.category]; done) | rfl
def Q17 (Z : State) (a0 : Addr) (w : Int64) (h0 : Heap) (n0 : Nat) (v : Option Value) (h : Heap) (L : List Loc) : Prop := v = some (.long w) ∧ Fr n0 L ∧ h = h0
set_option maxRecDepth 65536 in
set_option maxHeartbeats 40000000 in
theorem rm17 (l : Launch) (Z : State) (aw : Array Value) (hw : ∀ d ∈ tables_1, d.before aw Z = true) (wq : List Jvm.Cond) (a0 : Addr) (w : Int64) (h0 : Heap) (n0 : Nat) (Z0 : n0 ≤ h0.size) (F_a0_extendingSeconds : Fld Z h0 a0 "com/example/hopchuan/hopchuan/ErrorCounter" "extendingSeconds" "J" (.long w)) :
    MetFree l (⟨"com/example/hopchuan/hopchuan/ErrorCounter", "extendingPeriodSeconds", "()J"⟩ : MethodName) (head1 (Jvm.Cond.code (⟨"com/example/hopchuan/hopchuan/ErrorCounter", "extendingPeriodSeconds", "()J"⟩ : MethodName) prog_5_method_8_code 1 (some .long) :: wq) ({ frames := 0, cells := 0, slots := 0, locals := 0 } : Room)) (fun a U => a = #[(.ref a0)] ∧ Z.Warmed39 U.vm ∧ U.heap = h0) (fun _ _ _ _ _ => True) (fun _ U o U' => ∃ v L, o = .returned v ∧ Q17 Z a0 w h0 n0 v U'.heap L ∧ FrameEnd U o U' L ({ frames := 0, cells := 0, slots := 0, locals := 0 } : Room).cells ({ frames := 0, cells := 0, slots := 0, locals := 0 } : Room).slots) := by
  refine MetFree.of_bodySF (plainFor_of_name pn_0) hisR ?_
  intro p e s m args below meth c s₁ Bd hml0 hP hK
  obtain ⟨rfl, hZ, hh⟩ := hP
  have hx := Bd.exec
  have hby := Bd.bytes
  have hml : c.maxLocals = 1 := hml0
  have hown : s.vm.findClass "com/example/hopchuan/hopchuan/ErrorCounter" = some m.cls := findClass_of_methodNamed Bd.named
  have hnm := (name_of_methodNamed Bd.named Bd.method).1
  have X0 : Stand p l e ({ frames := 0, cells := 0, slots := 0, locals := 0 } : Room) s m #[(.ref a0)] below meth c s₁ [] 0 0 := Stand.of_body Bd
  have e0 : s₁.heap = h0 := by rw [← hh, Bd.state]; rfl
  have N0 := Fr.nil n0
  have pre0 : own_Pre p e below (s₁.setTop (entryFrame m #[(.ref a0)] 1)) (s₁.setTop (mkF m 0 #[.val (.ref a0)] [])) := fun t k => castTop (ef_17 m a0) k
  obtain ⟨T1, X1, e1, st1⟩ := getF X0 hx hZ hown (host := "") (Or.inl (hw _ (List.mem_of_getElem? (i := 73) rfl))) Via.refl e0 F_a0_extendingSeconds (g := (mkF m 1 #[.val (.ref a0)] [(.ref a0)])) rfl rfl (hb hby d17_1)
  obtain ⟨fs, hr, hrun, hended, hW, hsame⟩ := X1.leave (v := some (.long w)) (fun h => by rw [Bd.returns] at h; cases h)
  refine ⟨_, _, pre0 _ ?_, hrun, hended, _, _, rfl, ?_, ⟨_, rfl⟩, hW, hsame.mono (by decide) (by decide)⟩
  · show Steps p.tables e below (s₁.setTop (mkF m 0 #[.val (.ref a0)] [])) _
    refine XS.aloadN X0.here hx rfl (hb hby d17_0) rfl rfl ?_
    show Steps p.tables e below (s₁.setTop (mkF m 1 #[.val (.ref a0)] [(.ref a0)])) _
    refine st1 _ ?_
    show Steps p.tables e below (T1.setTop (mkF m 4 #[.val (.ref a0)] [(.long w)])) _
    exact retJ X1 hx Bd.returns (hb hby d17_4) hr
  · show Q17 Z a0 w h0 n0 _ T1.heap _
    rw [e1]
    unfold Q17
    refine ⟨rfl, N0, rfl⟩
theorem pd_3 : parseMethodDescriptor "(JJ)V" = some ⟨[.long, .long], none⟩ := by decide +kernel
theorem pd_4 : parseMethodDescriptor "(Lcom/example/hopchuan/hopchuan/ErrorCounter;IJ)V" = some ⟨[(.object "com/example/hopchuan/hopchuan/ErrorCounter"), .int, .long], none⟩ := by decide +kernel
theorem pd_5 : parseMethodDescriptor "()J" = some ⟨[], some .long⟩ := by decide +kernel
theorem pd_6 : parseMethodDescriptor "(J)V" = some ⟨[.long], none⟩ := by decide +kernel
theorem ef_0 (m : MethodId) (q0 : Int64) (q1 : Int64) (q2 : Int64) (q3 : Int64) (p4 : Int32) : entryFrame m #[(.long q0), (.long q1), (.long q2), (.long q3), (.int p4)] maxLocals = mkF m 0 #[.val (.long q0), .second, .val (.long q1), .second, .val (.long q2), .second, .val (.long q3), .second, .val (.int p4), .unset, .unset, .unset, .unset, .unset, .unset, .unset, .unset, .unset, .unset, .unset, .unset, .unset, .unset, .unset, .unset, .unset, .unset, .unset, .unset, .unset, .unset, .unset, .unset, .unset] [] := by first | (simp [entryFrame, mkF, argsToLocals, Value.category, maxLocals]; done) | rfl
def own_m0_147_s0 (v0 : Int64) : Int64 := (if (0 : Int64) < v0 then (1 : Int64) else (0 : Int64))
def own_m0_193_s0 (v0 : Int64) (v1 : Int64) : Int64 := (if v0 < v1 then v1 else (0 : Int64))
theorem own_th (q : Int64) : (0 : Int64) < own_f1 (1 : Int64) (q &&& (9223372036854775807 : Int64)) := by
  have e0 : (0 : Int64).toInt = 0 := rfl
  have e1 : (1 : Int64).toInt = 1 := rfl
  unfold own_f1
  split
  · rename_i h; rw [Int64.lt_iff_toInt_lt] at h ⊢; omega
  · decide
theorem own_nz {x : Int64} (h : (0 : Int64) < x) : x ≠ 0 := fun e => by subst e; revert h; decide
theorem own_bv (q x t : Int64) (hx : x = (q &&& (9223372036854775807 : Int64)) - (q &&& (9223372036854775807 : Int64)) / t * t) (ht : (0 : Int64) < t) : 0 ≤ x.toInt ∧ x.toInt < t.toInt := by
  have m := c_maskL q 9223372036854775807 63 (by decide) (by decide)
  have e := (c_lrem (q &&& (9223372036854775807 : Int64)) t t.toInt rfl).1 (by omega)
  rw [← hx] at e
  rw [Int64.lt_iff_toInt_lt] at ht
  have e0 : (0 : Int64).toInt = 0 := rfl
  rw [e]
  exact ⟨Int.emod_nonneg _ (by omega), Int.emod_lt_of_pos _ (by omega)⟩
theorem own_b (q x t : Int64) (hx : x = (q &&& (9223372036854775807 : Int64)) - (q &&& (9223372036854775807 : Int64)) / t * t) (ht : (0 : Int64) < t) : x < t := by
  rw [Int64.lt_iff_toInt_lt]; exact (own_bv q x t hx ht).2
theorem own_r10 {y : Int32} (x : Int32) (hx : x = (y &&& (2147483647 : Int32)) % (10 : Int32)) : x = (0 : Int32) ∨ x = (1 : Int32) ∨ x = (2 : Int32) ∨ x = (3 : Int32) ∨ x = (4 : Int32) ∨ x = (5 : Int32) ∨ x = (6 : Int32) ∨ x = (7 : Int32) ∨ x = (8 : Int32) ∨ x = (9 : Int32) := by
  have h1 := c_mask y 2147483647 31 (by decide) (by decide)
  have h2 := (c_irem (y &&& (2147483647 : Int32)) (10 : Int32) 10 rfl).1 (by omega)
  rw [← hx] at h2
  have h3 : x.toInt = 0 ∨ x.toInt = 1 ∨ x.toInt = 2 ∨ x.toInt = 3 ∨ x.toInt = 4 ∨ x.toInt = 5 ∨ x.toInt = 6 ∨ x.toInt = 7 ∨ x.toInt = 8 ∨ x.toInt = 9 := by omega
  simp only [← Int32.toInt_inj]
  exact h3
theorem own_k9 {y : Int32} (x : Int32) (hx : x = (y &&& (2147483647 : Int32)) % (10 : Int32)) : ¬ (9 : Int32) < x := by
  rcases own_r10 x hx with rfl | rfl | rfl | rfl | rfl | rfl | rfl | rfl | rfl | rfl <;> decide
theorem own_r9 {y : Int32} (x z : Int32) (hx : x = (y &&& (2147483647 : Int32)) % (10 : Int32)) (hz : z = x % (9 : Int32)) : z = (0 : Int32) ∨ z = (1 : Int32) ∨ z = (2 : Int32) ∨ z = (3 : Int32) ∨ z = (4 : Int32) ∨ z = (5 : Int32) ∨ z = (6 : Int32) ∨ z = (7 : Int32) ∨ z = (8 : Int32) := by
  subst hz
  rcases own_r10 x hx with rfl | rfl | rfl | rfl | rfl | rfl | rfl | rfl | rfl | rfl <;> decide
theorem own_j8 {y : Int32} (x z : Int32) (hx : x = (y &&& (2147483647 : Int32)) % (10 : Int32)) (hz : z = x % (9 : Int32)) : ¬ (8 : Int64) < z.toInt64 := by
  rcases own_r9 x z hx hz with rfl | rfl | rfl | rfl | rfl | rfl | rfl | rfl | rfl <;> decide
theorem own_sA {y : Int32} (x : Int32) (hx : x = (y &&& (2147483647 : Int32)) % (10 : Int32)) : own_p6K_seconds x (1 : Int64) = (1 : Int64) + x.toInt64 ∧ own_p6K_pending x = x.toInt64 := by
  rcases own_r10 x hx with rfl | rfl | rfl | rfl | rfl | rfl | rfl | rfl | rfl | rfl <;> decide +kernel
theorem own_es (b : Int64) : own_p4A_erroredSeconds b (0 : Int64) (0 : Int64) = own_m0_147_s0 b := by
  unfold own_p4A_erroredSeconds own_m0_147_s0
  split <;> rfl
theorem own_bb (q x t : Int64) (hx : x = (q &&& (9223372036854775807 : Int64)) - (q &&& (9223372036854775807 : Int64)) / t * t) (ht : (0 : Int64) < t) : own_p4A_backgroundBlockErrors x (0 : Int64) = x := by
  have h := (own_bv q x t hx ht).1
  unfold own_p4A_backgroundBlockErrors
  split
  · exact Int64.zero_add x
  · rename_i g
    rw [Int64.lt_iff_toInt_lt] at g
    have e0 : (0 : Int64).toInt = 0 := rfl
    exact Int64.toInt_inj.mp (by omega)
theorem own_sU {y : Int32} (x z : Int32) (hx : x = (y &&& (2147483647 : Int32)) % (10 : Int32)) (hz : z = x % (9 : Int32)) : own_p7_seconds z.toInt64 (own_p6X_seconds (1 : Int64) + (1 : Int64)) = (1 : Int64) + ((11 : Int64) + z.toInt64) ∧ (10 : Int64) + own_p7_pending z.toInt64 = (11 : Int64) + z.toInt64 := by
  rcases own_r9 x z hx hz with rfl | rfl | rfl | rfl | rfl | rfl | rfl | rfl | rfl <;> decide +kernel
theorem own_usU (pe w : Int64) (h : (10 : Int64) + pe = w) : own_p9U_unavailableSeconds (0 : Int64) pe (10 : Int64) = w := by
  unfold own_p9U_unavailableSeconds own_p11_unavailableSeconds
  rw [h]; exact Int64.zero_add w
theorem own_xsU (t pe w : Int64) (h : (10 : Int64) + pe = w) : own_p9U_extendingSeconds t (0 : Int64) pe (10 : Int64) = own_m0_193_s0 t w := by
  unfold own_p9U_extendingSeconds own_p11_extendingSeconds own_m0_193_s0
  rw [h, Int64.zero_add]

def Q0 (Z : State) (q0 : Int64) (q1 : Int64) (q2 : Int64) (q3 : Int64) (p4 : Int32) (h0 : Heap) (n0 : Nat) (v : Option Value) (h : Heap) (L : List Loc) : Prop := v = some (.int (1 : Int32)) ∧ Fr n0 L
set_option maxRecDepth 65536 in
set_option maxHeartbeats 40000000 in
theorem rm0 (l : Launch) (Z : State) (aw : Array Value) (hw : ∀ d ∈ tables_1, d.before aw Z = true) (wq : List Jvm.Cond) (q0 : Int64) (q1 : Int64) (q2 : Int64) (q3 : Int64) (p4 : Int32) (h0 : Heap) (n0 : Nat) (Z0 : n0 ≤ h0.size) :
    MetFree l x (head1 (Jvm.Cond.code x code maxLocals ret :: wq) room_1) (fun a U => a = #[(.long q0), (.long q1), (.long q2), (.long q3), (.int p4)] ∧ Z.Warmed39 U.vm ∧ U.heap = h0) (fun _ _ _ _ _ => True) (fun _ U o U' => ∃ v L, o = .returned v ∧ Q0 Z q0 q1 q2 q3 p4 h0 n0 v U'.heap L ∧ FrameEnd U o U' L 1 13) := by
  refine MetFree.of_bodySF (plainFor_of_name pn_1) hisR ?_
  intro p e s m args below meth c s₁ Bd hml0 hP hK
  obtain ⟨rfl, hZ, hh⟩ := hP
  have hx := Bd.exec
  have hby := Bd.bytes
  have hml : c.maxLocals = 34 := hml0
  have hown : s.vm.findClass "com/example/hopchuan/hopchuan/ErrorCounterEndPinLaw" = some m.cls := findClass_of_methodNamed Bd.named
  have hnm := (name_of_methodNamed Bd.named Bd.method).1
  have X0 : Stand p l e room_1 s m #[(.long q0), (.long q1), (.long q2), (.long q3), (.int p4)] below meth c s₁ [] 0 0 := Stand.of_body Bd
  have e0 : s₁.heap = h0 := by rw [← hh, Bd.state]; rfl
  have N0 := Fr.nil n0
  have pre0 : own_Pre p e below (s₁.setTop (entryFrame m #[(.long q0), (.long q1), (.long q2), (.long q3), (.int p4)] maxLocals)) (s₁.setTop (mkF m 0 #[.val (.long q0), .second, .val (.long q1), .second, .val (.long q2), .second, .val (.long q3), .second, .val (.int p4), .unset, .unset, .unset, .unset, .unset, .unset, .unset, .unset, .unset, .unset, .unset, .unset, .unset, .unset, .unset, .unset, .unset, .unset, .unset, .unset, .unset, .unset, .unset, .unset, .unset] [])) := fun t k => castTop (ef_0 m q0 q1 q2 q3 p4) k
  obtain ⟨_, _, ⟨T1, L1, k1, n1⟩, -, X1, ⟨Lc1, hQ1, l1, y1, z1⟩, st1⟩ := Jvm.LawKit.callS X0 hx (y := (⟨"java/lang/Math", "max", "(JJ)J"⟩ : MethodName)) hown (mvT hZ (hw _ (List.mem_of_getElem? (i := 1) rfl))) (mvT hZ (hw _ (List.mem_of_getElem? (i := 2) rfl))) (mvT hZ (hw _ (List.mem_of_getElem? (i := 3) rfl))) (mvT hZ (hw _ (List.mem_of_getElem? (i := 4) rfl))) (by decide) (backOf (W := 0) (rm1 l Z aw hw [] ((1 : Int64)) ((q1 &&& (9223372036854775807 : Int64))) (h0) n0 Z0) hZ (hw _ (List.mem_of_getElem? (i := 4) rfl)) (hw _ (List.mem_of_getElem? (i := 3) rfl)) (by decide) (by decide)) (g := (mkF m 6 #[.val (.long q0), .second, .val (.long q1), .second, .val (.long q2), .second, .val (.long q3), .second, .val (.int p4), .unset, .unset, .unset, .unset, .unset, .unset, .unset, .unset, .unset, .unset, .unset, .unset, .unset, .unset, .unset, .unset, .unset, .unset, .unset, .unset, .unset, .unset, .unset, .unset, .unset] [(.long (q1 &&& (9223372036854775807 : Int64))), (.long (1 : Int64))])) rfl (by rw [hml]; rfl) (argsL := [(.long (1 : Int64)), (.long (q1 &&& (9223372036854775807 : Int64)))]) (rest := []) (lenOf pd_2 rfl) rfl (by show 2 * 0 + _ ≤ _; exact Nat.le_of_eq rfl) (hb hby at_6) (fun _ _ => ⟨rfl, e0, (by decide : 0 + 0 ≤ _), (by decide : 0 + 0 ≤ _)⟩)
  dsimp only [Pt.U, Pt.locs, Pt.cells, Pt.slots] at X1 l1 y1 z1 st1 hQ1
  subst l1 y1 z1
  obtain ⟨rfl, Nq1, eq1⟩ := hQ1
  have N1 := Fr.app N0 Nq1
  obtain ⟨x9_11, hx9_11, pre2⟩ : ∃ z : Int64, z = (own_f1 ((1 : Int64)) ((q1 &&& (9223372036854775807 : Int64)))) ∧ own_Pre p e below (s₁.setTop (entryFrame m #[(.long q0), (.long q1), (.long q2), (.long q3), (.int p4)] maxLocals)) (T1.setTop (mkF m 11 #[.val (.long q0), .second, .val (.long q1), .second, .val (.long q2), .second, .val (.long q3), .second, .val (.int p4), .val (.long z), .second, .unset, .unset, .unset, .unset, .unset, .unset, .unset, .unset, .unset, .unset, .unset, .unset, .unset, .unset, .unset, .unset, .unset, .unset, .unset, .unset, .unset, .unset, .unset] [])) := ⟨_, rfl, fun t k => pre0 t (by
      show Steps p.tables e below (s₁.setTop (mkF m 0 #[.val (.long q0), .second, .val (.long q1), .second, .val (.long q2), .second, .val (.long q3), .second, .val (.int p4), .unset, .unset, .unset, .unset, .unset, .unset, .unset, .unset, .unset, .unset, .unset, .unset, .unset, .unset, .unset, .unset, .unset, .unset, .unset, .unset, .unset, .unset, .unset, .unset, .unset] [])) _
      refine XS.lconst X0.here hx rfl (hb hby at_0) ?_
      show Steps p.tables e below (s₁.setTop (mkF m 1 #[.val (.long q0), .second, .val (.long q1), .second, .val (.long q2), .second, .val (.long q3), .second, .val (.int p4), .unset, .unset, .unset, .unset, .unset, .unset, .unset, .unset, .unset, .unset, .unset, .unset, .unset, .unset, .unset, .unset, .unset, .unset, .unset, .unset, .unset, .unset, .unset, .unset, .unset] [(.long (1 : Int64))])) _
      refine XS.lloadN X0.here hx rfl (hb hby at_1) rfl ?_
      show Steps p.tables e below (s₁.setTop (mkF m 2 #[.val (.long q0), .second, .val (.long q1), .second, .val (.long q2), .second, .val (.long q3), .second, .val (.int p4), .unset, .unset, .unset, .unset, .unset, .unset, .unset, .unset, .unset, .unset, .unset, .unset, .unset, .unset, .unset, .unset, .unset, .unset, .unset, .unset, .unset, .unset, .unset, .unset, .unset] [(.long q1), (.long (1 : Int64))])) _
      refine X0.ldc2Long hx hown (mvT hZ (hw _ (List.mem_of_getElem? (i := 0) rfl))) (g := (mkF m 2 #[.val (.long q0), .second, .val (.long q1), .second, .val (.long q2), .second, .val (.long q3), .second, .val (.int p4), .unset, .unset, .unset, .unset, .unset, .unset, .unset, .unset, .unset, .unset, .unset, .unset, .unset, .unset, .unset, .unset, .unset, .unset, .unset, .unset, .unset, .unset, .unset, .unset, .unset] [(.long q1), (.long (1 : Int64))])) rfl (hb hby at_2) _ ?_
      show Steps p.tables e below (s₁.setTop (mkF m 5 #[.val (.long q0), .second, .val (.long q1), .second, .val (.long q2), .second, .val (.long q3), .second, .val (.int p4), .unset, .unset, .unset, .unset, .unset, .unset, .unset, .unset, .unset, .unset, .unset, .unset, .unset, .unset, .unset, .unset, .unset, .unset, .unset, .unset, .unset, .unset, .unset, .unset, .unset] [(.long (9223372036854775807 : Int64)), (.long q1), (.long (1 : Int64))])) _
      refine XS.land X0.here hx rfl (hb hby at_5) rfl ?_
      show Steps p.tables e below (s₁.setTop (mkF m 6 #[.val (.long q0), .second, .val (.long q1), .second, .val (.long q2), .second, .val (.long q3), .second, .val (.int p4), .unset, .unset, .unset, .unset, .unset, .unset, .unset, .unset, .unset, .unset, .unset, .unset, .unset, .unset, .unset, .unset, .unset, .unset, .unset, .unset, .unset, .unset, .unset, .unset, .unset] [(.long (q1 &&& (9223372036854775807 : Int64))), (.long (1 : Int64))])) _
      refine st1 _ ?_
      show Steps p.tables e below (T1.setTop (mkF m 9 #[.val (.long q0), .second, .val (.long q1), .second, .val (.long q2), .second, .val (.long q3), .second, .val (.int p4), .unset, .unset, .unset, .unset, .unset, .unset, .unset, .unset, .unset, .unset, .unset, .unset, .unset, .unset, .unset, .unset, .unset, .unset, .unset, .unset, .unset, .unset, .unset, .unset, .unset] [(.long (own_f1 ((1 : Int64)) ((q1 &&& (9223372036854775807 : Int64)))))])) _
      refine XS.lstore X1.here hx rfl (hb hby at_9) rfl (l' := #[.val (.long q0), .second, .val (.long q1), .second, .val (.long q2), .second, .val (.long q3), .second, .val (.int p4), .val (.long (own_f1 ((1 : Int64)) ((q1 &&& (9223372036854775807 : Int64))))), .second, .unset, .unset, .unset, .unset, .unset, .unset, .unset, .unset, .unset, .unset, .unset, .unset, .unset, .unset, .unset, .unset, .unset, .unset, .unset, .unset, .unset, .unset, .unset]) rfl ?_
      exact k)⟩
  have hth : (0 : Int64) < x9_11 := by rw [hx9_11]; exact own_th _
  obtain ⟨x11_22, hx11_22, pre3⟩ : ∃ z : Int64, z = ((q2 &&& (9223372036854775807 : Int64)) - (q2 &&& (9223372036854775807 : Int64)) / x9_11 * x9_11) ∧ own_Pre p e below (s₁.setTop (entryFrame m #[(.long q0), (.long q1), (.long q2), (.long q3), (.int p4)] maxLocals)) (T1.setTop (mkF m 22 #[.val (.long q0), .second, .val (.long q1), .second, .val (.long q2), .second, .val (.long q3), .second, .val (.int p4), .val (.long x9_11), .second, .val (.long z), .second, .unset, .unset, .unset, .unset, .unset, .unset, .unset, .unset, .unset, .unset, .unset, .unset, .unset, .unset, .unset, .unset, .unset, .unset, .unset, .unset, .unset] [])) := ⟨_, rfl, fun t k => pre2 t (by
      show Steps p.tables e below (T1.setTop (mkF m 11 #[.val (.long q0), .second, .val (.long q1), .second, .val (.long q2), .second, .val (.long q3), .second, .val (.int p4), .val (.long x9_11), .second, .unset, .unset, .unset, .unset, .unset, .unset, .unset, .unset, .unset, .unset, .unset, .unset, .unset, .unset, .unset, .unset, .unset, .unset, .unset, .unset, .unset, .unset, .unset] [])) _
      refine XS.lload X1.here hx rfl (hb hby at_11) rfl ?_
      show Steps p.tables e below (T1.setTop (mkF m 13 #[.val (.long q0), .second, .val (.long q1), .second, .val (.long q2), .second, .val (.long q3), .second, .val (.int p4), .val (.long x9_11), .second, .unset, .unset, .unset, .unset, .unset, .unset, .unset, .unset, .unset, .unset, .unset, .unset, .unset, .unset, .unset, .unset, .unset, .unset, .unset, .unset, .unset, .unset, .unset] [(.long q2)])) _
      refine X1.ldc2Long hx hown (mvT hZ (hw _ (List.mem_of_getElem? (i := 0) rfl))) (g := (mkF m 13 #[.val (.long q0), .second, .val (.long q1), .second, .val (.long q2), .second, .val (.long q3), .second, .val (.int p4), .val (.long x9_11), .second, .unset, .unset, .unset, .unset, .unset, .unset, .unset, .unset, .unset, .unset, .unset, .unset, .unset, .unset, .unset, .unset, .unset, .unset, .unset, .unset, .unset, .unset, .unset] [(.long q2)])) rfl (hb hby at_13) _ ?_
      show Steps p.tables e below (T1.setTop (mkF m 16 #[.val (.long q0), .second, .val (.long q1), .second, .val (.long q2), .second, .val (.long q3), .second, .val (.int p4), .val (.long x9_11), .second, .unset, .unset, .unset, .unset, .unset, .unset, .unset, .unset, .unset, .unset, .unset, .unset, .unset, .unset, .unset, .unset, .unset, .unset, .unset, .unset, .unset, .unset, .unset] [(.long (9223372036854775807 : Int64)), (.long q2)])) _
      refine XS.land X1.here hx rfl (hb hby at_16) rfl ?_
      show Steps p.tables e below (T1.setTop (mkF m 17 #[.val (.long q0), .second, .val (.long q1), .second, .val (.long q2), .second, .val (.long q3), .second, .val (.int p4), .val (.long x9_11), .second, .unset, .unset, .unset, .unset, .unset, .unset, .unset, .unset, .unset, .unset, .unset, .unset, .unset, .unset, .unset, .unset, .unset, .unset, .unset, .unset, .unset, .unset, .unset] [(.long (q2 &&& (9223372036854775807 : Int64)))])) _
      refine XS.lload X1.here hx rfl (hb hby at_17) rfl ?_
      show Steps p.tables e below (T1.setTop (mkF m 19 #[.val (.long q0), .second, .val (.long q1), .second, .val (.long q2), .second, .val (.long q3), .second, .val (.int p4), .val (.long x9_11), .second, .unset, .unset, .unset, .unset, .unset, .unset, .unset, .unset, .unset, .unset, .unset, .unset, .unset, .unset, .unset, .unset, .unset, .unset, .unset, .unset, .unset, .unset, .unset] [(.long x9_11), (.long (q2 &&& (9223372036854775807 : Int64)))])) _
      refine XS.lrem X1.here hx rfl (hb hby at_19) rfl (own_nz hth) ?_
      show Steps p.tables e below (T1.setTop (mkF m 20 #[.val (.long q0), .second, .val (.long q1), .second, .val (.long q2), .second, .val (.long q3), .second, .val (.int p4), .val (.long x9_11), .second, .unset, .unset, .unset, .unset, .unset, .unset, .unset, .unset, .unset, .unset, .unset, .unset, .unset, .unset, .unset, .unset, .unset, .unset, .unset, .unset, .unset, .unset, .unset] [(.long ((q2 &&& (9223372036854775807 : Int64)) - (q2 &&& (9223372036854775807 : Int64)) / x9_11 * x9_11))])) _
      refine XS.lstore X1.here hx rfl (hb hby at_20) rfl (l' := #[.val (.long q0), .second, .val (.long q1), .second, .val (.long q2), .second, .val (.long q3), .second, .val (.int p4), .val (.long x9_11), .second, .val (.long ((q2 &&& (9223372036854775807 : Int64)) - (q2 &&& (9223372036854775807 : Int64)) / x9_11 * x9_11)), .second, .unset, .unset, .unset, .unset, .unset, .unset, .unset, .unset, .unset, .unset, .unset, .unset, .unset, .unset, .unset, .unset, .unset, .unset, .unset, .unset, .unset]) rfl ?_
      exact k)⟩
  obtain ⟨x13_33, hx13_33, pre4⟩ : ∃ z : Int64, z = ((q3 &&& (9223372036854775807 : Int64)) - (q3 &&& (9223372036854775807 : Int64)) / x9_11 * x9_11) ∧ own_Pre p e below (s₁.setTop (entryFrame m #[(.long q0), (.long q1), (.long q2), (.long q3), (.int p4)] maxLocals)) (T1.setTop (mkF m 33 #[.val (.long q0), .second, .val (.long q1), .second, .val (.long q2), .second, .val (.long q3), .second, .val (.int p4), .val (.long x9_11), .second, .val (.long x11_22), .second, .val (.long z), .second, .unset, .unset, .unset, .unset, .unset, .unset, .unset, .unset, .unset, .unset, .unset, .unset, .unset, .unset, .unset, .unset, .unset, .unset, .unset] [])) := ⟨_, rfl, fun t k => pre3 t (by
      show Steps p.tables e below (T1.setTop (mkF m 22 #[.val (.long q0), .second, .val (.long q1), .second, .val (.long q2), .second, .val (.long q3), .second, .val (.int p4), .val (.long x9_11), .second, .val (.long x11_22), .second, .unset, .unset, .unset, .unset, .unset, .unset, .unset, .unset, .unset, .unset, .unset, .unset, .unset, .unset, .unset, .unset, .unset, .unset, .unset, .unset, .unset] [])) _
      refine XS.lload X1.here hx rfl (hb hby at_22) rfl ?_
      show Steps p.tables e below (T1.setTop (mkF m 24 #[.val (.long q0), .second, .val (.long q1), .second, .val (.long q2), .second, .val (.long q3), .second, .val (.int p4), .val (.long x9_11), .second, .val (.long x11_22), .second, .unset, .unset, .unset, .unset, .unset, .unset, .unset, .unset, .unset, .unset, .unset, .unset, .unset, .unset, .unset, .unset, .unset, .unset, .unset, .unset, .unset] [(.long q3)])) _
      refine X1.ldc2Long hx hown (mvT hZ (hw _ (List.mem_of_getElem? (i := 0) rfl))) (g := (mkF m 24 #[.val (.long q0), .second, .val (.long q1), .second, .val (.long q2), .second, .val (.long q3), .second, .val (.int p4), .val (.long x9_11), .second, .val (.long x11_22), .second, .unset, .unset, .unset, .unset, .unset, .unset, .unset, .unset, .unset, .unset, .unset, .unset, .unset, .unset, .unset, .unset, .unset, .unset, .unset, .unset, .unset] [(.long q3)])) rfl (hb hby at_24) _ ?_
      show Steps p.tables e below (T1.setTop (mkF m 27 #[.val (.long q0), .second, .val (.long q1), .second, .val (.long q2), .second, .val (.long q3), .second, .val (.int p4), .val (.long x9_11), .second, .val (.long x11_22), .second, .unset, .unset, .unset, .unset, .unset, .unset, .unset, .unset, .unset, .unset, .unset, .unset, .unset, .unset, .unset, .unset, .unset, .unset, .unset, .unset, .unset] [(.long (9223372036854775807 : Int64)), (.long q3)])) _
      refine XS.land X1.here hx rfl (hb hby at_27) rfl ?_
      show Steps p.tables e below (T1.setTop (mkF m 28 #[.val (.long q0), .second, .val (.long q1), .second, .val (.long q2), .second, .val (.long q3), .second, .val (.int p4), .val (.long x9_11), .second, .val (.long x11_22), .second, .unset, .unset, .unset, .unset, .unset, .unset, .unset, .unset, .unset, .unset, .unset, .unset, .unset, .unset, .unset, .unset, .unset, .unset, .unset, .unset, .unset] [(.long (q3 &&& (9223372036854775807 : Int64)))])) _
      refine XS.lload X1.here hx rfl (hb hby at_28) rfl ?_
      show Steps p.tables e below (T1.setTop (mkF m 30 #[.val (.long q0), .second, .val (.long q1), .second, .val (.long q2), .second, .val (.long q3), .second, .val (.int p4), .val (.long x9_11), .second, .val (.long x11_22), .second, .unset, .unset, .unset, .unset, .unset, .unset, .unset, .unset, .unset, .unset, .unset, .unset, .unset, .unset, .unset, .unset, .unset, .unset, .unset, .unset, .unset] [(.long x9_11), (.long (q3 &&& (9223372036854775807 : Int64)))])) _
      refine XS.lrem X1.here hx rfl (hb hby at_30) rfl (own_nz hth) ?_
      show Steps p.tables e below (T1.setTop (mkF m 31 #[.val (.long q0), .second, .val (.long q1), .second, .val (.long q2), .second, .val (.long q3), .second, .val (.int p4), .val (.long x9_11), .second, .val (.long x11_22), .second, .unset, .unset, .unset, .unset, .unset, .unset, .unset, .unset, .unset, .unset, .unset, .unset, .unset, .unset, .unset, .unset, .unset, .unset, .unset, .unset, .unset] [(.long ((q3 &&& (9223372036854775807 : Int64)) - (q3 &&& (9223372036854775807 : Int64)) / x9_11 * x9_11))])) _
      refine XS.lstore X1.here hx rfl (hb hby at_31) rfl (l' := #[.val (.long q0), .second, .val (.long q1), .second, .val (.long q2), .second, .val (.long q3), .second, .val (.int p4), .val (.long x9_11), .second, .val (.long x11_22), .second, .val (.long ((q3 &&& (9223372036854775807 : Int64)) - (q3 &&& (9223372036854775807 : Int64)) / x9_11 * x9_11)), .second, .unset, .unset, .unset, .unset, .unset, .unset, .unset, .unset, .unset, .unset, .unset, .unset, .unset, .unset, .unset, .unset, .unset, .unset, .unset]) rfl ?_
      exact k)⟩
  have pre5 : own_Pre p e below (s₁.setTop (entryFrame m #[(.long q0), (.long q1), (.long q2), (.long q3), (.int p4)] maxLocals)) (T1.setTop (mkF m 37 #[.val (.long q0), .second, .val (.long q1), .second, .val (.long q2), .second, .val (.long q3), .second, .val (.int p4), .val (.long x9_11), .second, .val (.long x11_22), .second, .val (.long x13_33), .second, .unset, .unset, .unset, .unset, .unset, .unset, .unset, .unset, .unset, .unset, .unset, .unset, .unset, .unset, .unset, .unset, .unset, .unset, .unset] [(.int (p4 &&& (1 : Int32)))])) := fun t k => pre4 t (by
      show Steps p.tables e below (T1.setTop (mkF m 33 #[.val (.long q0), .second, .val (.long q1), .second, .val (.long q2), .second, .val (.long q3), .second, .val (.int p4), .val (.long x9_11), .second, .val (.long x11_22), .second, .val (.long x13_33), .second, .unset, .unset, .unset, .unset, .unset, .unset, .unset, .unset, .unset, .unset, .unset, .unset, .unset, .unset, .unset, .unset, .unset, .unset, .unset] [])) _
      refine XS.iload X1.here hx rfl (hb hby at_33) rfl ?_
      show Steps p.tables e below (T1.setTop (mkF m 35 #[.val (.long q0), .second, .val (.long q1), .second, .val (.long q2), .second, .val (.long q3), .second, .val (.int p4), .val (.long x9_11), .second, .val (.long x11_22), .second, .val (.long x13_33), .second, .unset, .unset, .unset, .unset, .unset, .unset, .unset, .unset, .unset, .unset, .unset, .unset, .unset, .unset, .unset, .unset, .unset, .unset, .unset] [(.int p4)])) _
      refine XS.iconst X1.here hx rfl (hb hby at_35) ?_
      show Steps p.tables e below (T1.setTop (mkF m 36 #[.val (.long q0), .second, .val (.long q1), .second, .val (.long q2), .second, .val (.long q3), .second, .val (.int p4), .val (.long x9_11), .second, .val (.long x11_22), .second, .val (.long x13_33), .second, .unset, .unset, .unset, .unset, .unset, .unset, .unset, .unset, .unset, .unset, .unset, .unset, .unset, .unset, .unset, .unset, .unset, .unset, .unset] [(.int (1 : Int32)), (.int p4)])) _
      refine XS.iand X1.here hx rfl (hb hby at_36) rfl ?_
      exact k)
  by_cases hc37 : (p4 &&& (1 : Int32)) = (0 : Int32)
  · obtain ⟨x16_59, hx16_59, pre6⟩ : ∃ z : Int32, z = ((((p4).toUInt32 >>> ((1 : Int32) &&& 31).toUInt32).toInt32 &&& (2147483647 : Int32)) % (10 : Int32)) ∧ own_Pre p e below (s₁.setTop (entryFrame m #[(.long q0), (.long q1), (.long q2), (.long q3), (.int p4)] maxLocals)) (T1.setTop (mkF m 59 #[.val (.long q0), .second, .val (.long q1), .second, .val (.long q2), .second, .val (.long q3), .second, .val (.int p4), .val (.long x9_11), .second, .val (.long x11_22), .second, .val (.long x13_33), .second, .val (.int (0 : Int32)), .val (.int z), .unset, .unset, .unset, .unset, .unset, .unset, .unset, .unset, .unset, .unset, .unset, .unset, .unset, .unset, .unset, .unset, .unset] [])) := ⟨_, rfl, fun t k => pre5 t (by
        show Steps p.tables e below (T1.setTop (mkF m 37 #[.val (.long q0), .second, .val (.long q1), .second, .val (.long q2), .second, .val (.long q3), .second, .val (.int p4), .val (.long x9_11), .second, .val (.long x11_22), .second, .val (.long x13_33), .second, .unset, .unset, .unset, .unset, .unset, .unset, .unset, .unset, .unset, .unset, .unset, .unset, .unset, .unset, .unset, .unset, .unset, .unset, .unset] [(.int (p4 &&& (1 : Int32)))])) _
        refine XS.ifYes X1.here hx rfl (pc0 := 37) (pc' := 44) rfl (hb hby at_37) rfl ((if0 _ _).trans (teq hc37).1) (by decide) (by decide) ?_
        show Steps p.tables e below (T1.setTop (mkF m 44 #[.val (.long q0), .second, .val (.long q1), .second, .val (.long q2), .second, .val (.long q3), .second, .val (.int p4), .val (.long x9_11), .second, .val (.long x11_22), .second, .val (.long x13_33), .second, .unset, .unset, .unset, .unset, .unset, .unset, .unset, .unset, .unset, .unset, .unset, .unset, .unset, .unset, .unset, .unset, .unset, .unset, .unset] [])) _
        refine XS.iconst X1.here hx rfl (hb hby at_44) ?_
        show Steps p.tables e below (T1.setTop (mkF m 45 #[.val (.long q0), .second, .val (.long q1), .second, .val (.long q2), .second, .val (.long q3), .second, .val (.int p4), .val (.long x9_11), .second, .val (.long x11_22), .second, .val (.long x13_33), .second, .unset, .unset, .unset, .unset, .unset, .unset, .unset, .unset, .unset, .unset, .unset, .unset, .unset, .unset, .unset, .unset, .unset, .unset, .unset] [(.int (0 : Int32))])) _
        refine XS.istore X1.here hx rfl (hb hby at_45) rfl (l' := #[.val (.long q0), .second, .val (.long q1), .second, .val (.long q2), .second, .val (.long q3), .second, .val (.int p4), .val (.long x9_11), .second, .val (.long x11_22), .second, .val (.long x13_33), .second, .val (.int (0 : Int32)), .unset, .unset, .unset, .unset, .unset, .unset, .unset, .unset, .unset, .unset, .unset, .unset, .unset, .unset, .unset, .unset, .unset, .unset]) rfl ?_
        show Steps p.tables e below (T1.setTop (mkF m 47 #[.val (.long q0), .second, .val (.long q1), .second, .val (.long q2), .second, .val (.long q3), .second, .val (.int p4), .val (.long x9_11), .second, .val (.long x11_22), .second, .val (.long x13_33), .second, .val (.int (0 : Int32)), .unset, .unset, .unset, .unset, .unset, .unset, .unset, .unset, .unset, .unset, .unset, .unset, .unset, .unset, .unset, .unset, .unset, .unset] [])) _
        refine XS.iload X1.here hx rfl (hb hby at_47) rfl ?_
        show Steps p.tables e below (T1.setTop (mkF m 49 #[.val (.long q0), .second, .val (.long q1), .second, .val (.long q2), .second, .val (.long q3), .second, .val (.int p4), .val (.long x9_11), .second, .val (.long x11_22), .second, .val (.long x13_33), .second, .val (.int (0 : Int32)), .unset, .unset, .unset, .unset, .unset, .unset, .unset, .unset, .unset, .unset, .unset, .unset, .unset, .unset, .unset, .unset, .unset, .unset] [(.int p4)])) _
        refine XS.iconst X1.here hx rfl (hb hby at_49) ?_
        show Steps p.tables e below (T1.setTop (mkF m 50 #[.val (.long q0), .second, .val (.long q1), .second, .val (.long q2), .second, .val (.long q3), .second, .val (.int p4), .val (.long x9_11), .second, .val (.long x11_22), .second, .val (.long x13_33), .second, .val (.int (0 : Int32)), .unset, .unset, .unset, .unset, .unset, .unset, .unset, .unset, .unset, .unset, .unset, .unset, .unset, .unset, .unset, .unset, .unset, .unset] [(.int (1 : Int32)), (.int p4)])) _
        refine XS.iushr X1.here hx rfl (hb hby at_50) rfl ?_
        show Steps p.tables e below (T1.setTop (mkF m 51 #[.val (.long q0), .second, .val (.long q1), .second, .val (.long q2), .second, .val (.long q3), .second, .val (.int p4), .val (.long x9_11), .second, .val (.long x11_22), .second, .val (.long x13_33), .second, .val (.int (0 : Int32)), .unset, .unset, .unset, .unset, .unset, .unset, .unset, .unset, .unset, .unset, .unset, .unset, .unset, .unset, .unset, .unset, .unset, .unset] [(.int ((p4).toUInt32 >>> ((1 : Int32) &&& 31).toUInt32).toInt32)])) _
        refine X1.ldcInt hx hown (mvT hZ (hw _ (List.mem_of_getElem? (i := 5) rfl))) (g := (mkF m 51 #[.val (.long q0), .second, .val (.long q1), .second, .val (.long q2), .second, .val (.long q3), .second, .val (.int p4), .val (.long x9_11), .second, .val (.long x11_22), .second, .val (.long x13_33), .second, .val (.int (0 : Int32)), .unset, .unset, .unset, .unset, .unset, .unset, .unset, .unset, .unset, .unset, .unset, .unset, .unset, .unset, .unset, .unset, .unset, .unset] [(.int ((p4).toUInt32 >>> ((1 : Int32) &&& 31).toUInt32).toInt32)])) rfl (hb hby at_51) _ ?_
        show Steps p.tables e below (T1.setTop (mkF m 53 #[.val (.long q0), .second, .val (.long q1), .second, .val (.long q2), .second, .val (.long q3), .second, .val (.int p4), .val (.long x9_11), .second, .val (.long x11_22), .second, .val (.long x13_33), .second, .val (.int (0 : Int32)), .unset, .unset, .unset, .unset, .unset, .unset, .unset, .unset, .unset, .unset, .unset, .unset, .unset, .unset, .unset, .unset, .unset, .unset] [(.int (2147483647 : Int32)), (.int ((p4).toUInt32 >>> ((1 : Int32) &&& 31).toUInt32).toInt32)])) _
        refine XS.iand X1.here hx rfl (hb hby at_53) rfl ?_
        show Steps p.tables e below (T1.setTop (mkF m 54 #[.val (.long q0), .second, .val (.long q1), .second, .val (.long q2), .second, .val (.long q3), .second, .val (.int p4), .val (.long x9_11), .second, .val (.long x11_22), .second, .val (.long x13_33), .second, .val (.int (0 : Int32)), .unset, .unset, .unset, .unset, .unset, .unset, .unset, .unset, .unset, .unset, .unset, .unset, .unset, .unset, .unset, .unset, .unset, .unset] [(.int (((p4).toUInt32 >>> ((1 : Int32) &&& 31).toUInt32).toInt32 &&& (2147483647 : Int32)))])) _
        refine XS.bipush X1.here hx rfl (hb hby at_54) ?_
        show Steps p.tables e below (T1.setTop (mkF m 56 #[.val (.long q0), .second, .val (.long q1), .second, .val (.long q2), .second, .val (.long q3), .second, .val (.int p4), .val (.long x9_11), .second, .val (.long x11_22), .second, .val (.long x13_33), .second, .val (.int (0 : Int32)), .unset, .unset, .unset, .unset, .unset, .unset, .unset, .unset, .unset, .unset, .unset, .unset, .unset, .unset, .unset, .unset, .unset, .unset] [(.int (10 : Int32)), (.int (((p4).toUInt32 >>> ((1 : Int32) &&& 31).toUInt32).toInt32 &&& (2147483647 : Int32)))])) _
        refine iremM X1 hx rfl (hb hby at_56) rfl (by decide) ?_
        show Steps p.tables e below (T1.setTop (mkF m 57 #[.val (.long q0), .second, .val (.long q1), .second, .val (.long q2), .second, .val (.long q3), .second, .val (.int p4), .val (.long x9_11), .second, .val (.long x11_22), .second, .val (.long x13_33), .second, .val (.int (0 : Int32)), .unset, .unset, .unset, .unset, .unset, .unset, .unset, .unset, .unset, .unset, .unset, .unset, .unset, .unset, .unset, .unset, .unset, .unset] [(.int ((((p4).toUInt32 >>> ((1 : Int32) &&& 31).toUInt32).toInt32 &&& (2147483647 : Int32)) % (10 : Int32)))])) _
        refine XS.istore X1.here hx rfl (hb hby at_57) rfl (l' := #[.val (.long q0), .second, .val (.long q1), .second, .val (.long q2), .second, .val (.long q3), .second, .val (.int p4), .val (.long x9_11), .second, .val (.long x11_22), .second, .val (.long x13_33), .second, .val (.int (0 : Int32)), .val (.int ((((p4).toUInt32 >>> ((1 : Int32) &&& 31).toUInt32).toInt32 &&& (2147483647 : Int32)) % (10 : Int32))), .unset, .unset, .unset, .unset, .unset, .unset, .unset, .unset, .unset, .unset, .unset, .unset, .unset, .unset, .unset, .unset, .unset]) rfl ?_
        exact k)⟩
    obtain ⟨x17_66, hx17_66, pre7⟩ : ∃ z : Int32, z = (x16_59 % (9 : Int32)) ∧ own_Pre p e below (s₁.setTop (entryFrame m #[(.long q0), (.long q1), (.long q2), (.long q3), (.int p4)] maxLocals)) (T1.setTop (mkF m 66 #[.val (.long q0), .second, .val (.long q1), .second, .val (.long q2), .second, .val (.long q3), .second, .val (.int p4), .val (.long x9_11), .second, .val (.long x11_22), .second, .val (.long x13_33), .second, .val (.int (0 : Int32)), .val (.int x16_59), .val (.int z), .unset, .unset, .unset, .unset, .unset, .unset, .unset, .unset, .unset, .unset, .unset, .unset, .unset, .unset, .unset, .unset] [])) := ⟨_, rfl, fun t k => pre6 t (by
        show Steps p.tables e below (T1.setTop (mkF m 59 #[.val (.long q0), .second, .val (.long q1), .second, .val (.long q2), .second, .val (.long q3), .second, .val (.int p4), .val (.long x9_11), .second, .val (.long x11_22), .second, .val (.long x13_33), .second, .val (.int (0 : Int32)), .val (.int x16_59), .unset, .unset, .unset, .unset, .unset, .unset, .unset, .unset, .unset, .unset, .unset, .unset, .unset, .unset, .unset, .unset, .unset] [])) _
        refine XS.iload X1.here hx rfl (hb hby at_59) rfl ?_
        show Steps p.tables e below (T1.setTop (mkF m 61 #[.val (.long q0), .second, .val (.long q1), .second, .val (.long q2), .second, .val (.long q3), .second, .val (.int p4), .val (.long x9_11), .second, .val (.long x11_22), .second, .val (.long x13_33), .second, .val (.int (0 : Int32)), .val (.int x16_59), .unset, .unset, .unset, .unset, .unset, .unset, .unset, .unset, .unset, .unset, .unset, .unset, .unset, .unset, .unset, .unset, .unset] [(.int x16_59)])) _
        refine XS.bipush X1.here hx rfl (hb hby at_61) ?_
        show Steps p.tables e below (T1.setTop (mkF m 63 #[.val (.long q0), .second, .val (.long q1), .second, .val (.long q2), .second, .val (.long q3), .second, .val (.int p4), .val (.long x9_11), .second, .val (.long x11_22), .second, .val (.long x13_33), .second, .val (.int (0 : Int32)), .val (.int x16_59), .unset, .unset, .unset, .unset, .unset, .unset, .unset, .unset, .unset, .unset, .unset, .unset, .unset, .unset, .unset, .unset, .unset] [(.int (9 : Int32)), (.int x16_59)])) _
        refine iremM X1 hx rfl (hb hby at_63) rfl (by decide) ?_
        show Steps p.tables e below (T1.setTop (mkF m 64 #[.val (.long q0), .second, .val (.long q1), .second, .val (.long q2), .second, .val (.long q3), .second, .val (.int p4), .val (.long x9_11), .second, .val (.long x11_22), .second, .val (.long x13_33), .second, .val (.int (0 : Int32)), .val (.int x16_59), .unset, .unset, .unset, .unset, .unset, .unset, .unset, .unset, .unset, .unset, .unset, .unset, .unset, .unset, .unset, .unset, .unset] [(.int (x16_59 % (9 : Int32)))])) _
        refine XS.istore X1.here hx rfl (hb hby at_64) rfl (l' := #[.val (.long q0), .second, .val (.long q1), .second, .val (.long q2), .second, .val (.long q3), .second, .val (.int p4), .val (.long x9_11), .second, .val (.long x11_22), .second, .val (.long x13_33), .second, .val (.int (0 : Int32)), .val (.int x16_59), .val (.int (x16_59 % (9 : Int32))), .unset, .unset, .unset, .unset, .unset, .unset, .unset, .unset, .unset, .unset, .unset, .unset, .unset, .unset, .unset, .unset]) rfl ?_
        exact k)⟩
    obtain ⟨T8, h8, X8, e8, E8, A8, D8, -, st8⟩ := newO X1 hx hZ hown (hw _ (List.mem_of_getElem? (i := 6) rfl)) (hw _ (List.mem_of_getElem? (i := 7) rfl)) (hw _ (List.mem_of_getElem? (i := 8) rfl)) eq1 (g := (mkF m 80 #[.val (.long q0), .second, .val (.long q1), .second, .val (.long q2), .second, .val (.long q3), .second, .val (.int p4), .val (.long x9_11), .second, .val (.long x11_22), .second, .val (.long x13_33), .second, .val (.int (0 : Int32)), .val (.int x16_59), .val (.int x17_66), .val (.int x16_59), .unset, .unset, .unset, .unset, .unset, .unset, .unset, .unset, .unset, .unset, .unset, .unset, .unset, .unset, .unset] [])) rfl (hb hby at_80) (by decide) (by decide)
    obtain ⟨b8, gq8⟩ : ∃ z, z = (h0).size := ⟨_, rfl⟩
    rw [← gq8] at A8 D8 st8
    have g_b8 : n0 ≤ b8 := Nat.le_trans Z0 (Nat.le_of_eq gq8.symm)
    have F_b8_available : Fld Z h8 b8 "com/example/hopchuan/hopchuan/ErrorCounter" "available" "Z" (.int (0 : Int32)) := D8 (Or.inl (hw _ (List.mem_of_getElem? (i := 16) rfl))) (ty := .boolean) (by decide)
    have F_b8_sesErroredBlocks : Fld Z h8 b8 "com/example/hopchuan/hopchuan/ErrorCounter" "sesErroredBlocks" "J" (.long (0 : Int64)) := D8 (Or.inr (hw _ (List.mem_of_getElem? (i := 18) rfl))) (ty := .long) (by decide)
    have F_b8_extendingPeriodSeconds : Fld Z h8 b8 "com/example/hopchuan/hopchuan/ErrorCounter" "extendingPeriodSeconds" "J" (.long (0 : Int64)) := D8 (Or.inr (hw _ (List.mem_of_getElem? (i := 20) rfl))) (ty := .long) (by decide)
    have F_b8_seconds : Fld Z h8 b8 "com/example/hopchuan/hopchuan/ErrorCounter" "seconds" "J" (.long (0 : Int64)) := D8 (Or.inl (hw _ (List.mem_of_getElem? (i := 27) rfl))) (ty := .long) (by decide)
    have F_b8_erroredSeconds : Fld Z h8 b8 "com/example/hopchuan/hopchuan/ErrorCounter" "erroredSeconds" "J" (.long (0 : Int64)) := D8 (Or.inl (hw _ (List.mem_of_getElem? (i := 33) rfl))) (ty := .long) (by decide)
    have F_b8_pending : Fld Z h8 b8 "com/example/hopchuan/hopchuan/ErrorCounter" "pending" "J" (.long (0 : Int64)) := D8 (Or.inl (hw _ (List.mem_of_getElem? (i := 35) rfl))) (ty := .long) (by decide)
    have F_b8_severelyErroredSeconds : Fld Z h8 b8 "com/example/hopchuan/hopchuan/ErrorCounter" "severelyErroredSeconds" "J" (.long (0 : Int64)) := D8 (Or.inl (hw _ (List.mem_of_getElem? (i := 37) rfl))) (ty := .long) (by decide)
    have F_b8_period : Fld Z h8 b8 "com/example/hopchuan/hopchuan/ErrorCounter" "period" "J" (.long (0 : Int64)) := D8 (Or.inl (hw _ (List.mem_of_getElem? (i := 44) rfl))) (ty := .long) (by decide)
    have F_b8_pendingErrored : Fld Z h8 b8 "com/example/hopchuan/hopchuan/ErrorCounter" "pendingErrored" "J" (.long (0 : Int64)) := D8 (Or.inl (hw _ (List.mem_of_getElem? (i := 64) rfl))) (ty := .long) (by decide)
    have F_b8_pendingBlocks : Fld Z h8 b8 "com/example/hopchuan/hopchuan/ErrorCounter" "pendingBlocks" "J" (.long (0 : Int64)) := D8 (Or.inl (hw _ (List.mem_of_getElem? (i := 66) rfl))) (ty := .long) (by decide)
    have F_b8_unavailableSeconds : Fld Z h8 b8 "com/example/hopchuan/hopchuan/ErrorCounter" "unavailableSeconds" "J" (.long (0 : Int64)) := D8 (Or.inl (hw _ (List.mem_of_getElem? (i := 72) rfl))) (ty := .long) (by decide)
    have F_b8_extendingSeconds : Fld Z h8 b8 "com/example/hopchuan/hopchuan/ErrorCounter" "extendingSeconds" "J" (.long (0 : Int64)) := D8 (Or.inl (hw _ (List.mem_of_getElem? (i := 74) rfl))) (ty := .long) (by decide)
    have F_b8_backgroundBlockErrors : Fld Z h8 b8 "com/example/hopchuan/hopchuan/ErrorCounter" "backgroundBlockErrors" "J" (.long (0 : Int64)) := D8 (Or.inl (hw _ (List.mem_of_getElem? (i := 97) rfl))) (ty := .long) (by decide)
    have z10 : n0 ≤ (h8).size := (Nat.le_trans Z0 E8.1)
    obtain ⟨_, _, ⟨T9, L9, k9, n9⟩, -, X9, ⟨Lc9, hQ9, l9, y9, z9⟩, st9⟩ := X8.specialBack hx (y := (⟨"com/example/hopchuan/hopchuan/ErrorCounter", "<init>", "(JJ)V"⟩ : MethodName)) rfl hown (mvT hZ (hw _ (List.mem_of_getElem? (i := 9) rfl))) (mvT hZ (hw _ (List.mem_of_getElem? (i := 10) rfl))) (mvT hZ (hw _ (List.mem_of_getElem? (i := 11) rfl))) (by decide) (backOf (W := 1) (rm2 l Z aw hw [] (b8) (x9_11) (q0) (h8) n0 z10 A8 F_b8_available F_b8_sesErroredBlocks F_b8_extendingPeriodSeconds F_b8_seconds F_b8_unavailableSeconds F_b8_extendingSeconds F_b8_erroredSeconds F_b8_severelyErroredSeconds F_b8_backgroundBlockErrors F_b8_pending F_b8_pendingErrored F_b8_pendingBlocks F_b8_period g_b8) hZ (hw _ (List.mem_of_getElem? (i := 11) rfl)) (hw _ (List.mem_of_getElem? (i := 8) rfl)) (by decide) (by decide)) (g := (mkF m 87 #[.val (.long q0), .second, .val (.long q1), .second, .val (.long q2), .second, .val (.long q3), .second, .val (.int p4), .val (.long x9_11), .second, .val (.long x11_22), .second, .val (.long x13_33), .second, .val (.int (0 : Int32)), .val (.int x16_59), .val (.int x17_66), .val (.int x16_59), .unset, .unset, .unset, .unset, .unset, .unset, .unset, .unset, .unset, .unset, .unset, .unset, .unset, .unset, .unset] [(.long q0), (.long x9_11), (.ref b8), (.ref b8)])) rfl (by rw [hml]; rfl) (Steps.refl _) (a := b8) (argsL := [(.long x9_11), (.long q0)]) (rest := [(.ref b8)]) (lenOf pd_3 rfl) rfl (by show 2 * 0 + _ ≤ _; exact Nat.le_of_eq rfl) (hb hby at_87) (fun _ _ => ⟨rfl, e8, (by decide : 1 + 0 ≤ _), (by decide : 13 + 0 ≤ _)⟩)
    dsimp only [Pt.U, Pt.locs, Pt.cells, Pt.slots] at X9 l9 y9 z9 st9 hQ9
    subst l9 y9 z9
    obtain ⟨rfl, Nq9, K9, po9_0, po9_1, po9_2, po9_3, po9_4, po9_5, po9_6, po9_7, po9_8, po9_9, po9_10, po9_11, po9_12, po9_13⟩ := hQ9
    have N9 := Fr.app N1 Nq9
    have z12 : n0 ≤ (T9.heap).size := (Nat.le_trans z10 K9.1)
    obtain ⟨cq11, kq11, q11a, q11b, q11c⟩ := isOf hZ rfl po9_0
    obtain ⟨_, _, ⟨T11, L11, k11, n11⟩, -, X11, ⟨Lc11, hQ11, l11, y11, z11⟩, st11⟩ := X9.virtualBack hx (y := (⟨"com/example/hopchuan/hopchuan/ErrorCounter", "second", "(JZ)V"⟩ : MethodName)) (z := (⟨"com/example/hopchuan/hopchuan/ErrorCounter", "second", "(JZ)V"⟩ : MethodName)) hown (mvT hZ (hw _ (List.mem_of_getElem? (i := 21) rfl))) (mvT hZ (hw _ (List.mem_of_getElem? (i := 22) rfl))) (notFace_of_selects (args := #[]) (mvT hZ (hw _ (List.mem_of_getElem? (i := 24) rfl)))) (mvT hZ (hw _ (List.mem_of_getElem? (i := 24) rfl))) (mvT hZ (hw _ (List.mem_of_getElem? (i := 23) rfl))) (by decide) (backOf (W := 0) (rm4A l Z aw hw [] (b8) (x11_22) (x9_11) (q0) ((0 : Int64)) ((0 : Int64)) ((0 : Int64)) ((0 : Int64)) ((0 : Int64)) ((0 : Int64)) ((0 : Int64)) ((0 : Int64)) ((0 : Int64)) ((0 : Int64)) (T9.heap) n0 z12 po9_0 po9_1 po9_2 po9_3 po9_4 po9_5 po9_6 po9_7 po9_8 po9_9 po9_10 po9_11 po9_12 po9_13 g_b8 (own_b _ _ _ hx11_22 hth)) hZ (hw _ (List.mem_of_getElem? (i := 25) rfl)) (hw _ (List.mem_of_getElem? (i := 8) rfl)) (by decide) (by decide)) q11a q11c (g := (mkF m 97 #[.val (.long q0), .second, .val (.long q1), .second, .val (.long q2), .second, .val (.long q3), .second, .val (.int p4), .val (.long x9_11), .second, .val (.long x11_22), .second, .val (.long x13_33), .second, .val (.int (0 : Int32)), .val (.int x16_59), .val (.int x17_66), .val (.int x16_59), .val (.ref b8), .unset, .unset, .unset, .unset, .unset, .unset, .unset, .unset, .unset, .unset, .unset, .unset, .unset, .unset] [(.int (0 : Int32)), (.long x11_22), (.ref b8)])) rfl (by rw [hml]; rfl) (Steps.refl _) (argsL := [(.long x11_22), (.int (0 : Int32))]) (rest := []) (lenOf pd_1 rfl) rfl (by show 2 * 0 + _ ≤ _; exact Nat.le_of_eq rfl) (hb hby at_97) (fun _ _ => ⟨rfl, rfl, (by decide : 1 + 0 ≤ _), (by decide : 13 + 0 ≤ _)⟩)
    dsimp only [Pt.U, Pt.locs, Pt.cells, Pt.slots] at X11 l11 y11 z11 st11 hQ11
    subst l11 y11 z11
    obtain ⟨rfl, Nq11, K11, po11_0, po11_1, po11_2, po11_3, po11_4, po11_5, po11_6, po11_7, po11_8, po11_9, po11_10, po11_11, po11_12, po11_13⟩ := hQ11
    have N11 := Fr.app N9 Nq11
    obtain ⟨u11_erroredSeconds, hu11_erroredSeconds⟩ : ∃ z, z = (own_p4A_erroredSeconds x11_22 (0 : Int64) (0 : Int64)) := ⟨_, rfl⟩
    rw [← hu11_erroredSeconds] at po11_7
    obtain ⟨u11_backgroundBlockErrors, hu11_backgroundBlockErrors⟩ : ∃ z, z = (own_p4A_backgroundBlockErrors x11_22 (0 : Int64)) := ⟨_, rfl⟩
    rw [← hu11_backgroundBlockErrors] at po11_9
    have z14 : n0 ≤ (T11.heap).size := (Nat.le_trans z12 K11.1)
    obtain ⟨_, _, ⟨T13, L13, k13, n13⟩, -, X13, ⟨Lc13, hQ13, l13, y13, z13⟩, st13⟩ := Jvm.LawKit.callS X11 hx (y := (⟨"com/example/hopchuan/hopchuan/ErrorCounterEndPinLaw", "severe", "(Lcom/example/hopchuan/hopchuan/ErrorCounter;IJ)V"⟩ : MethodName)) hown (mvT hZ (hw _ (List.mem_of_getElem? (i := 38) rfl))) (mvT hZ (hw _ (List.mem_of_getElem? (i := 39) rfl))) (mvT hZ (hw _ (List.mem_of_getElem? (i := 40) rfl))) (mvT hZ (hw _ (List.mem_of_getElem? (i := 41) rfl))) (by decide) (backOf (W := 0) (rm6K l Z aw hw [] (b8) (x16_59) (x13_33) (x9_11) (q0) ((1 : Int64)) ((0 : Int64)) ((0 : Int64)) (u11_erroredSeconds) ((0 : Int64)) (u11_backgroundBlockErrors) ((0 : Int64)) ((0 : Int64)) ((0 : Int64)) (T11.heap) n0 z14 po11_0 po11_1 po11_2 po11_3 po11_4 po11_5 po11_6 po11_7 po11_8 po11_9 po11_10 po11_11 po11_12 po11_13 g_b8 (own_k9 _ hx16_59)) hZ (hw _ (List.mem_of_getElem? (i := 41) rfl)) (hw _ (List.mem_of_getElem? (i := 40) rfl)) (by decide) (by decide)) (g := (mkF m 106 #[.val (.long q0), .second, .val (.long q1), .second, .val (.long q2), .second, .val (.long q3), .second, .val (.int p4), .val (.long x9_11), .second, .val (.long x11_22), .second, .val (.long x13_33), .second, .val (.int (0 : Int32)), .val (.int x16_59), .val (.int x17_66), .val (.int x16_59), .val (.ref b8), .unset, .unset, .unset, .unset, .unset, .unset, .unset, .unset, .unset, .unset, .unset, .unset, .unset, .unset] [(.long x13_33), (.int x16_59), (.ref b8)])) rfl (by rw [hml]; rfl) (argsL := [(.ref b8), (.int x16_59), (.long x13_33)]) (rest := []) (lenOf pd_4 rfl) rfl (by show 2 * 0 + _ ≤ _; exact Nat.le_of_eq rfl) (hb hby at_106) (fun _ _ => ⟨rfl, rfl, (by decide : 1 + 0 ≤ _), (by decide : 13 + 0 ≤ _)⟩)
    dsimp only [Pt.U, Pt.locs, Pt.cells, Pt.slots] at X13 l13 y13 z13 st13 hQ13
    subst l13 y13 z13
    obtain ⟨rfl, Nq13, K13, po13_0, po13_1, po13_2, po13_3, po13_4, po13_5, po13_6, po13_7, po13_8, po13_9, po13_10, po13_11, po13_12, po13_13⟩ := hQ13
    have N13 := Fr.app N11 Nq13
    obtain ⟨u13_seconds, hu13_seconds⟩ : ∃ z, z = (own_p6K_seconds x16_59 (1 : Int64)) := ⟨_, rfl⟩
    rw [← hu13_seconds] at po13_4
    obtain ⟨u13_pending, hu13_pending⟩ : ∃ z, z = (own_p6K_pending x16_59) := ⟨_, rfl⟩
    rw [← hu13_pending] at po13_10
    have z16 : n0 ≤ (T13.heap).size := (Nat.le_trans z14 K13.1)
    obtain ⟨cq15, kq15, q15a, q15b, q15c⟩ := isOf hZ rfl po13_0
    obtain ⟨_, _, ⟨T15, L15, k15, n15⟩, -, X15, ⟨Lc15, hQ15, l15, y15, z15⟩, st15⟩ := X13.virtualBack hx (y := (⟨"com/example/hopchuan/hopchuan/ErrorCounter", "end", "()V"⟩ : MethodName)) (z := (⟨"com/example/hopchuan/hopchuan/ErrorCounter", "end", "()V"⟩ : MethodName)) hown (mvT hZ (hw _ (List.mem_of_getElem? (i := 54) rfl))) (mvT hZ (hw _ (List.mem_of_getElem? (i := 55) rfl))) (notFace_of_selects (args := #[]) (mvT hZ (hw _ (List.mem_of_getElem? (i := 57) rfl)))) (mvT hZ (hw _ (List.mem_of_getElem? (i := 57) rfl))) (mvT hZ (hw _ (List.mem_of_getElem? (i := 56) rfl))) (by decide) (backOf (W := 0) (rm9A l Z aw hw [] (b8) (x9_11) (q0) (u13_seconds) ((0 : Int64)) ((0 : Int64)) (u11_erroredSeconds) ((0 : Int64)) (u11_backgroundBlockErrors) (u13_pending) ((0 : Int64)) ((0 : Int64)) ((0 : Int64)) (T13.heap) n0 z16 po13_0 po13_1 po13_2 po13_3 po13_4 po13_5 po13_6 po13_7 po13_8 po13_9 po13_10 po13_11 po13_12 po13_13 g_b8) hZ (hw _ (List.mem_of_getElem? (i := 58) rfl)) (hw _ (List.mem_of_getElem? (i := 8) rfl)) (by decide) (by decide)) q15a q15c (g := (mkF m 132 #[.val (.long q0), .second, .val (.long q1), .second, .val (.long q2), .second, .val (.long q3), .second, .val (.int p4), .val (.long x9_11), .second, .val (.long x11_22), .second, .val (.long x13_33), .second, .val (.int (0 : Int32)), .val (.int x16_59), .val (.int x17_66), .val (.int x16_59), .val (.ref b8), .unset, .unset, .unset, .unset, .unset, .unset, .unset, .unset, .unset, .unset, .unset, .unset, .unset, .unset] [(.ref b8)])) rfl (by rw [hml]; rfl) (Steps.refl _) (argsL := []) (rest := []) (lenOf pd_0 rfl) rfl (by show 2 * 0 + _ ≤ _; exact Nat.le_of_eq rfl) (hb hby at_132) (fun _ _ => ⟨rfl, rfl, (by decide : 1 + 0 ≤ _), (by decide : 13 + 0 ≤ _)⟩)
    dsimp only [Pt.U, Pt.locs, Pt.cells, Pt.slots] at X15 l15 y15 z15 st15 hQ15
    subst l15 y15 z15
    obtain ⟨rfl, Nq15, K15, po15_0, po15_1, po15_2, po15_3, po15_4, po15_5, po15_6, po15_7, po15_8, po15_9, po15_10, po15_11, po15_12, po15_13⟩ := hQ15
    have N15 := Fr.app N13 Nq15
    obtain ⟨u15_erroredSeconds, hu15_erroredSeconds⟩ : ∃ z, z = (u11_erroredSeconds + u13_pending) := ⟨_, rfl⟩
    rw [← hu15_erroredSeconds] at po15_7
    obtain ⟨u15_severelyErroredSeconds, hu15_severelyErroredSeconds⟩ : ∃ z, z = ((0 : Int64) + u13_pending) := ⟨_, rfl⟩
    rw [← hu15_severelyErroredSeconds] at po15_8
    have pre19 : own_Pre p e below (s₁.setTop (entryFrame m #[(.long q0), (.long q1), (.long q2), (.long q3), (.int p4)] maxLocals)) (T15.setTop (mkF m 139 #[.val (.long q0), .second, .val (.long q1), .second, .val (.long q2), .second, .val (.long q3), .second, .val (.int p4), .val (.long x9_11), .second, .val (.long x11_22), .second, .val (.long x13_33), .second, .val (.int (0 : Int32)), .val (.int x16_59), .val (.int x17_66), .val (.int x16_59), .val (.ref b8), .unset, .unset, .unset, .unset, .unset, .unset, .unset, .unset, .unset, .unset, .unset, .unset, .unset, .unset] [(.int (lcmpW x11_22 (0 : Int64)))])) := fun t k => pre7 t (by
        show Steps p.tables e below (T1.setTop (mkF m 66 #[.val (.long q0), .second, .val (.long q1), .second, .val (.long q2), .second, .val (.long q3), .second, .val (.int p4), .val (.long x9_11), .second, .val (.long x11_22), .second, .val (.long x13_33), .second, .val (.int (0 : Int32)), .val (.int x16_59), .val (.int x17_66), .unset, .unset, .unset, .unset, .unset, .unset, .unset, .unset, .unset, .unset, .unset, .unset, .unset, .unset, .unset, .unset] [])) _
        refine XS.iload X1.here hx rfl (hb hby at_66) rfl ?_
        show Steps p.tables e below (T1.setTop (mkF m 68 #[.val (.long q0), .second, .val (.long q1), .second, .val (.long q2), .second, .val (.long q3), .second, .val (.int p4), .val (.long x9_11), .second, .val (.long x11_22), .second, .val (.long x13_33), .second, .val (.int (0 : Int32)), .val (.int x16_59), .val (.int x17_66), .unset, .unset, .unset, .unset, .unset, .unset, .unset, .unset, .unset, .unset, .unset, .unset, .unset, .unset, .unset, .unset] [(.int (0 : Int32))])) _
        refine XS.ifYes X1.here hx rfl (pc0 := 68) (pc' := 76) rfl (hb hby at_68) rfl ((if0 _ _).trans (teq (by decide : ((0 : Int32) = (0 : Int32)))).1) (by decide) (by decide) ?_
        show Steps p.tables e below (T1.setTop (mkF m 76 #[.val (.long q0), .second, .val (.long q1), .second, .val (.long q2), .second, .val (.long q3), .second, .val (.int p4), .val (.long x9_11), .second, .val (.long x11_22), .second, .val (.long x13_33), .second, .val (.int (0 : Int32)), .val (.int x16_59), .val (.int x17_66), .unset, .unset, .unset, .unset, .unset, .unset, .unset, .unset, .unset, .unset, .unset, .unset, .unset, .unset, .unset, .unset] [])) _
        refine XS.iload X1.here hx rfl (hb hby at_76) rfl ?_
        show Steps p.tables e below (T1.setTop (mkF m 78 #[.val (.long q0), .second, .val (.long q1), .second, .val (.long q2), .second, .val (.long q3), .second, .val (.int p4), .val (.long x9_11), .second, .val (.long x11_22), .second, .val (.long x13_33), .second, .val (.int (0 : Int32)), .val (.int x16_59), .val (.int x17_66), .unset, .unset, .unset, .unset, .unset, .unset, .unset, .unset, .unset, .unset, .unset, .unset, .unset, .unset, .unset, .unset] [(.int x16_59)])) _
        refine XS.istore X1.here hx rfl (hb hby at_78) rfl (l' := #[.val (.long q0), .second, .val (.long q1), .second, .val (.long q2), .second, .val (.long q3), .second, .val (.int p4), .val (.long x9_11), .second, .val (.long x11_22), .second, .val (.long x13_33), .second, .val (.int (0 : Int32)), .val (.int x16_59), .val (.int x17_66), .val (.int x16_59), .unset, .unset, .unset, .unset, .unset, .unset, .unset, .unset, .unset, .unset, .unset, .unset, .unset, .unset, .unset]) rfl ?_
        show Steps p.tables e below (T1.setTop (mkF m 80 #[.val (.long q0), .second, .val (.long q1), .second, .val (.long q2), .second, .val (.long q3), .second, .val (.int p4), .val (.long x9_11), .second, .val (.long x11_22), .second, .val (.long x13_33), .second, .val (.int (0 : Int32)), .val (.int x16_59), .val (.int x17_66), .val (.int x16_59), .unset, .unset, .unset, .unset, .unset, .unset, .unset, .unset, .unset, .unset, .unset, .unset, .unset, .unset, .unset] [])) _
        refine st8 _ ?_
        show Steps p.tables e below (T8.setTop (mkF m 83 #[.val (.long q0), .second, .val (.long q1), .second, .val (.long q2), .second, .val (.long q3), .second, .val (.int p4), .val (.long x9_11), .second, .val (.long x11_22), .second, .val (.long x13_33), .second, .val (.int (0 : Int32)), .val (.int x16_59), .val (.int x17_66), .val (.int x16_59), .unset, .unset, .unset, .unset, .unset, .unset, .unset, .unset, .unset, .unset, .unset, .unset, .unset, .unset, .unset] [(.ref b8)])) _
        refine XS.dup X8.here hx rfl (hb hby at_83) rfl rfl ?_
        show Steps p.tables e below (T8.setTop (mkF m 84 #[.val (.long q0), .second, .val (.long q1), .second, .val (.long q2), .second, .val (.long q3), .second, .val (.int p4), .val (.long x9_11), .second, .val (.long x11_22), .second, .val (.long x13_33), .second, .val (.int (0 : Int32)), .val (.int x16_59), .val (.int x17_66), .val (.int x16_59), .unset, .unset, .unset, .unset, .unset, .unset, .unset, .unset, .unset, .unset, .unset, .unset, .unset, .unset, .unset] [(.ref b8), (.ref b8)])) _
        refine XS.lload X8.here hx rfl (hb hby at_84) rfl ?_
        show Steps p.tables e below (T8.setTop (mkF m 86 #[.val (.long q0), .second, .val (.long q1), .second, .val (.long q2), .second, .val (.long q3), .second, .val (.int p4), .val (.long x9_11), .second, .val (.long x11_22), .second, .val (.long x13_33), .second, .val (.int (0 : Int32)), .val (.int x16_59), .val (.int x17_66), .val (.int x16_59), .unset, .unset, .unset, .unset, .unset, .unset, .unset, .unset, .unset, .unset, .unset, .unset, .unset, .unset, .unset] [(.long x9_11), (.ref b8), (.ref b8)])) _
        refine XS.lloadN X8.here hx rfl (hb hby at_86) rfl ?_
        show Steps p.tables e below (T8.setTop (mkF m 87 #[.val (.long q0), .second, .val (.long q1), .second, .val (.long q2), .second, .val (.long q3), .second, .val (.int p4), .val (.long x9_11), .second, .val (.long x11_22), .second, .val (.long x13_33), .second, .val (.int (0 : Int32)), .val (.int x16_59), .val (.int x17_66), .val (.int x16_59), .unset, .unset, .unset, .unset, .unset, .unset, .unset, .unset, .unset, .unset, .unset, .unset, .unset, .unset, .unset] [(.long q0), (.long x9_11), (.ref b8), (.ref b8)])) _
        refine st9.trans ?_
        show Steps p.tables e below (T9.setTop (mkF m 90 #[.val (.long q0), .second, .val (.long q1), .second, .val (.long q2), .second, .val (.long q3), .second, .val (.int p4), .val (.long x9_11), .second, .val (.long x11_22), .second, .val (.long x13_33), .second, .val (.int (0 : Int32)), .val (.int x16_59), .val (.int x17_66), .val (.int x16_59), .unset, .unset, .unset, .unset, .unset, .unset, .unset, .unset, .unset, .unset, .unset, .unset, .unset, .unset, .unset] [(.ref b8)])) _
        refine XS.astore X9.here hx rfl (hb hby at_90) rfl rfl (l' := #[.val (.long q0), .second, .val (.long q1), .second, .val (.long q2), .second, .val (.long q3), .second, .val (.int p4), .val (.long x9_11), .second, .val (.long x11_22), .second, .val (.long x13_33), .second, .val (.int (0 : Int32)), .val (.int x16_59), .val (.int x17_66), .val (.int x16_59), .val (.ref b8), .unset, .unset, .unset, .unset, .unset, .unset, .unset, .unset, .unset, .unset, .unset, .unset, .unset, .unset]) rfl ?_
        show Steps p.tables e below (T9.setTop (mkF m 92 #[.val (.long q0), .second, .val (.long q1), .second, .val (.long q2), .second, .val (.long q3), .second, .val (.int p4), .val (.long x9_11), .second, .val (.long x11_22), .second, .val (.long x13_33), .second, .val (.int (0 : Int32)), .val (.int x16_59), .val (.int x17_66), .val (.int x16_59), .val (.ref b8), .unset, .unset, .unset, .unset, .unset, .unset, .unset, .unset, .unset, .unset, .unset, .unset, .unset, .unset] [])) _
        refine XS.aload X9.here hx rfl (hb hby at_92) rfl rfl ?_
        show Steps p.tables e below (T9.setTop (mkF m 94 #[.val (.long q0), .second, .val (.long q1), .second, .val (.long q2), .second, .val (.long q3), .second, .val (.int p4), .val (.long x9_11), .second, .val (.long x11_22), .second, .val (.long x13_33), .second, .val (.int (0 : Int32)), .val (.int x16_59), .val (.int x17_66), .val (.int x16_59), .val (.ref b8), .unset, .unset, .unset, .unset, .unset, .unset, .unset, .unset, .unset, .unset, .unset, .unset, .unset, .unset] [(.ref b8)])) _
        refine XS.lload X9.here hx rfl (hb hby at_94) rfl ?_
        show Steps p.tables e below (T9.setTop (mkF m 96 #[.val (.long q0), .second, .val (.long q1), .second, .val (.long q2), .second, .val (.long q3), .second, .val (.int p4), .val (.long x9_11), .second, .val (.long x11_22), .second, .val (.long x13_33), .second, .val (.int (0 : Int32)), .val (.int x16_59), .val (.int x17_66), .val (.int x16_59), .val (.ref b8), .unset, .unset, .unset, .unset, .unset, .unset, .unset, .unset, .unset, .unset, .unset, .unset, .unset, .unset] [(.long x11_22), (.ref b8)])) _
        refine XS.iconst X9.here hx rfl (hb hby at_96) ?_
        show Steps p.tables e below (T9.setTop (mkF m 97 #[.val (.long q0), .second, .val (.long q1), .second, .val (.long q2), .second, .val (.long q3), .second, .val (.int p4), .val (.long x9_11), .second, .val (.long x11_22), .second, .val (.long x13_33), .second, .val (.int (0 : Int32)), .val (.int x16_59), .val (.int x17_66), .val (.int x16_59), .val (.ref b8), .unset, .unset, .unset, .unset, .unset, .unset, .unset, .unset, .unset, .unset, .unset, .unset, .unset, .unset] [(.int (0 : Int32)), (.long x11_22), (.ref b8)])) _
        refine st11.trans ?_
        show Steps p.tables e below (T11.setTop (mkF m 100 #[.val (.long q0), .second, .val (.long q1), .second, .val (.long q2), .second, .val (.long q3), .second, .val (.int p4), .val (.long x9_11), .second, .val (.long x11_22), .second, .val (.long x13_33), .second, .val (.int (0 : Int32)), .val (.int x16_59), .val (.int x17_66), .val (.int x16_59), .val (.ref b8), .unset, .unset, .unset, .unset, .unset, .unset, .unset, .unset, .unset, .unset, .unset, .unset, .unset, .unset] [])) _
        refine XS.aload X11.here hx rfl (hb hby at_100) rfl rfl ?_
        show Steps p.tables e below (T11.setTop (mkF m 102 #[.val (.long q0), .second, .val (.long q1), .second, .val (.long q2), .second, .val (.long q3), .second, .val (.int p4), .val (.long x9_11), .second, .val (.long x11_22), .second, .val (.long x13_33), .second, .val (.int (0 : Int32)), .val (.int x16_59), .val (.int x17_66), .val (.int x16_59), .val (.ref b8), .unset, .unset, .unset, .unset, .unset, .unset, .unset, .unset, .unset, .unset, .unset, .unset, .unset, .unset] [(.ref b8)])) _
        refine XS.iload X11.here hx rfl (hb hby at_102) rfl ?_
        show Steps p.tables e below (T11.setTop (mkF m 104 #[.val (.long q0), .second, .val (.long q1), .second, .val (.long q2), .second, .val (.long q3), .second, .val (.int p4), .val (.long x9_11), .second, .val (.long x11_22), .second, .val (.long x13_33), .second, .val (.int (0 : Int32)), .val (.int x16_59), .val (.int x17_66), .val (.int x16_59), .val (.ref b8), .unset, .unset, .unset, .unset, .unset, .unset, .unset, .unset, .unset, .unset, .unset, .unset, .unset, .unset] [(.int x16_59), (.ref b8)])) _
        refine XS.lload X11.here hx rfl (hb hby at_104) rfl ?_
        show Steps p.tables e below (T11.setTop (mkF m 106 #[.val (.long q0), .second, .val (.long q1), .second, .val (.long q2), .second, .val (.long q3), .second, .val (.int p4), .val (.long x9_11), .second, .val (.long x11_22), .second, .val (.long x13_33), .second, .val (.int (0 : Int32)), .val (.int x16_59), .val (.int x17_66), .val (.int x16_59), .val (.ref b8), .unset, .unset, .unset, .unset, .unset, .unset, .unset, .unset, .unset, .unset, .unset, .unset, .unset, .unset] [(.long x13_33), (.int x16_59), (.ref b8)])) _
        refine st13 _ ?_
        show Steps p.tables e below (T13.setTop (mkF m 109 #[.val (.long q0), .second, .val (.long q1), .second, .val (.long q2), .second, .val (.long q3), .second, .val (.int p4), .val (.long x9_11), .second, .val (.long x11_22), .second, .val (.long x13_33), .second, .val (.int (0 : Int32)), .val (.int x16_59), .val (.int x17_66), .val (.int x16_59), .val (.ref b8), .unset, .unset, .unset, .unset, .unset, .unset, .unset, .unset, .unset, .unset, .unset, .unset, .unset, .unset] [])) _
        refine XS.iload X13.here hx rfl (hb hby at_109) rfl ?_
        show Steps p.tables e below (T13.setTop (mkF m 111 #[.val (.long q0), .second, .val (.long q1), .second, .val (.long q2), .second, .val (.long q3), .second, .val (.int p4), .val (.long x9_11), .second, .val (.long x11_22), .second, .val (.long x13_33), .second, .val (.int (0 : Int32)), .val (.int x16_59), .val (.int x17_66), .val (.int x16_59), .val (.ref b8), .unset, .unset, .unset, .unset, .unset, .unset, .unset, .unset, .unset, .unset, .unset, .unset, .unset, .unset] [(.int (0 : Int32))])) _
        refine XS.ifYes X13.here hx rfl (pc0 := 111) (pc' := 130) rfl (hb hby at_111) rfl ((if0 _ _).trans (teq (by decide : ((0 : Int32) = (0 : Int32)))).1) (by decide) (by decide) ?_
        show Steps p.tables e below (T13.setTop (mkF m 130 #[.val (.long q0), .second, .val (.long q1), .second, .val (.long q2), .second, .val (.long q3), .second, .val (.int p4), .val (.long x9_11), .second, .val (.long x11_22), .second, .val (.long x13_33), .second, .val (.int (0 : Int32)), .val (.int x16_59), .val (.int x17_66), .val (.int x16_59), .val (.ref b8), .unset, .unset, .unset, .unset, .unset, .unset, .unset, .unset, .unset, .unset, .unset, .unset, .unset, .unset] [])) _
        refine XS.aload X13.here hx rfl (hb hby at_130) rfl rfl ?_
        show Steps p.tables e below (T13.setTop (mkF m 132 #[.val (.long q0), .second, .val (.long q1), .second, .val (.long q2), .second, .val (.long q3), .second, .val (.int p4), .val (.long x9_11), .second, .val (.long x11_22), .second, .val (.long x13_33), .second, .val (.int (0 : Int32)), .val (.int x16_59), .val (.int x17_66), .val (.int x16_59), .val (.ref b8), .unset, .unset, .unset, .unset, .unset, .unset, .unset, .unset, .unset, .unset, .unset, .unset, .unset, .unset] [(.ref b8)])) _
        refine st15.trans ?_
        show Steps p.tables e below (T15.setTop (mkF m 135 #[.val (.long q0), .second, .val (.long q1), .second, .val (.long q2), .second, .val (.long q3), .second, .val (.int p4), .val (.long x9_11), .second, .val (.long x11_22), .second, .val (.long x13_33), .second, .val (.int (0 : Int32)), .val (.int x16_59), .val (.int x17_66), .val (.int x16_59), .val (.ref b8), .unset, .unset, .unset, .unset, .unset, .unset, .unset, .unset, .unset, .unset, .unset, .unset, .unset, .unset] [])) _
        refine XS.lload X15.here hx rfl (hb hby at_135) rfl ?_
        show Steps p.tables e below (T15.setTop (mkF m 137 #[.val (.long q0), .second, .val (.long q1), .second, .val (.long q2), .second, .val (.long q3), .second, .val (.int p4), .val (.long x9_11), .second, .val (.long x11_22), .second, .val (.long x13_33), .second, .val (.int (0 : Int32)), .val (.int x16_59), .val (.int x17_66), .val (.int x16_59), .val (.ref b8), .unset, .unset, .unset, .unset, .unset, .unset, .unset, .unset, .unset, .unset, .unset, .unset, .unset, .unset] [(.long x11_22)])) _
        refine XS.lconst X15.here hx rfl (hb hby at_137) ?_
        show Steps p.tables e below (T15.setTop (mkF m 138 #[.val (.long q0), .second, .val (.long q1), .second, .val (.long q2), .second, .val (.long q3), .second, .val (.int p4), .val (.long x9_11), .second, .val (.long x11_22), .second, .val (.long x13_33), .second, .val (.int (0 : Int32)), .val (.int x16_59), .val (.int x17_66), .val (.int x16_59), .val (.ref b8), .unset, .unset, .unset, .unset, .unset, .unset, .unset, .unset, .unset, .unset, .unset, .unset, .unset, .unset] [(.long (0 : Int64)), (.long x11_22)])) _
        refine XS.lcmp X15.here hx rfl (hb hby at_138) rfl ?_
        exact k)
    obtain ⟨m147_s0, hm147_s0, pre18⟩ : ∃ (m147_s0 : Int64), m147_s0 = (own_m0_147_s0 x11_22) ∧ own_Pre p e below (s₁.setTop (entryFrame m #[(.long q0), (.long q1), (.long q2), (.long q3), (.int p4)] maxLocals)) (T15.setTop (mkF m 147 #[.val (.long q0), .second, .val (.long q1), .second, .val (.long q2), .second, .val (.long q3), .second, .val (.int p4), .val (.long x9_11), .second, .val (.long x11_22), .second, .val (.long x13_33), .second, .val (.int (0 : Int32)), .val (.int x16_59), .val (.int x17_66), .val (.int x16_59), .val (.ref b8), .unset, .unset, .unset, .unset, .unset, .unset, .unset, .unset, .unset, .unset, .unset, .unset, .unset, .unset] [(.long m147_s0)])) := by
      by_cases hc139 : (0 : Int64) < x11_22
      · have pre20 : own_Pre p e below (s₁.setTop (entryFrame m #[(.long q0), (.long q1), (.long q2), (.long q3), (.int p4)] maxLocals)) (T15.setTop (mkF m 147 #[.val (.long q0), .second, .val (.long q1), .second, .val (.long q2), .second, .val (.long q3), .second, .val (.int p4), .val (.long x9_11), .second, .val (.long x11_22), .second, .val (.long x13_33), .second, .val (.int (0 : Int32)), .val (.int x16_59), .val (.int x17_66), .val (.int x16_59), .val (.ref b8), .unset, .unset, .unset, .unset, .unset, .unset, .unset, .unset, .unset, .unset, .unset, .unset, .unset, .unset] [(.long (1 : Int64))])) := fun t k => pre19 t (by
            show Steps p.tables e below (T15.setTop (mkF m 139 #[.val (.long q0), .second, .val (.long q1), .second, .val (.long q2), .second, .val (.long q3), .second, .val (.int p4), .val (.long x9_11), .second, .val (.long x11_22), .second, .val (.long x13_33), .second, .val (.int (0 : Int32)), .val (.int x16_59), .val (.int x17_66), .val (.int x16_59), .val (.ref b8), .unset, .unset, .unset, .unset, .unset, .unset, .unset, .unset, .unset, .unset, .unset, .unset, .unset, .unset] [(.int (lcmpW x11_22 (0 : Int64)))])) _
            refine XS.ifNo X15.here hx rfl (hb hby at_139) rfl ((if0 _ _).trans (tlt ((lw_gt _ _).mpr hc139)).2.2.2) ?_
            show Steps p.tables e below (T15.setTop (mkF m 142 #[.val (.long q0), .second, .val (.long q1), .second, .val (.long q2), .second, .val (.long q3), .second, .val (.int p4), .val (.long x9_11), .second, .val (.long x11_22), .second, .val (.long x13_33), .second, .val (.int (0 : Int32)), .val (.int x16_59), .val (.int x17_66), .val (.int x16_59), .val (.ref b8), .unset, .unset, .unset, .unset, .unset, .unset, .unset, .unset, .unset, .unset, .unset, .unset, .unset, .unset] [])) _
            refine XS.lconst X15.here hx rfl (hb hby at_142) ?_
            show Steps p.tables e below (T15.setTop (mkF m 143 #[.val (.long q0), .second, .val (.long q1), .second, .val (.long q2), .second, .val (.long q3), .second, .val (.int p4), .val (.long x9_11), .second, .val (.long x11_22), .second, .val (.long x13_33), .second, .val (.int (0 : Int32)), .val (.int x16_59), .val (.int x17_66), .val (.int x16_59), .val (.ref b8), .unset, .unset, .unset, .unset, .unset, .unset, .unset, .unset, .unset, .unset, .unset, .unset, .unset, .unset] [(.long (1 : Int64))])) _
            refine XS.goto X15.here hx rfl (pc0 := 143) (pc' := 147) rfl (hb hby at_143) (by decide) (by decide) ?_
            exact k)
        refine ⟨_, ?_, pre20⟩
        all_goals (first | (simp only [own_m0_147_s0, if_pos hc139]; done) | (simp [own_m0_147_s0, if_pos hc139]; done))
      · have pre21 : own_Pre p e below (s₁.setTop (entryFrame m #[(.long q0), (.long q1), (.long q2), (.long q3), (.int p4)] maxLocals)) (T15.setTop (mkF m 147 #[.val (.long q0), .second, .val (.long q1), .second, .val (.long q2), .second, .val (.long q3), .second, .val (.int p4), .val (.long x9_11), .second, .val (.long x11_22), .second, .val (.long x13_33), .second, .val (.int (0 : Int32)), .val (.int x16_59), .val (.int x17_66), .val (.int x16_59), .val (.ref b8), .unset, .unset, .unset, .unset, .unset, .unset, .unset, .unset, .unset, .unset, .unset, .unset, .unset, .unset] [(.long (0 : Int64))])) := fun t k => pre19 t (by
            show Steps p.tables e below (T15.setTop (mkF m 139 #[.val (.long q0), .second, .val (.long q1), .second, .val (.long q2), .second, .val (.long q3), .second, .val (.int p4), .val (.long x9_11), .second, .val (.long x11_22), .second, .val (.long x13_33), .second, .val (.int (0 : Int32)), .val (.int x16_59), .val (.int x17_66), .val (.int x16_59), .val (.ref b8), .unset, .unset, .unset, .unset, .unset, .unset, .unset, .unset, .unset, .unset, .unset, .unset, .unset, .unset] [(.int (lcmpW x11_22 (0 : Int64)))])) _
            refine XS.ifYes X15.here hx rfl (pc0 := 139) (pc' := 146) rfl (hb hby at_139) rfl ((if0 _ _).trans (flt (mt (lw_gt _ _).mp hc139)).2.2.2) (by decide) (by decide) ?_
            show Steps p.tables e below (T15.setTop (mkF m 146 #[.val (.long q0), .second, .val (.long q1), .second, .val (.long q2), .second, .val (.long q3), .second, .val (.int p4), .val (.long x9_11), .second, .val (.long x11_22), .second, .val (.long x13_33), .second, .val (.int (0 : Int32)), .val (.int x16_59), .val (.int x17_66), .val (.int x16_59), .val (.ref b8), .unset, .unset, .unset, .unset, .unset, .unset, .unset, .unset, .unset, .unset, .unset, .unset, .unset, .unset] [])) _
            refine XS.lconst X15.here hx rfl (hb hby at_146) ?_
            exact k)
        refine ⟨_, ?_, pre21⟩
        all_goals (first | (simp only [own_m0_147_s0, if_neg hc139]; done) | (simp [own_m0_147_s0, if_neg hc139]; done))
    obtain ⟨x22_205, hx22_205, pre22⟩ : ∃ z : Int64, z = ((1 : Int64) + (x16_59).toInt64) ∧ own_Pre p e below (s₁.setTop (entryFrame m #[(.long q0), (.long q1), (.long q2), (.long q3), (.int p4)] maxLocals)) (T15.setTop (mkF m 205 #[.val (.long q0), .second, .val (.long q1), .second, .val (.long q2), .second, .val (.long q3), .second, .val (.int p4), .val (.long x9_11), .second, .val (.long x11_22), .second, .val (.long x13_33), .second, .val (.int (0 : Int32)), .val (.int x16_59), .val (.int x17_66), .val (.int x16_59), .val (.ref b8), .val (.long m147_s0), .second, .val (.long z), .second, .unset, .unset, .unset, .unset, .unset, .unset, .unset, .unset, .unset, .unset] [])) := ⟨_, rfl, fun t k => pre18 t (by
        show Steps p.tables e below (T15.setTop (mkF m 147 #[.val (.long q0), .second, .val (.long q1), .second, .val (.long q2), .second, .val (.long q3), .second, .val (.int p4), .val (.long x9_11), .second, .val (.long x11_22), .second, .val (.long x13_33), .second, .val (.int (0 : Int32)), .val (.int x16_59), .val (.int x17_66), .val (.int x16_59), .val (.ref b8), .unset, .unset, .unset, .unset, .unset, .unset, .unset, .unset, .unset, .unset, .unset, .unset, .unset, .unset] [(.long m147_s0)])) _
        refine XS.lstore X15.here hx rfl (hb hby at_147) rfl (l' := #[.val (.long q0), .second, .val (.long q1), .second, .val (.long q2), .second, .val (.long q3), .second, .val (.int p4), .val (.long x9_11), .second, .val (.long x11_22), .second, .val (.long x13_33), .second, .val (.int (0 : Int32)), .val (.int x16_59), .val (.int x17_66), .val (.int x16_59), .val (.ref b8), .val (.long m147_s0), .second, .unset, .unset, .unset, .unset, .unset, .unset, .unset, .unset, .unset, .unset, .unset, .unset]) rfl ?_
        show Steps p.tables e below (T15.setTop (mkF m 149 #[.val (.long q0), .second, .val (.long q1), .second, .val (.long q2), .second, .val (.long q3), .second, .val (.int p4), .val (.long x9_11), .second, .val (.long x11_22), .second, .val (.long x13_33), .second, .val (.int (0 : Int32)), .val (.int x16_59), .val (.int x17_66), .val (.int x16_59), .val (.ref b8), .val (.long m147_s0), .second, .unset, .unset, .unset, .unset, .unset, .unset, .unset, .unset, .unset, .unset, .unset, .unset] [])) _
        refine XS.iload X15.here hx rfl (hb hby at_149) rfl ?_
        show Steps p.tables e below (T15.setTop (mkF m 151 #[.val (.long q0), .second, .val (.long q1), .second, .val (.long q2), .second, .val (.long q3), .second, .val (.int p4), .val (.long x9_11), .second, .val (.long x11_22), .second, .val (.long x13_33), .second, .val (.int (0 : Int32)), .val (.int x16_59), .val (.int x17_66), .val (.int x16_59), .val (.ref b8), .val (.long m147_s0), .second, .unset, .unset, .unset, .unset, .unset, .unset, .unset, .unset, .unset, .unset, .unset, .unset] [(.int (0 : Int32))])) _
        refine XS.ifYes X15.here hx rfl (pc0 := 151) (pc' := 198) rfl (hb hby at_151) rfl ((if0 _ _).trans (teq (by decide : ((0 : Int32) = (0 : Int32)))).1) (by decide) (by decide) ?_
        show Steps p.tables e below (T15.setTop (mkF m 198 #[.val (.long q0), .second, .val (.long q1), .second, .val (.long q2), .second, .val (.long q3), .second, .val (.int p4), .val (.long x9_11), .second, .val (.long x11_22), .second, .val (.long x13_33), .second, .val (.int (0 : Int32)), .val (.int x16_59), .val (.int x17_66), .val (.int x16_59), .val (.ref b8), .val (.long m147_s0), .second, .unset, .unset, .unset, .unset, .unset, .unset, .unset, .unset, .unset, .unset, .unset, .unset] [])) _
        refine XS.lconst X15.here hx rfl (hb hby at_198) ?_
        show Steps p.tables e below (T15.setTop (mkF m 199 #[.val (.long q0), .second, .val (.long q1), .second, .val (.long q2), .second, .val (.long q3), .second, .val (.int p4), .val (.long x9_11), .second, .val (.long x11_22), .second, .val (.long x13_33), .second, .val (.int (0 : Int32)), .val (.int x16_59), .val (.int x17_66), .val (.int x16_59), .val (.ref b8), .val (.long m147_s0), .second, .unset, .unset, .unset, .unset, .unset, .unset, .unset, .unset, .unset, .unset, .unset, .unset] [(.long (1 : Int64))])) _
        refine XS.iload X15.here hx rfl (hb hby at_199) rfl ?_
        show Steps p.tables e below (T15.setTop (mkF m 201 #[.val (.long q0), .second, .val (.long q1), .second, .val (.long q2), .second, .val (.long q3), .second, .val (.int p4), .val (.long x9_11), .second, .val (.long x11_22), .second, .val (.long x13_33), .second, .val (.int (0 : Int32)), .val (.int x16_59), .val (.int x17_66), .val (.int x16_59), .val (.ref b8), .val (.long m147_s0), .second, .unset, .unset, .unset, .unset, .unset, .unset, .unset, .unset, .unset, .unset, .unset, .unset] [(.int x16_59), (.long (1 : Int64))])) _
        refine XS.i2l X15.here hx rfl (hb hby at_201) rfl ?_
        show Steps p.tables e below (T15.setTop (mkF m 202 #[.val (.long q0), .second, .val (.long q1), .second, .val (.long q2), .second, .val (.long q3), .second, .val (.int p4), .val (.long x9_11), .second, .val (.long x11_22), .second, .val (.long x13_33), .second, .val (.int (0 : Int32)), .val (.int x16_59), .val (.int x17_66), .val (.int x16_59), .val (.ref b8), .val (.long m147_s0), .second, .unset, .unset, .unset, .unset, .unset, .unset, .unset, .unset, .unset, .unset, .unset, .unset] [(.long (x16_59).toInt64), (.long (1 : Int64))])) _
        refine XS.ladd X15.here hx rfl (hb hby at_202) rfl ?_
        show Steps p.tables e below (T15.setTop (mkF m 203 #[.val (.long q0), .second, .val (.long q1), .second, .val (.long q2), .second, .val (.long q3), .second, .val (.int p4), .val (.long x9_11), .second, .val (.long x11_22), .second, .val (.long x13_33), .second, .val (.int (0 : Int32)), .val (.int x16_59), .val (.int x17_66), .val (.int x16_59), .val (.ref b8), .val (.long m147_s0), .second, .unset, .unset, .unset, .unset, .unset, .unset, .unset, .unset, .unset, .unset, .unset, .unset] [(.long ((1 : Int64) + (x16_59).toInt64))])) _
        refine XS.lstore X15.here hx rfl (hb hby at_203) rfl (l' := #[.val (.long q0), .second, .val (.long q1), .second, .val (.long q2), .second, .val (.long q3), .second, .val (.int p4), .val (.long x9_11), .second, .val (.long x11_22), .second, .val (.long x13_33), .second, .val (.int (0 : Int32)), .val (.int x16_59), .val (.int x17_66), .val (.int x16_59), .val (.ref b8), .val (.long m147_s0), .second, .val (.long ((1 : Int64) + (x16_59).toInt64)), .second, .unset, .unset, .unset, .unset, .unset, .unset, .unset, .unset, .unset, .unset]) rfl ?_
        exact k)⟩
    obtain ⟨x24_213, hx24_213, pre23⟩ : ∃ z : Int64, z = (m147_s0 + (x16_59).toInt64) ∧ own_Pre p e below (s₁.setTop (entryFrame m #[(.long q0), (.long q1), (.long q2), (.long q3), (.int p4)] maxLocals)) (T15.setTop (mkF m 213 #[.val (.long q0), .second, .val (.long q1), .second, .val (.long q2), .second, .val (.long q3), .second, .val (.int p4), .val (.long x9_11), .second, .val (.long x11_22), .second, .val (.long x13_33), .second, .val (.int (0 : Int32)), .val (.int x16_59), .val (.int x17_66), .val (.int x16_59), .val (.ref b8), .val (.long m147_s0), .second, .val (.long x22_205), .second, .val (.long z), .second, .unset, .unset, .unset, .unset, .unset, .unset, .unset, .unset] [])) := ⟨_, rfl, fun t k => pre22 t (by
        show Steps p.tables e below (T15.setTop (mkF m 205 #[.val (.long q0), .second, .val (.long q1), .second, .val (.long q2), .second, .val (.long q3), .second, .val (.int p4), .val (.long x9_11), .second, .val (.long x11_22), .second, .val (.long x13_33), .second, .val (.int (0 : Int32)), .val (.int x16_59), .val (.int x17_66), .val (.int x16_59), .val (.ref b8), .val (.long m147_s0), .second, .val (.long x22_205), .second, .unset, .unset, .unset, .unset, .unset, .unset, .unset, .unset, .unset, .unset] [])) _
        refine XS.lload X15.here hx rfl (hb hby at_205) rfl ?_
        show Steps p.tables e below (T15.setTop (mkF m 207 #[.val (.long q0), .second, .val (.long q1), .second, .val (.long q2), .second, .val (.long q3), .second, .val (.int p4), .val (.long x9_11), .second, .val (.long x11_22), .second, .val (.long x13_33), .second, .val (.int (0 : Int32)), .val (.int x16_59), .val (.int x17_66), .val (.int x16_59), .val (.ref b8), .val (.long m147_s0), .second, .val (.long x22_205), .second, .unset, .unset, .unset, .unset, .unset, .unset, .unset, .unset, .unset, .unset] [(.long m147_s0)])) _
        refine XS.iload X15.here hx rfl (hb hby at_207) rfl ?_
        show Steps p.tables e below (T15.setTop (mkF m 209 #[.val (.long q0), .second, .val (.long q1), .second, .val (.long q2), .second, .val (.long q3), .second, .val (.int p4), .val (.long x9_11), .second, .val (.long x11_22), .second, .val (.long x13_33), .second, .val (.int (0 : Int32)), .val (.int x16_59), .val (.int x17_66), .val (.int x16_59), .val (.ref b8), .val (.long m147_s0), .second, .val (.long x22_205), .second, .unset, .unset, .unset, .unset, .unset, .unset, .unset, .unset, .unset, .unset] [(.int x16_59), (.long m147_s0)])) _
        refine XS.i2l X15.here hx rfl (hb hby at_209) rfl ?_
        show Steps p.tables e below (T15.setTop (mkF m 210 #[.val (.long q0), .second, .val (.long q1), .second, .val (.long q2), .second, .val (.long q3), .second, .val (.int p4), .val (.long x9_11), .second, .val (.long x11_22), .second, .val (.long x13_33), .second, .val (.int (0 : Int32)), .val (.int x16_59), .val (.int x17_66), .val (.int x16_59), .val (.ref b8), .val (.long m147_s0), .second, .val (.long x22_205), .second, .unset, .unset, .unset, .unset, .unset, .unset, .unset, .unset, .unset, .unset] [(.long (x16_59).toInt64), (.long m147_s0)])) _
        refine XS.ladd X15.here hx rfl (hb hby at_210) rfl ?_
        show Steps p.tables e below (T15.setTop (mkF m 211 #[.val (.long q0), .second, .val (.long q1), .second, .val (.long q2), .second, .val (.long q3), .second, .val (.int p4), .val (.long x9_11), .second, .val (.long x11_22), .second, .val (.long x13_33), .second, .val (.int (0 : Int32)), .val (.int x16_59), .val (.int x17_66), .val (.int x16_59), .val (.ref b8), .val (.long m147_s0), .second, .val (.long x22_205), .second, .unset, .unset, .unset, .unset, .unset, .unset, .unset, .unset, .unset, .unset] [(.long (m147_s0 + (x16_59).toInt64))])) _
        refine XS.lstore X15.here hx rfl (hb hby at_211) rfl (l' := #[.val (.long q0), .second, .val (.long q1), .second, .val (.long q2), .second, .val (.long q3), .second, .val (.int p4), .val (.long x9_11), .second, .val (.long x11_22), .second, .val (.long x13_33), .second, .val (.int (0 : Int32)), .val (.int x16_59), .val (.int x17_66), .val (.int x16_59), .val (.ref b8), .val (.long m147_s0), .second, .val (.long x22_205), .second, .val (.long (m147_s0 + (x16_59).toInt64)), .second, .unset, .unset, .unset, .unset, .unset, .unset, .unset, .unset]) rfl ?_
        exact k)⟩
    obtain ⟨x26_218, hx26_218, pre24⟩ : ∃ z : Int64, z = (x16_59).toInt64 ∧ own_Pre p e below (s₁.setTop (entryFrame m #[(.long q0), (.long q1), (.long q2), (.long q3), (.int p4)] maxLocals)) (T15.setTop (mkF m 218 #[.val (.long q0), .second, .val (.long q1), .second, .val (.long q2), .second, .val (.long q3), .second, .val (.int p4), .val (.long x9_11), .second, .val (.long x11_22), .second, .val (.long x13_33), .second, .val (.int (0 : Int32)), .val (.int x16_59), .val (.int x17_66), .val (.int x16_59), .val (.ref b8), .val (.long m147_s0), .second, .val (.long x22_205), .second, .val (.long x24_213), .second, .val (.long z), .second, .unset, .unset, .unset, .unset, .unset, .unset] [])) := ⟨_, rfl, fun t k => pre23 t (by
        show Steps p.tables e below (T15.setTop (mkF m 213 #[.val (.long q0), .second, .val (.long q1), .second, .val (.long q2), .second, .val (.long q3), .second, .val (.int p4), .val (.long x9_11), .second, .val (.long x11_22), .second, .val (.long x13_33), .second, .val (.int (0 : Int32)), .val (.int x16_59), .val (.int x17_66), .val (.int x16_59), .val (.ref b8), .val (.long m147_s0), .second, .val (.long x22_205), .second, .val (.long x24_213), .second, .unset, .unset, .unset, .unset, .unset, .unset, .unset, .unset] [])) _
        refine XS.iload X15.here hx rfl (hb hby at_213) rfl ?_
        show Steps p.tables e below (T15.setTop (mkF m 215 #[.val (.long q0), .second, .val (.long q1), .second, .val (.long q2), .second, .val (.long q3), .second, .val (.int p4), .val (.long x9_11), .second, .val (.long x11_22), .second, .val (.long x13_33), .second, .val (.int (0 : Int32)), .val (.int x16_59), .val (.int x17_66), .val (.int x16_59), .val (.ref b8), .val (.long m147_s0), .second, .val (.long x22_205), .second, .val (.long x24_213), .second, .unset, .unset, .unset, .unset, .unset, .unset, .unset, .unset] [(.int x16_59)])) _
        refine XS.i2l X15.here hx rfl (hb hby at_215) rfl ?_
        show Steps p.tables e below (T15.setTop (mkF m 216 #[.val (.long q0), .second, .val (.long q1), .second, .val (.long q2), .second, .val (.long q3), .second, .val (.int p4), .val (.long x9_11), .second, .val (.long x11_22), .second, .val (.long x13_33), .second, .val (.int (0 : Int32)), .val (.int x16_59), .val (.int x17_66), .val (.int x16_59), .val (.ref b8), .val (.long m147_s0), .second, .val (.long x22_205), .second, .val (.long x24_213), .second, .unset, .unset, .unset, .unset, .unset, .unset, .unset, .unset] [(.long (x16_59).toInt64)])) _
        refine XS.lstore X15.here hx rfl (hb hby at_216) rfl (l' := #[.val (.long q0), .second, .val (.long q1), .second, .val (.long q2), .second, .val (.long q3), .second, .val (.int p4), .val (.long x9_11), .second, .val (.long x11_22), .second, .val (.long x13_33), .second, .val (.int (0 : Int32)), .val (.int x16_59), .val (.int x17_66), .val (.int x16_59), .val (.ref b8), .val (.long m147_s0), .second, .val (.long x22_205), .second, .val (.long x24_213), .second, .val (.long (x16_59).toInt64), .second, .unset, .unset, .unset, .unset, .unset, .unset]) rfl ?_
        exact k)⟩
    have z26 : n0 ≤ (T15.heap).size := (Nat.le_trans z16 K15.1)
    obtain ⟨cq25, kq25, q25a, q25b, q25c⟩ := isOf hZ rfl po15_0
    obtain ⟨_, _, ⟨T25, L25, k25, n25⟩, -, X25, ⟨Lc25, hQ25, l25, y25, z25⟩, st25⟩ := X15.virtualBack hx (y := (⟨"com/example/hopchuan/hopchuan/ErrorCounter", "seconds", "()J"⟩ : MethodName)) (z := (⟨"com/example/hopchuan/hopchuan/ErrorCounter", "seconds", "()J"⟩ : MethodName)) hown (mvT hZ (hw _ (List.mem_of_getElem? (i := 76) rfl))) (mvT hZ (hw _ (List.mem_of_getElem? (i := 77) rfl))) (notFace_of_selects (args := #[]) (mvT hZ (hw _ (List.mem_of_getElem? (i := 79) rfl)))) (mvT hZ (hw _ (List.mem_of_getElem? (i := 79) rfl))) (mvT hZ (hw _ (List.mem_of_getElem? (i := 78) rfl))) (by decide) (backOf (W := 0) (rm12 l Z aw hw [] (b8) (u13_seconds) (T15.heap) n0 z26 po15_4) hZ (hw _ (List.mem_of_getElem? (i := 80) rfl)) (hw _ (List.mem_of_getElem? (i := 8) rfl)) (by decide) (by decide)) q25a q25c (g := (mkF m 226 #[.val (.long q0), .second, .val (.long q1), .second, .val (.long q2), .second, .val (.long q3), .second, .val (.int p4), .val (.long x9_11), .second, .val (.long x11_22), .second, .val (.long x13_33), .second, .val (.int (0 : Int32)), .val (.int x16_59), .val (.int x17_66), .val (.int x16_59), .val (.ref b8), .val (.long m147_s0), .second, .val (.long x22_205), .second, .val (.long x24_213), .second, .val (.long x26_218), .second, .val (.long (0 : Int64)), .second, .val (.long (0 : Int64)), .second, .unset, .unset] [(.ref b8)])) rfl (by rw [hml]; rfl) (Steps.refl _) (argsL := []) (rest := []) (lenOf pd_5 rfl) rfl (by show 2 * 0 + _ ≤ _; exact Nat.le_of_eq rfl) (hb hby at_226) (fun _ _ => ⟨rfl, rfl, (by decide : 1 + 0 ≤ _), (by decide : 13 + 0 ≤ _)⟩)
    dsimp only [Pt.U, Pt.locs, Pt.cells, Pt.slots] at X25 l25 y25 z25 st25 hQ25
    subst l25 y25 z25
    obtain ⟨rfl, Nq25, eq25⟩ := hQ25
    have N25 := Fr.app N15 Nq25
    have hc232 : (u13_seconds = x22_205) := by rw [hx22_205]; subst hu15_severelyErroredSeconds hu15_erroredSeconds hu13_pending hu13_seconds hu11_backgroundBlockErrors hu11_erroredSeconds; exact (own_sA _ hx16_59).1
    obtain ⟨cq27, kq27, q27a, q27b, q27c⟩ := isOf hZ eq25 po15_0
    obtain ⟨_, _, ⟨T27, L27, k27, n27⟩, -, X27, ⟨Lc27, hQ27, l27, y27, z27⟩, st27⟩ := X25.virtualBack hx (y := (⟨"com/example/hopchuan/hopchuan/ErrorCounter", "erroredSeconds", "()J"⟩ : MethodName)) (z := (⟨"com/example/hopchuan/hopchuan/ErrorCounter", "erroredSeconds", "()J"⟩ : MethodName)) hown (mvT hZ (hw _ (List.mem_of_getElem? (i := 81) rfl))) (mvT hZ (hw _ (List.mem_of_getElem? (i := 82) rfl))) (notFace_of_selects (args := #[]) (mvT hZ (hw _ (List.mem_of_getElem? (i := 84) rfl)))) (mvT hZ (hw _ (List.mem_of_getElem? (i := 84) rfl))) (mvT hZ (hw _ (List.mem_of_getElem? (i := 83) rfl))) (by decide) (backOf (W := 0) (rm13 l Z aw hw [] (b8) (u15_erroredSeconds) (T15.heap) n0 z26 po15_7) hZ (hw _ (List.mem_of_getElem? (i := 85) rfl)) (hw _ (List.mem_of_getElem? (i := 8) rfl)) (by decide) (by decide)) q27a q27c (g := (mkF m 237 #[.val (.long q0), .second, .val (.long q1), .second, .val (.long q2), .second, .val (.long q3), .second, .val (.int p4), .val (.long x9_11), .second, .val (.long x11_22), .second, .val (.long x13_33), .second, .val (.int (0 : Int32)), .val (.int x16_59), .val (.int x17_66), .val (.int x16_59), .val (.ref b8), .val (.long m147_s0), .second, .val (.long x22_205), .second, .val (.long x24_213), .second, .val (.long x26_218), .second, .val (.long (0 : Int64)), .second, .val (.long (0 : Int64)), .second, .unset, .unset] [(.ref b8)])) rfl (by rw [hml]; rfl) (Steps.refl _) (argsL := []) (rest := []) (lenOf pd_5 rfl) rfl (by show 2 * 0 + _ ≤ _; exact Nat.le_of_eq rfl) (hb hby at_237) (fun _ _ => ⟨rfl, eq25, (by decide : 1 + 0 ≤ _), (by decide : 13 + 0 ≤ _)⟩)
    dsimp only [Pt.U, Pt.locs, Pt.cells, Pt.slots] at X27 l27 y27 z27 st27 hQ27
    subst l27 y27 z27
    obtain ⟨rfl, Nq27, eq27⟩ := hQ27
    have N27 := Fr.app N25 Nq27
    have hc243 : (u15_erroredSeconds = x24_213) := by rw [hx24_213, hm147_s0]; subst hu15_severelyErroredSeconds hu15_erroredSeconds hu13_pending hu13_seconds hu11_backgroundBlockErrors hu11_erroredSeconds; rw [own_es, (own_sA _ hx16_59).2]
    obtain ⟨cq28, kq28, q28a, q28b, q28c⟩ := isOf hZ eq27 po15_0
    obtain ⟨_, _, ⟨T28, L28, k28, n28⟩, -, X28, ⟨Lc28, hQ28, l28, y28, z28⟩, st28⟩ := X27.virtualBack hx (y := (⟨"com/example/hopchuan/hopchuan/ErrorCounter", "severelyErroredSeconds", "()J"⟩ : MethodName)) (z := (⟨"com/example/hopchuan/hopchuan/ErrorCounter", "severelyErroredSeconds", "()J"⟩ : MethodName)) hown (mvT hZ (hw _ (List.mem_of_getElem? (i := 86) rfl))) (mvT hZ (hw _ (List.mem_of_getElem? (i := 87) rfl))) (notFace_of_selects (args := #[]) (mvT hZ (hw _ (List.mem_of_getElem? (i := 89) rfl)))) (mvT hZ (hw _ (List.mem_of_getElem? (i := 89) rfl))) (mvT hZ (hw _ (List.mem_of_getElem? (i := 88) rfl))) (by decide) (backOf (W := 0) (rm14 l Z aw hw [] (b8) (u15_severelyErroredSeconds) (T15.heap) n0 z26 po15_8) hZ (hw _ (List.mem_of_getElem? (i := 90) rfl)) (hw _ (List.mem_of_getElem? (i := 8) rfl)) (by decide) (by decide)) q28a q28c (g := (mkF m 248 #[.val (.long q0), .second, .val (.long q1), .second, .val (.long q2), .second, .val (.long q3), .second, .val (.int p4), .val (.long x9_11), .second, .val (.long x11_22), .second, .val (.long x13_33), .second, .val (.int (0 : Int32)), .val (.int x16_59), .val (.int x17_66), .val (.int x16_59), .val (.ref b8), .val (.long m147_s0), .second, .val (.long x22_205), .second, .val (.long x24_213), .second, .val (.long x26_218), .second, .val (.long (0 : Int64)), .second, .val (.long (0 : Int64)), .second, .unset, .unset] [(.ref b8)])) rfl (by rw [hml]; rfl) (Steps.refl _) (argsL := []) (rest := []) (lenOf pd_5 rfl) rfl (by show 2 * 0 + _ ≤ _; exact Nat.le_of_eq rfl) (hb hby at_248) (fun _ _ => ⟨rfl, eq27, (by decide : 1 + 0 ≤ _), (by decide : 13 + 0 ≤ _)⟩)
    dsimp only [Pt.U, Pt.locs, Pt.cells, Pt.slots] at X28 l28 y28 z28 st28 hQ28
    subst l28 y28 z28
    obtain ⟨rfl, Nq28, eq28⟩ := hQ28
    have N28 := Fr.app N27 Nq28
    have hc254 : (u15_severelyErroredSeconds = x26_218) := by rw [hx26_218]; subst hu15_severelyErroredSeconds hu15_erroredSeconds hu13_pending hu13_seconds hu11_backgroundBlockErrors hu11_erroredSeconds; rw [(own_sA _ hx16_59).2]; exact Int64.zero_add _
    obtain ⟨cq29, kq29, q29a, q29b, q29c⟩ := isOf hZ eq28 po15_0
    obtain ⟨_, _, ⟨T29, L29, k29, n29⟩, -, X29, ⟨Lc29, hQ29, l29, y29, z29⟩, st29⟩ := X28.virtualBack hx (y := (⟨"com/example/hopchuan/hopchuan/ErrorCounter", "backgroundBlockErrors", "()J"⟩ : MethodName)) (z := (⟨"com/example/hopchuan/hopchuan/ErrorCounter", "backgroundBlockErrors", "()J"⟩ : MethodName)) hown (mvT hZ (hw _ (List.mem_of_getElem? (i := 91) rfl))) (mvT hZ (hw _ (List.mem_of_getElem? (i := 92) rfl))) (notFace_of_selects (args := #[]) (mvT hZ (hw _ (List.mem_of_getElem? (i := 94) rfl)))) (mvT hZ (hw _ (List.mem_of_getElem? (i := 94) rfl))) (mvT hZ (hw _ (List.mem_of_getElem? (i := 93) rfl))) (by decide) (backOf (W := 0) (rm15 l Z aw hw [] (b8) (u11_backgroundBlockErrors) (T15.heap) n0 z26 po15_9) hZ (hw _ (List.mem_of_getElem? (i := 95) rfl)) (hw _ (List.mem_of_getElem? (i := 8) rfl)) (by decide) (by decide)) q29a q29c (g := (mkF m 259 #[.val (.long q0), .second, .val (.long q1), .second, .val (.long q2), .second, .val (.long q3), .second, .val (.int p4), .val (.long x9_11), .second, .val (.long x11_22), .second, .val (.long x13_33), .second, .val (.int (0 : Int32)), .val (.int x16_59), .val (.int x17_66), .val (.int x16_59), .val (.ref b8), .val (.long m147_s0), .second, .val (.long x22_205), .second, .val (.long x24_213), .second, .val (.long x26_218), .second, .val (.long (0 : Int64)), .second, .val (.long (0 : Int64)), .second, .unset, .unset] [(.ref b8)])) rfl (by rw [hml]; rfl) (Steps.refl _) (argsL := []) (rest := []) (lenOf pd_5 rfl) rfl (by show 2 * 0 + _ ≤ _; exact Nat.le_of_eq rfl) (hb hby at_259) (fun _ _ => ⟨rfl, eq28, (by decide : 1 + 0 ≤ _), (by decide : 13 + 0 ≤ _)⟩)
    dsimp only [Pt.U, Pt.locs, Pt.cells, Pt.slots] at X29 l29 y29 z29 st29 hQ29
    subst l29 y29 z29
    obtain ⟨rfl, Nq29, eq29⟩ := hQ29
    have N29 := Fr.app N28 Nq29
    have hc265 : (u11_backgroundBlockErrors = x11_22) := by subst hu15_severelyErroredSeconds hu15_erroredSeconds hu13_pending hu13_seconds hu11_backgroundBlockErrors hu11_erroredSeconds; exact own_bb _ _ _ hx11_22 hth
    obtain ⟨cq30, kq30, q30a, q30b, q30c⟩ := isOf hZ eq29 po15_0
    obtain ⟨_, _, ⟨T30, L30, k30, n30⟩, -, X30, ⟨Lc30, hQ30, l30, y30, z30⟩, st30⟩ := X29.virtualBack hx (y := (⟨"com/example/hopchuan/hopchuan/ErrorCounter", "unavailableSeconds", "()J"⟩ : MethodName)) (z := (⟨"com/example/hopchuan/hopchuan/ErrorCounter", "unavailableSeconds", "()J"⟩ : MethodName)) hown (mvT hZ (hw _ (List.mem_of_getElem? (i := 98) rfl))) (mvT hZ (hw _ (List.mem_of_getElem? (i := 99) rfl))) (notFace_of_selects (args := #[]) (mvT hZ (hw _ (List.mem_of_getElem? (i := 101) rfl)))) (mvT hZ (hw _ (List.mem_of_getElem? (i := 101) rfl))) (mvT hZ (hw _ (List.mem_of_getElem? (i := 100) rfl))) (by decide) (backOf (W := 0) (rm16 l Z aw hw [] (b8) ((0 : Int64)) (T15.heap) n0 z26 po15_5) hZ (hw _ (List.mem_of_getElem? (i := 102) rfl)) (hw _ (List.mem_of_getElem? (i := 8) rfl)) (by decide) (by decide)) q30a q30c (g := (mkF m 270 #[.val (.long q0), .second, .val (.long q1), .second, .val (.long q2), .second, .val (.long q3), .second, .val (.int p4), .val (.long x9_11), .second, .val (.long x11_22), .second, .val (.long x13_33), .second, .val (.int (0 : Int32)), .val (.int x16_59), .val (.int x17_66), .val (.int x16_59), .val (.ref b8), .val (.long m147_s0), .second, .val (.long x22_205), .second, .val (.long x24_213), .second, .val (.long x26_218), .second, .val (.long (0 : Int64)), .second, .val (.long (0 : Int64)), .second, .unset, .unset] [(.ref b8)])) rfl (by rw [hml]; rfl) (Steps.refl _) (argsL := []) (rest := []) (lenOf pd_5 rfl) rfl (by show 2 * 0 + _ ≤ _; exact Nat.le_of_eq rfl) (hb hby at_270) (fun _ _ => ⟨rfl, eq29, (by decide : 1 + 0 ≤ _), (by decide : 13 + 0 ≤ _)⟩)
    dsimp only [Pt.U, Pt.locs, Pt.cells, Pt.slots] at X30 l30 y30 z30 st30 hQ30
    subst l30 y30 z30
    obtain ⟨rfl, Nq30, eq30⟩ := hQ30
    have N30 := Fr.app N29 Nq30
    have hc276 : (((0 : Int64)) = (0 : Int64)) := rfl
    obtain ⟨cq31, kq31, q31a, q31b, q31c⟩ := isOf hZ eq30 po15_0
    obtain ⟨_, _, ⟨T31, L31, k31, n31⟩, -, X31, ⟨Lc31, hQ31, l31, y31, z31⟩, st31⟩ := X30.virtualBack hx (y := (⟨"com/example/hopchuan/hopchuan/ErrorCounter", "extendingPeriodSeconds", "()J"⟩ : MethodName)) (z := (⟨"com/example/hopchuan/hopchuan/ErrorCounter", "extendingPeriodSeconds", "()J"⟩ : MethodName)) hown (mvT hZ (hw _ (List.mem_of_getElem? (i := 103) rfl))) (mvT hZ (hw _ (List.mem_of_getElem? (i := 104) rfl))) (notFace_of_selects (args := #[]) (mvT hZ (hw _ (List.mem_of_getElem? (i := 106) rfl)))) (mvT hZ (hw _ (List.mem_of_getElem? (i := 106) rfl))) (mvT hZ (hw _ (List.mem_of_getElem? (i := 105) rfl))) (by decide) (backOf (W := 0) (rm17 l Z aw hw [] (b8) ((0 : Int64)) (T15.heap) n0 z26 po15_6) hZ (hw _ (List.mem_of_getElem? (i := 107) rfl)) (hw _ (List.mem_of_getElem? (i := 8) rfl)) (by decide) (by decide)) q31a q31c (g := (mkF m 281 #[.val (.long q0), .second, .val (.long q1), .second, .val (.long q2), .second, .val (.long q3), .second, .val (.int p4), .val (.long x9_11), .second, .val (.long x11_22), .second, .val (.long x13_33), .second, .val (.int (0 : Int32)), .val (.int x16_59), .val (.int x17_66), .val (.int x16_59), .val (.ref b8), .val (.long m147_s0), .second, .val (.long x22_205), .second, .val (.long x24_213), .second, .val (.long x26_218), .second, .val (.long (0 : Int64)), .second, .val (.long (0 : Int64)), .second, .unset, .unset] [(.ref b8)])) rfl (by rw [hml]; rfl) (Steps.refl _) (argsL := []) (rest := []) (lenOf pd_5 rfl) rfl (by show 2 * 0 + _ ≤ _; exact Nat.le_of_eq rfl) (hb hby at_281) (fun _ _ => ⟨rfl, eq30, (by decide : 1 + 0 ≤ _), (by decide : 13 + 0 ≤ _)⟩)
    dsimp only [Pt.U, Pt.locs, Pt.cells, Pt.slots] at X31 l31 y31 z31 st31 hQ31
    subst l31 y31 z31
    obtain ⟨rfl, Nq31, eq31⟩ := hQ31
    have N31 := Fr.app N30 Nq31
    have hc287 : (((0 : Int64)) = (0 : Int64)) := rfl
    obtain ⟨fs, hr, hrun, hended, hW, hsame⟩ := X31.leave (v := some (.int (1 : Int32))) (fun h => by rw [Bd.returns] at h; cases h)
    refine ⟨_, _, pre24 _ ?_, hrun, hended, _, _, rfl, ?_, ⟨_, rfl⟩, hW, hsame.mono (by decide) (by decide)⟩
    · show Steps p.tables e below (T15.setTop (mkF m 218 #[.val (.long q0), .second, .val (.long q1), .second, .val (.long q2), .second, .val (.long q3), .second, .val (.int p4), .val (.long x9_11), .second, .val (.long x11_22), .second, .val (.long x13_33), .second, .val (.int (0 : Int32)), .val (.int x16_59), .val (.int x17_66), .val (.int x16_59), .val (.ref b8), .val (.long m147_s0), .second, .val (.long x22_205), .second, .val (.long x24_213), .second, .val (.long x26_218), .second, .unset, .unset, .unset, .unset, .unset, .unset] [])) _
      refine XS.lconst X15.here hx rfl (hb hby at_218) ?_
      show Steps p.tables e below (T15.setTop (mkF m 219 #[.val (.long q0), .second, .val (.long q1), .second, .val (.long q2), .second, .val (.long q3), .second, .val (.int p4), .val (.long x9_11), .second, .val (.long x11_22), .second, .val (.long x13_33), .second, .val (.int (0 : Int32)), .val (.int x16_59), .val (.int x17_66), .val (.int x16_59), .val (.ref b8), .val (.long m147_s0), .second, .val (.long x22_205), .second, .val (.long x24_213), .second, .val (.long x26_218), .second, .unset, .unset, .unset, .unset, .unset, .unset] [(.long (0 : Int64))])) _
      refine XS.lstore X15.here hx rfl (hb hby at_219) rfl (l' := #[.val (.long q0), .second, .val (.long q1), .second, .val (.long q2), .second, .val (.long q3), .second, .val (.int p4), .val (.long x9_11), .second, .val (.long x11_22), .second, .val (.long x13_33), .second, .val (.int (0 : Int32)), .val (.int x16_59), .val (.int x17_66), .val (.int x16_59), .val (.ref b8), .val (.long m147_s0), .second, .val (.long x22_205), .second, .val (.long x24_213), .second, .val (.long x26_218), .second, .val (.long (0 : Int64)), .second, .unset, .unset, .unset, .unset]) rfl ?_
      show Steps p.tables e below (T15.setTop (mkF m 221 #[.val (.long q0), .second, .val (.long q1), .second, .val (.long q2), .second, .val (.long q3), .second, .val (.int p4), .val (.long x9_11), .second, .val (.long x11_22), .second, .val (.long x13_33), .second, .val (.int (0 : Int32)), .val (.int x16_59), .val (.int x17_66), .val (.int x16_59), .val (.ref b8), .val (.long m147_s0), .second, .val (.long x22_205), .second, .val (.long x24_213), .second, .val (.long x26_218), .second, .val (.long (0 : Int64)), .second, .unset, .unset, .unset, .unset] [])) _
      refine XS.lconst X15.here hx rfl (hb hby at_221) ?_
      show Steps p.tables e below (T15.setTop (mkF m 222 #[.val (.long q0), .second, .val (.long q1), .second, .val (.long q2), .second, .val (.long q3), .second, .val (.int p4), .val (.long x9_11), .second, .val (.long x11_22), .second, .val (.long x13_33), .second, .val (.int (0 : Int32)), .val (.int x16_59), .val (.int x17_66), .val (.int x16_59), .val (.ref b8), .val (.long m147_s0), .second, .val (.long x22_205), .second, .val (.long x24_213), .second, .val (.long x26_218), .second, .val (.long (0 : Int64)), .second, .unset, .unset, .unset, .unset] [(.long (0 : Int64))])) _
      refine XS.lstore X15.here hx rfl (hb hby at_222) rfl (l' := #[.val (.long q0), .second, .val (.long q1), .second, .val (.long q2), .second, .val (.long q3), .second, .val (.int p4), .val (.long x9_11), .second, .val (.long x11_22), .second, .val (.long x13_33), .second, .val (.int (0 : Int32)), .val (.int x16_59), .val (.int x17_66), .val (.int x16_59), .val (.ref b8), .val (.long m147_s0), .second, .val (.long x22_205), .second, .val (.long x24_213), .second, .val (.long x26_218), .second, .val (.long (0 : Int64)), .second, .val (.long (0 : Int64)), .second, .unset, .unset]) rfl ?_
      show Steps p.tables e below (T15.setTop (mkF m 224 #[.val (.long q0), .second, .val (.long q1), .second, .val (.long q2), .second, .val (.long q3), .second, .val (.int p4), .val (.long x9_11), .second, .val (.long x11_22), .second, .val (.long x13_33), .second, .val (.int (0 : Int32)), .val (.int x16_59), .val (.int x17_66), .val (.int x16_59), .val (.ref b8), .val (.long m147_s0), .second, .val (.long x22_205), .second, .val (.long x24_213), .second, .val (.long x26_218), .second, .val (.long (0 : Int64)), .second, .val (.long (0 : Int64)), .second, .unset, .unset] [])) _
      refine XS.aload X15.here hx rfl (hb hby at_224) rfl rfl ?_
      show Steps p.tables e below (T15.setTop (mkF m 226 #[.val (.long q0), .second, .val (.long q1), .second, .val (.long q2), .second, .val (.long q3), .second, .val (.int p4), .val (.long x9_11), .second, .val (.long x11_22), .second, .val (.long x13_33), .second, .val (.int (0 : Int32)), .val (.int x16_59), .val (.int x17_66), .val (.int x16_59), .val (.ref b8), .val (.long m147_s0), .second, .val (.long x22_205), .second, .val (.long x24_213), .second, .val (.long x26_218), .second, .val (.long (0 : Int64)), .second, .val (.long (0 : Int64)), .second, .unset, .unset] [(.ref b8)])) _
      refine st25.trans ?_
      show Steps p.tables e below (T25.setTop (mkF m 229 #[.val (.long q0), .second, .val (.long q1), .second, .val (.long q2), .second, .val (.long q3), .second, .val (.int p4), .val (.long x9_11), .second, .val (.long x11_22), .second, .val (.long x13_33), .second, .val (.int (0 : Int32)), .val (.int x16_59), .val (.int x17_66), .val (.int x16_59), .val (.ref b8), .val (.long m147_s0), .second, .val (.long x22_205), .second, .val (.long x24_213), .second, .val (.long x26_218), .second, .val (.long (0 : Int64)), .second, .val (.long (0 : Int64)), .second, .unset, .unset] [(.long u13_seconds)])) _
      refine XS.lload X25.here hx rfl (hb hby at_229) rfl ?_
      show Steps p.tables e below (T25.setTop (mkF m 231 #[.val (.long q0), .second, .val (.long q1), .second, .val (.long q2), .second, .val (.long q3), .second, .val (.int p4), .val (.long x9_11), .second, .val (.long x11_22), .second, .val (.long x13_33), .second, .val (.int (0 : Int32)), .val (.int x16_59), .val (.int x17_66), .val (.int x16_59), .val (.ref b8), .val (.long m147_s0), .second, .val (.long x22_205), .second, .val (.long x24_213), .second, .val (.long x26_218), .second, .val (.long (0 : Int64)), .second, .val (.long (0 : Int64)), .second, .unset, .unset] [(.long x22_205), (.long u13_seconds)])) _
      refine XS.lcmp X25.here hx rfl (hb hby at_231) rfl ?_
      show Steps p.tables e below (T25.setTop (mkF m 232 #[.val (.long q0), .second, .val (.long q1), .second, .val (.long q2), .second, .val (.long q3), .second, .val (.int p4), .val (.long x9_11), .second, .val (.long x11_22), .second, .val (.long x13_33), .second, .val (.int (0 : Int32)), .val (.int x16_59), .val (.int x17_66), .val (.int x16_59), .val (.ref b8), .val (.long m147_s0), .second, .val (.long x22_205), .second, .val (.long x24_213), .second, .val (.long x26_218), .second, .val (.long (0 : Int64)), .second, .val (.long (0 : Int64)), .second, .unset, .unset] [(.int (lcmpW u13_seconds x22_205))])) _
      refine XS.ifNo X25.here hx rfl (hb hby at_232) rfl ((if0 _ _).trans (teq ((lw_eq _ _).mpr hc232)).2) ?_
      show Steps p.tables e below (T25.setTop (mkF m 235 #[.val (.long q0), .second, .val (.long q1), .second, .val (.long q2), .second, .val (.long q3), .second, .val (.int p4), .val (.long x9_11), .second, .val (.long x11_22), .second, .val (.long x13_33), .second, .val (.int (0 : Int32)), .val (.int x16_59), .val (.int x17_66), .val (.int x16_59), .val (.ref b8), .val (.long m147_s0), .second, .val (.long x22_205), .second, .val (.long x24_213), .second, .val (.long x26_218), .second, .val (.long (0 : Int64)), .second, .val (.long (0 : Int64)), .second, .unset, .unset] [])) _
      refine XS.aload X25.here hx rfl (hb hby at_235) rfl rfl ?_
      show Steps p.tables e below (T25.setTop (mkF m 237 #[.val (.long q0), .second, .val (.long q1), .second, .val (.long q2), .second, .val (.long q3), .second, .val (.int p4), .val (.long x9_11), .second, .val (.long x11_22), .second, .val (.long x13_33), .second, .val (.int (0 : Int32)), .val (.int x16_59), .val (.int x17_66), .val (.int x16_59), .val (.ref b8), .val (.long m147_s0), .second, .val (.long x22_205), .second, .val (.long x24_213), .second, .val (.long x26_218), .second, .val (.long (0 : Int64)), .second, .val (.long (0 : Int64)), .second, .unset, .unset] [(.ref b8)])) _
      refine st27.trans ?_
      show Steps p.tables e below (T27.setTop (mkF m 240 #[.val (.long q0), .second, .val (.long q1), .second, .val (.long q2), .second, .val (.long q3), .second, .val (.int p4), .val (.long x9_11), .second, .val (.long x11_22), .second, .val (.long x13_33), .second, .val (.int (0 : Int32)), .val (.int x16_59), .val (.int x17_66), .val (.int x16_59), .val (.ref b8), .val (.long m147_s0), .second, .val (.long x22_205), .second, .val (.long x24_213), .second, .val (.long x26_218), .second, .val (.long (0 : Int64)), .second, .val (.long (0 : Int64)), .second, .unset, .unset] [(.long u15_erroredSeconds)])) _
      refine XS.lload X27.here hx rfl (hb hby at_240) rfl ?_
      show Steps p.tables e below (T27.setTop (mkF m 242 #[.val (.long q0), .second, .val (.long q1), .second, .val (.long q2), .second, .val (.long q3), .second, .val (.int p4), .val (.long x9_11), .second, .val (.long x11_22), .second, .val (.long x13_33), .second, .val (.int (0 : Int32)), .val (.int x16_59), .val (.int x17_66), .val (.int x16_59), .val (.ref b8), .val (.long m147_s0), .second, .val (.long x22_205), .second, .val (.long x24_213), .second, .val (.long x26_218), .second, .val (.long (0 : Int64)), .second, .val (.long (0 : Int64)), .second, .unset, .unset] [(.long x24_213), (.long u15_erroredSeconds)])) _
      refine XS.lcmp X27.here hx rfl (hb hby at_242) rfl ?_
      show Steps p.tables e below (T27.setTop (mkF m 243 #[.val (.long q0), .second, .val (.long q1), .second, .val (.long q2), .second, .val (.long q3), .second, .val (.int p4), .val (.long x9_11), .second, .val (.long x11_22), .second, .val (.long x13_33), .second, .val (.int (0 : Int32)), .val (.int x16_59), .val (.int x17_66), .val (.int x16_59), .val (.ref b8), .val (.long m147_s0), .second, .val (.long x22_205), .second, .val (.long x24_213), .second, .val (.long x26_218), .second, .val (.long (0 : Int64)), .second, .val (.long (0 : Int64)), .second, .unset, .unset] [(.int (lcmpW u15_erroredSeconds x24_213))])) _
      refine XS.ifNo X27.here hx rfl (hb hby at_243) rfl ((if0 _ _).trans (teq ((lw_eq _ _).mpr hc243)).2) ?_
      show Steps p.tables e below (T27.setTop (mkF m 246 #[.val (.long q0), .second, .val (.long q1), .second, .val (.long q2), .second, .val (.long q3), .second, .val (.int p4), .val (.long x9_11), .second, .val (.long x11_22), .second, .val (.long x13_33), .second, .val (.int (0 : Int32)), .val (.int x16_59), .val (.int x17_66), .val (.int x16_59), .val (.ref b8), .val (.long m147_s0), .second, .val (.long x22_205), .second, .val (.long x24_213), .second, .val (.long x26_218), .second, .val (.long (0 : Int64)), .second, .val (.long (0 : Int64)), .second, .unset, .unset] [])) _
      refine XS.aload X27.here hx rfl (hb hby at_246) rfl rfl ?_
      show Steps p.tables e below (T27.setTop (mkF m 248 #[.val (.long q0), .second, .val (.long q1), .second, .val (.long q2), .second, .val (.long q3), .second, .val (.int p4), .val (.long x9_11), .second, .val (.long x11_22), .second, .val (.long x13_33), .second, .val (.int (0 : Int32)), .val (.int x16_59), .val (.int x17_66), .val (.int x16_59), .val (.ref b8), .val (.long m147_s0), .second, .val (.long x22_205), .second, .val (.long x24_213), .second, .val (.long x26_218), .second, .val (.long (0 : Int64)), .second, .val (.long (0 : Int64)), .second, .unset, .unset] [(.ref b8)])) _
      refine st28.trans ?_
      show Steps p.tables e below (T28.setTop (mkF m 251 #[.val (.long q0), .second, .val (.long q1), .second, .val (.long q2), .second, .val (.long q3), .second, .val (.int p4), .val (.long x9_11), .second, .val (.long x11_22), .second, .val (.long x13_33), .second, .val (.int (0 : Int32)), .val (.int x16_59), .val (.int x17_66), .val (.int x16_59), .val (.ref b8), .val (.long m147_s0), .second, .val (.long x22_205), .second, .val (.long x24_213), .second, .val (.long x26_218), .second, .val (.long (0 : Int64)), .second, .val (.long (0 : Int64)), .second, .unset, .unset] [(.long u15_severelyErroredSeconds)])) _
      refine XS.lload X28.here hx rfl (hb hby at_251) rfl ?_
      show Steps p.tables e below (T28.setTop (mkF m 253 #[.val (.long q0), .second, .val (.long q1), .second, .val (.long q2), .second, .val (.long q3), .second, .val (.int p4), .val (.long x9_11), .second, .val (.long x11_22), .second, .val (.long x13_33), .second, .val (.int (0 : Int32)), .val (.int x16_59), .val (.int x17_66), .val (.int x16_59), .val (.ref b8), .val (.long m147_s0), .second, .val (.long x22_205), .second, .val (.long x24_213), .second, .val (.long x26_218), .second, .val (.long (0 : Int64)), .second, .val (.long (0 : Int64)), .second, .unset, .unset] [(.long x26_218), (.long u15_severelyErroredSeconds)])) _
      refine XS.lcmp X28.here hx rfl (hb hby at_253) rfl ?_
      show Steps p.tables e below (T28.setTop (mkF m 254 #[.val (.long q0), .second, .val (.long q1), .second, .val (.long q2), .second, .val (.long q3), .second, .val (.int p4), .val (.long x9_11), .second, .val (.long x11_22), .second, .val (.long x13_33), .second, .val (.int (0 : Int32)), .val (.int x16_59), .val (.int x17_66), .val (.int x16_59), .val (.ref b8), .val (.long m147_s0), .second, .val (.long x22_205), .second, .val (.long x24_213), .second, .val (.long x26_218), .second, .val (.long (0 : Int64)), .second, .val (.long (0 : Int64)), .second, .unset, .unset] [(.int (lcmpW u15_severelyErroredSeconds x26_218))])) _
      refine XS.ifNo X28.here hx rfl (hb hby at_254) rfl ((if0 _ _).trans (teq ((lw_eq _ _).mpr hc254)).2) ?_
      show Steps p.tables e below (T28.setTop (mkF m 257 #[.val (.long q0), .second, .val (.long q1), .second, .val (.long q2), .second, .val (.long q3), .second, .val (.int p4), .val (.long x9_11), .second, .val (.long x11_22), .second, .val (.long x13_33), .second, .val (.int (0 : Int32)), .val (.int x16_59), .val (.int x17_66), .val (.int x16_59), .val (.ref b8), .val (.long m147_s0), .second, .val (.long x22_205), .second, .val (.long x24_213), .second, .val (.long x26_218), .second, .val (.long (0 : Int64)), .second, .val (.long (0 : Int64)), .second, .unset, .unset] [])) _
      refine XS.aload X28.here hx rfl (hb hby at_257) rfl rfl ?_
      show Steps p.tables e below (T28.setTop (mkF m 259 #[.val (.long q0), .second, .val (.long q1), .second, .val (.long q2), .second, .val (.long q3), .second, .val (.int p4), .val (.long x9_11), .second, .val (.long x11_22), .second, .val (.long x13_33), .second, .val (.int (0 : Int32)), .val (.int x16_59), .val (.int x17_66), .val (.int x16_59), .val (.ref b8), .val (.long m147_s0), .second, .val (.long x22_205), .second, .val (.long x24_213), .second, .val (.long x26_218), .second, .val (.long (0 : Int64)), .second, .val (.long (0 : Int64)), .second, .unset, .unset] [(.ref b8)])) _
      refine st29.trans ?_
      show Steps p.tables e below (T29.setTop (mkF m 262 #[.val (.long q0), .second, .val (.long q1), .second, .val (.long q2), .second, .val (.long q3), .second, .val (.int p4), .val (.long x9_11), .second, .val (.long x11_22), .second, .val (.long x13_33), .second, .val (.int (0 : Int32)), .val (.int x16_59), .val (.int x17_66), .val (.int x16_59), .val (.ref b8), .val (.long m147_s0), .second, .val (.long x22_205), .second, .val (.long x24_213), .second, .val (.long x26_218), .second, .val (.long (0 : Int64)), .second, .val (.long (0 : Int64)), .second, .unset, .unset] [(.long u11_backgroundBlockErrors)])) _
      refine XS.lload X29.here hx rfl (hb hby at_262) rfl ?_
      show Steps p.tables e below (T29.setTop (mkF m 264 #[.val (.long q0), .second, .val (.long q1), .second, .val (.long q2), .second, .val (.long q3), .second, .val (.int p4), .val (.long x9_11), .second, .val (.long x11_22), .second, .val (.long x13_33), .second, .val (.int (0 : Int32)), .val (.int x16_59), .val (.int x17_66), .val (.int x16_59), .val (.ref b8), .val (.long m147_s0), .second, .val (.long x22_205), .second, .val (.long x24_213), .second, .val (.long x26_218), .second, .val (.long (0 : Int64)), .second, .val (.long (0 : Int64)), .second, .unset, .unset] [(.long x11_22), (.long u11_backgroundBlockErrors)])) _
      refine XS.lcmp X29.here hx rfl (hb hby at_264) rfl ?_
      show Steps p.tables e below (T29.setTop (mkF m 265 #[.val (.long q0), .second, .val (.long q1), .second, .val (.long q2), .second, .val (.long q3), .second, .val (.int p4), .val (.long x9_11), .second, .val (.long x11_22), .second, .val (.long x13_33), .second, .val (.int (0 : Int32)), .val (.int x16_59), .val (.int x17_66), .val (.int x16_59), .val (.ref b8), .val (.long m147_s0), .second, .val (.long x22_205), .second, .val (.long x24_213), .second, .val (.long x26_218), .second, .val (.long (0 : Int64)), .second, .val (.long (0 : Int64)), .second, .unset, .unset] [(.int (lcmpW u11_backgroundBlockErrors x11_22))])) _
      refine XS.ifNo X29.here hx rfl (hb hby at_265) rfl ((if0 _ _).trans (teq ((lw_eq _ _).mpr hc265)).2) ?_
      show Steps p.tables e below (T29.setTop (mkF m 268 #[.val (.long q0), .second, .val (.long q1), .second, .val (.long q2), .second, .val (.long q3), .second, .val (.int p4), .val (.long x9_11), .second, .val (.long x11_22), .second, .val (.long x13_33), .second, .val (.int (0 : Int32)), .val (.int x16_59), .val (.int x17_66), .val (.int x16_59), .val (.ref b8), .val (.long m147_s0), .second, .val (.long x22_205), .second, .val (.long x24_213), .second, .val (.long x26_218), .second, .val (.long (0 : Int64)), .second, .val (.long (0 : Int64)), .second, .unset, .unset] [])) _
      refine XS.aload X29.here hx rfl (hb hby at_268) rfl rfl ?_
      show Steps p.tables e below (T29.setTop (mkF m 270 #[.val (.long q0), .second, .val (.long q1), .second, .val (.long q2), .second, .val (.long q3), .second, .val (.int p4), .val (.long x9_11), .second, .val (.long x11_22), .second, .val (.long x13_33), .second, .val (.int (0 : Int32)), .val (.int x16_59), .val (.int x17_66), .val (.int x16_59), .val (.ref b8), .val (.long m147_s0), .second, .val (.long x22_205), .second, .val (.long x24_213), .second, .val (.long x26_218), .second, .val (.long (0 : Int64)), .second, .val (.long (0 : Int64)), .second, .unset, .unset] [(.ref b8)])) _
      refine st30.trans ?_
      show Steps p.tables e below (T30.setTop (mkF m 273 #[.val (.long q0), .second, .val (.long q1), .second, .val (.long q2), .second, .val (.long q3), .second, .val (.int p4), .val (.long x9_11), .second, .val (.long x11_22), .second, .val (.long x13_33), .second, .val (.int (0 : Int32)), .val (.int x16_59), .val (.int x17_66), .val (.int x16_59), .val (.ref b8), .val (.long m147_s0), .second, .val (.long x22_205), .second, .val (.long x24_213), .second, .val (.long x26_218), .second, .val (.long (0 : Int64)), .second, .val (.long (0 : Int64)), .second, .unset, .unset] [(.long ((0 : Int64)))])) _
      refine XS.lload X30.here hx rfl (hb hby at_273) rfl ?_
      show Steps p.tables e below (T30.setTop (mkF m 275 #[.val (.long q0), .second, .val (.long q1), .second, .val (.long q2), .second, .val (.long q3), .second, .val (.int p4), .val (.long x9_11), .second, .val (.long x11_22), .second, .val (.long x13_33), .second, .val (.int (0 : Int32)), .val (.int x16_59), .val (.int x17_66), .val (.int x16_59), .val (.ref b8), .val (.long m147_s0), .second, .val (.long x22_205), .second, .val (.long x24_213), .second, .val (.long x26_218), .second, .val (.long (0 : Int64)), .second, .val (.long (0 : Int64)), .second, .unset, .unset] [(.long (0 : Int64)), (.long ((0 : Int64)))])) _
      refine XS.lcmp X30.here hx rfl (hb hby at_275) rfl ?_
      show Steps p.tables e below (T30.setTop (mkF m 276 #[.val (.long q0), .second, .val (.long q1), .second, .val (.long q2), .second, .val (.long q3), .second, .val (.int p4), .val (.long x9_11), .second, .val (.long x11_22), .second, .val (.long x13_33), .second, .val (.int (0 : Int32)), .val (.int x16_59), .val (.int x17_66), .val (.int x16_59), .val (.ref b8), .val (.long m147_s0), .second, .val (.long x22_205), .second, .val (.long x24_213), .second, .val (.long x26_218), .second, .val (.long (0 : Int64)), .second, .val (.long (0 : Int64)), .second, .unset, .unset] [(.int (lcmpW ((0 : Int64)) (0 : Int64)))])) _
      refine XS.ifNo X30.here hx rfl (hb hby at_276) rfl ((if0 _ _).trans (teq ((lw_eq _ _).mpr hc276)).2) ?_
      show Steps p.tables e below (T30.setTop (mkF m 279 #[.val (.long q0), .second, .val (.long q1), .second, .val (.long q2), .second, .val (.long q3), .second, .val (.int p4), .val (.long x9_11), .second, .val (.long x11_22), .second, .val (.long x13_33), .second, .val (.int (0 : Int32)), .val (.int x16_59), .val (.int x17_66), .val (.int x16_59), .val (.ref b8), .val (.long m147_s0), .second, .val (.long x22_205), .second, .val (.long x24_213), .second, .val (.long x26_218), .second, .val (.long (0 : Int64)), .second, .val (.long (0 : Int64)), .second, .unset, .unset] [])) _
      refine XS.aload X30.here hx rfl (hb hby at_279) rfl rfl ?_
      show Steps p.tables e below (T30.setTop (mkF m 281 #[.val (.long q0), .second, .val (.long q1), .second, .val (.long q2), .second, .val (.long q3), .second, .val (.int p4), .val (.long x9_11), .second, .val (.long x11_22), .second, .val (.long x13_33), .second, .val (.int (0 : Int32)), .val (.int x16_59), .val (.int x17_66), .val (.int x16_59), .val (.ref b8), .val (.long m147_s0), .second, .val (.long x22_205), .second, .val (.long x24_213), .second, .val (.long x26_218), .second, .val (.long (0 : Int64)), .second, .val (.long (0 : Int64)), .second, .unset, .unset] [(.ref b8)])) _
      refine st31.trans ?_
      show Steps p.tables e below (T31.setTop (mkF m 284 #[.val (.long q0), .second, .val (.long q1), .second, .val (.long q2), .second, .val (.long q3), .second, .val (.int p4), .val (.long x9_11), .second, .val (.long x11_22), .second, .val (.long x13_33), .second, .val (.int (0 : Int32)), .val (.int x16_59), .val (.int x17_66), .val (.int x16_59), .val (.ref b8), .val (.long m147_s0), .second, .val (.long x22_205), .second, .val (.long x24_213), .second, .val (.long x26_218), .second, .val (.long (0 : Int64)), .second, .val (.long (0 : Int64)), .second, .unset, .unset] [(.long ((0 : Int64)))])) _
      refine XS.lload X31.here hx rfl (hb hby at_284) rfl ?_
      show Steps p.tables e below (T31.setTop (mkF m 286 #[.val (.long q0), .second, .val (.long q1), .second, .val (.long q2), .second, .val (.long q3), .second, .val (.int p4), .val (.long x9_11), .second, .val (.long x11_22), .second, .val (.long x13_33), .second, .val (.int (0 : Int32)), .val (.int x16_59), .val (.int x17_66), .val (.int x16_59), .val (.ref b8), .val (.long m147_s0), .second, .val (.long x22_205), .second, .val (.long x24_213), .second, .val (.long x26_218), .second, .val (.long (0 : Int64)), .second, .val (.long (0 : Int64)), .second, .unset, .unset] [(.long (0 : Int64)), (.long ((0 : Int64)))])) _
      refine XS.lcmp X31.here hx rfl (hb hby at_286) rfl ?_
      show Steps p.tables e below (T31.setTop (mkF m 287 #[.val (.long q0), .second, .val (.long q1), .second, .val (.long q2), .second, .val (.long q3), .second, .val (.int p4), .val (.long x9_11), .second, .val (.long x11_22), .second, .val (.long x13_33), .second, .val (.int (0 : Int32)), .val (.int x16_59), .val (.int x17_66), .val (.int x16_59), .val (.ref b8), .val (.long m147_s0), .second, .val (.long x22_205), .second, .val (.long x24_213), .second, .val (.long x26_218), .second, .val (.long (0 : Int64)), .second, .val (.long (0 : Int64)), .second, .unset, .unset] [(.int (lcmpW ((0 : Int64)) (0 : Int64)))])) _
      refine XS.ifNo X31.here hx rfl (hb hby at_287) rfl ((if0 _ _).trans (teq ((lw_eq _ _).mpr hc287)).2) ?_
      show Steps p.tables e below (T31.setTop (mkF m 290 #[.val (.long q0), .second, .val (.long q1), .second, .val (.long q2), .second, .val (.long q3), .second, .val (.int p4), .val (.long x9_11), .second, .val (.long x11_22), .second, .val (.long x13_33), .second, .val (.int (0 : Int32)), .val (.int x16_59), .val (.int x17_66), .val (.int x16_59), .val (.ref b8), .val (.long m147_s0), .second, .val (.long x22_205), .second, .val (.long x24_213), .second, .val (.long x26_218), .second, .val (.long (0 : Int64)), .second, .val (.long (0 : Int64)), .second, .unset, .unset] [])) _
      refine XS.iconst X31.here hx rfl (hb hby at_290) ?_
      show Steps p.tables e below (T31.setTop (mkF m 291 #[.val (.long q0), .second, .val (.long q1), .second, .val (.long q2), .second, .val (.long q3), .second, .val (.int p4), .val (.long x9_11), .second, .val (.long x11_22), .second, .val (.long x13_33), .second, .val (.int (0 : Int32)), .val (.int x16_59), .val (.int x17_66), .val (.int x16_59), .val (.ref b8), .val (.long m147_s0), .second, .val (.long x22_205), .second, .val (.long x24_213), .second, .val (.long x26_218), .second, .val (.long (0 : Int64)), .second, .val (.long (0 : Int64)), .second, .unset, .unset] [(.int (1 : Int32))])) _
      refine XS.goto X31.here hx rfl (pc0 := 291) (pc' := 295) rfl (hb hby at_291) (by decide) (by decide) ?_
      show Steps p.tables e below (T31.setTop (mkF m 295 #[.val (.long q0), .second, .val (.long q1), .second, .val (.long q2), .second, .val (.long q3), .second, .val (.int p4), .val (.long x9_11), .second, .val (.long x11_22), .second, .val (.long x13_33), .second, .val (.int (0 : Int32)), .val (.int x16_59), .val (.int x17_66), .val (.int x16_59), .val (.ref b8), .val (.long m147_s0), .second, .val (.long x22_205), .second, .val (.long x24_213), .second, .val (.long x26_218), .second, .val (.long (0 : Int64)), .second, .val (.long (0 : Int64)), .second, .unset, .unset] [(.int (1 : Int32))])) _
      exact retN X31 hx (t := .boolean) Bd.returns (by simp) (hb hby at_295) hr
    · show Q0 Z q0 q1 q2 q3 p4 h0 n0 _ T31.heap _
      rw [eq31]
      unfold Q0
      refine ⟨rfl, N31⟩
  · obtain ⟨x16_59, hx16_59, pre32⟩ : ∃ z : Int32, z = ((((p4).toUInt32 >>> ((1 : Int32) &&& 31).toUInt32).toInt32 &&& (2147483647 : Int32)) % (10 : Int32)) ∧ own_Pre p e below (s₁.setTop (entryFrame m #[(.long q0), (.long q1), (.long q2), (.long q3), (.int p4)] maxLocals)) (T1.setTop (mkF m 59 #[.val (.long q0), .second, .val (.long q1), .second, .val (.long q2), .second, .val (.long q3), .second, .val (.int p4), .val (.long x9_11), .second, .val (.long x11_22), .second, .val (.long x13_33), .second, .val (.int (1 : Int32)), .val (.int z), .unset, .unset, .unset, .unset, .unset, .unset, .unset, .unset, .unset, .unset, .unset, .unset, .unset, .unset, .unset, .unset, .unset] [])) := ⟨_, rfl, fun t k => pre5 t (by
        show Steps p.tables e below (T1.setTop (mkF m 37 #[.val (.long q0), .second, .val (.long q1), .second, .val (.long q2), .second, .val (.long q3), .second, .val (.int p4), .val (.long x9_11), .second, .val (.long x11_22), .second, .val (.long x13_33), .second, .unset, .unset, .unset, .unset, .unset, .unset, .unset, .unset, .unset, .unset, .unset, .unset, .unset, .unset, .unset, .unset, .unset, .unset, .unset] [(.int (p4 &&& (1 : Int32)))])) _
        refine XS.ifNo X1.here hx rfl (hb hby at_37) rfl ((if0 _ _).trans (feq hc37).1) ?_
        show Steps p.tables e below (T1.setTop (mkF m 40 #[.val (.long q0), .second, .val (.long q1), .second, .val (.long q2), .second, .val (.long q3), .second, .val (.int p4), .val (.long x9_11), .second, .val (.long x11_22), .second, .val (.long x13_33), .second, .unset, .unset, .unset, .unset, .unset, .unset, .unset, .unset, .unset, .unset, .unset, .unset, .unset, .unset, .unset, .unset, .unset, .unset, .unset] [])) _
        refine XS.iconst X1.here hx rfl (hb hby at_40) ?_
        show Steps p.tables e below (T1.setTop (mkF m 41 #[.val (.long q0), .second, .val (.long q1), .second, .val (.long q2), .second, .val (.long q3), .second, .val (.int p4), .val (.long x9_11), .second, .val (.long x11_22), .second, .val (.long x13_33), .second, .unset, .unset, .unset, .unset, .unset, .unset, .unset, .unset, .unset, .unset, .unset, .unset, .unset, .unset, .unset, .unset, .unset, .unset, .unset] [(.int (1 : Int32))])) _
        refine XS.goto X1.here hx rfl (pc0 := 41) (pc' := 45) rfl (hb hby at_41) (by decide) (by decide) ?_
        show Steps p.tables e below (T1.setTop (mkF m 45 #[.val (.long q0), .second, .val (.long q1), .second, .val (.long q2), .second, .val (.long q3), .second, .val (.int p4), .val (.long x9_11), .second, .val (.long x11_22), .second, .val (.long x13_33), .second, .unset, .unset, .unset, .unset, .unset, .unset, .unset, .unset, .unset, .unset, .unset, .unset, .unset, .unset, .unset, .unset, .unset, .unset, .unset] [(.int (1 : Int32))])) _
        refine XS.istore X1.here hx rfl (hb hby at_45) rfl (l' := #[.val (.long q0), .second, .val (.long q1), .second, .val (.long q2), .second, .val (.long q3), .second, .val (.int p4), .val (.long x9_11), .second, .val (.long x11_22), .second, .val (.long x13_33), .second, .val (.int (1 : Int32)), .unset, .unset, .unset, .unset, .unset, .unset, .unset, .unset, .unset, .unset, .unset, .unset, .unset, .unset, .unset, .unset, .unset, .unset]) rfl ?_
        show Steps p.tables e below (T1.setTop (mkF m 47 #[.val (.long q0), .second, .val (.long q1), .second, .val (.long q2), .second, .val (.long q3), .second, .val (.int p4), .val (.long x9_11), .second, .val (.long x11_22), .second, .val (.long x13_33), .second, .val (.int (1 : Int32)), .unset, .unset, .unset, .unset, .unset, .unset, .unset, .unset, .unset, .unset, .unset, .unset, .unset, .unset, .unset, .unset, .unset, .unset] [])) _
        refine XS.iload X1.here hx rfl (hb hby at_47) rfl ?_
        show Steps p.tables e below (T1.setTop (mkF m 49 #[.val (.long q0), .second, .val (.long q1), .second, .val (.long q2), .second, .val (.long q3), .second, .val (.int p4), .val (.long x9_11), .second, .val (.long x11_22), .second, .val (.long x13_33), .second, .val (.int (1 : Int32)), .unset, .unset, .unset, .unset, .unset, .unset, .unset, .unset, .unset, .unset, .unset, .unset, .unset, .unset, .unset, .unset, .unset, .unset] [(.int p4)])) _
        refine XS.iconst X1.here hx rfl (hb hby at_49) ?_
        show Steps p.tables e below (T1.setTop (mkF m 50 #[.val (.long q0), .second, .val (.long q1), .second, .val (.long q2), .second, .val (.long q3), .second, .val (.int p4), .val (.long x9_11), .second, .val (.long x11_22), .second, .val (.long x13_33), .second, .val (.int (1 : Int32)), .unset, .unset, .unset, .unset, .unset, .unset, .unset, .unset, .unset, .unset, .unset, .unset, .unset, .unset, .unset, .unset, .unset, .unset] [(.int (1 : Int32)), (.int p4)])) _
        refine XS.iushr X1.here hx rfl (hb hby at_50) rfl ?_
        show Steps p.tables e below (T1.setTop (mkF m 51 #[.val (.long q0), .second, .val (.long q1), .second, .val (.long q2), .second, .val (.long q3), .second, .val (.int p4), .val (.long x9_11), .second, .val (.long x11_22), .second, .val (.long x13_33), .second, .val (.int (1 : Int32)), .unset, .unset, .unset, .unset, .unset, .unset, .unset, .unset, .unset, .unset, .unset, .unset, .unset, .unset, .unset, .unset, .unset, .unset] [(.int ((p4).toUInt32 >>> ((1 : Int32) &&& 31).toUInt32).toInt32)])) _
        refine X1.ldcInt hx hown (mvT hZ (hw _ (List.mem_of_getElem? (i := 5) rfl))) (g := (mkF m 51 #[.val (.long q0), .second, .val (.long q1), .second, .val (.long q2), .second, .val (.long q3), .second, .val (.int p4), .val (.long x9_11), .second, .val (.long x11_22), .second, .val (.long x13_33), .second, .val (.int (1 : Int32)), .unset, .unset, .unset, .unset, .unset, .unset, .unset, .unset, .unset, .unset, .unset, .unset, .unset, .unset, .unset, .unset, .unset, .unset] [(.int ((p4).toUInt32 >>> ((1 : Int32) &&& 31).toUInt32).toInt32)])) rfl (hb hby at_51) _ ?_
        show Steps p.tables e below (T1.setTop (mkF m 53 #[.val (.long q0), .second, .val (.long q1), .second, .val (.long q2), .second, .val (.long q3), .second, .val (.int p4), .val (.long x9_11), .second, .val (.long x11_22), .second, .val (.long x13_33), .second, .val (.int (1 : Int32)), .unset, .unset, .unset, .unset, .unset, .unset, .unset, .unset, .unset, .unset, .unset, .unset, .unset, .unset, .unset, .unset, .unset, .unset] [(.int (2147483647 : Int32)), (.int ((p4).toUInt32 >>> ((1 : Int32) &&& 31).toUInt32).toInt32)])) _
        refine XS.iand X1.here hx rfl (hb hby at_53) rfl ?_
        show Steps p.tables e below (T1.setTop (mkF m 54 #[.val (.long q0), .second, .val (.long q1), .second, .val (.long q2), .second, .val (.long q3), .second, .val (.int p4), .val (.long x9_11), .second, .val (.long x11_22), .second, .val (.long x13_33), .second, .val (.int (1 : Int32)), .unset, .unset, .unset, .unset, .unset, .unset, .unset, .unset, .unset, .unset, .unset, .unset, .unset, .unset, .unset, .unset, .unset, .unset] [(.int (((p4).toUInt32 >>> ((1 : Int32) &&& 31).toUInt32).toInt32 &&& (2147483647 : Int32)))])) _
        refine XS.bipush X1.here hx rfl (hb hby at_54) ?_
        show Steps p.tables e below (T1.setTop (mkF m 56 #[.val (.long q0), .second, .val (.long q1), .second, .val (.long q2), .second, .val (.long q3), .second, .val (.int p4), .val (.long x9_11), .second, .val (.long x11_22), .second, .val (.long x13_33), .second, .val (.int (1 : Int32)), .unset, .unset, .unset, .unset, .unset, .unset, .unset, .unset, .unset, .unset, .unset, .unset, .unset, .unset, .unset, .unset, .unset, .unset] [(.int (10 : Int32)), (.int (((p4).toUInt32 >>> ((1 : Int32) &&& 31).toUInt32).toInt32 &&& (2147483647 : Int32)))])) _
        refine iremM X1 hx rfl (hb hby at_56) rfl (by decide) ?_
        show Steps p.tables e below (T1.setTop (mkF m 57 #[.val (.long q0), .second, .val (.long q1), .second, .val (.long q2), .second, .val (.long q3), .second, .val (.int p4), .val (.long x9_11), .second, .val (.long x11_22), .second, .val (.long x13_33), .second, .val (.int (1 : Int32)), .unset, .unset, .unset, .unset, .unset, .unset, .unset, .unset, .unset, .unset, .unset, .unset, .unset, .unset, .unset, .unset, .unset, .unset] [(.int ((((p4).toUInt32 >>> ((1 : Int32) &&& 31).toUInt32).toInt32 &&& (2147483647 : Int32)) % (10 : Int32)))])) _
        refine XS.istore X1.here hx rfl (hb hby at_57) rfl (l' := #[.val (.long q0), .second, .val (.long q1), .second, .val (.long q2), .second, .val (.long q3), .second, .val (.int p4), .val (.long x9_11), .second, .val (.long x11_22), .second, .val (.long x13_33), .second, .val (.int (1 : Int32)), .val (.int ((((p4).toUInt32 >>> ((1 : Int32) &&& 31).toUInt32).toInt32 &&& (2147483647 : Int32)) % (10 : Int32))), .unset, .unset, .unset, .unset, .unset, .unset, .unset, .unset, .unset, .unset, .unset, .unset, .unset, .unset, .unset, .unset, .unset]) rfl ?_
        exact k)⟩
    obtain ⟨x17_66, hx17_66, pre33⟩ : ∃ z : Int32, z = (x16_59 % (9 : Int32)) ∧ own_Pre p e below (s₁.setTop (entryFrame m #[(.long q0), (.long q1), (.long q2), (.long q3), (.int p4)] maxLocals)) (T1.setTop (mkF m 66 #[.val (.long q0), .second, .val (.long q1), .second, .val (.long q2), .second, .val (.long q3), .second, .val (.int p4), .val (.long x9_11), .second, .val (.long x11_22), .second, .val (.long x13_33), .second, .val (.int (1 : Int32)), .val (.int x16_59), .val (.int z), .unset, .unset, .unset, .unset, .unset, .unset, .unset, .unset, .unset, .unset, .unset, .unset, .unset, .unset, .unset, .unset] [])) := ⟨_, rfl, fun t k => pre32 t (by
        show Steps p.tables e below (T1.setTop (mkF m 59 #[.val (.long q0), .second, .val (.long q1), .second, .val (.long q2), .second, .val (.long q3), .second, .val (.int p4), .val (.long x9_11), .second, .val (.long x11_22), .second, .val (.long x13_33), .second, .val (.int (1 : Int32)), .val (.int x16_59), .unset, .unset, .unset, .unset, .unset, .unset, .unset, .unset, .unset, .unset, .unset, .unset, .unset, .unset, .unset, .unset, .unset] [])) _
        refine XS.iload X1.here hx rfl (hb hby at_59) rfl ?_
        show Steps p.tables e below (T1.setTop (mkF m 61 #[.val (.long q0), .second, .val (.long q1), .second, .val (.long q2), .second, .val (.long q3), .second, .val (.int p4), .val (.long x9_11), .second, .val (.long x11_22), .second, .val (.long x13_33), .second, .val (.int (1 : Int32)), .val (.int x16_59), .unset, .unset, .unset, .unset, .unset, .unset, .unset, .unset, .unset, .unset, .unset, .unset, .unset, .unset, .unset, .unset, .unset] [(.int x16_59)])) _
        refine XS.bipush X1.here hx rfl (hb hby at_61) ?_
        show Steps p.tables e below (T1.setTop (mkF m 63 #[.val (.long q0), .second, .val (.long q1), .second, .val (.long q2), .second, .val (.long q3), .second, .val (.int p4), .val (.long x9_11), .second, .val (.long x11_22), .second, .val (.long x13_33), .second, .val (.int (1 : Int32)), .val (.int x16_59), .unset, .unset, .unset, .unset, .unset, .unset, .unset, .unset, .unset, .unset, .unset, .unset, .unset, .unset, .unset, .unset, .unset] [(.int (9 : Int32)), (.int x16_59)])) _
        refine iremM X1 hx rfl (hb hby at_63) rfl (by decide) ?_
        show Steps p.tables e below (T1.setTop (mkF m 64 #[.val (.long q0), .second, .val (.long q1), .second, .val (.long q2), .second, .val (.long q3), .second, .val (.int p4), .val (.long x9_11), .second, .val (.long x11_22), .second, .val (.long x13_33), .second, .val (.int (1 : Int32)), .val (.int x16_59), .unset, .unset, .unset, .unset, .unset, .unset, .unset, .unset, .unset, .unset, .unset, .unset, .unset, .unset, .unset, .unset, .unset] [(.int (x16_59 % (9 : Int32)))])) _
        refine XS.istore X1.here hx rfl (hb hby at_64) rfl (l' := #[.val (.long q0), .second, .val (.long q1), .second, .val (.long q2), .second, .val (.long q3), .second, .val (.int p4), .val (.long x9_11), .second, .val (.long x11_22), .second, .val (.long x13_33), .second, .val (.int (1 : Int32)), .val (.int x16_59), .val (.int (x16_59 % (9 : Int32))), .unset, .unset, .unset, .unset, .unset, .unset, .unset, .unset, .unset, .unset, .unset, .unset, .unset, .unset, .unset, .unset]) rfl ?_
        exact k)⟩
    obtain ⟨T34, h34, X34, e34, E34, A34, D34, -, st34⟩ := newO X1 hx hZ hown (hw _ (List.mem_of_getElem? (i := 6) rfl)) (hw _ (List.mem_of_getElem? (i := 7) rfl)) (hw _ (List.mem_of_getElem? (i := 8) rfl)) eq1 (g := (mkF m 80 #[.val (.long q0), .second, .val (.long q1), .second, .val (.long q2), .second, .val (.long q3), .second, .val (.int p4), .val (.long x9_11), .second, .val (.long x11_22), .second, .val (.long x13_33), .second, .val (.int (1 : Int32)), .val (.int x16_59), .val (.int x17_66), .val (.int (10 : Int32)), .unset, .unset, .unset, .unset, .unset, .unset, .unset, .unset, .unset, .unset, .unset, .unset, .unset, .unset, .unset] [])) rfl (hb hby at_80) (by decide) (by decide)
    obtain ⟨b34, gq34⟩ : ∃ z, z = (h0).size := ⟨_, rfl⟩
    rw [← gq34] at A34 D34 st34
    have g_b34 : n0 ≤ b34 := Nat.le_trans Z0 (Nat.le_of_eq gq34.symm)
    have F_b34_available : Fld Z h34 b34 "com/example/hopchuan/hopchuan/ErrorCounter" "available" "Z" (.int (0 : Int32)) := D34 (Or.inl (hw _ (List.mem_of_getElem? (i := 16) rfl))) (ty := .boolean) (by decide)
    have F_b34_sesErroredBlocks : Fld Z h34 b34 "com/example/hopchuan/hopchuan/ErrorCounter" "sesErroredBlocks" "J" (.long (0 : Int64)) := D34 (Or.inr (hw _ (List.mem_of_getElem? (i := 18) rfl))) (ty := .long) (by decide)
    have F_b34_extendingPeriodSeconds : Fld Z h34 b34 "com/example/hopchuan/hopchuan/ErrorCounter" "extendingPeriodSeconds" "J" (.long (0 : Int64)) := D34 (Or.inr (hw _ (List.mem_of_getElem? (i := 20) rfl))) (ty := .long) (by decide)
    have F_b34_seconds : Fld Z h34 b34 "com/example/hopchuan/hopchuan/ErrorCounter" "seconds" "J" (.long (0 : Int64)) := D34 (Or.inl (hw _ (List.mem_of_getElem? (i := 27) rfl))) (ty := .long) (by decide)
    have F_b34_erroredSeconds : Fld Z h34 b34 "com/example/hopchuan/hopchuan/ErrorCounter" "erroredSeconds" "J" (.long (0 : Int64)) := D34 (Or.inl (hw _ (List.mem_of_getElem? (i := 33) rfl))) (ty := .long) (by decide)
    have F_b34_pending : Fld Z h34 b34 "com/example/hopchuan/hopchuan/ErrorCounter" "pending" "J" (.long (0 : Int64)) := D34 (Or.inl (hw _ (List.mem_of_getElem? (i := 35) rfl))) (ty := .long) (by decide)
    have F_b34_severelyErroredSeconds : Fld Z h34 b34 "com/example/hopchuan/hopchuan/ErrorCounter" "severelyErroredSeconds" "J" (.long (0 : Int64)) := D34 (Or.inl (hw _ (List.mem_of_getElem? (i := 37) rfl))) (ty := .long) (by decide)
    have F_b34_period : Fld Z h34 b34 "com/example/hopchuan/hopchuan/ErrorCounter" "period" "J" (.long (0 : Int64)) := D34 (Or.inl (hw _ (List.mem_of_getElem? (i := 44) rfl))) (ty := .long) (by decide)
    have F_b34_pendingErrored : Fld Z h34 b34 "com/example/hopchuan/hopchuan/ErrorCounter" "pendingErrored" "J" (.long (0 : Int64)) := D34 (Or.inl (hw _ (List.mem_of_getElem? (i := 64) rfl))) (ty := .long) (by decide)
    have F_b34_pendingBlocks : Fld Z h34 b34 "com/example/hopchuan/hopchuan/ErrorCounter" "pendingBlocks" "J" (.long (0 : Int64)) := D34 (Or.inl (hw _ (List.mem_of_getElem? (i := 66) rfl))) (ty := .long) (by decide)
    have F_b34_unavailableSeconds : Fld Z h34 b34 "com/example/hopchuan/hopchuan/ErrorCounter" "unavailableSeconds" "J" (.long (0 : Int64)) := D34 (Or.inl (hw _ (List.mem_of_getElem? (i := 72) rfl))) (ty := .long) (by decide)
    have F_b34_extendingSeconds : Fld Z h34 b34 "com/example/hopchuan/hopchuan/ErrorCounter" "extendingSeconds" "J" (.long (0 : Int64)) := D34 (Or.inl (hw _ (List.mem_of_getElem? (i := 74) rfl))) (ty := .long) (by decide)
    have F_b34_backgroundBlockErrors : Fld Z h34 b34 "com/example/hopchuan/hopchuan/ErrorCounter" "backgroundBlockErrors" "J" (.long (0 : Int64)) := D34 (Or.inl (hw _ (List.mem_of_getElem? (i := 97) rfl))) (ty := .long) (by decide)
    have z36 : n0 ≤ (h34).size := (Nat.le_trans Z0 E34.1)
    obtain ⟨_, _, ⟨T35, L35, k35, n35⟩, -, X35, ⟨Lc35, hQ35, l35, y35, z35⟩, st35⟩ := X34.specialBack hx (y := (⟨"com/example/hopchuan/hopchuan/ErrorCounter", "<init>", "(JJ)V"⟩ : MethodName)) rfl hown (mvT hZ (hw _ (List.mem_of_getElem? (i := 9) rfl))) (mvT hZ (hw _ (List.mem_of_getElem? (i := 10) rfl))) (mvT hZ (hw _ (List.mem_of_getElem? (i := 11) rfl))) (by decide) (backOf (W := 1) (rm2 l Z aw hw [] (b34) (x9_11) (q0) (h34) n0 z36 A34 F_b34_available F_b34_sesErroredBlocks F_b34_extendingPeriodSeconds F_b34_seconds F_b34_unavailableSeconds F_b34_extendingSeconds F_b34_erroredSeconds F_b34_severelyErroredSeconds F_b34_backgroundBlockErrors F_b34_pending F_b34_pendingErrored F_b34_pendingBlocks F_b34_period g_b34) hZ (hw _ (List.mem_of_getElem? (i := 11) rfl)) (hw _ (List.mem_of_getElem? (i := 8) rfl)) (by decide) (by decide)) (g := (mkF m 87 #[.val (.long q0), .second, .val (.long q1), .second, .val (.long q2), .second, .val (.long q3), .second, .val (.int p4), .val (.long x9_11), .second, .val (.long x11_22), .second, .val (.long x13_33), .second, .val (.int (1 : Int32)), .val (.int x16_59), .val (.int x17_66), .val (.int (10 : Int32)), .unset, .unset, .unset, .unset, .unset, .unset, .unset, .unset, .unset, .unset, .unset, .unset, .unset, .unset, .unset] [(.long q0), (.long x9_11), (.ref b34), (.ref b34)])) rfl (by rw [hml]; rfl) (Steps.refl _) (a := b34) (argsL := [(.long x9_11), (.long q0)]) (rest := [(.ref b34)]) (lenOf pd_3 rfl) rfl (by show 2 * 0 + _ ≤ _; exact Nat.le_of_eq rfl) (hb hby at_87) (fun _ _ => ⟨rfl, e34, (by decide : 1 + 0 ≤ _), (by decide : 13 + 0 ≤ _)⟩)
    dsimp only [Pt.U, Pt.locs, Pt.cells, Pt.slots] at X35 l35 y35 z35 st35 hQ35
    subst l35 y35 z35
    obtain ⟨rfl, Nq35, K35, po35_0, po35_1, po35_2, po35_3, po35_4, po35_5, po35_6, po35_7, po35_8, po35_9, po35_10, po35_11, po35_12, po35_13⟩ := hQ35
    have N35 := Fr.app N1 Nq35
    have z38 : n0 ≤ (T35.heap).size := (Nat.le_trans z36 K35.1)
    obtain ⟨cq37, kq37, q37a, q37b, q37c⟩ := isOf hZ rfl po35_0
    obtain ⟨_, _, ⟨T37, L37, k37, n37⟩, -, X37, ⟨Lc37, hQ37, l37, y37, z37⟩, st37⟩ := X35.virtualBack hx (y := (⟨"com/example/hopchuan/hopchuan/ErrorCounter", "second", "(JZ)V"⟩ : MethodName)) (z := (⟨"com/example/hopchuan/hopchuan/ErrorCounter", "second", "(JZ)V"⟩ : MethodName)) hown (mvT hZ (hw _ (List.mem_of_getElem? (i := 21) rfl))) (mvT hZ (hw _ (List.mem_of_getElem? (i := 22) rfl))) (notFace_of_selects (args := #[]) (mvT hZ (hw _ (List.mem_of_getElem? (i := 24) rfl)))) (mvT hZ (hw _ (List.mem_of_getElem? (i := 24) rfl))) (mvT hZ (hw _ (List.mem_of_getElem? (i := 23) rfl))) (by decide) (backOf (W := 0) (rm4A l Z aw hw [] (b34) (x11_22) (x9_11) (q0) ((0 : Int64)) ((0 : Int64)) ((0 : Int64)) ((0 : Int64)) ((0 : Int64)) ((0 : Int64)) ((0 : Int64)) ((0 : Int64)) ((0 : Int64)) ((0 : Int64)) (T35.heap) n0 z38 po35_0 po35_1 po35_2 po35_3 po35_4 po35_5 po35_6 po35_7 po35_8 po35_9 po35_10 po35_11 po35_12 po35_13 g_b34 (own_b _ _ _ hx11_22 hth)) hZ (hw _ (List.mem_of_getElem? (i := 25) rfl)) (hw _ (List.mem_of_getElem? (i := 8) rfl)) (by decide) (by decide)) q37a q37c (g := (mkF m 97 #[.val (.long q0), .second, .val (.long q1), .second, .val (.long q2), .second, .val (.long q3), .second, .val (.int p4), .val (.long x9_11), .second, .val (.long x11_22), .second, .val (.long x13_33), .second, .val (.int (1 : Int32)), .val (.int x16_59), .val (.int x17_66), .val (.int (10 : Int32)), .val (.ref b34), .unset, .unset, .unset, .unset, .unset, .unset, .unset, .unset, .unset, .unset, .unset, .unset, .unset, .unset] [(.int (0 : Int32)), (.long x11_22), (.ref b34)])) rfl (by rw [hml]; rfl) (Steps.refl _) (argsL := [(.long x11_22), (.int (0 : Int32))]) (rest := []) (lenOf pd_1 rfl) rfl (by show 2 * 0 + _ ≤ _; exact Nat.le_of_eq rfl) (hb hby at_97) (fun _ _ => ⟨rfl, rfl, (by decide : 1 + 0 ≤ _), (by decide : 13 + 0 ≤ _)⟩)
    dsimp only [Pt.U, Pt.locs, Pt.cells, Pt.slots] at X37 l37 y37 z37 st37 hQ37
    subst l37 y37 z37
    obtain ⟨rfl, Nq37, K37, po37_0, po37_1, po37_2, po37_3, po37_4, po37_5, po37_6, po37_7, po37_8, po37_9, po37_10, po37_11, po37_12, po37_13⟩ := hQ37
    have N37 := Fr.app N35 Nq37
    obtain ⟨u37_erroredSeconds, hu37_erroredSeconds⟩ : ∃ z, z = (own_p4A_erroredSeconds x11_22 (0 : Int64) (0 : Int64)) := ⟨_, rfl⟩
    rw [← hu37_erroredSeconds] at po37_7
    obtain ⟨u37_backgroundBlockErrors, hu37_backgroundBlockErrors⟩ : ∃ z, z = (own_p4A_backgroundBlockErrors x11_22 (0 : Int64)) := ⟨_, rfl⟩
    rw [← hu37_backgroundBlockErrors] at po37_9
    have z40 : n0 ≤ (T37.heap).size := (Nat.le_trans z38 K37.1)
    obtain ⟨_, _, ⟨T39, L39, k39, n39⟩, -, X39, ⟨Lc39, hQ39, l39, y39, z39⟩, st39⟩ := Jvm.LawKit.callS X37 hx (y := (⟨"com/example/hopchuan/hopchuan/ErrorCounterEndPinLaw", "severe", "(Lcom/example/hopchuan/hopchuan/ErrorCounter;IJ)V"⟩ : MethodName)) hown (mvT hZ (hw _ (List.mem_of_getElem? (i := 38) rfl))) (mvT hZ (hw _ (List.mem_of_getElem? (i := 39) rfl))) (mvT hZ (hw _ (List.mem_of_getElem? (i := 40) rfl))) (mvT hZ (hw _ (List.mem_of_getElem? (i := 41) rfl))) (by decide) (backOf (W := 0) (rm6X l Z aw hw [] (b34) (x13_33) (x9_11) (q0) ((1 : Int64)) ((0 : Int64)) ((0 : Int64)) (u37_erroredSeconds) ((0 : Int64)) (u37_backgroundBlockErrors) ((0 : Int64)) ((0 : Int64)) ((0 : Int64)) (T37.heap) n0 z40 po37_0 po37_1 po37_2 po37_3 po37_4 po37_5 po37_6 po37_7 po37_8 po37_9 po37_10 po37_11 po37_12 po37_13 g_b34) hZ (hw _ (List.mem_of_getElem? (i := 41) rfl)) (hw _ (List.mem_of_getElem? (i := 40) rfl)) (by decide) (by decide)) (g := (mkF m 106 #[.val (.long q0), .second, .val (.long q1), .second, .val (.long q2), .second, .val (.long q3), .second, .val (.int p4), .val (.long x9_11), .second, .val (.long x11_22), .second, .val (.long x13_33), .second, .val (.int (1 : Int32)), .val (.int x16_59), .val (.int x17_66), .val (.int (10 : Int32)), .val (.ref b34), .unset, .unset, .unset, .unset, .unset, .unset, .unset, .unset, .unset, .unset, .unset, .unset, .unset, .unset] [(.long x13_33), (.int (10 : Int32)), (.ref b34)])) rfl (by rw [hml]; rfl) (argsL := [(.ref b34), (.int (10 : Int32)), (.long x13_33)]) (rest := []) (lenOf pd_4 rfl) rfl (by show 2 * 0 + _ ≤ _; exact Nat.le_of_eq rfl) (hb hby at_106) (fun _ _ => ⟨rfl, rfl, (by decide : 1 + 0 ≤ _), (by decide : 13 + 0 ≤ _)⟩)
    dsimp only [Pt.U, Pt.locs, Pt.cells, Pt.slots] at X39 l39 y39 z39 st39 hQ39
    subst l39 y39 z39
    obtain ⟨rfl, Nq39, K39, po39_0, po39_1, po39_2, po39_3, po39_4, po39_5, po39_6, po39_7, po39_8, po39_9, po39_10, po39_11, po39_12, po39_13⟩ := hQ39
    have N39 := Fr.app N37 Nq39
    obtain ⟨u39_seconds, hu39_seconds⟩ : ∃ z, z = (own_p6X_seconds (1 : Int64)) := ⟨_, rfl⟩
    rw [← hu39_seconds] at po39_4
    have z42 : n0 ≤ (T39.heap).size := (Nat.le_trans z40 K39.1)
    obtain ⟨cq41, kq41, q41a, q41b, q41c⟩ := isOf hZ rfl po39_0
    obtain ⟨_, _, ⟨T41, L41, k41, n41⟩, -, X41, ⟨Lc41, hQ41, l41, y41, z41⟩, st41⟩ := X39.virtualBack hx (y := (⟨"com/example/hopchuan/hopchuan/ErrorCounter", "second", "(JZ)V"⟩ : MethodName)) (z := (⟨"com/example/hopchuan/hopchuan/ErrorCounter", "second", "(JZ)V"⟩ : MethodName)) hown (mvT hZ (hw _ (List.mem_of_getElem? (i := 21) rfl))) (mvT hZ (hw _ (List.mem_of_getElem? (i := 22) rfl))) (notFace_of_selects (args := #[]) (mvT hZ (hw _ (List.mem_of_getElem? (i := 24) rfl)))) (mvT hZ (hw _ (List.mem_of_getElem? (i := 24) rfl))) (mvT hZ (hw _ (List.mem_of_getElem? (i := 23) rfl))) (by decide) (backOf (W := 0) (rm4D l Z aw hw [] (b34) (x13_33) (x9_11) (q0) (u39_seconds) ((0 : Int64)) ((0 : Int64)) (u37_erroredSeconds) ((0 : Int64)) (u37_backgroundBlockErrors) ((0 : Int64)) ((0 : Int64)) ((0 : Int64)) ((10 : Int64)) (T39.heap) n0 z42 po39_0 po39_1 po39_2 po39_3 po39_4 po39_5 po39_6 po39_7 po39_8 po39_9 po39_10 po39_11 po39_12 po39_13 g_b34 (own_b _ _ _ hx13_33 hth) (by decide)) hZ (hw _ (List.mem_of_getElem? (i := 25) rfl)) (hw _ (List.mem_of_getElem? (i := 8) rfl)) (by decide) (by decide)) q41a q41c (g := (mkF m 119 #[.val (.long q0), .second, .val (.long q1), .second, .val (.long q2), .second, .val (.long q3), .second, .val (.int p4), .val (.long x9_11), .second, .val (.long x11_22), .second, .val (.long x13_33), .second, .val (.int (1 : Int32)), .val (.int x16_59), .val (.int x17_66), .val (.int (10 : Int32)), .val (.ref b34), .unset, .unset, .unset, .unset, .unset, .unset, .unset, .unset, .unset, .unset, .unset, .unset, .unset, .unset] [(.int (0 : Int32)), (.long x13_33), (.ref b34)])) rfl (by rw [hml]; rfl) (Steps.refl _) (argsL := [(.long x13_33), (.int (0 : Int32))]) (rest := []) (lenOf pd_1 rfl) rfl (by show 2 * 0 + _ ≤ _; exact Nat.le_of_eq rfl) (hb hby at_119) (fun _ _ => ⟨rfl, rfl, (by decide : 1 + 0 ≤ _), (by decide : 13 + 0 ≤ _)⟩)
    dsimp only [Pt.U, Pt.locs, Pt.cells, Pt.slots] at X41 l41 y41 z41 st41 hQ41
    subst l41 y41 z41
    obtain ⟨rfl, Nq41, K41, po41_0, po41_1, po41_2, po41_3, po41_4, po41_5, po41_6, po41_7, po41_8, po41_9, po41_10, po41_11, po41_12, po41_13⟩ := hQ41
    have N41 := Fr.app N39 Nq41
    obtain ⟨u41_seconds, hu41_seconds⟩ : ∃ z, z = (u39_seconds + (1 : Int64)) := ⟨_, rfl⟩
    rw [← hu41_seconds] at po41_4
    obtain ⟨u41_pendingErrored, hu41_pendingErrored⟩ : ∃ z, z = (own_p4D_pendingErrored x13_33 (0 : Int64)) := ⟨_, rfl⟩
    rw [← hu41_pendingErrored] at po41_11
    obtain ⟨u41_pendingBlocks, hu41_pendingBlocks⟩ : ∃ z, z = (own_p4D_pendingBlocks x13_33 (0 : Int64)) := ⟨_, rfl⟩
    rw [← hu41_pendingBlocks] at po41_12
    have z44 : n0 ≤ (T41.heap).size := (Nat.le_trans z42 K41.1)
    obtain ⟨cq43, kq43, q43a, q43b, q43c⟩ := isOf hZ rfl po41_0
    obtain ⟨_, _, ⟨T43, L43, k43, n43⟩, -, X43, ⟨Lc43, hQ43, l43, y43, z43⟩, st43⟩ := X41.virtualBack hx (y := (⟨"com/example/hopchuan/hopchuan/ErrorCounter", "clean", "(J)V"⟩ : MethodName)) (z := (⟨"com/example/hopchuan/hopchuan/ErrorCounter", "clean", "(J)V"⟩ : MethodName)) hown (mvT hZ (hw _ (List.mem_of_getElem? (i := 45) rfl))) (mvT hZ (hw _ (List.mem_of_getElem? (i := 46) rfl))) (notFace_of_selects (args := #[]) (mvT hZ (hw _ (List.mem_of_getElem? (i := 48) rfl)))) (mvT hZ (hw _ (List.mem_of_getElem? (i := 48) rfl))) (mvT hZ (hw _ (List.mem_of_getElem? (i := 47) rfl))) (by decide) (backOf (W := 0) (rm7 l Z aw hw [] (b34) ((x17_66).toInt64) (x9_11) (q0) (u41_seconds) ((0 : Int64)) ((0 : Int64)) (u37_erroredSeconds) ((0 : Int64)) (u37_backgroundBlockErrors) (u41_pendingErrored) (u41_pendingBlocks) ((10 : Int64)) (T41.heap) n0 z44 po41_0 po41_1 po41_2 po41_3 po41_4 po41_5 po41_6 po41_7 po41_8 po41_9 po41_10 po41_11 po41_12 po41_13 g_b34 hth (own_j8 _ _ hx16_59 hx17_66)) hZ (hw _ (List.mem_of_getElem? (i := 49) rfl)) (hw _ (List.mem_of_getElem? (i := 8) rfl)) (by decide) (by decide)) q43a q43c (g := (mkF m 127 #[.val (.long q0), .second, .val (.long q1), .second, .val (.long q2), .second, .val (.long q3), .second, .val (.int p4), .val (.long x9_11), .second, .val (.long x11_22), .second, .val (.long x13_33), .second, .val (.int (1 : Int32)), .val (.int x16_59), .val (.int x17_66), .val (.int (10 : Int32)), .val (.ref b34), .unset, .unset, .unset, .unset, .unset, .unset, .unset, .unset, .unset, .unset, .unset, .unset, .unset, .unset] [(.long (x17_66).toInt64), (.ref b34)])) rfl (by rw [hml]; rfl) (Steps.refl _) (argsL := [(.long (x17_66).toInt64)]) (rest := []) (lenOf pd_6 rfl) rfl (by show 2 * 0 + _ ≤ _; exact Nat.le_of_eq rfl) (hb hby at_127) (fun _ _ => ⟨rfl, rfl, (by decide : 1 + 0 ≤ _), (by decide : 13 + 0 ≤ _)⟩)
    dsimp only [Pt.U, Pt.locs, Pt.cells, Pt.slots] at X43 l43 y43 z43 st43 hQ43
    subst l43 y43 z43
    obtain ⟨rfl, Nq43, K43, po43_0, po43_1, po43_2, po43_3, po43_4, po43_5, po43_6, po43_7, po43_8, po43_9, po43_10, po43_11, po43_12, po43_13⟩ := hQ43
    have N43 := Fr.app N41 Nq43
    obtain ⟨u43_seconds, hu43_seconds⟩ : ∃ z, z = (own_p7_seconds ((x17_66).toInt64) u41_seconds) := ⟨_, rfl⟩
    rw [← hu43_seconds] at po43_4
    obtain ⟨u43_pending, hu43_pending⟩ : ∃ z, z = (own_p7_pending ((x17_66).toInt64)) := ⟨_, rfl⟩
    rw [← hu43_pending] at po43_10
    obtain ⟨u43_pendingErrored, hu43_pendingErrored⟩ : ∃ z, z = (own_p7_pendingErrored ((x17_66).toInt64) u41_pendingErrored) := ⟨_, rfl⟩
    rw [← hu43_pendingErrored] at po43_11
    obtain ⟨u43_pendingBlocks, hu43_pendingBlocks⟩ : ∃ z, z = (own_p7_pendingBlocks ((x17_66).toInt64) u41_pendingBlocks) := ⟨_, rfl⟩
    rw [← hu43_pendingBlocks] at po43_12
    have z46 : n0 ≤ (T43.heap).size := (Nat.le_trans z44 K43.1)
    obtain ⟨cq45, kq45, q45a, q45b, q45c⟩ := isOf hZ rfl po43_0
    obtain ⟨_, _, ⟨T45, L45, k45, n45⟩, -, X45, ⟨Lc45, hQ45, l45, y45, z45⟩, st45⟩ := X43.virtualBack hx (y := (⟨"com/example/hopchuan/hopchuan/ErrorCounter", "end", "()V"⟩ : MethodName)) (z := (⟨"com/example/hopchuan/hopchuan/ErrorCounter", "end", "()V"⟩ : MethodName)) hown (mvT hZ (hw _ (List.mem_of_getElem? (i := 54) rfl))) (mvT hZ (hw _ (List.mem_of_getElem? (i := 55) rfl))) (notFace_of_selects (args := #[]) (mvT hZ (hw _ (List.mem_of_getElem? (i := 57) rfl)))) (mvT hZ (hw _ (List.mem_of_getElem? (i := 57) rfl))) (mvT hZ (hw _ (List.mem_of_getElem? (i := 56) rfl))) (by decide) (backOf (W := 0) (rm9U l Z aw hw [] (b34) (x9_11) (q0) (u43_seconds) ((0 : Int64)) ((0 : Int64)) (u37_erroredSeconds) ((0 : Int64)) (u37_backgroundBlockErrors) (u43_pending) (u43_pendingErrored) (u43_pendingBlocks) ((10 : Int64)) (T43.heap) n0 z46 po43_0 po43_1 po43_2 po43_3 po43_4 po43_5 po43_6 po43_7 po43_8 po43_9 po43_10 po43_11 po43_12 po43_13 g_b34) hZ (hw _ (List.mem_of_getElem? (i := 58) rfl)) (hw _ (List.mem_of_getElem? (i := 8) rfl)) (by decide) (by decide)) q45a q45c (g := (mkF m 132 #[.val (.long q0), .second, .val (.long q1), .second, .val (.long q2), .second, .val (.long q3), .second, .val (.int p4), .val (.long x9_11), .second, .val (.long x11_22), .second, .val (.long x13_33), .second, .val (.int (1 : Int32)), .val (.int x16_59), .val (.int x17_66), .val (.int (10 : Int32)), .val (.ref b34), .unset, .unset, .unset, .unset, .unset, .unset, .unset, .unset, .unset, .unset, .unset, .unset, .unset, .unset] [(.ref b34)])) rfl (by rw [hml]; rfl) (Steps.refl _) (argsL := []) (rest := []) (lenOf pd_0 rfl) rfl (by show 2 * 0 + _ ≤ _; exact Nat.le_of_eq rfl) (hb hby at_132) (fun _ _ => ⟨rfl, rfl, (by decide : 1 + 0 ≤ _), (by decide : 13 + 0 ≤ _)⟩)
    dsimp only [Pt.U, Pt.locs, Pt.cells, Pt.slots] at X45 l45 y45 z45 st45 hQ45
    subst l45 y45 z45
    obtain ⟨rfl, Nq45, K45, po45_0, po45_1, po45_2, po45_3, po45_4, po45_5, po45_6, po45_7, po45_8, po45_9, po45_10, po45_11, po45_12, po45_13⟩ := hQ45
    have N45 := Fr.app N43 Nq45
    obtain ⟨u45_unavailableSeconds, hu45_unavailableSeconds⟩ : ∃ z, z = (own_p9U_unavailableSeconds (0 : Int64) u43_pending (10 : Int64)) := ⟨_, rfl⟩
    rw [← hu45_unavailableSeconds] at po45_5
    obtain ⟨u45_extendingSeconds, hu45_extendingSeconds⟩ : ∃ z, z = (own_p9U_extendingSeconds q0 (0 : Int64) u43_pending (10 : Int64)) := ⟨_, rfl⟩
    rw [← hu45_extendingSeconds] at po45_6
    have pre49 : own_Pre p e below (s₁.setTop (entryFrame m #[(.long q0), (.long q1), (.long q2), (.long q3), (.int p4)] maxLocals)) (T45.setTop (mkF m 139 #[.val (.long q0), .second, .val (.long q1), .second, .val (.long q2), .second, .val (.long q3), .second, .val (.int p4), .val (.long x9_11), .second, .val (.long x11_22), .second, .val (.long x13_33), .second, .val (.int (1 : Int32)), .val (.int x16_59), .val (.int x17_66), .val (.int (10 : Int32)), .val (.ref b34), .unset, .unset, .unset, .unset, .unset, .unset, .unset, .unset, .unset, .unset, .unset, .unset, .unset, .unset] [(.int (lcmpW x11_22 (0 : Int64)))])) := fun t k => pre33 t (by
        show Steps p.tables e below (T1.setTop (mkF m 66 #[.val (.long q0), .second, .val (.long q1), .second, .val (.long q2), .second, .val (.long q3), .second, .val (.int p4), .val (.long x9_11), .second, .val (.long x11_22), .second, .val (.long x13_33), .second, .val (.int (1 : Int32)), .val (.int x16_59), .val (.int x17_66), .unset, .unset, .unset, .unset, .unset, .unset, .unset, .unset, .unset, .unset, .unset, .unset, .unset, .unset, .unset, .unset] [])) _
        refine XS.iload X1.here hx rfl (hb hby at_66) rfl ?_
        show Steps p.tables e below (T1.setTop (mkF m 68 #[.val (.long q0), .second, .val (.long q1), .second, .val (.long q2), .second, .val (.long q3), .second, .val (.int p4), .val (.long x9_11), .second, .val (.long x11_22), .second, .val (.long x13_33), .second, .val (.int (1 : Int32)), .val (.int x16_59), .val (.int x17_66), .unset, .unset, .unset, .unset, .unset, .unset, .unset, .unset, .unset, .unset, .unset, .unset, .unset, .unset, .unset, .unset] [(.int (1 : Int32))])) _
        refine XS.ifNo X1.here hx rfl (hb hby at_68) rfl ((if0 _ _).trans (feq (by decide : ¬ ((1 : Int32) = (0 : Int32)))).1) ?_
        show Steps p.tables e below (T1.setTop (mkF m 71 #[.val (.long q0), .second, .val (.long q1), .second, .val (.long q2), .second, .val (.long q3), .second, .val (.int p4), .val (.long x9_11), .second, .val (.long x11_22), .second, .val (.long x13_33), .second, .val (.int (1 : Int32)), .val (.int x16_59), .val (.int x17_66), .unset, .unset, .unset, .unset, .unset, .unset, .unset, .unset, .unset, .unset, .unset, .unset, .unset, .unset, .unset, .unset] [])) _
        refine XS.bipush X1.here hx rfl (hb hby at_71) ?_
        show Steps p.tables e below (T1.setTop (mkF m 73 #[.val (.long q0), .second, .val (.long q1), .second, .val (.long q2), .second, .val (.long q3), .second, .val (.int p4), .val (.long x9_11), .second, .val (.long x11_22), .second, .val (.long x13_33), .second, .val (.int (1 : Int32)), .val (.int x16_59), .val (.int x17_66), .unset, .unset, .unset, .unset, .unset, .unset, .unset, .unset, .unset, .unset, .unset, .unset, .unset, .unset, .unset, .unset] [(.int (10 : Int32))])) _
        refine XS.goto X1.here hx rfl (pc0 := 73) (pc' := 78) rfl (hb hby at_73) (by decide) (by decide) ?_
        show Steps p.tables e below (T1.setTop (mkF m 78 #[.val (.long q0), .second, .val (.long q1), .second, .val (.long q2), .second, .val (.long q3), .second, .val (.int p4), .val (.long x9_11), .second, .val (.long x11_22), .second, .val (.long x13_33), .second, .val (.int (1 : Int32)), .val (.int x16_59), .val (.int x17_66), .unset, .unset, .unset, .unset, .unset, .unset, .unset, .unset, .unset, .unset, .unset, .unset, .unset, .unset, .unset, .unset] [(.int (10 : Int32))])) _
        refine XS.istore X1.here hx rfl (hb hby at_78) rfl (l' := #[.val (.long q0), .second, .val (.long q1), .second, .val (.long q2), .second, .val (.long q3), .second, .val (.int p4), .val (.long x9_11), .second, .val (.long x11_22), .second, .val (.long x13_33), .second, .val (.int (1 : Int32)), .val (.int x16_59), .val (.int x17_66), .val (.int (10 : Int32)), .unset, .unset, .unset, .unset, .unset, .unset, .unset, .unset, .unset, .unset, .unset, .unset, .unset, .unset, .unset]) rfl ?_
        show Steps p.tables e below (T1.setTop (mkF m 80 #[.val (.long q0), .second, .val (.long q1), .second, .val (.long q2), .second, .val (.long q3), .second, .val (.int p4), .val (.long x9_11), .second, .val (.long x11_22), .second, .val (.long x13_33), .second, .val (.int (1 : Int32)), .val (.int x16_59), .val (.int x17_66), .val (.int (10 : Int32)), .unset, .unset, .unset, .unset, .unset, .unset, .unset, .unset, .unset, .unset, .unset, .unset, .unset, .unset, .unset] [])) _
        refine st34 _ ?_
        show Steps p.tables e below (T34.setTop (mkF m 83 #[.val (.long q0), .second, .val (.long q1), .second, .val (.long q2), .second, .val (.long q3), .second, .val (.int p4), .val (.long x9_11), .second, .val (.long x11_22), .second, .val (.long x13_33), .second, .val (.int (1 : Int32)), .val (.int x16_59), .val (.int x17_66), .val (.int (10 : Int32)), .unset, .unset, .unset, .unset, .unset, .unset, .unset, .unset, .unset, .unset, .unset, .unset, .unset, .unset, .unset] [(.ref b34)])) _
        refine XS.dup X34.here hx rfl (hb hby at_83) rfl rfl ?_
        show Steps p.tables e below (T34.setTop (mkF m 84 #[.val (.long q0), .second, .val (.long q1), .second, .val (.long q2), .second, .val (.long q3), .second, .val (.int p4), .val (.long x9_11), .second, .val (.long x11_22), .second, .val (.long x13_33), .second, .val (.int (1 : Int32)), .val (.int x16_59), .val (.int x17_66), .val (.int (10 : Int32)), .unset, .unset, .unset, .unset, .unset, .unset, .unset, .unset, .unset, .unset, .unset, .unset, .unset, .unset, .unset] [(.ref b34), (.ref b34)])) _
        refine XS.lload X34.here hx rfl (hb hby at_84) rfl ?_
        show Steps p.tables e below (T34.setTop (mkF m 86 #[.val (.long q0), .second, .val (.long q1), .second, .val (.long q2), .second, .val (.long q3), .second, .val (.int p4), .val (.long x9_11), .second, .val (.long x11_22), .second, .val (.long x13_33), .second, .val (.int (1 : Int32)), .val (.int x16_59), .val (.int x17_66), .val (.int (10 : Int32)), .unset, .unset, .unset, .unset, .unset, .unset, .unset, .unset, .unset, .unset, .unset, .unset, .unset, .unset, .unset] [(.long x9_11), (.ref b34), (.ref b34)])) _
        refine XS.lloadN X34.here hx rfl (hb hby at_86) rfl ?_
        show Steps p.tables e below (T34.setTop (mkF m 87 #[.val (.long q0), .second, .val (.long q1), .second, .val (.long q2), .second, .val (.long q3), .second, .val (.int p4), .val (.long x9_11), .second, .val (.long x11_22), .second, .val (.long x13_33), .second, .val (.int (1 : Int32)), .val (.int x16_59), .val (.int x17_66), .val (.int (10 : Int32)), .unset, .unset, .unset, .unset, .unset, .unset, .unset, .unset, .unset, .unset, .unset, .unset, .unset, .unset, .unset] [(.long q0), (.long x9_11), (.ref b34), (.ref b34)])) _
        refine st35.trans ?_
        show Steps p.tables e below (T35.setTop (mkF m 90 #[.val (.long q0), .second, .val (.long q1), .second, .val (.long q2), .second, .val (.long q3), .second, .val (.int p4), .val (.long x9_11), .second, .val (.long x11_22), .second, .val (.long x13_33), .second, .val (.int (1 : Int32)), .val (.int x16_59), .val (.int x17_66), .val (.int (10 : Int32)), .unset, .unset, .unset, .unset, .unset, .unset, .unset, .unset, .unset, .unset, .unset, .unset, .unset, .unset, .unset] [(.ref b34)])) _
        refine XS.astore X35.here hx rfl (hb hby at_90) rfl rfl (l' := #[.val (.long q0), .second, .val (.long q1), .second, .val (.long q2), .second, .val (.long q3), .second, .val (.int p4), .val (.long x9_11), .second, .val (.long x11_22), .second, .val (.long x13_33), .second, .val (.int (1 : Int32)), .val (.int x16_59), .val (.int x17_66), .val (.int (10 : Int32)), .val (.ref b34), .unset, .unset, .unset, .unset, .unset, .unset, .unset, .unset, .unset, .unset, .unset, .unset, .unset, .unset]) rfl ?_
        show Steps p.tables e below (T35.setTop (mkF m 92 #[.val (.long q0), .second, .val (.long q1), .second, .val (.long q2), .second, .val (.long q3), .second, .val (.int p4), .val (.long x9_11), .second, .val (.long x11_22), .second, .val (.long x13_33), .second, .val (.int (1 : Int32)), .val (.int x16_59), .val (.int x17_66), .val (.int (10 : Int32)), .val (.ref b34), .unset, .unset, .unset, .unset, .unset, .unset, .unset, .unset, .unset, .unset, .unset, .unset, .unset, .unset] [])) _
        refine XS.aload X35.here hx rfl (hb hby at_92) rfl rfl ?_
        show Steps p.tables e below (T35.setTop (mkF m 94 #[.val (.long q0), .second, .val (.long q1), .second, .val (.long q2), .second, .val (.long q3), .second, .val (.int p4), .val (.long x9_11), .second, .val (.long x11_22), .second, .val (.long x13_33), .second, .val (.int (1 : Int32)), .val (.int x16_59), .val (.int x17_66), .val (.int (10 : Int32)), .val (.ref b34), .unset, .unset, .unset, .unset, .unset, .unset, .unset, .unset, .unset, .unset, .unset, .unset, .unset, .unset] [(.ref b34)])) _
        refine XS.lload X35.here hx rfl (hb hby at_94) rfl ?_
        show Steps p.tables e below (T35.setTop (mkF m 96 #[.val (.long q0), .second, .val (.long q1), .second, .val (.long q2), .second, .val (.long q3), .second, .val (.int p4), .val (.long x9_11), .second, .val (.long x11_22), .second, .val (.long x13_33), .second, .val (.int (1 : Int32)), .val (.int x16_59), .val (.int x17_66), .val (.int (10 : Int32)), .val (.ref b34), .unset, .unset, .unset, .unset, .unset, .unset, .unset, .unset, .unset, .unset, .unset, .unset, .unset, .unset] [(.long x11_22), (.ref b34)])) _
        refine XS.iconst X35.here hx rfl (hb hby at_96) ?_
        show Steps p.tables e below (T35.setTop (mkF m 97 #[.val (.long q0), .second, .val (.long q1), .second, .val (.long q2), .second, .val (.long q3), .second, .val (.int p4), .val (.long x9_11), .second, .val (.long x11_22), .second, .val (.long x13_33), .second, .val (.int (1 : Int32)), .val (.int x16_59), .val (.int x17_66), .val (.int (10 : Int32)), .val (.ref b34), .unset, .unset, .unset, .unset, .unset, .unset, .unset, .unset, .unset, .unset, .unset, .unset, .unset, .unset] [(.int (0 : Int32)), (.long x11_22), (.ref b34)])) _
        refine st37.trans ?_
        show Steps p.tables e below (T37.setTop (mkF m 100 #[.val (.long q0), .second, .val (.long q1), .second, .val (.long q2), .second, .val (.long q3), .second, .val (.int p4), .val (.long x9_11), .second, .val (.long x11_22), .second, .val (.long x13_33), .second, .val (.int (1 : Int32)), .val (.int x16_59), .val (.int x17_66), .val (.int (10 : Int32)), .val (.ref b34), .unset, .unset, .unset, .unset, .unset, .unset, .unset, .unset, .unset, .unset, .unset, .unset, .unset, .unset] [])) _
        refine XS.aload X37.here hx rfl (hb hby at_100) rfl rfl ?_
        show Steps p.tables e below (T37.setTop (mkF m 102 #[.val (.long q0), .second, .val (.long q1), .second, .val (.long q2), .second, .val (.long q3), .second, .val (.int p4), .val (.long x9_11), .second, .val (.long x11_22), .second, .val (.long x13_33), .second, .val (.int (1 : Int32)), .val (.int x16_59), .val (.int x17_66), .val (.int (10 : Int32)), .val (.ref b34), .unset, .unset, .unset, .unset, .unset, .unset, .unset, .unset, .unset, .unset, .unset, .unset, .unset, .unset] [(.ref b34)])) _
        refine XS.iload X37.here hx rfl (hb hby at_102) rfl ?_
        show Steps p.tables e below (T37.setTop (mkF m 104 #[.val (.long q0), .second, .val (.long q1), .second, .val (.long q2), .second, .val (.long q3), .second, .val (.int p4), .val (.long x9_11), .second, .val (.long x11_22), .second, .val (.long x13_33), .second, .val (.int (1 : Int32)), .val (.int x16_59), .val (.int x17_66), .val (.int (10 : Int32)), .val (.ref b34), .unset, .unset, .unset, .unset, .unset, .unset, .unset, .unset, .unset, .unset, .unset, .unset, .unset, .unset] [(.int (10 : Int32)), (.ref b34)])) _
        refine XS.lload X37.here hx rfl (hb hby at_104) rfl ?_
        show Steps p.tables e below (T37.setTop (mkF m 106 #[.val (.long q0), .second, .val (.long q1), .second, .val (.long q2), .second, .val (.long q3), .second, .val (.int p4), .val (.long x9_11), .second, .val (.long x11_22), .second, .val (.long x13_33), .second, .val (.int (1 : Int32)), .val (.int x16_59), .val (.int x17_66), .val (.int (10 : Int32)), .val (.ref b34), .unset, .unset, .unset, .unset, .unset, .unset, .unset, .unset, .unset, .unset, .unset, .unset, .unset, .unset] [(.long x13_33), (.int (10 : Int32)), (.ref b34)])) _
        refine st39 _ ?_
        show Steps p.tables e below (T39.setTop (mkF m 109 #[.val (.long q0), .second, .val (.long q1), .second, .val (.long q2), .second, .val (.long q3), .second, .val (.int p4), .val (.long x9_11), .second, .val (.long x11_22), .second, .val (.long x13_33), .second, .val (.int (1 : Int32)), .val (.int x16_59), .val (.int x17_66), .val (.int (10 : Int32)), .val (.ref b34), .unset, .unset, .unset, .unset, .unset, .unset, .unset, .unset, .unset, .unset, .unset, .unset, .unset, .unset] [])) _
        refine XS.iload X39.here hx rfl (hb hby at_109) rfl ?_
        show Steps p.tables e below (T39.setTop (mkF m 111 #[.val (.long q0), .second, .val (.long q1), .second, .val (.long q2), .second, .val (.long q3), .second, .val (.int p4), .val (.long x9_11), .second, .val (.long x11_22), .second, .val (.long x13_33), .second, .val (.int (1 : Int32)), .val (.int x16_59), .val (.int x17_66), .val (.int (10 : Int32)), .val (.ref b34), .unset, .unset, .unset, .unset, .unset, .unset, .unset, .unset, .unset, .unset, .unset, .unset, .unset, .unset] [(.int (1 : Int32))])) _
        refine XS.ifNo X39.here hx rfl (hb hby at_111) rfl ((if0 _ _).trans (feq (by decide : ¬ ((1 : Int32) = (0 : Int32)))).1) ?_
        show Steps p.tables e below (T39.setTop (mkF m 114 #[.val (.long q0), .second, .val (.long q1), .second, .val (.long q2), .second, .val (.long q3), .second, .val (.int p4), .val (.long x9_11), .second, .val (.long x11_22), .second, .val (.long x13_33), .second, .val (.int (1 : Int32)), .val (.int x16_59), .val (.int x17_66), .val (.int (10 : Int32)), .val (.ref b34), .unset, .unset, .unset, .unset, .unset, .unset, .unset, .unset, .unset, .unset, .unset, .unset, .unset, .unset] [])) _
        refine XS.aload X39.here hx rfl (hb hby at_114) rfl rfl ?_
        show Steps p.tables e below (T39.setTop (mkF m 116 #[.val (.long q0), .second, .val (.long q1), .second, .val (.long q2), .second, .val (.long q3), .second, .val (.int p4), .val (.long x9_11), .second, .val (.long x11_22), .second, .val (.long x13_33), .second, .val (.int (1 : Int32)), .val (.int x16_59), .val (.int x17_66), .val (.int (10 : Int32)), .val (.ref b34), .unset, .unset, .unset, .unset, .unset, .unset, .unset, .unset, .unset, .unset, .unset, .unset, .unset, .unset] [(.ref b34)])) _
        refine XS.lload X39.here hx rfl (hb hby at_116) rfl ?_
        show Steps p.tables e below (T39.setTop (mkF m 118 #[.val (.long q0), .second, .val (.long q1), .second, .val (.long q2), .second, .val (.long q3), .second, .val (.int p4), .val (.long x9_11), .second, .val (.long x11_22), .second, .val (.long x13_33), .second, .val (.int (1 : Int32)), .val (.int x16_59), .val (.int x17_66), .val (.int (10 : Int32)), .val (.ref b34), .unset, .unset, .unset, .unset, .unset, .unset, .unset, .unset, .unset, .unset, .unset, .unset, .unset, .unset] [(.long x13_33), (.ref b34)])) _
        refine XS.iconst X39.here hx rfl (hb hby at_118) ?_
        show Steps p.tables e below (T39.setTop (mkF m 119 #[.val (.long q0), .second, .val (.long q1), .second, .val (.long q2), .second, .val (.long q3), .second, .val (.int p4), .val (.long x9_11), .second, .val (.long x11_22), .second, .val (.long x13_33), .second, .val (.int (1 : Int32)), .val (.int x16_59), .val (.int x17_66), .val (.int (10 : Int32)), .val (.ref b34), .unset, .unset, .unset, .unset, .unset, .unset, .unset, .unset, .unset, .unset, .unset, .unset, .unset, .unset] [(.int (0 : Int32)), (.long x13_33), (.ref b34)])) _
        refine st41.trans ?_
        show Steps p.tables e below (T41.setTop (mkF m 122 #[.val (.long q0), .second, .val (.long q1), .second, .val (.long q2), .second, .val (.long q3), .second, .val (.int p4), .val (.long x9_11), .second, .val (.long x11_22), .second, .val (.long x13_33), .second, .val (.int (1 : Int32)), .val (.int x16_59), .val (.int x17_66), .val (.int (10 : Int32)), .val (.ref b34), .unset, .unset, .unset, .unset, .unset, .unset, .unset, .unset, .unset, .unset, .unset, .unset, .unset, .unset] [])) _
        refine XS.aload X41.here hx rfl (hb hby at_122) rfl rfl ?_
        show Steps p.tables e below (T41.setTop (mkF m 124 #[.val (.long q0), .second, .val (.long q1), .second, .val (.long q2), .second, .val (.long q3), .second, .val (.int p4), .val (.long x9_11), .second, .val (.long x11_22), .second, .val (.long x13_33), .second, .val (.int (1 : Int32)), .val (.int x16_59), .val (.int x17_66), .val (.int (10 : Int32)), .val (.ref b34), .unset, .unset, .unset, .unset, .unset, .unset, .unset, .unset, .unset, .unset, .unset, .unset, .unset, .unset] [(.ref b34)])) _
        refine XS.iload X41.here hx rfl (hb hby at_124) rfl ?_
        show Steps p.tables e below (T41.setTop (mkF m 126 #[.val (.long q0), .second, .val (.long q1), .second, .val (.long q2), .second, .val (.long q3), .second, .val (.int p4), .val (.long x9_11), .second, .val (.long x11_22), .second, .val (.long x13_33), .second, .val (.int (1 : Int32)), .val (.int x16_59), .val (.int x17_66), .val (.int (10 : Int32)), .val (.ref b34), .unset, .unset, .unset, .unset, .unset, .unset, .unset, .unset, .unset, .unset, .unset, .unset, .unset, .unset] [(.int x17_66), (.ref b34)])) _
        refine XS.i2l X41.here hx rfl (hb hby at_126) rfl ?_
        show Steps p.tables e below (T41.setTop (mkF m 127 #[.val (.long q0), .second, .val (.long q1), .second, .val (.long q2), .second, .val (.long q3), .second, .val (.int p4), .val (.long x9_11), .second, .val (.long x11_22), .second, .val (.long x13_33), .second, .val (.int (1 : Int32)), .val (.int x16_59), .val (.int x17_66), .val (.int (10 : Int32)), .val (.ref b34), .unset, .unset, .unset, .unset, .unset, .unset, .unset, .unset, .unset, .unset, .unset, .unset, .unset, .unset] [(.long (x17_66).toInt64), (.ref b34)])) _
        refine st43.trans ?_
        show Steps p.tables e below (T43.setTop (mkF m 130 #[.val (.long q0), .second, .val (.long q1), .second, .val (.long q2), .second, .val (.long q3), .second, .val (.int p4), .val (.long x9_11), .second, .val (.long x11_22), .second, .val (.long x13_33), .second, .val (.int (1 : Int32)), .val (.int x16_59), .val (.int x17_66), .val (.int (10 : Int32)), .val (.ref b34), .unset, .unset, .unset, .unset, .unset, .unset, .unset, .unset, .unset, .unset, .unset, .unset, .unset, .unset] [])) _
        refine XS.aload X43.here hx rfl (hb hby at_130) rfl rfl ?_
        show Steps p.tables e below (T43.setTop (mkF m 132 #[.val (.long q0), .second, .val (.long q1), .second, .val (.long q2), .second, .val (.long q3), .second, .val (.int p4), .val (.long x9_11), .second, .val (.long x11_22), .second, .val (.long x13_33), .second, .val (.int (1 : Int32)), .val (.int x16_59), .val (.int x17_66), .val (.int (10 : Int32)), .val (.ref b34), .unset, .unset, .unset, .unset, .unset, .unset, .unset, .unset, .unset, .unset, .unset, .unset, .unset, .unset] [(.ref b34)])) _
        refine st45.trans ?_
        show Steps p.tables e below (T45.setTop (mkF m 135 #[.val (.long q0), .second, .val (.long q1), .second, .val (.long q2), .second, .val (.long q3), .second, .val (.int p4), .val (.long x9_11), .second, .val (.long x11_22), .second, .val (.long x13_33), .second, .val (.int (1 : Int32)), .val (.int x16_59), .val (.int x17_66), .val (.int (10 : Int32)), .val (.ref b34), .unset, .unset, .unset, .unset, .unset, .unset, .unset, .unset, .unset, .unset, .unset, .unset, .unset, .unset] [])) _
        refine XS.lload X45.here hx rfl (hb hby at_135) rfl ?_
        show Steps p.tables e below (T45.setTop (mkF m 137 #[.val (.long q0), .second, .val (.long q1), .second, .val (.long q2), .second, .val (.long q3), .second, .val (.int p4), .val (.long x9_11), .second, .val (.long x11_22), .second, .val (.long x13_33), .second, .val (.int (1 : Int32)), .val (.int x16_59), .val (.int x17_66), .val (.int (10 : Int32)), .val (.ref b34), .unset, .unset, .unset, .unset, .unset, .unset, .unset, .unset, .unset, .unset, .unset, .unset, .unset, .unset] [(.long x11_22)])) _
        refine XS.lconst X45.here hx rfl (hb hby at_137) ?_
        show Steps p.tables e below (T45.setTop (mkF m 138 #[.val (.long q0), .second, .val (.long q1), .second, .val (.long q2), .second, .val (.long q3), .second, .val (.int p4), .val (.long x9_11), .second, .val (.long x11_22), .second, .val (.long x13_33), .second, .val (.int (1 : Int32)), .val (.int x16_59), .val (.int x17_66), .val (.int (10 : Int32)), .val (.ref b34), .unset, .unset, .unset, .unset, .unset, .unset, .unset, .unset, .unset, .unset, .unset, .unset, .unset, .unset] [(.long (0 : Int64)), (.long x11_22)])) _
        refine XS.lcmp X45.here hx rfl (hb hby at_138) rfl ?_
        exact k)
    obtain ⟨m147_s0, hm147_s0, pre48⟩ : ∃ (m147_s0 : Int64), m147_s0 = (own_m0_147_s0 x11_22) ∧ own_Pre p e below (s₁.setTop (entryFrame m #[(.long q0), (.long q1), (.long q2), (.long q3), (.int p4)] maxLocals)) (T45.setTop (mkF m 147 #[.val (.long q0), .second, .val (.long q1), .second, .val (.long q2), .second, .val (.long q3), .second, .val (.int p4), .val (.long x9_11), .second, .val (.long x11_22), .second, .val (.long x13_33), .second, .val (.int (1 : Int32)), .val (.int x16_59), .val (.int x17_66), .val (.int (10 : Int32)), .val (.ref b34), .unset, .unset, .unset, .unset, .unset, .unset, .unset, .unset, .unset, .unset, .unset, .unset, .unset, .unset] [(.long m147_s0)])) := by
      by_cases hc139 : (0 : Int64) < x11_22
      · have pre50 : own_Pre p e below (s₁.setTop (entryFrame m #[(.long q0), (.long q1), (.long q2), (.long q3), (.int p4)] maxLocals)) (T45.setTop (mkF m 147 #[.val (.long q0), .second, .val (.long q1), .second, .val (.long q2), .second, .val (.long q3), .second, .val (.int p4), .val (.long x9_11), .second, .val (.long x11_22), .second, .val (.long x13_33), .second, .val (.int (1 : Int32)), .val (.int x16_59), .val (.int x17_66), .val (.int (10 : Int32)), .val (.ref b34), .unset, .unset, .unset, .unset, .unset, .unset, .unset, .unset, .unset, .unset, .unset, .unset, .unset, .unset] [(.long (1 : Int64))])) := fun t k => pre49 t (by
            show Steps p.tables e below (T45.setTop (mkF m 139 #[.val (.long q0), .second, .val (.long q1), .second, .val (.long q2), .second, .val (.long q3), .second, .val (.int p4), .val (.long x9_11), .second, .val (.long x11_22), .second, .val (.long x13_33), .second, .val (.int (1 : Int32)), .val (.int x16_59), .val (.int x17_66), .val (.int (10 : Int32)), .val (.ref b34), .unset, .unset, .unset, .unset, .unset, .unset, .unset, .unset, .unset, .unset, .unset, .unset, .unset, .unset] [(.int (lcmpW x11_22 (0 : Int64)))])) _
            refine XS.ifNo X45.here hx rfl (hb hby at_139) rfl ((if0 _ _).trans (tlt ((lw_gt _ _).mpr hc139)).2.2.2) ?_
            show Steps p.tables e below (T45.setTop (mkF m 142 #[.val (.long q0), .second, .val (.long q1), .second, .val (.long q2), .second, .val (.long q3), .second, .val (.int p4), .val (.long x9_11), .second, .val (.long x11_22), .second, .val (.long x13_33), .second, .val (.int (1 : Int32)), .val (.int x16_59), .val (.int x17_66), .val (.int (10 : Int32)), .val (.ref b34), .unset, .unset, .unset, .unset, .unset, .unset, .unset, .unset, .unset, .unset, .unset, .unset, .unset, .unset] [])) _
            refine XS.lconst X45.here hx rfl (hb hby at_142) ?_
            show Steps p.tables e below (T45.setTop (mkF m 143 #[.val (.long q0), .second, .val (.long q1), .second, .val (.long q2), .second, .val (.long q3), .second, .val (.int p4), .val (.long x9_11), .second, .val (.long x11_22), .second, .val (.long x13_33), .second, .val (.int (1 : Int32)), .val (.int x16_59), .val (.int x17_66), .val (.int (10 : Int32)), .val (.ref b34), .unset, .unset, .unset, .unset, .unset, .unset, .unset, .unset, .unset, .unset, .unset, .unset, .unset, .unset] [(.long (1 : Int64))])) _
            refine XS.goto X45.here hx rfl (pc0 := 143) (pc' := 147) rfl (hb hby at_143) (by decide) (by decide) ?_
            exact k)
        refine ⟨_, ?_, pre50⟩
        all_goals (first | (simp only [own_m0_147_s0, if_pos hc139]; done) | (simp [own_m0_147_s0, if_pos hc139]; done))
      · have pre51 : own_Pre p e below (s₁.setTop (entryFrame m #[(.long q0), (.long q1), (.long q2), (.long q3), (.int p4)] maxLocals)) (T45.setTop (mkF m 147 #[.val (.long q0), .second, .val (.long q1), .second, .val (.long q2), .second, .val (.long q3), .second, .val (.int p4), .val (.long x9_11), .second, .val (.long x11_22), .second, .val (.long x13_33), .second, .val (.int (1 : Int32)), .val (.int x16_59), .val (.int x17_66), .val (.int (10 : Int32)), .val (.ref b34), .unset, .unset, .unset, .unset, .unset, .unset, .unset, .unset, .unset, .unset, .unset, .unset, .unset, .unset] [(.long (0 : Int64))])) := fun t k => pre49 t (by
            show Steps p.tables e below (T45.setTop (mkF m 139 #[.val (.long q0), .second, .val (.long q1), .second, .val (.long q2), .second, .val (.long q3), .second, .val (.int p4), .val (.long x9_11), .second, .val (.long x11_22), .second, .val (.long x13_33), .second, .val (.int (1 : Int32)), .val (.int x16_59), .val (.int x17_66), .val (.int (10 : Int32)), .val (.ref b34), .unset, .unset, .unset, .unset, .unset, .unset, .unset, .unset, .unset, .unset, .unset, .unset, .unset, .unset] [(.int (lcmpW x11_22 (0 : Int64)))])) _
            refine XS.ifYes X45.here hx rfl (pc0 := 139) (pc' := 146) rfl (hb hby at_139) rfl ((if0 _ _).trans (flt (mt (lw_gt _ _).mp hc139)).2.2.2) (by decide) (by decide) ?_
            show Steps p.tables e below (T45.setTop (mkF m 146 #[.val (.long q0), .second, .val (.long q1), .second, .val (.long q2), .second, .val (.long q3), .second, .val (.int p4), .val (.long x9_11), .second, .val (.long x11_22), .second, .val (.long x13_33), .second, .val (.int (1 : Int32)), .val (.int x16_59), .val (.int x17_66), .val (.int (10 : Int32)), .val (.ref b34), .unset, .unset, .unset, .unset, .unset, .unset, .unset, .unset, .unset, .unset, .unset, .unset, .unset, .unset] [])) _
            refine XS.lconst X45.here hx rfl (hb hby at_146) ?_
            exact k)
        refine ⟨_, ?_, pre51⟩
        all_goals (first | (simp only [own_m0_147_s0, if_neg hc139]; done) | (simp [own_m0_147_s0, if_neg hc139]; done))
    obtain ⟨x32_163, hx32_163, pre52⟩ : ∃ z : Int64, z = ((11 : Int64) + (x17_66).toInt64) ∧ own_Pre p e below (s₁.setTop (entryFrame m #[(.long q0), (.long q1), (.long q2), (.long q3), (.int p4)] maxLocals)) (T45.setTop (mkF m 163 #[.val (.long q0), .second, .val (.long q1), .second, .val (.long q2), .second, .val (.long q3), .second, .val (.int p4), .val (.long x9_11), .second, .val (.long x11_22), .second, .val (.long x13_33), .second, .val (.int (1 : Int32)), .val (.int x16_59), .val (.int x17_66), .val (.int (10 : Int32)), .val (.ref b34), .val (.long m147_s0), .second, .unset, .unset, .unset, .unset, .unset, .unset, .unset, .unset, .unset, .unset, .val (.long z), .second] [])) := ⟨_, rfl, fun t k => pre48 t (by
        show Steps p.tables e below (T45.setTop (mkF m 147 #[.val (.long q0), .second, .val (.long q1), .second, .val (.long q2), .second, .val (.long q3), .second, .val (.int p4), .val (.long x9_11), .second, .val (.long x11_22), .second, .val (.long x13_33), .second, .val (.int (1 : Int32)), .val (.int x16_59), .val (.int x17_66), .val (.int (10 : Int32)), .val (.ref b34), .unset, .unset, .unset, .unset, .unset, .unset, .unset, .unset, .unset, .unset, .unset, .unset, .unset, .unset] [(.long m147_s0)])) _
        refine XS.lstore X45.here hx rfl (hb hby at_147) rfl (l' := #[.val (.long q0), .second, .val (.long q1), .second, .val (.long q2), .second, .val (.long q3), .second, .val (.int p4), .val (.long x9_11), .second, .val (.long x11_22), .second, .val (.long x13_33), .second, .val (.int (1 : Int32)), .val (.int x16_59), .val (.int x17_66), .val (.int (10 : Int32)), .val (.ref b34), .val (.long m147_s0), .second, .unset, .unset, .unset, .unset, .unset, .unset, .unset, .unset, .unset, .unset, .unset, .unset]) rfl ?_
        show Steps p.tables e below (T45.setTop (mkF m 149 #[.val (.long q0), .second, .val (.long q1), .second, .val (.long q2), .second, .val (.long q3), .second, .val (.int p4), .val (.long x9_11), .second, .val (.long x11_22), .second, .val (.long x13_33), .second, .val (.int (1 : Int32)), .val (.int x16_59), .val (.int x17_66), .val (.int (10 : Int32)), .val (.ref b34), .val (.long m147_s0), .second, .unset, .unset, .unset, .unset, .unset, .unset, .unset, .unset, .unset, .unset, .unset, .unset] [])) _
        refine XS.iload X45.here hx rfl (hb hby at_149) rfl ?_
        show Steps p.tables e below (T45.setTop (mkF m 151 #[.val (.long q0), .second, .val (.long q1), .second, .val (.long q2), .second, .val (.long q3), .second, .val (.int p4), .val (.long x9_11), .second, .val (.long x11_22), .second, .val (.long x13_33), .second, .val (.int (1 : Int32)), .val (.int x16_59), .val (.int x17_66), .val (.int (10 : Int32)), .val (.ref b34), .val (.long m147_s0), .second, .unset, .unset, .unset, .unset, .unset, .unset, .unset, .unset, .unset, .unset, .unset, .unset] [(.int (1 : Int32))])) _
        refine XS.ifNo X45.here hx rfl (hb hby at_151) rfl ((if0 _ _).trans (feq (by decide : ¬ ((1 : Int32) = (0 : Int32)))).1) ?_
        show Steps p.tables e below (T45.setTop (mkF m 154 #[.val (.long q0), .second, .val (.long q1), .second, .val (.long q2), .second, .val (.long q3), .second, .val (.int p4), .val (.long x9_11), .second, .val (.long x11_22), .second, .val (.long x13_33), .second, .val (.int (1 : Int32)), .val (.int x16_59), .val (.int x17_66), .val (.int (10 : Int32)), .val (.ref b34), .val (.long m147_s0), .second, .unset, .unset, .unset, .unset, .unset, .unset, .unset, .unset, .unset, .unset, .unset, .unset] [])) _
        refine X45.ldc2Long hx hown (mvT hZ (hw _ (List.mem_of_getElem? (i := 75) rfl))) (g := (mkF m 154 #[.val (.long q0), .second, .val (.long q1), .second, .val (.long q2), .second, .val (.long q3), .second, .val (.int p4), .val (.long x9_11), .second, .val (.long x11_22), .second, .val (.long x13_33), .second, .val (.int (1 : Int32)), .val (.int x16_59), .val (.int x17_66), .val (.int (10 : Int32)), .val (.ref b34), .val (.long m147_s0), .second, .unset, .unset, .unset, .unset, .unset, .unset, .unset, .unset, .unset, .unset, .unset, .unset] [])) rfl (hb hby at_154) _ ?_
        show Steps p.tables e below (T45.setTop (mkF m 157 #[.val (.long q0), .second, .val (.long q1), .second, .val (.long q2), .second, .val (.long q3), .second, .val (.int p4), .val (.long x9_11), .second, .val (.long x11_22), .second, .val (.long x13_33), .second, .val (.int (1 : Int32)), .val (.int x16_59), .val (.int x17_66), .val (.int (10 : Int32)), .val (.ref b34), .val (.long m147_s0), .second, .unset, .unset, .unset, .unset, .unset, .unset, .unset, .unset, .unset, .unset, .unset, .unset] [(.long (11 : Int64))])) _
        refine XS.iload X45.here hx rfl (hb hby at_157) rfl ?_
        show Steps p.tables e below (T45.setTop (mkF m 159 #[.val (.long q0), .second, .val (.long q1), .second, .val (.long q2), .second, .val (.long q3), .second, .val (.int p4), .val (.long x9_11), .second, .val (.long x11_22), .second, .val (.long x13_33), .second, .val (.int (1 : Int32)), .val (.int x16_59), .val (.int x17_66), .val (.int (10 : Int32)), .val (.ref b34), .val (.long m147_s0), .second, .unset, .unset, .unset, .unset, .unset, .unset, .unset, .unset, .unset, .unset, .unset, .unset] [(.int x17_66), (.long (11 : Int64))])) _
        refine XS.i2l X45.here hx rfl (hb hby at_159) rfl ?_
        show Steps p.tables e below (T45.setTop (mkF m 160 #[.val (.long q0), .second, .val (.long q1), .second, .val (.long q2), .second, .val (.long q3), .second, .val (.int p4), .val (.long x9_11), .second, .val (.long x11_22), .second, .val (.long x13_33), .second, .val (.int (1 : Int32)), .val (.int x16_59), .val (.int x17_66), .val (.int (10 : Int32)), .val (.ref b34), .val (.long m147_s0), .second, .unset, .unset, .unset, .unset, .unset, .unset, .unset, .unset, .unset, .unset, .unset, .unset] [(.long (x17_66).toInt64), (.long (11 : Int64))])) _
        refine XS.ladd X45.here hx rfl (hb hby at_160) rfl ?_
        show Steps p.tables e below (T45.setTop (mkF m 161 #[.val (.long q0), .second, .val (.long q1), .second, .val (.long q2), .second, .val (.long q3), .second, .val (.int p4), .val (.long x9_11), .second, .val (.long x11_22), .second, .val (.long x13_33), .second, .val (.int (1 : Int32)), .val (.int x16_59), .val (.int x17_66), .val (.int (10 : Int32)), .val (.ref b34), .val (.long m147_s0), .second, .unset, .unset, .unset, .unset, .unset, .unset, .unset, .unset, .unset, .unset, .unset, .unset] [(.long ((11 : Int64) + (x17_66).toInt64))])) _
        refine XS.lstore X45.here hx rfl (hb hby at_161) rfl (l' := #[.val (.long q0), .second, .val (.long q1), .second, .val (.long q2), .second, .val (.long q3), .second, .val (.int p4), .val (.long x9_11), .second, .val (.long x11_22), .second, .val (.long x13_33), .second, .val (.int (1 : Int32)), .val (.int x16_59), .val (.int x17_66), .val (.int (10 : Int32)), .val (.ref b34), .val (.long m147_s0), .second, .unset, .unset, .unset, .unset, .unset, .unset, .unset, .unset, .unset, .unset, .val (.long ((11 : Int64) + (x17_66).toInt64)), .second]) rfl ?_
        exact k)⟩
    obtain ⟨x22_169, hx22_169, pre53⟩ : ∃ z : Int64, z = ((1 : Int64) + x32_163) ∧ own_Pre p e below (s₁.setTop (entryFrame m #[(.long q0), (.long q1), (.long q2), (.long q3), (.int p4)] maxLocals)) (T45.setTop (mkF m 169 #[.val (.long q0), .second, .val (.long q1), .second, .val (.long q2), .second, .val (.long q3), .second, .val (.int p4), .val (.long x9_11), .second, .val (.long x11_22), .second, .val (.long x13_33), .second, .val (.int (1 : Int32)), .val (.int x16_59), .val (.int x17_66), .val (.int (10 : Int32)), .val (.ref b34), .val (.long m147_s0), .second, .val (.long z), .second, .unset, .unset, .unset, .unset, .unset, .unset, .unset, .unset, .val (.long x32_163), .second] [])) := ⟨_, rfl, fun t k => pre52 t (by
        show Steps p.tables e below (T45.setTop (mkF m 163 #[.val (.long q0), .second, .val (.long q1), .second, .val (.long q2), .second, .val (.long q3), .second, .val (.int p4), .val (.long x9_11), .second, .val (.long x11_22), .second, .val (.long x13_33), .second, .val (.int (1 : Int32)), .val (.int x16_59), .val (.int x17_66), .val (.int (10 : Int32)), .val (.ref b34), .val (.long m147_s0), .second, .unset, .unset, .unset, .unset, .unset, .unset, .unset, .unset, .unset, .unset, .val (.long x32_163), .second] [])) _
        refine XS.lconst X45.here hx rfl (hb hby at_163) ?_
        show Steps p.tables e below (T45.setTop (mkF m 164 #[.val (.long q0), .second, .val (.long q1), .second, .val (.long q2), .second, .val (.long q3), .second, .val (.int p4), .val (.long x9_11), .second, .val (.long x11_22), .second, .val (.long x13_33), .second, .val (.int (1 : Int32)), .val (.int x16_59), .val (.int x17_66), .val (.int (10 : Int32)), .val (.ref b34), .val (.long m147_s0), .second, .unset, .unset, .unset, .unset, .unset, .unset, .unset, .unset, .unset, .unset, .val (.long x32_163), .second] [(.long (1 : Int64))])) _
        refine XS.lload X45.here hx rfl (hb hby at_164) rfl ?_
        show Steps p.tables e below (T45.setTop (mkF m 166 #[.val (.long q0), .second, .val (.long q1), .second, .val (.long q2), .second, .val (.long q3), .second, .val (.int p4), .val (.long x9_11), .second, .val (.long x11_22), .second, .val (.long x13_33), .second, .val (.int (1 : Int32)), .val (.int x16_59), .val (.int x17_66), .val (.int (10 : Int32)), .val (.ref b34), .val (.long m147_s0), .second, .unset, .unset, .unset, .unset, .unset, .unset, .unset, .unset, .unset, .unset, .val (.long x32_163), .second] [(.long x32_163), (.long (1 : Int64))])) _
        refine XS.ladd X45.here hx rfl (hb hby at_166) rfl ?_
        show Steps p.tables e below (T45.setTop (mkF m 167 #[.val (.long q0), .second, .val (.long q1), .second, .val (.long q2), .second, .val (.long q3), .second, .val (.int p4), .val (.long x9_11), .second, .val (.long x11_22), .second, .val (.long x13_33), .second, .val (.int (1 : Int32)), .val (.int x16_59), .val (.int x17_66), .val (.int (10 : Int32)), .val (.ref b34), .val (.long m147_s0), .second, .unset, .unset, .unset, .unset, .unset, .unset, .unset, .unset, .unset, .unset, .val (.long x32_163), .second] [(.long ((1 : Int64) + x32_163))])) _
        refine XS.lstore X45.here hx rfl (hb hby at_167) rfl (l' := #[.val (.long q0), .second, .val (.long q1), .second, .val (.long q2), .second, .val (.long q3), .second, .val (.int p4), .val (.long x9_11), .second, .val (.long x11_22), .second, .val (.long x13_33), .second, .val (.int (1 : Int32)), .val (.int x16_59), .val (.int x17_66), .val (.int (10 : Int32)), .val (.ref b34), .val (.long m147_s0), .second, .val (.long ((1 : Int64) + x32_163)), .second, .unset, .unset, .unset, .unset, .unset, .unset, .unset, .unset, .val (.long x32_163), .second]) rfl ?_
        exact k)⟩
    have pre56 : own_Pre p e below (s₁.setTop (entryFrame m #[(.long q0), (.long q1), (.long q2), (.long q3), (.int p4)] maxLocals)) (T45.setTop (mkF m 184 #[.val (.long q0), .second, .val (.long q1), .second, .val (.long q2), .second, .val (.long q3), .second, .val (.int p4), .val (.long x9_11), .second, .val (.long x11_22), .second, .val (.long x13_33), .second, .val (.int (1 : Int32)), .val (.int x16_59), .val (.int x17_66), .val (.int (10 : Int32)), .val (.ref b34), .val (.long m147_s0), .second, .val (.long x22_169), .second, .val (.long m147_s0), .second, .val (.long (0 : Int64)), .second, .val (.long x32_163), .second, .unset, .unset, .val (.long x32_163), .second] [(.int (lcmpW x32_163 q0))])) := fun t k => pre53 t (by
        show Steps p.tables e below (T45.setTop (mkF m 169 #[.val (.long q0), .second, .val (.long q1), .second, .val (.long q2), .second, .val (.long q3), .second, .val (.int p4), .val (.long x9_11), .second, .val (.long x11_22), .second, .val (.long x13_33), .second, .val (.int (1 : Int32)), .val (.int x16_59), .val (.int x17_66), .val (.int (10 : Int32)), .val (.ref b34), .val (.long m147_s0), .second, .val (.long x22_169), .second, .unset, .unset, .unset, .unset, .unset, .unset, .unset, .unset, .val (.long x32_163), .second] [])) _
        refine XS.lload X45.here hx rfl (hb hby at_169) rfl ?_
        show Steps p.tables e below (T45.setTop (mkF m 171 #[.val (.long q0), .second, .val (.long q1), .second, .val (.long q2), .second, .val (.long q3), .second, .val (.int p4), .val (.long x9_11), .second, .val (.long x11_22), .second, .val (.long x13_33), .second, .val (.int (1 : Int32)), .val (.int x16_59), .val (.int x17_66), .val (.int (10 : Int32)), .val (.ref b34), .val (.long m147_s0), .second, .val (.long x22_169), .second, .unset, .unset, .unset, .unset, .unset, .unset, .unset, .unset, .val (.long x32_163), .second] [(.long m147_s0)])) _
        refine XS.lstore X45.here hx rfl (hb hby at_171) rfl (l' := #[.val (.long q0), .second, .val (.long q1), .second, .val (.long q2), .second, .val (.long q3), .second, .val (.int p4), .val (.long x9_11), .second, .val (.long x11_22), .second, .val (.long x13_33), .second, .val (.int (1 : Int32)), .val (.int x16_59), .val (.int x17_66), .val (.int (10 : Int32)), .val (.ref b34), .val (.long m147_s0), .second, .val (.long x22_169), .second, .val (.long m147_s0), .second, .unset, .unset, .unset, .unset, .unset, .unset, .val (.long x32_163), .second]) rfl ?_
        show Steps p.tables e below (T45.setTop (mkF m 173 #[.val (.long q0), .second, .val (.long q1), .second, .val (.long q2), .second, .val (.long q3), .second, .val (.int p4), .val (.long x9_11), .second, .val (.long x11_22), .second, .val (.long x13_33), .second, .val (.int (1 : Int32)), .val (.int x16_59), .val (.int x17_66), .val (.int (10 : Int32)), .val (.ref b34), .val (.long m147_s0), .second, .val (.long x22_169), .second, .val (.long m147_s0), .second, .unset, .unset, .unset, .unset, .unset, .unset, .val (.long x32_163), .second] [])) _
        refine XS.lconst X45.here hx rfl (hb hby at_173) ?_
        show Steps p.tables e below (T45.setTop (mkF m 174 #[.val (.long q0), .second, .val (.long q1), .second, .val (.long q2), .second, .val (.long q3), .second, .val (.int p4), .val (.long x9_11), .second, .val (.long x11_22), .second, .val (.long x13_33), .second, .val (.int (1 : Int32)), .val (.int x16_59), .val (.int x17_66), .val (.int (10 : Int32)), .val (.ref b34), .val (.long m147_s0), .second, .val (.long x22_169), .second, .val (.long m147_s0), .second, .unset, .unset, .unset, .unset, .unset, .unset, .val (.long x32_163), .second] [(.long (0 : Int64))])) _
        refine XS.lstore X45.here hx rfl (hb hby at_174) rfl (l' := #[.val (.long q0), .second, .val (.long q1), .second, .val (.long q2), .second, .val (.long q3), .second, .val (.int p4), .val (.long x9_11), .second, .val (.long x11_22), .second, .val (.long x13_33), .second, .val (.int (1 : Int32)), .val (.int x16_59), .val (.int x17_66), .val (.int (10 : Int32)), .val (.ref b34), .val (.long m147_s0), .second, .val (.long x22_169), .second, .val (.long m147_s0), .second, .val (.long (0 : Int64)), .second, .unset, .unset, .unset, .unset, .val (.long x32_163), .second]) rfl ?_
        show Steps p.tables e below (T45.setTop (mkF m 176 #[.val (.long q0), .second, .val (.long q1), .second, .val (.long q2), .second, .val (.long q3), .second, .val (.int p4), .val (.long x9_11), .second, .val (.long x11_22), .second, .val (.long x13_33), .second, .val (.int (1 : Int32)), .val (.int x16_59), .val (.int x17_66), .val (.int (10 : Int32)), .val (.ref b34), .val (.long m147_s0), .second, .val (.long x22_169), .second, .val (.long m147_s0), .second, .val (.long (0 : Int64)), .second, .unset, .unset, .unset, .unset, .val (.long x32_163), .second] [])) _
        refine XS.lload X45.here hx rfl (hb hby at_176) rfl ?_
        show Steps p.tables e below (T45.setTop (mkF m 178 #[.val (.long q0), .second, .val (.long q1), .second, .val (.long q2), .second, .val (.long q3), .second, .val (.int p4), .val (.long x9_11), .second, .val (.long x11_22), .second, .val (.long x13_33), .second, .val (.int (1 : Int32)), .val (.int x16_59), .val (.int x17_66), .val (.int (10 : Int32)), .val (.ref b34), .val (.long m147_s0), .second, .val (.long x22_169), .second, .val (.long m147_s0), .second, .val (.long (0 : Int64)), .second, .unset, .unset, .unset, .unset, .val (.long x32_163), .second] [(.long x32_163)])) _
        refine XS.lstore X45.here hx rfl (hb hby at_178) rfl (l' := #[.val (.long q0), .second, .val (.long q1), .second, .val (.long q2), .second, .val (.long q3), .second, .val (.int p4), .val (.long x9_11), .second, .val (.long x11_22), .second, .val (.long x13_33), .second, .val (.int (1 : Int32)), .val (.int x16_59), .val (.int x17_66), .val (.int (10 : Int32)), .val (.ref b34), .val (.long m147_s0), .second, .val (.long x22_169), .second, .val (.long m147_s0), .second, .val (.long (0 : Int64)), .second, .val (.long x32_163), .second, .unset, .unset, .val (.long x32_163), .second]) rfl ?_
        show Steps p.tables e below (T45.setTop (mkF m 180 #[.val (.long q0), .second, .val (.long q1), .second, .val (.long q2), .second, .val (.long q3), .second, .val (.int p4), .val (.long x9_11), .second, .val (.long x11_22), .second, .val (.long x13_33), .second, .val (.int (1 : Int32)), .val (.int x16_59), .val (.int x17_66), .val (.int (10 : Int32)), .val (.ref b34), .val (.long m147_s0), .second, .val (.long x22_169), .second, .val (.long m147_s0), .second, .val (.long (0 : Int64)), .second, .val (.long x32_163), .second, .unset, .unset, .val (.long x32_163), .second] [])) _
        refine XS.lload X45.here hx rfl (hb hby at_180) rfl ?_
        show Steps p.tables e below (T45.setTop (mkF m 182 #[.val (.long q0), .second, .val (.long q1), .second, .val (.long q2), .second, .val (.long q3), .second, .val (.int p4), .val (.long x9_11), .second, .val (.long x11_22), .second, .val (.long x13_33), .second, .val (.int (1 : Int32)), .val (.int x16_59), .val (.int x17_66), .val (.int (10 : Int32)), .val (.ref b34), .val (.long m147_s0), .second, .val (.long x22_169), .second, .val (.long m147_s0), .second, .val (.long (0 : Int64)), .second, .val (.long x32_163), .second, .unset, .unset, .val (.long x32_163), .second] [(.long x32_163)])) _
        refine XS.lloadN X45.here hx rfl (hb hby at_182) rfl ?_
        show Steps p.tables e below (T45.setTop (mkF m 183 #[.val (.long q0), .second, .val (.long q1), .second, .val (.long q2), .second, .val (.long q3), .second, .val (.int p4), .val (.long x9_11), .second, .val (.long x11_22), .second, .val (.long x13_33), .second, .val (.int (1 : Int32)), .val (.int x16_59), .val (.int x17_66), .val (.int (10 : Int32)), .val (.ref b34), .val (.long m147_s0), .second, .val (.long x22_169), .second, .val (.long m147_s0), .second, .val (.long (0 : Int64)), .second, .val (.long x32_163), .second, .unset, .unset, .val (.long x32_163), .second] [(.long q0), (.long x32_163)])) _
        refine XS.lcmp X45.here hx rfl (hb hby at_183) rfl ?_
        exact k)
    obtain ⟨m193_s0, hm193_s0, pre55⟩ : ∃ (m193_s0 : Int64), m193_s0 = (own_m0_193_s0 q0 x32_163) ∧ own_Pre p e below (s₁.setTop (entryFrame m #[(.long q0), (.long q1), (.long q2), (.long q3), (.int p4)] maxLocals)) (T45.setTop (mkF m 193 #[.val (.long q0), .second, .val (.long q1), .second, .val (.long q2), .second, .val (.long q3), .second, .val (.int p4), .val (.long x9_11), .second, .val (.long x11_22), .second, .val (.long x13_33), .second, .val (.int (1 : Int32)), .val (.int x16_59), .val (.int x17_66), .val (.int (10 : Int32)), .val (.ref b34), .val (.long m147_s0), .second, .val (.long x22_169), .second, .val (.long m147_s0), .second, .val (.long (0 : Int64)), .second, .val (.long x32_163), .second, .unset, .unset, .val (.long x32_163), .second] [(.long m193_s0)])) := by
      by_cases hc184 : q0 < x32_163
      · have pre57 : own_Pre p e below (s₁.setTop (entryFrame m #[(.long q0), (.long q1), (.long q2), (.long q3), (.int p4)] maxLocals)) (T45.setTop (mkF m 193 #[.val (.long q0), .second, .val (.long q1), .second, .val (.long q2), .second, .val (.long q3), .second, .val (.int p4), .val (.long x9_11), .second, .val (.long x11_22), .second, .val (.long x13_33), .second, .val (.int (1 : Int32)), .val (.int x16_59), .val (.int x17_66), .val (.int (10 : Int32)), .val (.ref b34), .val (.long m147_s0), .second, .val (.long x22_169), .second, .val (.long m147_s0), .second, .val (.long (0 : Int64)), .second, .val (.long x32_163), .second, .unset, .unset, .val (.long x32_163), .second] [(.long x32_163)])) := fun t k => pre56 t (by
            show Steps p.tables e below (T45.setTop (mkF m 184 #[.val (.long q0), .second, .val (.long q1), .second, .val (.long q2), .second, .val (.long q3), .second, .val (.int p4), .val (.long x9_11), .second, .val (.long x11_22), .second, .val (.long x13_33), .second, .val (.int (1 : Int32)), .val (.int x16_59), .val (.int x17_66), .val (.int (10 : Int32)), .val (.ref b34), .val (.long m147_s0), .second, .val (.long x22_169), .second, .val (.long m147_s0), .second, .val (.long (0 : Int64)), .second, .val (.long x32_163), .second, .unset, .unset, .val (.long x32_163), .second] [(.int (lcmpW x32_163 q0))])) _
            refine XS.ifNo X45.here hx rfl (hb hby at_184) rfl ((if0 _ _).trans (tlt ((lw_gt _ _).mpr hc184)).2.2.2) ?_
            show Steps p.tables e below (T45.setTop (mkF m 187 #[.val (.long q0), .second, .val (.long q1), .second, .val (.long q2), .second, .val (.long q3), .second, .val (.int p4), .val (.long x9_11), .second, .val (.long x11_22), .second, .val (.long x13_33), .second, .val (.int (1 : Int32)), .val (.int x16_59), .val (.int x17_66), .val (.int (10 : Int32)), .val (.ref b34), .val (.long m147_s0), .second, .val (.long x22_169), .second, .val (.long m147_s0), .second, .val (.long (0 : Int64)), .second, .val (.long x32_163), .second, .unset, .unset, .val (.long x32_163), .second] [])) _
            refine XS.lload X45.here hx rfl (hb hby at_187) rfl ?_
            show Steps p.tables e below (T45.setTop (mkF m 189 #[.val (.long q0), .second, .val (.long q1), .second, .val (.long q2), .second, .val (.long q3), .second, .val (.int p4), .val (.long x9_11), .second, .val (.long x11_22), .second, .val (.long x13_33), .second, .val (.int (1 : Int32)), .val (.int x16_59), .val (.int x17_66), .val (.int (10 : Int32)), .val (.ref b34), .val (.long m147_s0), .second, .val (.long x22_169), .second, .val (.long m147_s0), .second, .val (.long (0 : Int64)), .second, .val (.long x32_163), .second, .unset, .unset, .val (.long x32_163), .second] [(.long x32_163)])) _
            refine XS.goto X45.here hx rfl (pc0 := 189) (pc' := 193) rfl (hb hby at_189) (by decide) (by decide) ?_
            exact k)
        refine ⟨_, ?_, pre57⟩
        all_goals (first | (simp only [own_m0_193_s0, if_pos hc184]; done) | (simp [own_m0_193_s0, if_pos hc184]; done))
      · have pre58 : own_Pre p e below (s₁.setTop (entryFrame m #[(.long q0), (.long q1), (.long q2), (.long q3), (.int p4)] maxLocals)) (T45.setTop (mkF m 193 #[.val (.long q0), .second, .val (.long q1), .second, .val (.long q2), .second, .val (.long q3), .second, .val (.int p4), .val (.long x9_11), .second, .val (.long x11_22), .second, .val (.long x13_33), .second, .val (.int (1 : Int32)), .val (.int x16_59), .val (.int x17_66), .val (.int (10 : Int32)), .val (.ref b34), .val (.long m147_s0), .second, .val (.long x22_169), .second, .val (.long m147_s0), .second, .val (.long (0 : Int64)), .second, .val (.long x32_163), .second, .unset, .unset, .val (.long x32_163), .second] [(.long (0 : Int64))])) := fun t k => pre56 t (by
            show Steps p.tables e below (T45.setTop (mkF m 184 #[.val (.long q0), .second, .val (.long q1), .second, .val (.long q2), .second, .val (.long q3), .second, .val (.int p4), .val (.long x9_11), .second, .val (.long x11_22), .second, .val (.long x13_33), .second, .val (.int (1 : Int32)), .val (.int x16_59), .val (.int x17_66), .val (.int (10 : Int32)), .val (.ref b34), .val (.long m147_s0), .second, .val (.long x22_169), .second, .val (.long m147_s0), .second, .val (.long (0 : Int64)), .second, .val (.long x32_163), .second, .unset, .unset, .val (.long x32_163), .second] [(.int (lcmpW x32_163 q0))])) _
            refine XS.ifYes X45.here hx rfl (pc0 := 184) (pc' := 192) rfl (hb hby at_184) rfl ((if0 _ _).trans (flt (mt (lw_gt _ _).mp hc184)).2.2.2) (by decide) (by decide) ?_
            show Steps p.tables e below (T45.setTop (mkF m 192 #[.val (.long q0), .second, .val (.long q1), .second, .val (.long q2), .second, .val (.long q3), .second, .val (.int p4), .val (.long x9_11), .second, .val (.long x11_22), .second, .val (.long x13_33), .second, .val (.int (1 : Int32)), .val (.int x16_59), .val (.int x17_66), .val (.int (10 : Int32)), .val (.ref b34), .val (.long m147_s0), .second, .val (.long x22_169), .second, .val (.long m147_s0), .second, .val (.long (0 : Int64)), .second, .val (.long x32_163), .second, .unset, .unset, .val (.long x32_163), .second] [])) _
            refine XS.lconst X45.here hx rfl (hb hby at_192) ?_
            exact k)
        refine ⟨_, ?_, pre58⟩
        all_goals (first | (simp only [own_m0_193_s0, if_neg hc184]; done) | (simp [own_m0_193_s0, if_neg hc184]; done))
    have z60 : n0 ≤ (T45.heap).size := (Nat.le_trans z46 K45.1)
    obtain ⟨cq59, kq59, q59a, q59b, q59c⟩ := isOf hZ rfl po45_0
    obtain ⟨_, _, ⟨T59, L59, k59, n59⟩, -, X59, ⟨Lc59, hQ59, l59, y59, z59⟩, st59⟩ := X45.virtualBack hx (y := (⟨"com/example/hopchuan/hopchuan/ErrorCounter", "seconds", "()J"⟩ : MethodName)) (z := (⟨"com/example/hopchuan/hopchuan/ErrorCounter", "seconds", "()J"⟩ : MethodName)) hown (mvT hZ (hw _ (List.mem_of_getElem? (i := 76) rfl))) (mvT hZ (hw _ (List.mem_of_getElem? (i := 77) rfl))) (notFace_of_selects (args := #[]) (mvT hZ (hw _ (List.mem_of_getElem? (i := 79) rfl)))) (mvT hZ (hw _ (List.mem_of_getElem? (i := 79) rfl))) (mvT hZ (hw _ (List.mem_of_getElem? (i := 78) rfl))) (by decide) (backOf (W := 0) (rm12 l Z aw hw [] (b34) (u43_seconds) (T45.heap) n0 z60 po45_4) hZ (hw _ (List.mem_of_getElem? (i := 80) rfl)) (hw _ (List.mem_of_getElem? (i := 8) rfl)) (by decide) (by decide)) q59a q59c (g := (mkF m 226 #[.val (.long q0), .second, .val (.long q1), .second, .val (.long q2), .second, .val (.long q3), .second, .val (.int p4), .val (.long x9_11), .second, .val (.long x11_22), .second, .val (.long x13_33), .second, .val (.int (1 : Int32)), .val (.int x16_59), .val (.int x17_66), .val (.int (10 : Int32)), .val (.ref b34), .val (.long m147_s0), .second, .val (.long x22_169), .second, .val (.long m147_s0), .second, .val (.long (0 : Int64)), .second, .val (.long x32_163), .second, .val (.long m193_s0), .second, .val (.long x32_163), .second] [(.ref b34)])) rfl (by rw [hml]; rfl) (Steps.refl _) (argsL := []) (rest := []) (lenOf pd_5 rfl) rfl (by show 2 * 0 + _ ≤ _; exact Nat.le_of_eq rfl) (hb hby at_226) (fun _ _ => ⟨rfl, rfl, (by decide : 1 + 0 ≤ _), (by decide : 13 + 0 ≤ _)⟩)
    dsimp only [Pt.U, Pt.locs, Pt.cells, Pt.slots] at X59 l59 y59 z59 st59 hQ59
    subst l59 y59 z59
    obtain ⟨rfl, Nq59, eq59⟩ := hQ59
    have N59 := Fr.app N45 Nq59
    have hc232 : (u43_seconds = x22_169) := by rw [hx22_169, hx32_163]; subst hu45_extendingSeconds hu45_unavailableSeconds hu43_pendingBlocks hu43_pendingErrored hu43_pending hu43_seconds hu41_pendingBlocks hu41_pendingErrored hu41_seconds hu39_seconds hu37_backgroundBlockErrors hu37_erroredSeconds; exact (own_sU _ _ hx16_59 hx17_66).1
    obtain ⟨cq61, kq61, q61a, q61b, q61c⟩ := isOf hZ eq59 po45_0
    obtain ⟨_, _, ⟨T61, L61, k61, n61⟩, -, X61, ⟨Lc61, hQ61, l61, y61, z61⟩, st61⟩ := X59.virtualBack hx (y := (⟨"com/example/hopchuan/hopchuan/ErrorCounter", "erroredSeconds", "()J"⟩ : MethodName)) (z := (⟨"com/example/hopchuan/hopchuan/ErrorCounter", "erroredSeconds", "()J"⟩ : MethodName)) hown (mvT hZ (hw _ (List.mem_of_getElem? (i := 81) rfl))) (mvT hZ (hw _ (List.mem_of_getElem? (i := 82) rfl))) (notFace_of_selects (args := #[]) (mvT hZ (hw _ (List.mem_of_getElem? (i := 84) rfl)))) (mvT hZ (hw _ (List.mem_of_getElem? (i := 84) rfl))) (mvT hZ (hw _ (List.mem_of_getElem? (i := 83) rfl))) (by decide) (backOf (W := 0) (rm13 l Z aw hw [] (b34) (u37_erroredSeconds) (T45.heap) n0 z60 po45_7) hZ (hw _ (List.mem_of_getElem? (i := 85) rfl)) (hw _ (List.mem_of_getElem? (i := 8) rfl)) (by decide) (by decide)) q61a q61c (g := (mkF m 237 #[.val (.long q0), .second, .val (.long q1), .second, .val (.long q2), .second, .val (.long q3), .second, .val (.int p4), .val (.long x9_11), .second, .val (.long x11_22), .second, .val (.long x13_33), .second, .val (.int (1 : Int32)), .val (.int x16_59), .val (.int x17_66), .val (.int (10 : Int32)), .val (.ref b34), .val (.long m147_s0), .second, .val (.long x22_169), .second, .val (.long m147_s0), .second, .val (.long (0 : Int64)), .second, .val (.long x32_163), .second, .val (.long m193_s0), .second, .val (.long x32_163), .second] [(.ref b34)])) rfl (by rw [hml]; rfl) (Steps.refl _) (argsL := []) (rest := []) (lenOf pd_5 rfl) rfl (by show 2 * 0 + _ ≤ _; exact Nat.le_of_eq rfl) (hb hby at_237) (fun _ _ => ⟨rfl, eq59, (by decide : 1 + 0 ≤ _), (by decide : 13 + 0 ≤ _)⟩)
    dsimp only [Pt.U, Pt.locs, Pt.cells, Pt.slots] at X61 l61 y61 z61 st61 hQ61
    subst l61 y61 z61
    obtain ⟨rfl, Nq61, eq61⟩ := hQ61
    have N61 := Fr.app N59 Nq61
    have hc243 : (u37_erroredSeconds = m147_s0) := by rw [hm147_s0]; subst hu45_extendingSeconds hu45_unavailableSeconds hu43_pendingBlocks hu43_pendingErrored hu43_pending hu43_seconds hu41_pendingBlocks hu41_pendingErrored hu41_seconds hu39_seconds hu37_backgroundBlockErrors hu37_erroredSeconds; exact own_es _
    obtain ⟨cq62, kq62, q62a, q62b, q62c⟩ := isOf hZ eq61 po45_0
    obtain ⟨_, _, ⟨T62, L62, k62, n62⟩, -, X62, ⟨Lc62, hQ62, l62, y62, z62⟩, st62⟩ := X61.virtualBack hx (y := (⟨"com/example/hopchuan/hopchuan/ErrorCounter", "severelyErroredSeconds", "()J"⟩ : MethodName)) (z := (⟨"com/example/hopchuan/hopchuan/ErrorCounter", "severelyErroredSeconds", "()J"⟩ : MethodName)) hown (mvT hZ (hw _ (List.mem_of_getElem? (i := 86) rfl))) (mvT hZ (hw _ (List.mem_of_getElem? (i := 87) rfl))) (notFace_of_selects (args := #[]) (mvT hZ (hw _ (List.mem_of_getElem? (i := 89) rfl)))) (mvT hZ (hw _ (List.mem_of_getElem? (i := 89) rfl))) (mvT hZ (hw _ (List.mem_of_getElem? (i := 88) rfl))) (by decide) (backOf (W := 0) (rm14 l Z aw hw [] (b34) ((0 : Int64)) (T45.heap) n0 z60 po45_8) hZ (hw _ (List.mem_of_getElem? (i := 90) rfl)) (hw _ (List.mem_of_getElem? (i := 8) rfl)) (by decide) (by decide)) q62a q62c (g := (mkF m 248 #[.val (.long q0), .second, .val (.long q1), .second, .val (.long q2), .second, .val (.long q3), .second, .val (.int p4), .val (.long x9_11), .second, .val (.long x11_22), .second, .val (.long x13_33), .second, .val (.int (1 : Int32)), .val (.int x16_59), .val (.int x17_66), .val (.int (10 : Int32)), .val (.ref b34), .val (.long m147_s0), .second, .val (.long x22_169), .second, .val (.long m147_s0), .second, .val (.long (0 : Int64)), .second, .val (.long x32_163), .second, .val (.long m193_s0), .second, .val (.long x32_163), .second] [(.ref b34)])) rfl (by rw [hml]; rfl) (Steps.refl _) (argsL := []) (rest := []) (lenOf pd_5 rfl) rfl (by show 2 * 0 + _ ≤ _; exact Nat.le_of_eq rfl) (hb hby at_248) (fun _ _ => ⟨rfl, eq61, (by decide : 1 + 0 ≤ _), (by decide : 13 + 0 ≤ _)⟩)
    dsimp only [Pt.U, Pt.locs, Pt.cells, Pt.slots] at X62 l62 y62 z62 st62 hQ62
    subst l62 y62 z62
    obtain ⟨rfl, Nq62, eq62⟩ := hQ62
    have N62 := Fr.app N61 Nq62
    have hc254 : (((0 : Int64)) = (0 : Int64)) := rfl
    obtain ⟨cq63, kq63, q63a, q63b, q63c⟩ := isOf hZ eq62 po45_0
    obtain ⟨_, _, ⟨T63, L63, k63, n63⟩, -, X63, ⟨Lc63, hQ63, l63, y63, z63⟩, st63⟩ := X62.virtualBack hx (y := (⟨"com/example/hopchuan/hopchuan/ErrorCounter", "backgroundBlockErrors", "()J"⟩ : MethodName)) (z := (⟨"com/example/hopchuan/hopchuan/ErrorCounter", "backgroundBlockErrors", "()J"⟩ : MethodName)) hown (mvT hZ (hw _ (List.mem_of_getElem? (i := 91) rfl))) (mvT hZ (hw _ (List.mem_of_getElem? (i := 92) rfl))) (notFace_of_selects (args := #[]) (mvT hZ (hw _ (List.mem_of_getElem? (i := 94) rfl)))) (mvT hZ (hw _ (List.mem_of_getElem? (i := 94) rfl))) (mvT hZ (hw _ (List.mem_of_getElem? (i := 93) rfl))) (by decide) (backOf (W := 0) (rm15 l Z aw hw [] (b34) (u37_backgroundBlockErrors) (T45.heap) n0 z60 po45_9) hZ (hw _ (List.mem_of_getElem? (i := 95) rfl)) (hw _ (List.mem_of_getElem? (i := 8) rfl)) (by decide) (by decide)) q63a q63c (g := (mkF m 259 #[.val (.long q0), .second, .val (.long q1), .second, .val (.long q2), .second, .val (.long q3), .second, .val (.int p4), .val (.long x9_11), .second, .val (.long x11_22), .second, .val (.long x13_33), .second, .val (.int (1 : Int32)), .val (.int x16_59), .val (.int x17_66), .val (.int (10 : Int32)), .val (.ref b34), .val (.long m147_s0), .second, .val (.long x22_169), .second, .val (.long m147_s0), .second, .val (.long (0 : Int64)), .second, .val (.long x32_163), .second, .val (.long m193_s0), .second, .val (.long x32_163), .second] [(.ref b34)])) rfl (by rw [hml]; rfl) (Steps.refl _) (argsL := []) (rest := []) (lenOf pd_5 rfl) rfl (by show 2 * 0 + _ ≤ _; exact Nat.le_of_eq rfl) (hb hby at_259) (fun _ _ => ⟨rfl, eq62, (by decide : 1 + 0 ≤ _), (by decide : 13 + 0 ≤ _)⟩)
    dsimp only [Pt.U, Pt.locs, Pt.cells, Pt.slots] at X63 l63 y63 z63 st63 hQ63
    subst l63 y63 z63
    obtain ⟨rfl, Nq63, eq63⟩ := hQ63
    have N63 := Fr.app N62 Nq63
    have hc265 : (u37_backgroundBlockErrors = x11_22) := by subst hu45_extendingSeconds hu45_unavailableSeconds hu43_pendingBlocks hu43_pendingErrored hu43_pending hu43_seconds hu41_pendingBlocks hu41_pendingErrored hu41_seconds hu39_seconds hu37_backgroundBlockErrors hu37_erroredSeconds; exact own_bb _ _ _ hx11_22 hth
    obtain ⟨cq64, kq64, q64a, q64b, q64c⟩ := isOf hZ eq63 po45_0
    obtain ⟨_, _, ⟨T64, L64, k64, n64⟩, -, X64, ⟨Lc64, hQ64, l64, y64, z64⟩, st64⟩ := X63.virtualBack hx (y := (⟨"com/example/hopchuan/hopchuan/ErrorCounter", "unavailableSeconds", "()J"⟩ : MethodName)) (z := (⟨"com/example/hopchuan/hopchuan/ErrorCounter", "unavailableSeconds", "()J"⟩ : MethodName)) hown (mvT hZ (hw _ (List.mem_of_getElem? (i := 98) rfl))) (mvT hZ (hw _ (List.mem_of_getElem? (i := 99) rfl))) (notFace_of_selects (args := #[]) (mvT hZ (hw _ (List.mem_of_getElem? (i := 101) rfl)))) (mvT hZ (hw _ (List.mem_of_getElem? (i := 101) rfl))) (mvT hZ (hw _ (List.mem_of_getElem? (i := 100) rfl))) (by decide) (backOf (W := 0) (rm16 l Z aw hw [] (b34) (u45_unavailableSeconds) (T45.heap) n0 z60 po45_5) hZ (hw _ (List.mem_of_getElem? (i := 102) rfl)) (hw _ (List.mem_of_getElem? (i := 8) rfl)) (by decide) (by decide)) q64a q64c (g := (mkF m 270 #[.val (.long q0), .second, .val (.long q1), .second, .val (.long q2), .second, .val (.long q3), .second, .val (.int p4), .val (.long x9_11), .second, .val (.long x11_22), .second, .val (.long x13_33), .second, .val (.int (1 : Int32)), .val (.int x16_59), .val (.int x17_66), .val (.int (10 : Int32)), .val (.ref b34), .val (.long m147_s0), .second, .val (.long x22_169), .second, .val (.long m147_s0), .second, .val (.long (0 : Int64)), .second, .val (.long x32_163), .second, .val (.long m193_s0), .second, .val (.long x32_163), .second] [(.ref b34)])) rfl (by rw [hml]; rfl) (Steps.refl _) (argsL := []) (rest := []) (lenOf pd_5 rfl) rfl (by show 2 * 0 + _ ≤ _; exact Nat.le_of_eq rfl) (hb hby at_270) (fun _ _ => ⟨rfl, eq63, (by decide : 1 + 0 ≤ _), (by decide : 13 + 0 ≤ _)⟩)
    dsimp only [Pt.U, Pt.locs, Pt.cells, Pt.slots] at X64 l64 y64 z64 st64 hQ64
    subst l64 y64 z64
    obtain ⟨rfl, Nq64, eq64⟩ := hQ64
    have N64 := Fr.app N63 Nq64
    have hc276 : (u45_unavailableSeconds = x32_163) := by rw [hx32_163]; subst hu45_extendingSeconds hu45_unavailableSeconds hu43_pendingBlocks hu43_pendingErrored hu43_pending hu43_seconds hu41_pendingBlocks hu41_pendingErrored hu41_seconds hu39_seconds hu37_backgroundBlockErrors hu37_erroredSeconds; exact own_usU _ _ (own_sU _ _ hx16_59 hx17_66).2
    obtain ⟨cq65, kq65, q65a, q65b, q65c⟩ := isOf hZ eq64 po45_0
    obtain ⟨_, _, ⟨T65, L65, k65, n65⟩, -, X65, ⟨Lc65, hQ65, l65, y65, z65⟩, st65⟩ := X64.virtualBack hx (y := (⟨"com/example/hopchuan/hopchuan/ErrorCounter", "extendingPeriodSeconds", "()J"⟩ : MethodName)) (z := (⟨"com/example/hopchuan/hopchuan/ErrorCounter", "extendingPeriodSeconds", "()J"⟩ : MethodName)) hown (mvT hZ (hw _ (List.mem_of_getElem? (i := 103) rfl))) (mvT hZ (hw _ (List.mem_of_getElem? (i := 104) rfl))) (notFace_of_selects (args := #[]) (mvT hZ (hw _ (List.mem_of_getElem? (i := 106) rfl)))) (mvT hZ (hw _ (List.mem_of_getElem? (i := 106) rfl))) (mvT hZ (hw _ (List.mem_of_getElem? (i := 105) rfl))) (by decide) (backOf (W := 0) (rm17 l Z aw hw [] (b34) (u45_extendingSeconds) (T45.heap) n0 z60 po45_6) hZ (hw _ (List.mem_of_getElem? (i := 107) rfl)) (hw _ (List.mem_of_getElem? (i := 8) rfl)) (by decide) (by decide)) q65a q65c (g := (mkF m 281 #[.val (.long q0), .second, .val (.long q1), .second, .val (.long q2), .second, .val (.long q3), .second, .val (.int p4), .val (.long x9_11), .second, .val (.long x11_22), .second, .val (.long x13_33), .second, .val (.int (1 : Int32)), .val (.int x16_59), .val (.int x17_66), .val (.int (10 : Int32)), .val (.ref b34), .val (.long m147_s0), .second, .val (.long x22_169), .second, .val (.long m147_s0), .second, .val (.long (0 : Int64)), .second, .val (.long x32_163), .second, .val (.long m193_s0), .second, .val (.long x32_163), .second] [(.ref b34)])) rfl (by rw [hml]; rfl) (Steps.refl _) (argsL := []) (rest := []) (lenOf pd_5 rfl) rfl (by show 2 * 0 + _ ≤ _; exact Nat.le_of_eq rfl) (hb hby at_281) (fun _ _ => ⟨rfl, eq64, (by decide : 1 + 0 ≤ _), (by decide : 13 + 0 ≤ _)⟩)
    dsimp only [Pt.U, Pt.locs, Pt.cells, Pt.slots] at X65 l65 y65 z65 st65 hQ65
    subst l65 y65 z65
    obtain ⟨rfl, Nq65, eq65⟩ := hQ65
    have N65 := Fr.app N64 Nq65
    have hc287 : (u45_extendingSeconds = m193_s0) := by rw [hm193_s0, hx32_163]; subst hu45_extendingSeconds hu45_unavailableSeconds hu43_pendingBlocks hu43_pendingErrored hu43_pending hu43_seconds hu41_pendingBlocks hu41_pendingErrored hu41_seconds hu39_seconds hu37_backgroundBlockErrors hu37_erroredSeconds; exact own_xsU _ _ _ (own_sU _ _ hx16_59 hx17_66).2
    obtain ⟨fs, hr, hrun, hended, hW, hsame⟩ := X65.leave (v := some (.int (1 : Int32))) (fun h => by rw [Bd.returns] at h; cases h)
    refine ⟨_, _, pre55 _ ?_, hrun, hended, _, _, rfl, ?_, ⟨_, rfl⟩, hW, hsame.mono (by decide) (by decide)⟩
    · show Steps p.tables e below (T45.setTop (mkF m 193 #[.val (.long q0), .second, .val (.long q1), .second, .val (.long q2), .second, .val (.long q3), .second, .val (.int p4), .val (.long x9_11), .second, .val (.long x11_22), .second, .val (.long x13_33), .second, .val (.int (1 : Int32)), .val (.int x16_59), .val (.int x17_66), .val (.int (10 : Int32)), .val (.ref b34), .val (.long m147_s0), .second, .val (.long x22_169), .second, .val (.long m147_s0), .second, .val (.long (0 : Int64)), .second, .val (.long x32_163), .second, .unset, .unset, .val (.long x32_163), .second] [(.long m193_s0)])) _
      refine XS.lstore X45.here hx rfl (hb hby at_193) rfl (l' := #[.val (.long q0), .second, .val (.long q1), .second, .val (.long q2), .second, .val (.long q3), .second, .val (.int p4), .val (.long x9_11), .second, .val (.long x11_22), .second, .val (.long x13_33), .second, .val (.int (1 : Int32)), .val (.int x16_59), .val (.int x17_66), .val (.int (10 : Int32)), .val (.ref b34), .val (.long m147_s0), .second, .val (.long x22_169), .second, .val (.long m147_s0), .second, .val (.long (0 : Int64)), .second, .val (.long x32_163), .second, .val (.long m193_s0), .second, .val (.long x32_163), .second]) rfl ?_
      show Steps p.tables e below (T45.setTop (mkF m 195 #[.val (.long q0), .second, .val (.long q1), .second, .val (.long q2), .second, .val (.long q3), .second, .val (.int p4), .val (.long x9_11), .second, .val (.long x11_22), .second, .val (.long x13_33), .second, .val (.int (1 : Int32)), .val (.int x16_59), .val (.int x17_66), .val (.int (10 : Int32)), .val (.ref b34), .val (.long m147_s0), .second, .val (.long x22_169), .second, .val (.long m147_s0), .second, .val (.long (0 : Int64)), .second, .val (.long x32_163), .second, .val (.long m193_s0), .second, .val (.long x32_163), .second] [])) _
      refine XS.goto X45.here hx rfl (pc0 := 195) (pc' := 224) rfl (hb hby at_195) (by decide) (by decide) ?_
      show Steps p.tables e below (T45.setTop (mkF m 224 #[.val (.long q0), .second, .val (.long q1), .second, .val (.long q2), .second, .val (.long q3), .second, .val (.int p4), .val (.long x9_11), .second, .val (.long x11_22), .second, .val (.long x13_33), .second, .val (.int (1 : Int32)), .val (.int x16_59), .val (.int x17_66), .val (.int (10 : Int32)), .val (.ref b34), .val (.long m147_s0), .second, .val (.long x22_169), .second, .val (.long m147_s0), .second, .val (.long (0 : Int64)), .second, .val (.long x32_163), .second, .val (.long m193_s0), .second, .val (.long x32_163), .second] [])) _
      refine XS.aload X45.here hx rfl (hb hby at_224) rfl rfl ?_
      show Steps p.tables e below (T45.setTop (mkF m 226 #[.val (.long q0), .second, .val (.long q1), .second, .val (.long q2), .second, .val (.long q3), .second, .val (.int p4), .val (.long x9_11), .second, .val (.long x11_22), .second, .val (.long x13_33), .second, .val (.int (1 : Int32)), .val (.int x16_59), .val (.int x17_66), .val (.int (10 : Int32)), .val (.ref b34), .val (.long m147_s0), .second, .val (.long x22_169), .second, .val (.long m147_s0), .second, .val (.long (0 : Int64)), .second, .val (.long x32_163), .second, .val (.long m193_s0), .second, .val (.long x32_163), .second] [(.ref b34)])) _
      refine st59.trans ?_
      show Steps p.tables e below (T59.setTop (mkF m 229 #[.val (.long q0), .second, .val (.long q1), .second, .val (.long q2), .second, .val (.long q3), .second, .val (.int p4), .val (.long x9_11), .second, .val (.long x11_22), .second, .val (.long x13_33), .second, .val (.int (1 : Int32)), .val (.int x16_59), .val (.int x17_66), .val (.int (10 : Int32)), .val (.ref b34), .val (.long m147_s0), .second, .val (.long x22_169), .second, .val (.long m147_s0), .second, .val (.long (0 : Int64)), .second, .val (.long x32_163), .second, .val (.long m193_s0), .second, .val (.long x32_163), .second] [(.long u43_seconds)])) _
      refine XS.lload X59.here hx rfl (hb hby at_229) rfl ?_
      show Steps p.tables e below (T59.setTop (mkF m 231 #[.val (.long q0), .second, .val (.long q1), .second, .val (.long q2), .second, .val (.long q3), .second, .val (.int p4), .val (.long x9_11), .second, .val (.long x11_22), .second, .val (.long x13_33), .second, .val (.int (1 : Int32)), .val (.int x16_59), .val (.int x17_66), .val (.int (10 : Int32)), .val (.ref b34), .val (.long m147_s0), .second, .val (.long x22_169), .second, .val (.long m147_s0), .second, .val (.long (0 : Int64)), .second, .val (.long x32_163), .second, .val (.long m193_s0), .second, .val (.long x32_163), .second] [(.long x22_169), (.long u43_seconds)])) _
      refine XS.lcmp X59.here hx rfl (hb hby at_231) rfl ?_
      show Steps p.tables e below (T59.setTop (mkF m 232 #[.val (.long q0), .second, .val (.long q1), .second, .val (.long q2), .second, .val (.long q3), .second, .val (.int p4), .val (.long x9_11), .second, .val (.long x11_22), .second, .val (.long x13_33), .second, .val (.int (1 : Int32)), .val (.int x16_59), .val (.int x17_66), .val (.int (10 : Int32)), .val (.ref b34), .val (.long m147_s0), .second, .val (.long x22_169), .second, .val (.long m147_s0), .second, .val (.long (0 : Int64)), .second, .val (.long x32_163), .second, .val (.long m193_s0), .second, .val (.long x32_163), .second] [(.int (lcmpW u43_seconds x22_169))])) _
      refine XS.ifNo X59.here hx rfl (hb hby at_232) rfl ((if0 _ _).trans (teq ((lw_eq _ _).mpr hc232)).2) ?_
      show Steps p.tables e below (T59.setTop (mkF m 235 #[.val (.long q0), .second, .val (.long q1), .second, .val (.long q2), .second, .val (.long q3), .second, .val (.int p4), .val (.long x9_11), .second, .val (.long x11_22), .second, .val (.long x13_33), .second, .val (.int (1 : Int32)), .val (.int x16_59), .val (.int x17_66), .val (.int (10 : Int32)), .val (.ref b34), .val (.long m147_s0), .second, .val (.long x22_169), .second, .val (.long m147_s0), .second, .val (.long (0 : Int64)), .second, .val (.long x32_163), .second, .val (.long m193_s0), .second, .val (.long x32_163), .second] [])) _
      refine XS.aload X59.here hx rfl (hb hby at_235) rfl rfl ?_
      show Steps p.tables e below (T59.setTop (mkF m 237 #[.val (.long q0), .second, .val (.long q1), .second, .val (.long q2), .second, .val (.long q3), .second, .val (.int p4), .val (.long x9_11), .second, .val (.long x11_22), .second, .val (.long x13_33), .second, .val (.int (1 : Int32)), .val (.int x16_59), .val (.int x17_66), .val (.int (10 : Int32)), .val (.ref b34), .val (.long m147_s0), .second, .val (.long x22_169), .second, .val (.long m147_s0), .second, .val (.long (0 : Int64)), .second, .val (.long x32_163), .second, .val (.long m193_s0), .second, .val (.long x32_163), .second] [(.ref b34)])) _
      refine st61.trans ?_
      show Steps p.tables e below (T61.setTop (mkF m 240 #[.val (.long q0), .second, .val (.long q1), .second, .val (.long q2), .second, .val (.long q3), .second, .val (.int p4), .val (.long x9_11), .second, .val (.long x11_22), .second, .val (.long x13_33), .second, .val (.int (1 : Int32)), .val (.int x16_59), .val (.int x17_66), .val (.int (10 : Int32)), .val (.ref b34), .val (.long m147_s0), .second, .val (.long x22_169), .second, .val (.long m147_s0), .second, .val (.long (0 : Int64)), .second, .val (.long x32_163), .second, .val (.long m193_s0), .second, .val (.long x32_163), .second] [(.long u37_erroredSeconds)])) _
      refine XS.lload X61.here hx rfl (hb hby at_240) rfl ?_
      show Steps p.tables e below (T61.setTop (mkF m 242 #[.val (.long q0), .second, .val (.long q1), .second, .val (.long q2), .second, .val (.long q3), .second, .val (.int p4), .val (.long x9_11), .second, .val (.long x11_22), .second, .val (.long x13_33), .second, .val (.int (1 : Int32)), .val (.int x16_59), .val (.int x17_66), .val (.int (10 : Int32)), .val (.ref b34), .val (.long m147_s0), .second, .val (.long x22_169), .second, .val (.long m147_s0), .second, .val (.long (0 : Int64)), .second, .val (.long x32_163), .second, .val (.long m193_s0), .second, .val (.long x32_163), .second] [(.long m147_s0), (.long u37_erroredSeconds)])) _
      refine XS.lcmp X61.here hx rfl (hb hby at_242) rfl ?_
      show Steps p.tables e below (T61.setTop (mkF m 243 #[.val (.long q0), .second, .val (.long q1), .second, .val (.long q2), .second, .val (.long q3), .second, .val (.int p4), .val (.long x9_11), .second, .val (.long x11_22), .second, .val (.long x13_33), .second, .val (.int (1 : Int32)), .val (.int x16_59), .val (.int x17_66), .val (.int (10 : Int32)), .val (.ref b34), .val (.long m147_s0), .second, .val (.long x22_169), .second, .val (.long m147_s0), .second, .val (.long (0 : Int64)), .second, .val (.long x32_163), .second, .val (.long m193_s0), .second, .val (.long x32_163), .second] [(.int (lcmpW u37_erroredSeconds m147_s0))])) _
      refine XS.ifNo X61.here hx rfl (hb hby at_243) rfl ((if0 _ _).trans (teq ((lw_eq _ _).mpr hc243)).2) ?_
      show Steps p.tables e below (T61.setTop (mkF m 246 #[.val (.long q0), .second, .val (.long q1), .second, .val (.long q2), .second, .val (.long q3), .second, .val (.int p4), .val (.long x9_11), .second, .val (.long x11_22), .second, .val (.long x13_33), .second, .val (.int (1 : Int32)), .val (.int x16_59), .val (.int x17_66), .val (.int (10 : Int32)), .val (.ref b34), .val (.long m147_s0), .second, .val (.long x22_169), .second, .val (.long m147_s0), .second, .val (.long (0 : Int64)), .second, .val (.long x32_163), .second, .val (.long m193_s0), .second, .val (.long x32_163), .second] [])) _
      refine XS.aload X61.here hx rfl (hb hby at_246) rfl rfl ?_
      show Steps p.tables e below (T61.setTop (mkF m 248 #[.val (.long q0), .second, .val (.long q1), .second, .val (.long q2), .second, .val (.long q3), .second, .val (.int p4), .val (.long x9_11), .second, .val (.long x11_22), .second, .val (.long x13_33), .second, .val (.int (1 : Int32)), .val (.int x16_59), .val (.int x17_66), .val (.int (10 : Int32)), .val (.ref b34), .val (.long m147_s0), .second, .val (.long x22_169), .second, .val (.long m147_s0), .second, .val (.long (0 : Int64)), .second, .val (.long x32_163), .second, .val (.long m193_s0), .second, .val (.long x32_163), .second] [(.ref b34)])) _
      refine st62.trans ?_
      show Steps p.tables e below (T62.setTop (mkF m 251 #[.val (.long q0), .second, .val (.long q1), .second, .val (.long q2), .second, .val (.long q3), .second, .val (.int p4), .val (.long x9_11), .second, .val (.long x11_22), .second, .val (.long x13_33), .second, .val (.int (1 : Int32)), .val (.int x16_59), .val (.int x17_66), .val (.int (10 : Int32)), .val (.ref b34), .val (.long m147_s0), .second, .val (.long x22_169), .second, .val (.long m147_s0), .second, .val (.long (0 : Int64)), .second, .val (.long x32_163), .second, .val (.long m193_s0), .second, .val (.long x32_163), .second] [(.long ((0 : Int64)))])) _
      refine XS.lload X62.here hx rfl (hb hby at_251) rfl ?_
      show Steps p.tables e below (T62.setTop (mkF m 253 #[.val (.long q0), .second, .val (.long q1), .second, .val (.long q2), .second, .val (.long q3), .second, .val (.int p4), .val (.long x9_11), .second, .val (.long x11_22), .second, .val (.long x13_33), .second, .val (.int (1 : Int32)), .val (.int x16_59), .val (.int x17_66), .val (.int (10 : Int32)), .val (.ref b34), .val (.long m147_s0), .second, .val (.long x22_169), .second, .val (.long m147_s0), .second, .val (.long (0 : Int64)), .second, .val (.long x32_163), .second, .val (.long m193_s0), .second, .val (.long x32_163), .second] [(.long (0 : Int64)), (.long ((0 : Int64)))])) _
      refine XS.lcmp X62.here hx rfl (hb hby at_253) rfl ?_
      show Steps p.tables e below (T62.setTop (mkF m 254 #[.val (.long q0), .second, .val (.long q1), .second, .val (.long q2), .second, .val (.long q3), .second, .val (.int p4), .val (.long x9_11), .second, .val (.long x11_22), .second, .val (.long x13_33), .second, .val (.int (1 : Int32)), .val (.int x16_59), .val (.int x17_66), .val (.int (10 : Int32)), .val (.ref b34), .val (.long m147_s0), .second, .val (.long x22_169), .second, .val (.long m147_s0), .second, .val (.long (0 : Int64)), .second, .val (.long x32_163), .second, .val (.long m193_s0), .second, .val (.long x32_163), .second] [(.int (lcmpW ((0 : Int64)) (0 : Int64)))])) _
      refine XS.ifNo X62.here hx rfl (hb hby at_254) rfl ((if0 _ _).trans (teq ((lw_eq _ _).mpr hc254)).2) ?_
      show Steps p.tables e below (T62.setTop (mkF m 257 #[.val (.long q0), .second, .val (.long q1), .second, .val (.long q2), .second, .val (.long q3), .second, .val (.int p4), .val (.long x9_11), .second, .val (.long x11_22), .second, .val (.long x13_33), .second, .val (.int (1 : Int32)), .val (.int x16_59), .val (.int x17_66), .val (.int (10 : Int32)), .val (.ref b34), .val (.long m147_s0), .second, .val (.long x22_169), .second, .val (.long m147_s0), .second, .val (.long (0 : Int64)), .second, .val (.long x32_163), .second, .val (.long m193_s0), .second, .val (.long x32_163), .second] [])) _
      refine XS.aload X62.here hx rfl (hb hby at_257) rfl rfl ?_
      show Steps p.tables e below (T62.setTop (mkF m 259 #[.val (.long q0), .second, .val (.long q1), .second, .val (.long q2), .second, .val (.long q3), .second, .val (.int p4), .val (.long x9_11), .second, .val (.long x11_22), .second, .val (.long x13_33), .second, .val (.int (1 : Int32)), .val (.int x16_59), .val (.int x17_66), .val (.int (10 : Int32)), .val (.ref b34), .val (.long m147_s0), .second, .val (.long x22_169), .second, .val (.long m147_s0), .second, .val (.long (0 : Int64)), .second, .val (.long x32_163), .second, .val (.long m193_s0), .second, .val (.long x32_163), .second] [(.ref b34)])) _
      refine st63.trans ?_
      show Steps p.tables e below (T63.setTop (mkF m 262 #[.val (.long q0), .second, .val (.long q1), .second, .val (.long q2), .second, .val (.long q3), .second, .val (.int p4), .val (.long x9_11), .second, .val (.long x11_22), .second, .val (.long x13_33), .second, .val (.int (1 : Int32)), .val (.int x16_59), .val (.int x17_66), .val (.int (10 : Int32)), .val (.ref b34), .val (.long m147_s0), .second, .val (.long x22_169), .second, .val (.long m147_s0), .second, .val (.long (0 : Int64)), .second, .val (.long x32_163), .second, .val (.long m193_s0), .second, .val (.long x32_163), .second] [(.long u37_backgroundBlockErrors)])) _
      refine XS.lload X63.here hx rfl (hb hby at_262) rfl ?_
      show Steps p.tables e below (T63.setTop (mkF m 264 #[.val (.long q0), .second, .val (.long q1), .second, .val (.long q2), .second, .val (.long q3), .second, .val (.int p4), .val (.long x9_11), .second, .val (.long x11_22), .second, .val (.long x13_33), .second, .val (.int (1 : Int32)), .val (.int x16_59), .val (.int x17_66), .val (.int (10 : Int32)), .val (.ref b34), .val (.long m147_s0), .second, .val (.long x22_169), .second, .val (.long m147_s0), .second, .val (.long (0 : Int64)), .second, .val (.long x32_163), .second, .val (.long m193_s0), .second, .val (.long x32_163), .second] [(.long x11_22), (.long u37_backgroundBlockErrors)])) _
      refine XS.lcmp X63.here hx rfl (hb hby at_264) rfl ?_
      show Steps p.tables e below (T63.setTop (mkF m 265 #[.val (.long q0), .second, .val (.long q1), .second, .val (.long q2), .second, .val (.long q3), .second, .val (.int p4), .val (.long x9_11), .second, .val (.long x11_22), .second, .val (.long x13_33), .second, .val (.int (1 : Int32)), .val (.int x16_59), .val (.int x17_66), .val (.int (10 : Int32)), .val (.ref b34), .val (.long m147_s0), .second, .val (.long x22_169), .second, .val (.long m147_s0), .second, .val (.long (0 : Int64)), .second, .val (.long x32_163), .second, .val (.long m193_s0), .second, .val (.long x32_163), .second] [(.int (lcmpW u37_backgroundBlockErrors x11_22))])) _
      refine XS.ifNo X63.here hx rfl (hb hby at_265) rfl ((if0 _ _).trans (teq ((lw_eq _ _).mpr hc265)).2) ?_
      show Steps p.tables e below (T63.setTop (mkF m 268 #[.val (.long q0), .second, .val (.long q1), .second, .val (.long q2), .second, .val (.long q3), .second, .val (.int p4), .val (.long x9_11), .second, .val (.long x11_22), .second, .val (.long x13_33), .second, .val (.int (1 : Int32)), .val (.int x16_59), .val (.int x17_66), .val (.int (10 : Int32)), .val (.ref b34), .val (.long m147_s0), .second, .val (.long x22_169), .second, .val (.long m147_s0), .second, .val (.long (0 : Int64)), .second, .val (.long x32_163), .second, .val (.long m193_s0), .second, .val (.long x32_163), .second] [])) _
      refine XS.aload X63.here hx rfl (hb hby at_268) rfl rfl ?_
      show Steps p.tables e below (T63.setTop (mkF m 270 #[.val (.long q0), .second, .val (.long q1), .second, .val (.long q2), .second, .val (.long q3), .second, .val (.int p4), .val (.long x9_11), .second, .val (.long x11_22), .second, .val (.long x13_33), .second, .val (.int (1 : Int32)), .val (.int x16_59), .val (.int x17_66), .val (.int (10 : Int32)), .val (.ref b34), .val (.long m147_s0), .second, .val (.long x22_169), .second, .val (.long m147_s0), .second, .val (.long (0 : Int64)), .second, .val (.long x32_163), .second, .val (.long m193_s0), .second, .val (.long x32_163), .second] [(.ref b34)])) _
      refine st64.trans ?_
      show Steps p.tables e below (T64.setTop (mkF m 273 #[.val (.long q0), .second, .val (.long q1), .second, .val (.long q2), .second, .val (.long q3), .second, .val (.int p4), .val (.long x9_11), .second, .val (.long x11_22), .second, .val (.long x13_33), .second, .val (.int (1 : Int32)), .val (.int x16_59), .val (.int x17_66), .val (.int (10 : Int32)), .val (.ref b34), .val (.long m147_s0), .second, .val (.long x22_169), .second, .val (.long m147_s0), .second, .val (.long (0 : Int64)), .second, .val (.long x32_163), .second, .val (.long m193_s0), .second, .val (.long x32_163), .second] [(.long u45_unavailableSeconds)])) _
      refine XS.lload X64.here hx rfl (hb hby at_273) rfl ?_
      show Steps p.tables e below (T64.setTop (mkF m 275 #[.val (.long q0), .second, .val (.long q1), .second, .val (.long q2), .second, .val (.long q3), .second, .val (.int p4), .val (.long x9_11), .second, .val (.long x11_22), .second, .val (.long x13_33), .second, .val (.int (1 : Int32)), .val (.int x16_59), .val (.int x17_66), .val (.int (10 : Int32)), .val (.ref b34), .val (.long m147_s0), .second, .val (.long x22_169), .second, .val (.long m147_s0), .second, .val (.long (0 : Int64)), .second, .val (.long x32_163), .second, .val (.long m193_s0), .second, .val (.long x32_163), .second] [(.long x32_163), (.long u45_unavailableSeconds)])) _
      refine XS.lcmp X64.here hx rfl (hb hby at_275) rfl ?_
      show Steps p.tables e below (T64.setTop (mkF m 276 #[.val (.long q0), .second, .val (.long q1), .second, .val (.long q2), .second, .val (.long q3), .second, .val (.int p4), .val (.long x9_11), .second, .val (.long x11_22), .second, .val (.long x13_33), .second, .val (.int (1 : Int32)), .val (.int x16_59), .val (.int x17_66), .val (.int (10 : Int32)), .val (.ref b34), .val (.long m147_s0), .second, .val (.long x22_169), .second, .val (.long m147_s0), .second, .val (.long (0 : Int64)), .second, .val (.long x32_163), .second, .val (.long m193_s0), .second, .val (.long x32_163), .second] [(.int (lcmpW u45_unavailableSeconds x32_163))])) _
      refine XS.ifNo X64.here hx rfl (hb hby at_276) rfl ((if0 _ _).trans (teq ((lw_eq _ _).mpr hc276)).2) ?_
      show Steps p.tables e below (T64.setTop (mkF m 279 #[.val (.long q0), .second, .val (.long q1), .second, .val (.long q2), .second, .val (.long q3), .second, .val (.int p4), .val (.long x9_11), .second, .val (.long x11_22), .second, .val (.long x13_33), .second, .val (.int (1 : Int32)), .val (.int x16_59), .val (.int x17_66), .val (.int (10 : Int32)), .val (.ref b34), .val (.long m147_s0), .second, .val (.long x22_169), .second, .val (.long m147_s0), .second, .val (.long (0 : Int64)), .second, .val (.long x32_163), .second, .val (.long m193_s0), .second, .val (.long x32_163), .second] [])) _
      refine XS.aload X64.here hx rfl (hb hby at_279) rfl rfl ?_
      show Steps p.tables e below (T64.setTop (mkF m 281 #[.val (.long q0), .second, .val (.long q1), .second, .val (.long q2), .second, .val (.long q3), .second, .val (.int p4), .val (.long x9_11), .second, .val (.long x11_22), .second, .val (.long x13_33), .second, .val (.int (1 : Int32)), .val (.int x16_59), .val (.int x17_66), .val (.int (10 : Int32)), .val (.ref b34), .val (.long m147_s0), .second, .val (.long x22_169), .second, .val (.long m147_s0), .second, .val (.long (0 : Int64)), .second, .val (.long x32_163), .second, .val (.long m193_s0), .second, .val (.long x32_163), .second] [(.ref b34)])) _
      refine st65.trans ?_
      show Steps p.tables e below (T65.setTop (mkF m 284 #[.val (.long q0), .second, .val (.long q1), .second, .val (.long q2), .second, .val (.long q3), .second, .val (.int p4), .val (.long x9_11), .second, .val (.long x11_22), .second, .val (.long x13_33), .second, .val (.int (1 : Int32)), .val (.int x16_59), .val (.int x17_66), .val (.int (10 : Int32)), .val (.ref b34), .val (.long m147_s0), .second, .val (.long x22_169), .second, .val (.long m147_s0), .second, .val (.long (0 : Int64)), .second, .val (.long x32_163), .second, .val (.long m193_s0), .second, .val (.long x32_163), .second] [(.long u45_extendingSeconds)])) _
      refine XS.lload X65.here hx rfl (hb hby at_284) rfl ?_
      show Steps p.tables e below (T65.setTop (mkF m 286 #[.val (.long q0), .second, .val (.long q1), .second, .val (.long q2), .second, .val (.long q3), .second, .val (.int p4), .val (.long x9_11), .second, .val (.long x11_22), .second, .val (.long x13_33), .second, .val (.int (1 : Int32)), .val (.int x16_59), .val (.int x17_66), .val (.int (10 : Int32)), .val (.ref b34), .val (.long m147_s0), .second, .val (.long x22_169), .second, .val (.long m147_s0), .second, .val (.long (0 : Int64)), .second, .val (.long x32_163), .second, .val (.long m193_s0), .second, .val (.long x32_163), .second] [(.long m193_s0), (.long u45_extendingSeconds)])) _
      refine XS.lcmp X65.here hx rfl (hb hby at_286) rfl ?_
      show Steps p.tables e below (T65.setTop (mkF m 287 #[.val (.long q0), .second, .val (.long q1), .second, .val (.long q2), .second, .val (.long q3), .second, .val (.int p4), .val (.long x9_11), .second, .val (.long x11_22), .second, .val (.long x13_33), .second, .val (.int (1 : Int32)), .val (.int x16_59), .val (.int x17_66), .val (.int (10 : Int32)), .val (.ref b34), .val (.long m147_s0), .second, .val (.long x22_169), .second, .val (.long m147_s0), .second, .val (.long (0 : Int64)), .second, .val (.long x32_163), .second, .val (.long m193_s0), .second, .val (.long x32_163), .second] [(.int (lcmpW u45_extendingSeconds m193_s0))])) _
      refine XS.ifNo X65.here hx rfl (hb hby at_287) rfl ((if0 _ _).trans (teq ((lw_eq _ _).mpr hc287)).2) ?_
      show Steps p.tables e below (T65.setTop (mkF m 290 #[.val (.long q0), .second, .val (.long q1), .second, .val (.long q2), .second, .val (.long q3), .second, .val (.int p4), .val (.long x9_11), .second, .val (.long x11_22), .second, .val (.long x13_33), .second, .val (.int (1 : Int32)), .val (.int x16_59), .val (.int x17_66), .val (.int (10 : Int32)), .val (.ref b34), .val (.long m147_s0), .second, .val (.long x22_169), .second, .val (.long m147_s0), .second, .val (.long (0 : Int64)), .second, .val (.long x32_163), .second, .val (.long m193_s0), .second, .val (.long x32_163), .second] [])) _
      refine XS.iconst X65.here hx rfl (hb hby at_290) ?_
      show Steps p.tables e below (T65.setTop (mkF m 291 #[.val (.long q0), .second, .val (.long q1), .second, .val (.long q2), .second, .val (.long q3), .second, .val (.int p4), .val (.long x9_11), .second, .val (.long x11_22), .second, .val (.long x13_33), .second, .val (.int (1 : Int32)), .val (.int x16_59), .val (.int x17_66), .val (.int (10 : Int32)), .val (.ref b34), .val (.long m147_s0), .second, .val (.long x22_169), .second, .val (.long m147_s0), .second, .val (.long (0 : Int64)), .second, .val (.long x32_163), .second, .val (.long m193_s0), .second, .val (.long x32_163), .second] [(.int (1 : Int32))])) _
      refine XS.goto X65.here hx rfl (pc0 := 291) (pc' := 295) rfl (hb hby at_291) (by decide) (by decide) ?_
      show Steps p.tables e below (T65.setTop (mkF m 295 #[.val (.long q0), .second, .val (.long q1), .second, .val (.long q2), .second, .val (.long q3), .second, .val (.int p4), .val (.long x9_11), .second, .val (.long x11_22), .second, .val (.long x13_33), .second, .val (.int (1 : Int32)), .val (.int x16_59), .val (.int x17_66), .val (.int (10 : Int32)), .val (.ref b34), .val (.long m147_s0), .second, .val (.long x22_169), .second, .val (.long m147_s0), .second, .val (.long (0 : Int64)), .second, .val (.long x32_163), .second, .val (.long m193_s0), .second, .val (.long x32_163), .second] [(.int (1 : Int32))])) _
      exact retN X65 hx (t := .boolean) Bd.returns (by simp) (hb hby at_295) hr
    · show Q0 Z q0 q1 q2 q3 p4 h0 n0 _ T65.heap _
      rw [eq65]
      unfold Q0
      refine ⟨rfl, N65⟩
set_option maxRecDepth 65536 in
set_option maxHeartbeats 40000000 in
theorem comes_1 {Post : Tables → Env → Array Value → State → Outcome → State → Prop} (hpost : ∀ tb e args s v u, (limb_1_1.after args s (.returned v) u = true ∧ limb_1_2.after args s (.returned v) u = true ∧ True) → FrameEnd s (.returned v) u (Jvm.fieldLocs frame_1_writes args s ++ Jvm.arrayLocs frame_1_arrays args s ++ Jvm.staticLocs frame_1_statics s) 16 128 → Post tb e args s (.returned v) u) :
    ArmFor flags0 classFile x code maxLocals ret World_1 tables_1 room_1 Calls_1 rest_1 Pre_1 Post := by
  intro l hfl _ _ p e ha hc hk s m args below hf hA hF happ hP
  obtain ⟨hcalls, hrest, hpre⟩ := hP
  obtain ⟨-, -, -, hnamed, -, -, -, hat⟩ := (Spec.applies_iff hf).mp happ
  obtain ⟨hg, hn⟩ := and_e (Cond.before_iff.mp (show (Jvm.Cond.and given_1 narrow_1).before args s = true from hpre))
  obtain ⟨gv1, gv2⟩ := and_e hg
  obtain ⟨gv3, gv4⟩ := and_e gv2
  obtain ⟨gv5, gv6⟩ := and_e gv4
  obtain ⟨gv7, gv8⟩ := and_e gv6
  obtain ⟨gv9, gv10⟩ := and_e gv8
  obtain ⟨w0, w1, w2, w3, w4, rfl⟩ : ∃ w0 w1 w2 w3 w4 : Value, args = #[w0, w1, w2, w3, w4] := by
    have hs : args.size = 5 := by simpa [Cond.value, given_1] using gv1
    obtain ⟨L⟩ := args
    match L, hs with
    | [w0, w1, w2, w3, w4], _ => exact ⟨w0, w1, w2, w3, w4, rfl⟩
  have hw := fun d (hd : d ∈ tables_1) => atoms_spec (ws := Jvm.Cond.code x code maxLocals ret :: tables_1) hat d (List.mem_cons_of_mem _ hd)
  obtain ⟨i0, ei0⟩ := isL_v gv3
  obtain rfl : w0 = (.long i0) := Option.some.inj ei0
  obtain ⟨i1, ei1⟩ := isL_v gv5
  obtain rfl : w1 = (.long i1) := Option.some.inj ei1
  obtain ⟨i2, ei2⟩ := isL_v gv7
  obtain rfl : w2 = (.long i2) := Option.some.inj ei2
  obtain ⟨i3, ei3⟩ := isL_v gv9
  obtain rfl : w3 = (.long i3) := Option.some.inj ei3
  obtain ⟨i4, ei4⟩ := is_v gv10
  obtain rfl : w4 = (.int i4) := Option.some.inj ei4
  obtain ⟨n, o, h1, h2, h3, _, L, rfl, ⟨rfl, N⟩, hq⟩ := rm0 l s _ hw tables_1 i0 i1 i2 i3 i4 s.heap s.heap.size (Nat.le_refl _) p e ha hc hk s m _ below hf ((Spec.applies_iff_loose hf).mp happ).1 ⟨rfl, State.Warmed39.refl s, rfl⟩ trivial
  refine ⟨n, _, h1, h2, h3, hpost _ _ _ _ _ _ ⟨Cond.after_iff.mpr rfl, Cond.after_iff.mpr (eq_i res_at (Term.int_eval (1)) rfl), trivial⟩ ⟨hq.1, hq.2.1, (hq.2.2.sift fun y hy => Or.inr (N y hy)).mono (by decide) (by decide)⟩⟩
theorem main_1_1 : Claimed_1_1 := comes_1 fun _ _ _ _ _ _ h hF => ⟨h.1, hF⟩
theorem main_1_2 : Claimed_1_2 := comes_1 fun _ _ _ _ _ _ h hF => ⟨h.2.1, hF⟩
end Jvm.Pilot.@@N@@
namespace Jvm.Pilot.@@N@@
open Jvm Jvm.ClassFile Sem Op Lib Jvm.Free Jvm.Stand Jvm.Pilot.@@N@@.Jvm.D
/-! MADE BY PROGRAM (witnessworld.py) out of the Statement's table words and the real class files: 10 classes; the members and pool entries that the words name. The judged class is class 1, her method 1. -/
namespace start1
open Jvm.ClassFile
def u (s : String) : CpInfo := .utf8 (stringToUtf16 s)
/-- a pool by its gaps: so many unusable entries, then the entry; so many at the end -/
def gap : Nat → List CpInfo → List CpInfo
  | 0, r => r
  | n + 1, r => .unusable :: gap n r
def poolList (es : List (Nat × CpInfo)) (last : Nat) : List CpInfo := es.foldr (fun e r => gap e.1 (e.2 :: r)) (gap last [])
def pool (es : List (Nat × CpInfo)) (last : Nat) : Array CpInfo := ⟨poolList es last⟩
def fileOf (pool : Array CpInfo) (this : Nat) (attrs : Array Attribute := #[]) (ms : Array MethodInfo := #[]) (fl : Nat := 33) (sup : Nat := 0) (ifs : Array Nat := #[]) (fds : Array FieldInfo := #[]) : ClassFile where
  minorVersion := 0
  majorVersion := 65
  constantPool := pool
  accessFlags := fl
  thisClass := this
  superClass := sup
  interfaces := ifs
  fields := fds
  methods := ms
  attributes := attrs
def plain (name : String) (sup : Option ClassId) : Class where
  name := name
  kind := .ordinary
  loader := none
  accessFlags := 33
  super := sup
  interfaces := #[]
  cf := none
  fields := #[]
  methods := #[]
  instanceTypes := #[]
  staticTypes := #[]
  resolved := #[]
  callSites := []
  init := .initialized
  statics := none
  mirror := none

def pool0 : Array CpInfo := pool [(5, u "<init>"), (0, u "()V"), (1, .class_ 10), (1, u "java/lang/Object")] 113

def k0c0 : Code := { maxStack := 0, maxLocals := 1, code := object_method_1_code, exceptionTable := #[], attributes := #[] }
def k0m0 : Method := { name := "<init>", desc := "()V", sig := { parameters := [], returnType := none }, accessFlags := 1, code := some k0c0 }
/-- java/lang/Object -/
def k0 : Class := { plain "java/lang/Object" none with
  accessFlags := 33
  interfaces := #[]
  cf := some (fileOf pool0 8 #[] #[{ accessFlags := 1, nameIndex := 5, descriptorIndex := 6, attributes := #[] }] 33 0 #[] #[])
  fields := #[]
  methods := #[k0m0]
  instanceTypes := #[]
  staticTypes := #[]
  resolved := Array.replicate 124 none
  statics := none }

def pool1 : Array CpInfo := pool [(2, .class_ 4), (1, u "java/lang/Object"), (0, u "<init>"), (0, u "()V"), (2, .long 9223372036854775807), (1, .methodref 12 13), (0, .class_ 14), (0, .nameAndType 15 16), (0, u "java/lang/Math"), (0, u "max"), (0, u "(JJ)J"), (0, .integer 2147483647), (0, .class_ 19), (0, u "com/example/hopchuan/hopchuan/ErrorCounter"), (0, .methodref 18 21), (0, .nameAndType 5 22), (0, u "(JJ)V"), (0, .methodref 18 24), (0, .nameAndType 25 26), (0, u "second"), (0, u "(JZ)V"), (0, .methodref 28 29), (0, .class_ 30), (0, .nameAndType 31 32), (0, u "com/example/hopchuan/hopchuan/ErrorCounterEndPinLaw"), (0, u "severe"), (0, u "(Lcom/example/hopchuan/hopchuan/ErrorCounter;IJ)V"), (0, .methodref 18 34), (0, .nameAndType 35 36), (0, u "clean"), (0, u "(J)V"), (0, .methodref 18 38), (0, .nameAndType 39 6), (0, u "end"), (0, .long 11), (1, .methodref 18 43), (0, .nameAndType 44 45), (0, u "seconds"), (0, u "()J"), (0, .methodref 18 47), (0, .nameAndType 48 45), (0, u "erroredSeconds"), (0, .methodref 18 50), (0, .nameAndType 51 45), (0, u "severelyErroredSeconds"), (0, .methodref 18 53), (0, .nameAndType 54 45), (0, u "backgroundBlockErrors"), (0, .methodref 18 56), (0, .nameAndType 57 45), (0, u "unavailableSeconds"), (0, .methodref 18 59), (0, .nameAndType 60 45), (0, u "extendingPeriodSeconds"), (2, u "law"), (0, u "(JJJJI)Z")] 3

def k1m0 : Method := { name := "<init>", desc := "()V", sig := { parameters := [], returnType := none }, accessFlags := 1, code := none }
def k1c1 : Code := { maxStack := 6, maxLocals := 34, code := code, exceptionTable := #[], attributes := #[] }
def k1m1 : Method := { name := "law", desc := "(JJJJI)Z", sig := { parameters := [.long, .long, .long, .long, .int], returnType := some .boolean }, accessFlags := 9, code := some k1c1 }
def k1c2 : Code := { maxStack := 4, maxLocals := 4, code := method_3_code, exceptionTable := #[], attributes := #[] }
def k1m2 : Method := { name := "severe", desc := "(Lcom/example/hopchuan/hopchuan/ErrorCounter;IJ)V", sig := { parameters := [(.object "com/example/hopchuan/hopchuan/ErrorCounter"), .int, .long], returnType := none }, accessFlags := 10, code := some k1c2 }
/-- com/example/hopchuan/hopchuan/ErrorCounterEndPinLaw -/
def k1 : Class := { plain "com/example/hopchuan/hopchuan/ErrorCounterEndPinLaw" (some 0) with
  accessFlags := 49
  interfaces := #[]
  cf := some (fileOf pool1 28 #[] #[{ accessFlags := 1, nameIndex := 5, descriptorIndex := 6, attributes := #[] }, { accessFlags := 9, nameIndex := 63, descriptorIndex := 64, attributes := #[] }, { accessFlags := 10, nameIndex := 31, descriptorIndex := 32, attributes := #[] }] 49 2 #[] #[])
  fields := #[]
  methods := #[k1m0, k1m1, k1m2]
  instanceTypes := #[]
  staticTypes := #[]
  resolved := Array.replicate 68 none
  statics := none }

def pool2 : Array CpInfo := pool [(1, .class_ 2), (0, u "java/lang/Math"), (1, .class_ 6), (1, u "java/lang/Object"), (0, u "<init>"), (0, u "()V"), (89, .class_ 100), (1, u "java/lang/Math$RandomNumberGeneratorHolder"), (20, u "(JJ)J"), (50, u "negativeZeroFloatBits"), (0, u "J"), (2, u "negativeZeroDoubleBits"), (21, u "max"), (2, u "min"), (43, u "$assertionsDisabled"), (0, u "Z"), (91, u "twoToTheDoubleScaleDown"), (0, u "D"), (4, u "twoToTheDoubleScaleUp"), (9, u "E"), (3, u "PI"), (2, u "TAU"), (2, u "DEGREES_TO_RADIANS"), (0, u "RADIANS_TO_DEGREES")] 94

def k2m0 : Method := { name := "<init>", desc := "()V", sig := { parameters := [], returnType := none }, accessFlags := 2, code := none }
def k2c1 : Code := { maxStack := 4, maxLocals := 4, code := jdk_29_method_66_code, exceptionTable := #[], attributes := #[] }
def k2m1 : Method := { name := "max", desc := "(JJ)J", sig := { parameters := [.long, .long], returnType := some .long }, accessFlags := 9, code := some k2c1 }
def k2c2 : Code := { maxStack := 4, maxLocals := 4, code := jdk_29_method_70_code, exceptionTable := #[], attributes := #[] }
def k2m2 : Method := { name := "min", desc := "(JJ)J", sig := { parameters := [.long, .long], returnType := some .long }, accessFlags := 9, code := some k2c2 }
/-- java/lang/Math -/
def k2 : Class := { plain "java/lang/Math" (some 0) with
  accessFlags := 49
  interfaces := #[]
  cf := some (fileOf pool2 1 #[.nestMembers #[98]] #[{ accessFlags := 2, nameIndex := 7, descriptorIndex := 8, attributes := #[] }, { accessFlags := 9, nameIndex := 198, descriptorIndex := 121, attributes := #[] }, { accessFlags := 9, nameIndex := 201, descriptorIndex := 121, attributes := #[] }] 49 4 #[] #[{ accessFlags := 25, nameIndex := 354, descriptorIndex := 339, attributes := #[] }, { accessFlags := 25, nameIndex := 358, descriptorIndex := 339, attributes := #[] }, { accessFlags := 25, nameIndex := 361, descriptorIndex := 339, attributes := #[] }, { accessFlags := 26, nameIndex := 364, descriptorIndex := 339, attributes := #[] }, { accessFlags := 26, nameIndex := 365, descriptorIndex := 339, attributes := #[] }, { accessFlags := 26, nameIndex := 172, descriptorIndex := 173, attributes := #[] }, { accessFlags := 26, nameIndex := 176, descriptorIndex := 173, attributes := #[] }, { accessFlags := 8, nameIndex := 344, descriptorIndex := 339, attributes := #[] }, { accessFlags := 8, nameIndex := 338, descriptorIndex := 339, attributes := #[] }, { accessFlags := 4120, nameIndex := 245, descriptorIndex := 246, attributes := #[] }])
  fields := #[{ name := "E", type := .double, accessFlags := 25, slot := 0, constantValue := 0 }, { name := "PI", type := .double, accessFlags := 25, slot := 1, constantValue := 0 }, { name := "TAU", type := .double, accessFlags := 25, slot := 2, constantValue := 0 }, { name := "DEGREES_TO_RADIANS", type := .double, accessFlags := 26, slot := 3, constantValue := 0 }, { name := "RADIANS_TO_DEGREES", type := .double, accessFlags := 26, slot := 4, constantValue := 0 }, { name := "negativeZeroFloatBits", type := .long, accessFlags := 26, slot := 5, constantValue := 0 }, { name := "negativeZeroDoubleBits", type := .long, accessFlags := 26, slot := 6, constantValue := 0 }, { name := "twoToTheDoubleScaleUp", type := .double, accessFlags := 8, slot := 7, constantValue := 0 }, { name := "twoToTheDoubleScaleDown", type := .double, accessFlags := 8, slot := 8, constantValue := 0 }, { name := "$assertionsDisabled", type := .boolean, accessFlags := 4120, slot := 9, constantValue := 0 }]
  methods := #[k2m0, k2m1, k2m2]
  instanceTypes := #[]
  staticTypes := #[.double, .double, .double, .double, .double, .long, .long, .double, .double, .boolean]
  resolved := Array.replicate 460 none
  statics := none }

def pool3 : Array CpInfo := pool [(1, .methodref 2 3), (0, .class_ 4), (0, .nameAndType 5 6), (0, u "java/lang/Object"), (0, u "<init>"), (0, u "()V"), (0, .fieldref 8 9), (0, .class_ 10), (0, .nameAndType 11 12), (0, u "com/example/hopchuan/hopchuan/ErrorCounter"), (0, u "available"), (0, u "Z"), (0, .fieldref 8 14), (0, .nameAndType 15 16), (0, u "sesErroredBlocks"), (0, u "J"), (0, .fieldref 8 18), (0, .nameAndType 19 16), (0, u "extendingPeriodSeconds"), (0, .fieldref 8 21), (0, .nameAndType 22 16), (0, u "seconds"), (0, .fieldref 8 24), (0, .nameAndType 25 16), (0, u "pending"), (0, .long 10), (1, .fieldref 8 29), (0, .nameAndType 30 16), (0, u "period"), (0, .methodref 8 32), (0, .nameAndType 33 6), (0, u "settleAvailableRun"), (0, .fieldref 8 35), (0, .nameAndType 36 16), (0, u "erroredSeconds"), (0, .fieldref 8 38), (0, .nameAndType 39 16), (0, u "backgroundBlockErrors"), (0, .methodref 8 41), (0, .nameAndType 42 6), (0, u "clearPending"), (0, .fieldref 8 44), (0, .nameAndType 45 16), (0, u "pendingErrored"), (0, .fieldref 8 47), (0, .nameAndType 48 16), (0, u "pendingBlocks"), (0, .methodref 8 50), (0, .nameAndType 51 6), (0, u "endPeriod"), (0, .methodref 53 54), (0, .class_ 55), (0, .nameAndType 56 57), (0, u "java/lang/Math"), (0, u "min"), (0, u "(JJ)J"), (0, .methodref 8 59), (0, .nameAndType 60 61), (0, u "second"), (0, u "(JZ)V"), (0, .fieldref 8 63), (0, .nameAndType 64 16), (0, u "unavailableSeconds"), (0, .fieldref 8 66), (0, .nameAndType 67 16), (0, u "extendingSeconds"), (0, .fieldref 8 69), (0, .nameAndType 70 16), (0, u "severelyErroredSeconds"), (0, u "RUN"), (0, u "I"), (2, u "(JJ)V"), (3, u "clean"), (0, u "(J)V"), (0, u "end"), (0, u "()J")] 3

def k3c0 : Code := { maxStack := 3, maxLocals := 5, code := prog_5_method_1_code, exceptionTable := #[], attributes := #[] }
def k3m0 : Method := { name := "<init>", desc := "(JJ)V", sig := { parameters := [.long, .long], returnType := none }, accessFlags := 0, code := some k3c0 }
def k3c1 : Code := { maxStack := 7, maxLocals := 5, code := prog_5_method_2_code, exceptionTable := #[], attributes := #[] }
def k3m1 : Method := { name := "second", desc := "(JZ)V", sig := { parameters := [.long, .boolean], returnType := none }, accessFlags := 0, code := some k3c1 }
def k3c2 : Code := { maxStack := 7, maxLocals := 7, code := prog_5_method_3_code, exceptionTable := #[], attributes := #[] }
def k3m2 : Method := { name := "clean", desc := "(J)V", sig := { parameters := [.long], returnType := none }, accessFlags := 0, code := some k3c2 }
def k3c3 : Code := { maxStack := 5, maxLocals := 1, code := prog_5_method_4_code, exceptionTable := #[], attributes := #[] }
def k3m3 : Method := { name := "end", desc := "()V", sig := { parameters := [], returnType := none }, accessFlags := 0, code := some k3c3 }
def k3c4 : Code := { maxStack := 2, maxLocals := 1, code := prog_5_method_5_code, exceptionTable := #[], attributes := #[] }
def k3m4 : Method := { name := "seconds", desc := "()J", sig := { parameters := [], returnType := some .long }, accessFlags := 0, code := some k3c4 }
def k3c5 : Code := { maxStack := 2, maxLocals := 1, code := prog_5_method_6_code, exceptionTable := #[], attributes := #[] }
def k3m5 : Method := { name := "unavailableSeconds", desc := "()J", sig := { parameters := [], returnType := some .long }, accessFlags := 0, code := some k3c5 }
def k3c6 : Code := { maxStack := 2, maxLocals := 1, code := prog_5_method_8_code, exceptionTable := #[], attributes := #[] }
def k3m6 : Method := { name := "extendingPeriodSeconds", desc := "()J", sig := { parameters := [], returnType := some .long }, accessFlags := 0, code := some k3c6 }
def k3c7 : Code := { maxStack := 2, maxLocals := 1, code := prog_5_method_9_code, exceptionTable := #[], attributes := #[] }
def k3m7 : Method := { name := "erroredSeconds", desc := "()J", sig := { parameters := [], returnType := some .long }, accessFlags := 0, code := some k3c7 }
def k3c8 : Code := { maxStack := 2, maxLocals := 1, code := prog_5_method_10_code, exceptionTable := #[], attributes := #[] }
def k3m8 : Method := { name := "severelyErroredSeconds", desc := "()J", sig := { parameters := [], returnType := some .long }, accessFlags := 0, code := some k3c8 }
def k3c9 : Code := { maxStack := 2, maxLocals := 1, code := prog_5_method_11_code, exceptionTable := #[], attributes := #[] }
def k3m9 : Method := { name := "backgroundBlockErrors", desc := "()J", sig := { parameters := [], returnType := some .long }, accessFlags := 0, code := some k3c9 }
def k3c10 : Code := { maxStack := 5, maxLocals := 1, code := prog_5_method_12_code, exceptionTable := #[], attributes := #[] }
def k3m10 : Method := { name := "settleAvailableRun", desc := "()V", sig := { parameters := [], returnType := none }, accessFlags := 2, code := some k3c10 }
def k3c11 : Code := { maxStack := 3, maxLocals := 1, code := prog_5_method_13_code, exceptionTable := #[], attributes := #[] }
def k3m11 : Method := { name := "clearPending", desc := "()V", sig := { parameters := [], returnType := none }, accessFlags := 2, code := some k3c11 }
def k3c12 : Code := { maxStack := 5, maxLocals := 1, code := prog_5_method_14_code, exceptionTable := #[], attributes := #[] }
def k3m12 : Method := { name := "endPeriod", desc := "()V", sig := { parameters := [], returnType := none }, accessFlags := 2, code := some k3c12 }
/-- com/example/hopchuan/hopchuan/ErrorCounter -/
def k3 : Class := { plain "com/example/hopchuan/hopchuan/ErrorCounter" (some 0) with
  accessFlags := 32
  interfaces := #[]
  cf := some (fileOf pool3 8 #[] #[{ accessFlags := 0, nameIndex := 5, descriptorIndex := 75, attributes := #[] }, { accessFlags := 0, nameIndex := 60, descriptorIndex := 61, attributes := #[] }, { accessFlags := 0, nameIndex := 79, descriptorIndex := 80, attributes := #[] }, { accessFlags := 0, nameIndex := 81, descriptorIndex := 6, attributes := #[] }, { accessFlags := 0, nameIndex := 22, descriptorIndex := 82, attributes := #[] }, { accessFlags := 0, nameIndex := 64, descriptorIndex := 82, attributes := #[] }, { accessFlags := 0, nameIndex := 19, descriptorIndex := 82, attributes := #[] }, { accessFlags := 0, nameIndex := 36, descriptorIndex := 82, attributes := #[] }, { accessFlags := 0, nameIndex := 70, descriptorIndex := 82, attributes := #[] }, { accessFlags := 0, nameIndex := 39, descriptorIndex := 82, attributes := #[] }, { accessFlags := 2, nameIndex := 33, descriptorIndex := 6, attributes := #[] }, { accessFlags := 2, nameIndex := 42, descriptorIndex := 6, attributes := #[] }, { accessFlags := 2, nameIndex := 51, descriptorIndex := 6, attributes := #[] }] 32 2 #[] #[{ accessFlags := 24, nameIndex := 71, descriptorIndex := 72, attributes := #[] }, { accessFlags := 18, nameIndex := 15, descriptorIndex := 16, attributes := #[] }, { accessFlags := 18, nameIndex := 19, descriptorIndex := 16, attributes := #[] }, { accessFlags := 2, nameIndex := 22, descriptorIndex := 16, attributes := #[] }, { accessFlags := 2, nameIndex := 64, descriptorIndex := 16, attributes := #[] }, { accessFlags := 2, nameIndex := 67, descriptorIndex := 16, attributes := #[] }, { accessFlags := 2, nameIndex := 36, descriptorIndex := 16, attributes := #[] }, { accessFlags := 2, nameIndex := 70, descriptorIndex := 16, attributes := #[] }, { accessFlags := 2, nameIndex := 39, descriptorIndex := 16, attributes := #[] }, { accessFlags := 2, nameIndex := 11, descriptorIndex := 12, attributes := #[] }, { accessFlags := 2, nameIndex := 25, descriptorIndex := 16, attributes := #[] }, { accessFlags := 2, nameIndex := 45, descriptorIndex := 16, attributes := #[] }, { accessFlags := 2, nameIndex := 48, descriptorIndex := 16, attributes := #[] }, { accessFlags := 2, nameIndex := 30, descriptorIndex := 16, attributes := #[] }])
  fields := #[{ name := "RUN", type := .int, accessFlags := 24, slot := 0, constantValue := 0 }, { name := "sesErroredBlocks", type := .long, accessFlags := 18, slot := 0, constantValue := 0 }, { name := "extendingPeriodSeconds", type := .long, accessFlags := 18, slot := 1, constantValue := 0 }, { name := "seconds", type := .long, accessFlags := 2, slot := 2, constantValue := 0 }, { name := "unavailableSeconds", type := .long, accessFlags := 2, slot := 3, constantValue := 0 }, { name := "extendingSeconds", type := .long, accessFlags := 2, slot := 4, constantValue := 0 }, { name := "erroredSeconds", type := .long, accessFlags := 2, slot := 5, constantValue := 0 }, { name := "severelyErroredSeconds", type := .long, accessFlags := 2, slot := 6, constantValue := 0 }, { name := "backgroundBlockErrors", type := .long, accessFlags := 2, slot := 7, constantValue := 0 }, { name := "available", type := .boolean, accessFlags := 2, slot := 8, constantValue := 0 }, { name := "pending", type := .long, accessFlags := 2, slot := 9, constantValue := 0 }, { name := "pendingErrored", type := .long, accessFlags := 2, slot := 10, constantValue := 0 }, { name := "pendingBlocks", type := .long, accessFlags := 2, slot := 11, constantValue := 0 }, { name := "period", type := .long, accessFlags := 2, slot := 12, constantValue := 0 }]
  methods := #[k3m0, k3m1, k3m2, k3m3, k3m4, k3m5, k3m6, k3m7, k3m8, k3m9, k3m10, k3m11, k3m12]
  instanceTypes := #[.long, .long, .long, .long, .long, .long, .long, .long, .boolean, .long, .long, .long, .long]
  staticTypes := #[.int]
  resolved := Array.replicate 86 none
  statics := none }

def pool4 : Array CpInfo := pool [(1, u "java/lang/Cloneable"), (0, .class_ 1), (0, u "java/lang/Object"), (0, .class_ 3)] 3

/-- java/lang/Cloneable -/
def k4 : Class := { plain "java/lang/Cloneable" (some 0) with
  accessFlags := 1537
  interfaces := #[]
  cf := some (fileOf pool4 2 #[] #[] 1537 4 #[] #[])
  fields := #[]
  methods := #[]
  instanceTypes := #[]
  staticTypes := #[]
  resolved := Array.replicate 8 none
  statics := none }

def pool5 : Array CpInfo := pool [(1, u "java/io/Serializable"), (0, .class_ 1), (0, u "java/lang/Object"), (0, .class_ 3)] 3

/-- java/io/Serializable -/
def k5 : Class := { plain "java/io/Serializable" (some 0) with
  accessFlags := 1537
  interfaces := #[]
  cf := some (fileOf pool5 2 #[] #[] 1537 4 #[] #[])
  fields := #[]
  methods := #[]
  instanceTypes := #[]
  staticTypes := #[]
  resolved := Array.replicate 8 none
  statics := none }

/-- the primitive byte -/
def k6 : Class := { plain "byte" none with kind := .primitive 'B', accessFlags := 0x411 }
/-- [B -/
def k7 : Class := { plain "[B" (some 0) with kind := .array 6 .byte, interfaces := #[4, 5], accessFlags := 1041 }

/-- the primitive int -/
def k8 : Class := { plain "int" none with kind := .primitive 'I', accessFlags := 0x411 }
/-- [I -/
def k9 : Class := { plain "[I" (some 0) with kind := .array 8 .int, interfaces := #[4, 5], accessFlags := 1041 }

def heap : Heap := #[]
def classes : Array Class := #[k0, k1, k2, k3, k4, k5, k6, k7, k8, k9]
def interned : List (Array UInt16 × Addr) := []
def slotsUsed : Nat := 0
def theMethod : MethodId := ⟨1, 1⟩
def args0 : Array Value := #[.long 5, .long 6, .long 7, .long 8, .int 3]
def aboutOver (below : List Frame) : State where
  vm := { classes := classes, interned := interned.toArray }
  heap := heap
  slotsUsed := slotsUsed
  threads := #[{ frames := .invoking theMethod args0 :: below }]
def below0 : List Frame := [.native { method := ⟨0, 0⟩, args := #[] }]
def about1 : State := aboutOver below0
def p0 : Program := .bare "" "" ""
def e0 : Env := launch0.env 0 0 0
theorem w_frames : about1.frames = Frame.invoking theMethod args0 :: below0 := rfl
set_option maxRecDepth 65536 in
theorem w_args : argsFit about1.vm theMethod args0 = true := by decide +kernel
set_option maxRecDepth 65536 in
theorem w_heap : heapFits about1 = true := by decide +kernel
set_option maxRecDepth 65536 in
theorem w_runnable : about1.curStatus? = some .runnable := by decide +kernel
set_option maxRecDepth 65536 in
theorem w_alone : about1.alone = true := by decide +kernel
set_option maxRecDepth 65536 in
theorem w_named : about1.methodNamed? x = some theMethod := by decide +kernel
set_option maxRecDepth 65536 in
theorem w_hears : about1.hears theMethod below0 = true := by decide +kernel
set_option maxRecDepth 65536 in
theorem w_ripe : about1.ripe theMethod args0 below0 = true := by decide +kernel
theorem w_running : about1.status = .running := rfl
set_option maxRecDepth 65536 in
theorem w_room : about1.hasRoom e0.platform room_1 = true :=
  launch0.hasRoom_least _ room_1 (by decide +kernel) (by decide +kernel) (by decide +kernel) (by decide +kernel) (by decide +kernel) (by decide +kernel)
theorem allAtoms_all (ts : List Jvm.Cond) (a : Array Jvm.Value) (st : Jvm.State) : (allAtoms ts).before a st = ts.all (fun c => c.before a st) := by
  induction ts with
  | nil => rfl
  | cons c t ih =>
    show (Jvm.Cond.and c (allAtoms t)).before a st = _
    rw [Jvm.Cond.before_and, ih, List.all_cons]
def words1 : List Jvm.Cond := Jvm.Cond.code x code maxLocals ret :: tables_1
/-- a 'code' word, met by the world's own term for the bytes: nothing is compared byte by byte -/
theorem code_word {y : MethodName} {bytes : ByteArray} {mx : Nat} {rt : Option FieldType} {a : Array Value} {s : State} {m : MethodId} {meth : Method} {c : Code} (h1 : s.methodNamed? y = some m) (h2 : s.vm.method? m = some meth) (h3 : meth.code = some c) (h4 : c.code = bytes)
    (h5 : (c.maxLocals == mx && c.exceptionTable.isEmpty && decide (c.maxStack ≤ mostOperands) && decide (meth.sig.returnType = rt) && !meth.locks && decide (parseMethodDescriptor y.desc = some meth.sig)) = true) : (Jvm.Cond.code y bytes mx rt).before a s = true := by
  simp only [Bool.and_eq_true, beq_iff_eq, Bool.not_eq_true', decide_eq_true_eq] at h5
  obtain ⟨⟨⟨⟨⟨g1, g2⟩, g3⟩, g4⟩, g5⟩, g6⟩ := h5
  simp [Cond.before, Cond.holds, Cond.value, h1, h2, h3, h4, g1, g2, g3, g4, g5, g6]
def isCode : Jvm.Cond → Bool
  | .code _ _ _ _ => true
  | _ => false
theorem all_split {L : List Jvm.Cond} {P : Jvm.Cond → Bool} (h1 : L.all (fun c => isCode c || P c) = true) (h2 : ∀ c ∈ L.filter isCode, P c = true) : L.all P = true := by
  refine List.all_eq_true.mpr fun c hc => ?_
  have h := List.all_eq_true.mp h1 c hc
  rcases Bool.eq_false_or_eq_true (isCode c) with hi | hi
  · exact h2 c (List.mem_filter.mpr ⟨hc, hi⟩)
  · simpa [hi] using h
set_option maxRecDepth 65536 in
theorem w_c0 : (Jvm.Cond.code x code maxLocals ret).before args0 about1 = true := code_word (m := ⟨1, 1⟩) (meth := k1m1) (c := k1c1) (by decide +kernel) rfl rfl rfl (by decide +kernel)
set_option maxRecDepth 65536 in
theorem w_c1 : (Jvm.Cond.code ({ cls := "java/lang/Math", name := "max", desc := "(JJ)J" } : Jvm.MethodName) jdk_29_method_66_code (4 : Nat) (Option.some Jvm.ClassFile.FieldType.long)).before args0 about1 = true := code_word (m := ⟨2, 1⟩) (meth := k2m1) (c := k2c1) (by decide +kernel) rfl rfl rfl (by decide +kernel)
set_option maxRecDepth 65536 in
theorem w_c2 : (Jvm.Cond.code ({ cls := "com/example/hopchuan/hopchuan/ErrorCounter", name := "<init>", desc := "(JJ)V" } : Jvm.MethodName) prog_5_method_1_code (5 : Nat) (Option.none : Option Jvm.ClassFile.FieldType)).before args0 about1 = true := code_word (m := ⟨3, 0⟩) (meth := k3m0) (c := k3c0) (by decide +kernel) rfl rfl rfl (by decide +kernel)
set_option maxRecDepth 65536 in
theorem w_c3 : (Jvm.Cond.code ({ cls := "java/lang/Object", name := "<init>", desc := "()V" } : Jvm.MethodName) object_method_1_code (1 : Nat) (Option.none : Option Jvm.ClassFile.FieldType)).before args0 about1 = true := code_word (m := ⟨0, 0⟩) (meth := k0m0) (c := k0c0) (by decide +kernel) rfl rfl rfl (by decide +kernel)
set_option maxRecDepth 65536 in
theorem w_c4 : (Jvm.Cond.code ({ cls := "com/example/hopchuan/hopchuan/ErrorCounter", name := "second", desc := "(JZ)V" } : Jvm.MethodName) prog_5_method_2_code (5 : Nat) (Option.none : Option Jvm.ClassFile.FieldType)).before args0 about1 = true := code_word (m := ⟨3, 1⟩) (meth := k3m1) (c := k3c1) (by decide +kernel) rfl rfl rfl (by decide +kernel)
set_option maxRecDepth 65536 in
theorem w_c5 : (Jvm.Cond.code ({ cls := "com/example/hopchuan/hopchuan/ErrorCounter", name := "settleAvailableRun", desc := "()V" } : Jvm.MethodName) prog_5_method_12_code (1 : Nat) (Option.none : Option Jvm.ClassFile.FieldType)).before args0 about1 = true := code_word (m := ⟨3, 10⟩) (meth := k3m10) (c := k3c10) (by decide +kernel) rfl rfl rfl (by decide +kernel)
set_option maxRecDepth 65536 in
theorem w_c6 : (Jvm.Cond.code ({ cls := "com/example/hopchuan/hopchuan/ErrorCounterEndPinLaw", name := "severe", desc := "(Lcom/example/hopchuan/hopchuan/ErrorCounter;IJ)V" } : Jvm.MethodName) method_3_code (4 : Nat) (Option.none : Option Jvm.ClassFile.FieldType)).before args0 about1 = true := code_word (m := ⟨1, 2⟩) (meth := k1m2) (c := k1c2) (by decide +kernel) rfl rfl rfl (by decide +kernel)
set_option maxRecDepth 65536 in
theorem w_c7 : (Jvm.Cond.code ({ cls := "com/example/hopchuan/hopchuan/ErrorCounter", name := "clean", desc := "(J)V" } : Jvm.MethodName) prog_5_method_3_code (7 : Nat) (Option.none : Option Jvm.ClassFile.FieldType)).before args0 about1 = true := code_word (m := ⟨3, 2⟩) (meth := k3m2) (c := k3c2) (by decide +kernel) rfl rfl rfl (by decide +kernel)
set_option maxRecDepth 65536 in
theorem w_c8 : (Jvm.Cond.code ({ cls := "java/lang/Math", name := "min", desc := "(JJ)J" } : Jvm.MethodName) jdk_29_method_70_code (4 : Nat) (Option.some Jvm.ClassFile.FieldType.long)).before args0 about1 = true := code_word (m := ⟨2, 2⟩) (meth := k2m2) (c := k2c2) (by decide +kernel) rfl rfl rfl (by decide +kernel)
set_option maxRecDepth 65536 in
theorem w_c9 : (Jvm.Cond.code ({ cls := "com/example/hopchuan/hopchuan/ErrorCounter", name := "end", desc := "()V" } : Jvm.MethodName) prog_5_method_4_code (1 : Nat) (Option.none : Option Jvm.ClassFile.FieldType)).before args0 about1 = true := code_word (m := ⟨3, 3⟩) (meth := k3m3) (c := k3c3) (by decide +kernel) rfl rfl rfl (by decide +kernel)
set_option maxRecDepth 65536 in
theorem w_c10 : (Jvm.Cond.code ({ cls := "com/example/hopchuan/hopchuan/ErrorCounter", name := "clearPending", desc := "()V" } : Jvm.MethodName) prog_5_method_13_code (1 : Nat) (Option.none : Option Jvm.ClassFile.FieldType)).before args0 about1 = true := code_word (m := ⟨3, 11⟩) (meth := k3m11) (c := k3c11) (by decide +kernel) rfl rfl rfl (by decide +kernel)
set_option maxRecDepth 65536 in
theorem w_c11 : (Jvm.Cond.code ({ cls := "com/example/hopchuan/hopchuan/ErrorCounter", name := "endPeriod", desc := "()V" } : Jvm.MethodName) prog_5_method_14_code (1 : Nat) (Option.none : Option Jvm.ClassFile.FieldType)).before args0 about1 = true := code_word (m := ⟨3, 12⟩) (meth := k3m12) (c := k3c12) (by decide +kernel) rfl rfl rfl (by decide +kernel)
set_option maxRecDepth 65536 in
theorem w_c12 : (Jvm.Cond.code ({ cls := "com/example/hopchuan/hopchuan/ErrorCounter", name := "seconds", desc := "()J" } : Jvm.MethodName) prog_5_method_5_code (1 : Nat) (Option.some Jvm.ClassFile.FieldType.long)).before args0 about1 = true := code_word (m := ⟨3, 4⟩) (meth := k3m4) (c := k3c4) (by decide +kernel) rfl rfl rfl (by decide +kernel)
set_option maxRecDepth 65536 in
theorem w_c13 : (Jvm.Cond.code ({ cls := "com/example/hopchuan/hopchuan/ErrorCounter", name := "erroredSeconds", desc := "()J" } : Jvm.MethodName) prog_5_method_9_code (1 : Nat) (Option.some Jvm.ClassFile.FieldType.long)).before args0 about1 = true := code_word (m := ⟨3, 7⟩) (meth := k3m7) (c := k3c7) (by decide +kernel) rfl rfl rfl (by decide +kernel)
set_option maxRecDepth 65536 in
theorem w_c14 : (Jvm.Cond.code ({ cls := "com/example/hopchuan/hopchuan/ErrorCounter", name := "severelyErroredSeconds", desc := "()J" } : Jvm.MethodName) prog_5_method_10_code (1 : Nat) (Option.some Jvm.ClassFile.FieldType.long)).before args0 about1 = true := code_word (m := ⟨3, 8⟩) (meth := k3m8) (c := k3c8) (by decide +kernel) rfl rfl rfl (by decide +kernel)
set_option maxRecDepth 65536 in
theorem w_c15 : (Jvm.Cond.code ({ cls := "com/example/hopchuan/hopchuan/ErrorCounter", name := "backgroundBlockErrors", desc := "()J" } : Jvm.MethodName) prog_5_method_11_code (1 : Nat) (Option.some Jvm.ClassFile.FieldType.long)).before args0 about1 = true := code_word (m := ⟨3, 9⟩) (meth := k3m9) (c := k3c9) (by decide +kernel) rfl rfl rfl (by decide +kernel)
set_option maxRecDepth 65536 in
theorem w_c16 : (Jvm.Cond.code ({ cls := "com/example/hopchuan/hopchuan/ErrorCounter", name := "unavailableSeconds", desc := "()J" } : Jvm.MethodName) prog_5_method_6_code (1 : Nat) (Option.some Jvm.ClassFile.FieldType.long)).before args0 about1 = true := code_word (m := ⟨3, 5⟩) (meth := k3m5) (c := k3c5) (by decide +kernel) rfl rfl rfl (by decide +kernel)
set_option maxRecDepth 65536 in
theorem w_c17 : (Jvm.Cond.code ({ cls := "com/example/hopchuan/hopchuan/ErrorCounter", name := "extendingPeriodSeconds", desc := "()J" } : Jvm.MethodName) prog_5_method_8_code (1 : Nat) (Option.some Jvm.ClassFile.FieldType.long)).before args0 about1 = true := code_word (m := ⟨3, 6⟩) (meth := k3m6) (c := k3c6) (by decide +kernel) rfl rfl rfl (by decide +kernel)
def codes1 : List Jvm.Cond := [Jvm.Cond.code x code maxLocals ret, Jvm.Cond.code ({ cls := "java/lang/Math", name := "max", desc := "(JJ)J" } : Jvm.MethodName) jdk_29_method_66_code (4 : Nat) (Option.some Jvm.ClassFile.FieldType.long), Jvm.Cond.code ({ cls := "com/example/hopchuan/hopchuan/ErrorCounter", name := "<init>", desc := "(JJ)V" } : Jvm.MethodName) prog_5_method_1_code (5 : Nat) (Option.none : Option Jvm.ClassFile.FieldType), Jvm.Cond.code ({ cls := "java/lang/Object", name := "<init>", desc := "()V" } : Jvm.MethodName) object_method_1_code (1 : Nat) (Option.none : Option Jvm.ClassFile.FieldType), Jvm.Cond.code ({ cls := "com/example/hopchuan/hopchuan/ErrorCounter", name := "second", desc := "(JZ)V" } : Jvm.MethodName) prog_5_method_2_code (5 : Nat) (Option.none : Option Jvm.ClassFile.FieldType), Jvm.Cond.code ({ cls := "com/example/hopchuan/hopchuan/ErrorCounter", name := "settleAvailableRun", desc := "()V" } : Jvm.MethodName) prog_5_method_12_code (1 : Nat) (Option.none : Option Jvm.ClassFile.FieldType), Jvm.Cond.code ({ cls := "com/example/hopchuan/hopchuan/ErrorCounterEndPinLaw", name := "severe", desc := "(Lcom/example/hopchuan/hopchuan/ErrorCounter;IJ)V" } : Jvm.MethodName) method_3_code (4 : Nat) (Option.none : Option Jvm.ClassFile.FieldType), Jvm.Cond.code ({ cls := "com/example/hopchuan/hopchuan/ErrorCounter", name := "clean", desc := "(J)V" } : Jvm.MethodName) prog_5_method_3_code (7 : Nat) (Option.none : Option Jvm.ClassFile.FieldType), Jvm.Cond.code ({ cls := "java/lang/Math", name := "min", desc := "(JJ)J" } : Jvm.MethodName) jdk_29_method_70_code (4 : Nat) (Option.some Jvm.ClassFile.FieldType.long), Jvm.Cond.code ({ cls := "com/example/hopchuan/hopchuan/ErrorCounter", name := "end", desc := "()V" } : Jvm.MethodName) prog_5_method_4_code (1 : Nat) (Option.none : Option Jvm.ClassFile.FieldType), Jvm.Cond.code ({ cls := "com/example/hopchuan/hopchuan/ErrorCounter", name := "clearPending", desc := "()V" } : Jvm.MethodName) prog_5_method_13_code (1 : Nat) (Option.none : Option Jvm.ClassFile.FieldType), Jvm.Cond.code ({ cls := "com/example/hopchuan/hopchuan/ErrorCounter", name := "endPeriod", desc := "()V" } : Jvm.MethodName) prog_5_method_14_code (1 : Nat) (Option.none : Option Jvm.ClassFile.FieldType), Jvm.Cond.code ({ cls := "com/example/hopchuan/hopchuan/ErrorCounter", name := "seconds", desc := "()J" } : Jvm.MethodName) prog_5_method_5_code (1 : Nat) (Option.some Jvm.ClassFile.FieldType.long), Jvm.Cond.code ({ cls := "com/example/hopchuan/hopchuan/ErrorCounter", name := "erroredSeconds", desc := "()J" } : Jvm.MethodName) prog_5_method_9_code (1 : Nat) (Option.some Jvm.ClassFile.FieldType.long), Jvm.Cond.code ({ cls := "com/example/hopchuan/hopchuan/ErrorCounter", name := "severelyErroredSeconds", desc := "()J" } : Jvm.MethodName) prog_5_method_10_code (1 : Nat) (Option.some Jvm.ClassFile.FieldType.long), Jvm.Cond.code ({ cls := "com/example/hopchuan/hopchuan/ErrorCounter", name := "backgroundBlockErrors", desc := "()J" } : Jvm.MethodName) prog_5_method_11_code (1 : Nat) (Option.some Jvm.ClassFile.FieldType.long), Jvm.Cond.code ({ cls := "com/example/hopchuan/hopchuan/ErrorCounter", name := "unavailableSeconds", desc := "()J" } : Jvm.MethodName) prog_5_method_6_code (1 : Nat) (Option.some Jvm.ClassFile.FieldType.long), Jvm.Cond.code ({ cls := "com/example/hopchuan/hopchuan/ErrorCounter", name := "extendingPeriodSeconds", desc := "()J" } : Jvm.MethodName) prog_5_method_8_code (1 : Nat) (Option.some Jvm.ClassFile.FieldType.long)]
set_option maxRecDepth 65536 in
theorem codes_eq : words1.filter isCode = codes1 := rfl
theorem w_codes : ∀ c ∈ words1.filter isCode, c.before args0 about1 = true := by
  rw [codes_eq]
  intro c hc
  simp only [codes1, List.mem_cons, List.not_mem_nil, or_false] at hc
  rcases hc with rfl | rfl | rfl | rfl | rfl | rfl | rfl | rfl | rfl | rfl | rfl | rfl | rfl | rfl | rfl | rfl | rfl | rfl
  · exact w_c0
  · exact w_c1
  · exact w_c2
  · exact w_c3
  · exact w_c4
  · exact w_c5
  · exact w_c6
  · exact w_c7
  · exact w_c8
  · exact w_c9
  · exact w_c10
  · exact w_c11
  · exact w_c12
  · exact w_c13
  · exact w_c14
  · exact w_c15
  · exact w_c16
  · exact w_c17
set_option maxRecDepth 65536 in
theorem w_t1 : (words1.take 24).all (fun c => isCode c || c.before args0 about1) = true := by decide +kernel
set_option maxRecDepth 65536 in
theorem w_t2 : ((words1.drop 24).take 24).all (fun c => isCode c || c.before args0 about1) = true := by decide +kernel
set_option maxRecDepth 65536 in
theorem w_t3 : (((words1.drop 24).drop 24).take 24).all (fun c => isCode c || c.before args0 about1) = true := by decide +kernel
set_option maxRecDepth 65536 in
theorem w_t4 : ((((words1.drop 24).drop 24).drop 24).take 24).all (fun c => isCode c || c.before args0 about1) = true := by decide +kernel
set_option maxRecDepth 65536 in
theorem w_t5 : ((((words1.drop 24).drop 24).drop 24).drop 24).all (fun c => isCode c || c.before args0 about1) = true := by decide +kernel
theorem w_tables : (allAtoms (Jvm.Cond.code x code maxLocals ret :: tables_1)).before args0 about1 = true := by
  rw [allAtoms_all]
  show words1.all (fun c => c.before args0 about1) = true
  refine all_split ?_ w_codes
  rw [← List.take_append_drop 24 words1, List.all_append, w_t1, ← List.take_append_drop 24 (words1.drop 24), List.all_append, w_t2, ← List.take_append_drop 24 ((words1.drop 24).drop 24), List.all_append, w_t3, ← List.take_append_drop 24 (((words1.drop 24).drop 24).drop 24), List.all_append, w_t4, w_t5]
  rfl
set_option maxRecDepth 65536 in
theorem w_case : (Jvm.Cond.and given_1 narrow_1).before args0 about1 = true := by decide +kernel
theorem w_applies : (headSpec (Jvm.Cond.code x code maxLocals ret :: tables_1) room_1).applies x e0.platform about1 = true :=
  (Spec.applies_iff w_frames).mpr ⟨w_running, w_runnable, w_alone, w_named, w_hears, w_ripe, w_room, w_tables⟩
theorem atStart : AtStart classFile x code maxLocals ret World_1 tables_1 room_1 Calls_1 rest_1 Pre_1 launch0 p0 e0 about1 theMethod args0 below0 :=
  ⟨lists_1, trivial, launch0.admits_env _ _ _, launch0.least_env, fairChoices_fair.cas, fairChoices_fair.clock, w_frames, w_args, w_heap, w_applies, trivial, trivial, w_case⟩
end start1
theorem witness_1 : WitnessClaimed_1 := ⟨start1.p0, start1.e0, start1.about1, start1.theMethod, start1.args0, start1.below0, start1.atStart⟩
end Jvm.Pilot.@@N@@
