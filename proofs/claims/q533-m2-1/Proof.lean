import JvmDerived
import JvmDerived.Pilot.@@N@@Statement
import JvmDerived.Pilot.@@N@@Code
set_option linter.unusedVariables false
set_option linter.unusedSimpArgs false
namespace Jvm.RoadKit
open Sem ClassFile Op Lib Jvm.Stand Jvm.Free Jvm.LawKit
section New
variable {p : Program} {l : Launch} {e : Env} {R : Room} {s : State} {m : MethodId} {args : Array Value} {below : List Frame} {meth : Method} {c : Code} {T : State} {locs : List Loc} {cells slots : Nat}
theorem retI (X : Stand p l e R s m args below meth c T locs cells slots) (hx : p.tables.exec = Jvm.exec) {pc : Nat} {Ls : Array Slot} {z : Int32} {rest : List Value} (hret : meth.sig.returnType = some .int) (hd : decode c.code pc = .ok (.ireturn, 1)) {fs : List Frame}
    (hl : ∀ (f : JFrame) (acts : List Action), f.method = m → f.locked = none → f.entered = [] → (doReturn e (T.setTop f) acts (some (.int z))).1 = T.setFrames fs) : Steps p.tables e below (T.setTop (mkF m pc Ls (.int z :: rest))) (T.setFrames fs) := by
  have hm' : T.vm.method? m = some meth := X.method'
  have hn : narrow .int (.int z) = .int z := rfl
  show Steps p.tables e below (T.setTop { method := m, pc := pc, locals := Ls, stack := _ :: rest, locked := none }) _
  jvm_step X.here [X.here.top, hx, hd, hm', hret, hn]
  first | (intro acts; rw [hl _ acts rfl rfl rfl]) | rw [hl _ _ rfl rfl rfl]
  exact Steps.refl _
theorem retJ (X : Stand p l e R s m args below meth c T locs cells slots) (hx : p.tables.exec = Jvm.exec) {pc : Nat} {Ls : Array Slot} {z : Int64} {rest : List Value} (hret : meth.sig.returnType = some .long) (hd : decode c.code pc = .ok (.lreturn, 1)) {fs : List Frame}
    (hl : ∀ (f : JFrame) (acts : List Action), f.method = m → f.locked = none → f.entered = [] → (doReturn e (T.setTop f) acts (some (.long z))).1 = T.setFrames fs) : Steps p.tables e below (T.setTop (mkF m pc Ls (.long z :: rest))) (T.setFrames fs) := by
  have hm' : T.vm.method? m = some meth := X.method'
  have hn : narrow .long (.long z) = .long z := rfl
  show Steps p.tables e below (T.setTop { method := m, pc := pc, locals := Ls, stack := _ :: rest, locked := none }) _
  jvm_step X.here [X.here.top, hx, hd, hm', hret, hn]
  first | (intro acts; rw [hl _ acts rfl rfl rfl]) | rw [hl _ _ rfl rfl rfl]
  exact Steps.refl _
theorem retR (X : Stand p l e R s m args below meth c T locs cells slots) (hx : p.tables.exec = Jvm.exec) {pc : Nat} {Ls : Array Slot} {v : Value} {rest : List Value} (hv : v.isRef = true) {ty : FieldType} (hret : meth.sig.returnType = some ty) (ht : ty.isReference = true) (hd : decode c.code pc = .ok (.areturn, 1)) {fs : List Frame}
    (hl : ∀ (f : JFrame) (acts : List Action), f.method = m → f.locked = none → f.entered = [] → (doReturn e (T.setTop f) acts (some v)).1 = T.setFrames fs) : Steps p.tables e below (T.setTop (mkF m pc Ls (v :: rest))) (T.setFrames fs) := by
  have hm' : T.vm.method? m = some meth := X.method'
  show Steps p.tables e below (T.setTop { method := m, pc := pc, locals := Ls, stack := _ :: rest, locked := none }) _
  jvm_step X.here [X.here.top, hx, hd, hm', hret, hv, ht]
  first | (intro acts; rw [hl _ acts rfl rfl rfl]) | rw [hl _ _ rfl rfl rfl]
  exact Steps.refl _
end New
end Jvm.RoadKit
namespace Jvm.Pilot.@@N@@
open Jvm Jvm.ClassFile Sem Op Lib Jvm.Free Jvm.Stand Jvm.LawKit Jvm.RoadKit Bundle Jvm.Pilot.@@N@@.Jvm.D
/-- from the state 'cur' on is enough -/
def own_Pre (p : Program) (e : Env) (below : List Frame) (start cur : State) : Prop := ∀ t, Steps p.tables e below cur t → Steps p.tables e below start t
/-- an array of ints (bytes, chars, booleans): its length z, its components ws (at least so many) -/
def own_AI (Z : State) (h : Heap) (a : Addr) (k : ClassId) (ty : FieldType) (z : Int32) (ws : List Int32) : Prop := Arv Z h a k ty z (ws.map Value.int) (.int 0) ∧ z.toNatClampNeg ≤ ws.length
def own_AJ (Z : State) (h : Heap) (a : Addr) (k : ClassId) (ty : FieldType) (z : Int32) (ws : List Int64) : Prop := Arv Z h a k ty z (ws.map Value.long) (.long 0) ∧ z.toNatClampNeg ≤ ws.length
section OwnA
variable {Z : State} {h h' : Heap} {a b : Addr} {k : ClassId} {ty : FieldType} {z : Int32} {ws : List Int32} {wl : List Int64} {sl : Nat} {v : Value} {L : List Addr}
theorem own_AI.lt (F : own_AI Z h a k ty z ws) : a < h.size := Arv.lt F.1
theorem own_AI.ext (F : own_AI Z h a k ty z ws) (E : Ext h h') : own_AI Z h' a k ty z ws := ⟨Arv.ext F.1 E, F.2⟩
theorem own_AI.other (F : own_AI Z h b k ty z ws) (W : Wr h h' a sl v) (q : b ≠ a) : own_AI Z h' b k ty z ws := ⟨Arv.other F.1 W q, F.2⟩
theorem own_AI.keep (F : own_AI Z h a k ty z ws) (K : Keep h h' L) (q : a ∉ L) : own_AI Z h' a k ty z ws := ⟨Arv.keep F.1 K q, F.2⟩
theorem own_AJ.lt (F : own_AJ Z h a k ty z wl) : a < h.size := Arv.lt F.1
theorem own_AJ.ext (F : own_AJ Z h a k ty z wl) (E : Ext h h') : own_AJ Z h' a k ty z wl := ⟨Arv.ext F.1 E, F.2⟩
theorem own_AJ.other (F : own_AJ Z h b k ty z wl) (W : Wr h h' a sl v) (q : b ≠ a) : own_AJ Z h' b k ty z wl := ⟨Arv.other F.1 W q, F.2⟩
theorem own_AJ.keep (F : own_AJ Z h a k ty z wl) (K : Keep h h' L) (q : a ∉ L) : own_AJ Z h' a k ty z wl := ⟨Arv.keep F.1 K q, F.2⟩
theorem own_AI.new (n : Nat) (A : Arr Z h a (newA k ty z) ty) (q : ¬ z < 0) (hn : z.toNatClampNeg ≤ n) (hd : defaultValue ty = .int 0) : own_AI Z h a k ty z (List.replicate n (0 : Int32)) := by
  have := Arv.new A q
  rw [hd] at this
  have r := this.pad (pad_rep [] (.int 0) n)
  exact ⟨by simpa [List.map_replicate] using r, by simpa using hn⟩
theorem own_AJ.new (n : Nat) (A : Arr Z h a (newA k ty z) ty) (q : ¬ z < 0) (hn : z.toNatClampNeg ≤ n) (hd : defaultValue ty = .long 0) : own_AJ Z h a k ty z (List.replicate n (0 : Int64)) := by
  have := Arv.new A q
  rw [hd] at this
  have r := this.pad (pad_rep [] (.long 0) n)
  exact ⟨by simpa [List.map_replicate] using r, by simpa using hn⟩
theorem own_getI (ws : List Int32) (i : Nat) : (ws.map Value.int).getD i (.int 0) = .int (ws.getD i 0) := by
  simp only [List.getD_eq_getElem?_getD, List.getElem?_map]
  cases ws[i]? <;> rfl
theorem own_getJ (ws : List Int64) (i : Nat) : (ws.map Value.long).getD i (.long 0) = .long (ws.getD i 0) := by
  simp only [List.getD_eq_getElem?_getD, List.getElem?_map]
  cases ws[i]? <;> rfl
theorem own_AI.at (F : own_AI Z h a k ty z ws) {j : Int32} (q : ¬ j < 0 ∧ j < z) : ∃ cl : Cell, Arr Z h a cl ty ∧ ¬ (j < 0 ∨ cl.slots.size ≤ j.toNatClampNeg) ∧ cl.slots[j.toNatClampNeg]? = some (.int (ws.getD j.toNatClampNeg 0)) := by
  obtain ⟨⟨cl, A, -, S, -, H, -⟩, -⟩ := F
  have hin := inb_of S q
  exact ⟨cl, A, hin, H.at hin (own_getI _ _)⟩
theorem own_AJ.at (F : own_AJ Z h a k ty z wl) {j : Int32} (q : ¬ j < 0 ∧ j < z) : ∃ cl : Cell, Arr Z h a cl ty ∧ ¬ (j < 0 ∨ cl.slots.size ≤ j.toNatClampNeg) ∧ cl.slots[j.toNatClampNeg]? = some (.long (wl.getD j.toNatClampNeg 0)) := by
  obtain ⟨⟨cl, A, -, S, -, H, -⟩, -⟩ := F
  have hin := inb_of S q
  exact ⟨cl, A, hin, H.at hin (own_getJ _ _)⟩
theorem own_AI.arr (F : own_AI Z h a k ty z ws) {j : Int32} (q : ¬ j < 0 ∧ j < z) : ∃ cl : Cell, Arr Z h a cl ty ∧ ¬ (j < 0 ∨ cl.slots.size ≤ j.toNatClampNeg) ∧ ∀ (h' : Heap) (x : Int32), fits ty (.int x) = true → Wr h h' a j.toNatClampNeg (.int x) → own_AI Z h' a k ty z (ws.set j.toNatClampNeg x) := by
  obtain ⟨⟨cl, A, q1, S, q3, H, G⟩, ln⟩ := F
  have hin := inb_of S q
  refine ⟨cl, A, hin, fun h' x hv W => ?_⟩
  have hl : j.toNatClampNeg < ws.length := by
    rcases Nat.lt_or_ge j.toNatClampNeg ws.length with u | u
    · exact u
    · exact absurd (Or.inr (by omega)) hin
  have := Arv.set A q1 S q3 H G hv W _ rfl (by simpa using hl)
  rw [← List.map_set] at this
  exact ⟨this, by simpa using ln⟩
theorem own_AJ.arr (F : own_AJ Z h a k ty z wl) {j : Int32} (q : ¬ j < 0 ∧ j < z) : ∃ cl : Cell, Arr Z h a cl ty ∧ ¬ (j < 0 ∨ cl.slots.size ≤ j.toNatClampNeg) ∧ ∀ (h' : Heap) (x : Int64), fits ty (.long x) = true → Wr h h' a j.toNatClampNeg (.long x) → own_AJ Z h' a k ty z (wl.set j.toNatClampNeg x) := by
  obtain ⟨⟨cl, A, q1, S, q3, H, G⟩, ln⟩ := F
  have hin := inb_of S q
  refine ⟨cl, A, hin, fun h' x hv W => ?_⟩
  have hl : j.toNatClampNeg < wl.length := by
    rcases Nat.lt_or_ge j.toNatClampNeg wl.length with u | u
    · exact u
    · exact absurd (Or.inr (by omega)) hin
  have := Arv.set A q1 S q3 H G hv W _ rfl (by simpa using hl)
  rw [← List.map_set] at this
  exact ⟨this, by simpa using ln⟩
theorem own_AI.len (F : own_AI Z h a k ty z ws) : ∃ cl : Cell, Arr Z h a cl ty ∧ cl.slots.size = z.toNatClampNeg ∧ ¬ z < 0 := by
  obtain ⟨⟨cl, A, -, S, q3, -, -⟩, -⟩ := F
  exact ⟨cl, A, S, q3⟩
theorem own_AJ.len (F : own_AJ Z h a k ty z wl) : ∃ cl : Cell, Arr Z h a cl ty ∧ cl.slots.size = z.toNatClampNeg ∧ ¬ z < 0 := by
  obtain ⟨⟨cl, A, -, S, q3, -, -⟩, -⟩ := F
  exact ⟨cl, A, S, q3⟩
end OwnA
/-- a private method selects itself, where another method of its class is known to be no interface's -/
theorem own_selp {s : State} {args : Array Value} {y z : MethodName} (hz : (Cond.selects z.cls z z).before args s = true) (hc : z.cls = y.cls) (hpriv : s.PrivateAt y) (hinst : (Cond.instanceMethod y).before args s = true) (hy : y.cls ≠ "java/lang/invoke/MethodHandle" ∧ y.cls ≠ "java/lang/invoke/VarHandle") : (Cond.selects y.cls y y).before args s = true := by
  obtain ⟨c2, r2, m2, -, -, q3, -, kP, hkP, hkPi⟩ := Cond.selects_spec hz
  have hf := findClass_of_methodNamed q3
  rw [hc] at hf
  exact selects_self_of_private hf hkP hkPi hpriv hinst hy
/-- what holds of every byte -/
theorem own_bytes {P : Int32 → Prop} (H : ∀ i : Fin 256, P (Int32.ofInt ((i.1 : Int) - 128))) (x : Int32) : P x.toInt8.toInt32 := by
  obtain ⟨-, h1, h2⟩ := c_i2b x
  have e : x.toInt8.toInt32 = Int32.ofInt (((⟨(x.toInt8.toInt32.toInt + 128).toNat, by omega⟩ : Fin 256).1 : Int) - 128) := by
    apply Int32.toInt_inj.mp
    show _ = (Int32.ofInt (((x.toInt8.toInt32.toInt + 128).toNat : Int) - 128)).toInt
    rw [Int32.toInt_ofInt_of_le (by omega) (by omega)]
    omega
  rw [e]
  exact H _


theorem d1_0 : decode jdk_29_method_66_code 0 = .ok (.lload_n 0, 1) := by decide +kernel
theorem d1_1 : decode jdk_29_method_66_code 1 = .ok (.lload_n 2, 1) := by decide +kernel
theorem d1_2 : decode jdk_29_method_66_code 2 = .ok (.lcmp, 1) := by decide +kernel
theorem d1_3 : decode jdk_29_method_66_code 3 = .ok (.ifCond .lt 7, 3) := by decide +kernel
theorem d1_6 : decode jdk_29_method_66_code 6 = .ok (.lload_n 0, 1) := by decide +kernel
theorem d1_7 : decode jdk_29_method_66_code 7 = .ok (.goto 4, 3) := by decide +kernel
theorem d1_10 : decode jdk_29_method_66_code 10 = .ok (.lload_n 2, 1) := by decide +kernel
theorem d1_11 : decode jdk_29_method_66_code 11 = .ok (.lreturn, 1) := by decide +kernel
theorem ef_1 (m : MethodId) (q0 : Int64) (q1 : Int64) : entryFrame m #[(.long q0), (.long q1)] 4 = mkF m 0 #[.val (.long q0), .second, .val (.long q1), .second] [] := by first | (simp [entryFrame, mkF, argsToLocals, Value.category]; done) | rfl
def own_f1 (q0 : Int64) (q1 : Int64) : Int64 := (if q0 < q1 then q1 else q0)
def Q1 (Z : State) (q0 : Int64) (q1 : Int64) (h0 : Heap) (n0 : Nat) (v : Option Value) (h : Heap) (L : List Loc) : Prop := v = some (.long (own_f1 q0 q1)) ∧ Fr n0 L ∧ h = h0
set_option maxRecDepth 65536 in
set_option maxHeartbeats 40000000 in
theorem rm1 (l : Launch) (Z : State) (aw : Array Value) (hw : ∀ d ∈ tables_1, d.before aw Z = true) (wq : List Jvm.Cond) (q0 : Int64) (q1 : Int64) (h0 : Heap) (n0 : Nat) (Z0 : n0 ≤ h0.size) :
    MetFree l (⟨"java/lang/Math", "max", "(JJ)J"⟩ : MethodName) (head1 (Jvm.Cond.code (⟨"java/lang/Math", "max", "(JJ)J"⟩ : MethodName) jdk_29_method_66_code 4 (some .long) :: wq) ({ frames := 0, cells := 0, slots := 0, locals := 0 } : Room)) (fun a U => a = #[(.long q0), (.long q1)] ∧ Z.Warmed39 U.vm ∧ U.heap = h0) (fun _ _ _ _ _ => True) (fun _ U o U' => ∃ v L, o = .returned v ∧ Q1 Z q0 q1 h0 n0 v U'.heap L ∧ FrameEnd U o U' L ({ frames := 0, cells := 0, slots := 0, locals := 0 } : Room).cells ({ frames := 0, cells := 0, slots := 0, locals := 0 } : Room).slots) := by
  refine MetFree.of_bodySF (Jvm.Free.JP.mathPlain rfl (by decide +kernel)) hisR ?_
  intro p e s m args below meth c s₁ Bd hml0 hP hK
  obtain ⟨rfl, hZ, hh⟩ := hP
  have hx := Bd.exec
  have hby := Bd.bytes
  have hml : c.maxLocals = 4 := hml0
  have hown : s.vm.findClass "java/lang/Math" = some m.cls := findClass_of_methodNamed Bd.named
  have hnm := (name_of_methodNamed Bd.named Bd.method).1
  have X0 : Stand p l e ({ frames := 0, cells := 0, slots := 0, locals := 0 } : Room) s m #[(.long q0), (.long q1)] below meth c s₁ [] 0 0 := Stand.of_body Bd
  have e0 : s₁.heap = h0 := by rw [← hh, Bd.state]; rfl
  have N0 := Fr.nil n0
  have pre0 : own_Pre p e below (s₁.setTop (entryFrame m #[(.long q0), (.long q1)] 4)) (s₁.setTop (mkF m 0 #[.val (.long q0), .second, .val (.long q1), .second] [])) := fun t k => castTop (ef_1 m q0 q1) k
  have pre1 : own_Pre p e below (s₁.setTop (entryFrame m #[(.long q0), (.long q1)] 4)) (s₁.setTop (mkF m 3 #[.val (.long q0), .second, .val (.long q1), .second] [(.int (lcmpW q0 q1))])) := fun t k => pre0 t (by
      show Steps p.tables e below (s₁.setTop (mkF m 0 #[.val (.long q0), .second, .val (.long q1), .second] [])) _
      refine XS.lloadN X0.here hx rfl (hb hby d1_0) rfl ?_
      show Steps p.tables e below (s₁.setTop (mkF m 1 #[.val (.long q0), .second, .val (.long q1), .second] [(.long q0)])) _
      refine XS.lloadN X0.here hx rfl (hb hby d1_1) rfl ?_
      show Steps p.tables e below (s₁.setTop (mkF m 2 #[.val (.long q0), .second, .val (.long q1), .second] [(.long q1), (.long q0)])) _
      refine XS.lcmp X0.here hx rfl (hb hby d1_2) rfl ?_
      exact k)
  by_cases hc3 : q0 < q1
  · obtain ⟨fs, hr, hrun, hended, hW, hsame⟩ := X0.leave (v := some (.long q1)) (fun h => by rw [Bd.returns] at h; cases h)
    refine ⟨_, _, pre1 _ ?_, hrun, hended, _, _, rfl, ?_, ⟨_, rfl⟩, hW, hsame.mono (by decide) (by decide)⟩
    · show Steps p.tables e below (s₁.setTop (mkF m 3 #[.val (.long q0), .second, .val (.long q1), .second] [(.int (lcmpW q0 q1))])) _
      refine XS.ifYes X0.here hx rfl (pc0 := 3) (pc' := 10) rfl (hb hby d1_3) rfl ((if0 _ _).trans (tlt ((lw_lt _ _).mpr hc3)).1) (by decide) (by decide) ?_
      show Steps p.tables e below (s₁.setTop (mkF m 10 #[.val (.long q0), .second, .val (.long q1), .second] [])) _
      refine XS.lloadN X0.here hx rfl (hb hby d1_10) rfl ?_
      show Steps p.tables e below (s₁.setTop (mkF m 11 #[.val (.long q0), .second, .val (.long q1), .second] [(.long q1)])) _
      exact retJ X0 hx Bd.returns (hb hby d1_11) hr
    · show Q1 Z q0 q1 h0 n0 _ s₁.heap _
      rw [e0]
      unfold Q1
      refine ⟨?_, N0, rfl⟩
      · simp only [own_f1, if_pos hc3]
  · obtain ⟨fs, hr, hrun, hended, hW, hsame⟩ := X0.leave (v := some (.long q0)) (fun h => by rw [Bd.returns] at h; cases h)
    refine ⟨_, _, pre1 _ ?_, hrun, hended, _, _, rfl, ?_, ⟨_, rfl⟩, hW, hsame.mono (by decide) (by decide)⟩
    · show Steps p.tables e below (s₁.setTop (mkF m 3 #[.val (.long q0), .second, .val (.long q1), .second] [(.int (lcmpW q0 q1))])) _
      refine XS.ifNo X0.here hx rfl (hb hby d1_3) rfl ((if0 _ _).trans (flt (mt (lw_lt _ _).mp hc3)).1) ?_
      show Steps p.tables e below (s₁.setTop (mkF m 6 #[.val (.long q0), .second, .val (.long q1), .second] [])) _
      refine XS.lloadN X0.here hx rfl (hb hby d1_6) rfl ?_
      show Steps p.tables e below (s₁.setTop (mkF m 7 #[.val (.long q0), .second, .val (.long q1), .second] [(.long q0)])) _
      refine XS.goto X0.here hx rfl (pc0 := 7) (pc' := 11) rfl (hb hby d1_7) (by decide) (by decide) ?_
      show Steps p.tables e below (s₁.setTop (mkF m 11 #[.val (.long q0), .second, .val (.long q1), .second] [(.long q0)])) _
      exact retJ X0 hx Bd.returns (hb hby d1_11) hr
    · show Q1 Z q0 q1 h0 n0 _ s₁.heap _
      rw [e0]
      unfold Q1
      refine ⟨?_, N0, rfl⟩
      · simp only [own_f1, if_neg hc3]
theorem d2_0 : decode prog_5_method_1_code 0 = .ok (.aload_n 0, 1) := by decide +kernel
theorem d2_1 : decode prog_5_method_1_code 1 = .ok (.invokespecial 1, 3) := by decide +kernel
theorem d2_4 : decode prog_5_method_1_code 4 = .ok (.aload_n 0, 1) := by decide +kernel
theorem d2_5 : decode prog_5_method_1_code 5 = .ok (.iconst 1, 1) := by decide +kernel
theorem d2_6 : decode prog_5_method_1_code 6 = .ok (.putfield 7, 3) := by decide +kernel
theorem d2_9 : decode prog_5_method_1_code 9 = .ok (.aload_n 0, 1) := by decide +kernel
theorem d2_10 : decode prog_5_method_1_code 10 = .ok (.lload_n 1, 1) := by decide +kernel
theorem d2_11 : decode prog_5_method_1_code 11 = .ok (.putfield 13, 3) := by decide +kernel
theorem d2_14 : decode prog_5_method_1_code 14 = .ok (.aload_n 0, 1) := by decide +kernel
theorem d2_15 : decode prog_5_method_1_code 15 = .ok (.lload_n 3, 1) := by decide +kernel
theorem d2_16 : decode prog_5_method_1_code 16 = .ok (.putfield 17, 3) := by decide +kernel
theorem d2_19 : decode prog_5_method_1_code 19 = .ok (.return_, 1) := by decide +kernel
theorem pn_0 : plainName "com/example/hopchuan/hopchuan/ErrorCounter" = true := by first | (simp [plainName, overriddenIn]; done) | decide +kernel
theorem ef_2 (m : MethodId) (a0 : Addr) (q1 : Int64) (q2 : Int64) : entryFrame m #[(.ref a0), (.long q1), (.long q2)] 5 = mkF m 0 #[.val (.ref a0), .val (.long q1), .second, .val (.long q2), .second] [] := by first | (simp [entryFrame, mkF, argsToLocals, Value.category]; done) | rfl
def Q2 (Z : State) (a0 : Addr) (q1 : Int64) (q2 : Int64) (h0 : Heap) (n0 : Nat) (v : Option Value) (h : Heap) (L : List Loc) : Prop := v = none ∧ Fr n0 L ∧ Keep h0 h [a0] ∧ Exa Z h a0 "com/example/hopchuan/hopchuan/ErrorCounter" ∧ Fld Z h a0 "com/example/hopchuan/hopchuan/ErrorCounter" "available" "Z" (.int (1 : Int32)) ∧ Fld Z h a0 "com/example/hopchuan/hopchuan/ErrorCounter" "sesErroredBlocks" "J" (.long q1) ∧ Fld Z h a0 "com/example/hopchuan/hopchuan/ErrorCounter" "seconds" "J" (.long (0 : Int64)) ∧ Fld Z h a0 "com/example/hopchuan/hopchuan/ErrorCounter" "pending" "J" (.long (0 : Int64)) ∧ Fld Z h a0 "com/example/hopchuan/hopchuan/ErrorCounter" "erroredSeconds" "J" (.long (0 : Int64)) ∧ Fld Z h a0 "com/example/hopchuan/hopchuan/ErrorCounter" "severelyErroredSeconds" "J" (.long (0 : Int64)) ∧ Fld Z h a0 "com/example/hopchuan/hopchuan/ErrorCounter" "backgroundBlockErrors" "J" (.long (0 : Int64)) ∧ Fld Z h a0 "com/example/hopchuan/hopchuan/ErrorCounter" "unavailableSeconds" "J" (.long (0 : Int64))
set_option maxRecDepth 65536 in
set_option maxHeartbeats 40000000 in
theorem rm2 (l : Launch) (Z : State) (aw : Array Value) (hw : ∀ d ∈ tables_1, d.before aw Z = true) (wq : List Jvm.Cond) (a0 : Addr) (q1 : Int64) (q2 : Int64) (h0 : Heap) (n0 : Nat) (Z0 : n0 ≤ h0.size) (E_a0 : Exa Z h0 a0 "com/example/hopchuan/hopchuan/ErrorCounter") (F_a0_available : Fld Z h0 a0 "com/example/hopchuan/hopchuan/ErrorCounter" "available" "Z" (.int (0 : Int32))) (F_a0_sesErroredBlocks : Fld Z h0 a0 "com/example/hopchuan/hopchuan/ErrorCounter" "sesErroredBlocks" "J" (.long (0 : Int64))) (F_a0_extendingPeriodSeconds : Fld Z h0 a0 "com/example/hopchuan/hopchuan/ErrorCounter" "extendingPeriodSeconds" "J" (.long (0 : Int64))) (F_a0_seconds : Fld Z h0 a0 "com/example/hopchuan/hopchuan/ErrorCounter" "seconds" "J" (.long (0 : Int64))) (F_a0_pending : Fld Z h0 a0 "com/example/hopchuan/hopchuan/ErrorCounter" "pending" "J" (.long (0 : Int64))) (F_a0_erroredSeconds : Fld Z h0 a0 "com/example/hopchuan/hopchuan/ErrorCounter" "erroredSeconds" "J" (.long (0 : Int64))) (F_a0_severelyErroredSeconds : Fld Z h0 a0 "com/example/hopchuan/hopchuan/ErrorCounter" "severelyErroredSeconds" "J" (.long (0 : Int64))) (F_a0_backgroundBlockErrors : Fld Z h0 a0 "com/example/hopchuan/hopchuan/ErrorCounter" "backgroundBlockErrors" "J" (.long (0 : Int64))) (F_a0_unavailableSeconds : Fld Z h0 a0 "com/example/hopchuan/hopchuan/ErrorCounter" "unavailableSeconds" "J" (.long (0 : Int64))) (g_a0 : n0 ≤ a0) :
    MetFree l (⟨"com/example/hopchuan/hopchuan/ErrorCounter", "<init>", "(JJ)V"⟩ : MethodName) (head1 (Jvm.Cond.code (⟨"com/example/hopchuan/hopchuan/ErrorCounter", "<init>", "(JJ)V"⟩ : MethodName) prog_5_method_1_code 5 none :: wq) ({ frames := 1, cells := 0, slots := 0, locals := 12 } : Room)) (fun a U => a = #[(.ref a0), (.long q1), (.long q2)] ∧ Z.Warmed39 U.vm ∧ U.heap = h0) (fun _ _ _ _ _ => True) (fun _ U o U' => ∃ v L, o = .returned v ∧ Q2 Z a0 q1 q2 h0 n0 v U'.heap L ∧ FrameEnd U o U' L ({ frames := 1, cells := 0, slots := 0, locals := 12 } : Room).cells ({ frames := 1, cells := 0, slots := 0, locals := 12 } : Room).slots) := by
  refine MetFree.of_bodySF (plainFor_of_name pn_0) hisR ?_
  intro p e s m args below meth c s₁ Bd hml0 hP hK
  obtain ⟨rfl, hZ, hh⟩ := hP
  have hx := Bd.exec
  have hby := Bd.bytes
  have hml : c.maxLocals = 5 := hml0
  have hown : s.vm.findClass "com/example/hopchuan/hopchuan/ErrorCounter" = some m.cls := findClass_of_methodNamed Bd.named
  have hnm := (name_of_methodNamed Bd.named Bd.method).1
  have X0 : Stand p l e ({ frames := 1, cells := 0, slots := 0, locals := 12 } : Room) s m #[(.ref a0), (.long q1), (.long q2)] below meth c s₁ [] 0 0 := Stand.of_body Bd
  have e0 : s₁.heap = h0 := by rw [← hh, Bd.state]; rfl
  have N0 := Fr.nil n0
  have pre0 : own_Pre p e below (s₁.setTop (entryFrame m #[(.ref a0), (.long q1), (.long q2)] 5)) (s₁.setTop (mkF m 0 #[.val (.ref a0), .val (.long q1), .second, .val (.long q2), .second] [])) := fun t k => castTop (ef_2 m a0 q1 q2) k
  obtain ⟨T1, X1, e1, st1⟩ := initO X0 hx hZ hown (hw _ (List.mem_of_getElem? (i := 11) rfl)) (hw _ (List.mem_of_getElem? (i := 12) rfl)) (hw _ (List.mem_of_getElem? (i := 13) rfl)) e0 (g := (mkF m 1 #[.val (.ref a0), .val (.long q1), .second, .val (.long q2), .second] [(.ref a0)])) rfl (by rw [hml]; rfl) rfl (hb hby d2_1) (by decide) (W := 0) (by show 2 * 0 + _ ≤ _; exact Nat.le_of_eq rfl) (by decide)
  obtain ⟨T2, h2, X2, e2, W2, st2⟩ := putFN X1 hx hZ hown (hw _ (List.mem_of_getElem? (i := 14) rfl)) Via.refl e1 F_a0_available E_a0 (Or.inl (hw _ (List.mem_of_getElem? (i := 15) rfl))) (hw _ (List.mem_of_getElem? (i := 6) rfl)) (ty := .boolean) (v' := (.int (1 : Int32))) (by decide) rfl rfl (g := (mkF m 6 #[.val (.ref a0), .val (.long q1), .second, .val (.long q2), .second] [(.int (1 : Int32)), (.ref a0)])) rfl rfl (hb hby d2_6)
  have Fw2 := F_a0_available.same W2
  have N2 := Fr.snoc X2 N0 g_a0
  have kp3 : Keep h0 h2 [a0] := (Keep.refl h0 [a0]).wr W2 (Or.inl (List.mem_of_getElem? (i := 0) rfl))
  have f4 := (E_a0.wr W2)
  have f5 := (F_a0_sesErroredBlocks.other W2 (Or.inr (slot_ne (Or.inr (hw _ (List.mem_of_getElem? (i := 17) rfl))) (Or.inl (hw _ (List.mem_of_getElem? (i := 15) rfl))) (by decide) (t := .long) (t' := .boolean) (by decide) (by decide))))
  obtain ⟨T6, h6, X6, e6, W6, st6⟩ := putF X2 hx hZ hown (host := "") (Or.inl (hw _ (List.mem_of_getElem? (i := 16) rfl))) Via.refl e2 f5 f4 (Or.inr ⟨(hw _ (List.mem_of_getElem? (i := 17) rfl)), rfl, hnm⟩) (hw _ (List.mem_of_getElem? (i := 6) rfl)) (ty := .long) (by decide) rfl rfl (g := (mkF m 11 #[.val (.ref a0), .val (.long q1), .second, .val (.long q2), .second] [(.long q1), (.ref a0)])) rfl rfl (hb hby d2_11)
  have Fw6 := f5.same W6
  have N6 := Fr.snoc X6 N2 g_a0
  have kp7 : Keep h0 h6 [a0] := kp3.wr W6 (Or.inl (List.mem_of_getElem? (i := 0) rfl))
  have f8 := (f4.wr W6)
  have f9 := ((F_a0_extendingPeriodSeconds.other W2 (Or.inr (slot_ne (Or.inr (hw _ (List.mem_of_getElem? (i := 19) rfl))) (Or.inl (hw _ (List.mem_of_getElem? (i := 15) rfl))) (by decide) (t := .long) (t' := .boolean) (by decide) (by decide)))).other W6 (Or.inr (slot_ne (Or.inr (hw _ (List.mem_of_getElem? (i := 19) rfl))) (Or.inr (hw _ (List.mem_of_getElem? (i := 17) rfl))) (by decide) (t := .long) (t' := .long) (by decide) (by decide))))
  obtain ⟨T10, h10, X10, e10, W10, st10⟩ := putF X6 hx hZ hown (host := "") (Or.inl (hw _ (List.mem_of_getElem? (i := 18) rfl))) Via.refl e6 f9 f8 (Or.inr ⟨(hw _ (List.mem_of_getElem? (i := 19) rfl)), rfl, hnm⟩) (hw _ (List.mem_of_getElem? (i := 6) rfl)) (ty := .long) (by decide) rfl rfl (g := (mkF m 16 #[.val (.ref a0), .val (.long q1), .second, .val (.long q2), .second] [(.long q2), (.ref a0)])) rfl rfl (hb hby d2_16)
  have Fw10 := f9.same W10
  have N10 := Fr.snoc X10 N6 g_a0
  have kp11 : Keep h0 h10 [a0] := kp7.wr W10 (Or.inl (List.mem_of_getElem? (i := 0) rfl))
  obtain ⟨fs, hr, hrun, hended, hW, hsame⟩ := X10.leave (v := none) (fun _ => rfl)
  refine ⟨_, _, pre0 _ ?_, hrun, hended, _, _, rfl, ?_, ⟨_, rfl⟩, hW, hsame.mono (by decide) (by decide)⟩
  · show Steps p.tables e below (s₁.setTop (mkF m 0 #[.val (.ref a0), .val (.long q1), .second, .val (.long q2), .second] [])) _
    refine XS.aloadN X0.here hx rfl (hb hby d2_0) rfl rfl ?_
    show Steps p.tables e below (s₁.setTop (mkF m 1 #[.val (.ref a0), .val (.long q1), .second, .val (.long q2), .second] [(.ref a0)])) _
    refine st1 _ ?_
    show Steps p.tables e below (T1.setTop (mkF m 4 #[.val (.ref a0), .val (.long q1), .second, .val (.long q2), .second] [])) _
    refine XS.aloadN X1.here hx rfl (hb hby d2_4) rfl rfl ?_
    show Steps p.tables e below (T1.setTop (mkF m 5 #[.val (.ref a0), .val (.long q1), .second, .val (.long q2), .second] [(.ref a0)])) _
    refine XS.iconst X1.here hx rfl (hb hby d2_5) ?_
    show Steps p.tables e below (T1.setTop (mkF m 6 #[.val (.ref a0), .val (.long q1), .second, .val (.long q2), .second] [(.int (1 : Int32)), (.ref a0)])) _
    refine st2 _ ?_
    show Steps p.tables e below (T2.setTop (mkF m 9 #[.val (.ref a0), .val (.long q1), .second, .val (.long q2), .second] [])) _
    refine XS.aloadN X2.here hx rfl (hb hby d2_9) rfl rfl ?_
    show Steps p.tables e below (T2.setTop (mkF m 10 #[.val (.ref a0), .val (.long q1), .second, .val (.long q2), .second] [(.ref a0)])) _
    refine XS.lloadN X2.here hx rfl (hb hby d2_10) rfl ?_
    show Steps p.tables e below (T2.setTop (mkF m 11 #[.val (.ref a0), .val (.long q1), .second, .val (.long q2), .second] [(.long q1), (.ref a0)])) _
    refine st6 _ ?_
    show Steps p.tables e below (T6.setTop (mkF m 14 #[.val (.ref a0), .val (.long q1), .second, .val (.long q2), .second] [])) _
    refine XS.aloadN X6.here hx rfl (hb hby d2_14) rfl rfl ?_
    show Steps p.tables e below (T6.setTop (mkF m 15 #[.val (.ref a0), .val (.long q1), .second, .val (.long q2), .second] [(.ref a0)])) _
    refine XS.lloadN X6.here hx rfl (hb hby d2_15) rfl ?_
    show Steps p.tables e below (T6.setTop (mkF m 16 #[.val (.ref a0), .val (.long q1), .second, .val (.long q2), .second] [(.long q2), (.ref a0)])) _
    refine st10 _ ?_
    show Steps p.tables e below (T10.setTop (mkF m 19 #[.val (.ref a0), .val (.long q1), .second, .val (.long q2), .second] [])) _
    exact X10.returnOut hx Bd.returns (hb hby d2_19) hr
  · show Q2 Z a0 q1 q2 h0 n0 _ T10.heap _
    rw [e10]
    unfold Q2
    have f12 := (f8.wr W10)
    have f13 := ((Fw2.other W6 (Or.inr (slot_ne (Or.inl (hw _ (List.mem_of_getElem? (i := 15) rfl))) (Or.inr (hw _ (List.mem_of_getElem? (i := 17) rfl))) (by decide) (t := .boolean) (t' := .long) (by decide) (by decide)))).other W10 (Or.inr (slot_ne (Or.inl (hw _ (List.mem_of_getElem? (i := 15) rfl))) (Or.inr (hw _ (List.mem_of_getElem? (i := 19) rfl))) (by decide) (t := .boolean) (t' := .long) (by decide) (by decide))))
    have f14 := (Fw6.other W10 (Or.inr (slot_ne (Or.inr (hw _ (List.mem_of_getElem? (i := 17) rfl))) (Or.inr (hw _ (List.mem_of_getElem? (i := 19) rfl))) (by decide) (t := .long) (t' := .long) (by decide) (by decide))))
    have f15 := (((F_a0_seconds.other W2 (Or.inr (slot_ne (Or.inl (hw _ (List.mem_of_getElem? (i := 26) rfl))) (Or.inl (hw _ (List.mem_of_getElem? (i := 15) rfl))) (by decide) (t := .long) (t' := .boolean) (by decide) (by decide)))).other W6 (Or.inr (slot_ne (Or.inl (hw _ (List.mem_of_getElem? (i := 26) rfl))) (Or.inr (hw _ (List.mem_of_getElem? (i := 17) rfl))) (by decide) (t := .long) (t' := .long) (by decide) (by decide)))).other W10 (Or.inr (slot_ne (Or.inl (hw _ (List.mem_of_getElem? (i := 26) rfl))) (Or.inr (hw _ (List.mem_of_getElem? (i := 19) rfl))) (by decide) (t := .long) (t' := .long) (by decide) (by decide))))
    have f16 := (((F_a0_pending.other W2 (Or.inr (slot_ne (Or.inl (hw _ (List.mem_of_getElem? (i := 28) rfl))) (Or.inl (hw _ (List.mem_of_getElem? (i := 15) rfl))) (by decide) (t := .long) (t' := .boolean) (by decide) (by decide)))).other W6 (Or.inr (slot_ne (Or.inl (hw _ (List.mem_of_getElem? (i := 28) rfl))) (Or.inr (hw _ (List.mem_of_getElem? (i := 17) rfl))) (by decide) (t := .long) (t' := .long) (by decide) (by decide)))).other W10 (Or.inr (slot_ne (Or.inl (hw _ (List.mem_of_getElem? (i := 28) rfl))) (Or.inr (hw _ (List.mem_of_getElem? (i := 19) rfl))) (by decide) (t := .long) (t' := .long) (by decide) (by decide))))
    have f17 := (((F_a0_erroredSeconds.other W2 (Or.inr (slot_ne (Or.inl (hw _ (List.mem_of_getElem? (i := 35) rfl))) (Or.inl (hw _ (List.mem_of_getElem? (i := 15) rfl))) (by decide) (t := .long) (t' := .boolean) (by decide) (by decide)))).other W6 (Or.inr (slot_ne (Or.inl (hw _ (List.mem_of_getElem? (i := 35) rfl))) (Or.inr (hw _ (List.mem_of_getElem? (i := 17) rfl))) (by decide) (t := .long) (t' := .long) (by decide) (by decide)))).other W10 (Or.inr (slot_ne (Or.inl (hw _ (List.mem_of_getElem? (i := 35) rfl))) (Or.inr (hw _ (List.mem_of_getElem? (i := 19) rfl))) (by decide) (t := .long) (t' := .long) (by decide) (by decide))))
    have f18 := (((F_a0_severelyErroredSeconds.other W2 (Or.inr (slot_ne (Or.inl (hw _ (List.mem_of_getElem? (i := 37) rfl))) (Or.inl (hw _ (List.mem_of_getElem? (i := 15) rfl))) (by decide) (t := .long) (t' := .boolean) (by decide) (by decide)))).other W6 (Or.inr (slot_ne (Or.inl (hw _ (List.mem_of_getElem? (i := 37) rfl))) (Or.inr (hw _ (List.mem_of_getElem? (i := 17) rfl))) (by decide) (t := .long) (t' := .long) (by decide) (by decide)))).other W10 (Or.inr (slot_ne (Or.inl (hw _ (List.mem_of_getElem? (i := 37) rfl))) (Or.inr (hw _ (List.mem_of_getElem? (i := 19) rfl))) (by decide) (t := .long) (t' := .long) (by decide) (by decide))))
    have f19 := (((F_a0_backgroundBlockErrors.other W2 (Or.inr (slot_ne (Or.inl (hw _ (List.mem_of_getElem? (i := 82) rfl))) (Or.inl (hw _ (List.mem_of_getElem? (i := 15) rfl))) (by decide) (t := .long) (t' := .boolean) (by decide) (by decide)))).other W6 (Or.inr (slot_ne (Or.inl (hw _ (List.mem_of_getElem? (i := 82) rfl))) (Or.inr (hw _ (List.mem_of_getElem? (i := 17) rfl))) (by decide) (t := .long) (t' := .long) (by decide) (by decide)))).other W10 (Or.inr (slot_ne (Or.inl (hw _ (List.mem_of_getElem? (i := 82) rfl))) (Or.inr (hw _ (List.mem_of_getElem? (i := 19) rfl))) (by decide) (t := .long) (t' := .long) (by decide) (by decide))))
    have f20 := (((F_a0_unavailableSeconds.other W2 (Or.inr (slot_ne (Or.inl (hw _ (List.mem_of_getElem? (i := 65) rfl))) (Or.inl (hw _ (List.mem_of_getElem? (i := 15) rfl))) (by decide) (t := .long) (t' := .boolean) (by decide) (by decide)))).other W6 (Or.inr (slot_ne (Or.inl (hw _ (List.mem_of_getElem? (i := 65) rfl))) (Or.inr (hw _ (List.mem_of_getElem? (i := 17) rfl))) (by decide) (t := .long) (t' := .long) (by decide) (by decide)))).other W10 (Or.inr (slot_ne (Or.inl (hw _ (List.mem_of_getElem? (i := 65) rfl))) (Or.inr (hw _ (List.mem_of_getElem? (i := 19) rfl))) (by decide) (t := .long) (t' := .long) (by decide) (by decide))))
    refine ⟨rfl, N10, kp11, f12, ?_, ?_, ?_, ?_, ?_, ?_, ?_, ?_⟩
    · exact f13
    · exact f14
    · exact f15
    · exact f16
    · exact f17
    · exact f18
    · exact f19
    · exact f20
theorem d5_0 : decode prog_5_method_12_code 0 = .ok (.aload_n 0, 1) := by decide +kernel
theorem d5_1 : decode prog_5_method_12_code 1 = .ok (.dup, 1) := by decide +kernel
theorem d5_2 : decode prog_5_method_12_code 2 = .ok (.getfield 34, 3) := by decide +kernel
theorem d5_5 : decode prog_5_method_12_code 5 = .ok (.aload_n 0, 1) := by decide +kernel
theorem d5_6 : decode prog_5_method_12_code 6 = .ok (.getfield 23, 3) := by decide +kernel
theorem d5_9 : decode prog_5_method_12_code 9 = .ok (.ladd, 1) := by decide +kernel
theorem d5_10 : decode prog_5_method_12_code 10 = .ok (.putfield 34, 3) := by decide +kernel
theorem d5_13 : decode prog_5_method_12_code 13 = .ok (.aload_n 0, 1) := by decide +kernel
theorem d5_14 : decode prog_5_method_12_code 14 = .ok (.dup, 1) := by decide +kernel
theorem d5_15 : decode prog_5_method_12_code 15 = .ok (.getfield 68, 3) := by decide +kernel
theorem d5_18 : decode prog_5_method_12_code 18 = .ok (.aload_n 0, 1) := by decide +kernel
theorem d5_19 : decode prog_5_method_12_code 19 = .ok (.getfield 23, 3) := by decide +kernel
theorem d5_22 : decode prog_5_method_12_code 22 = .ok (.ladd, 1) := by decide +kernel
theorem d5_23 : decode prog_5_method_12_code 23 = .ok (.putfield 68, 3) := by decide +kernel
theorem d5_26 : decode prog_5_method_12_code 26 = .ok (.aload_n 0, 1) := by decide +kernel
theorem d5_27 : decode prog_5_method_12_code 27 = .ok (.lconst 0, 1) := by decide +kernel
theorem d5_28 : decode prog_5_method_12_code 28 = .ok (.putfield 23, 3) := by decide +kernel
theorem d5_31 : decode prog_5_method_12_code 31 = .ok (.return_, 1) := by decide +kernel
theorem ef_5 (m : MethodId) (a0 : Addr) : entryFrame m #[(.ref a0)] 1 = mkF m 0 #[.val (.ref a0)] [] := by first | (simp [entryFrame, mkF, argsToLocals, Value.category]; done) | rfl
def Q5 (Z : State) (a0 : Addr) (sc : Int64) (th : Int64) (bb : Int64) (ua : Int64) (pe : Int64) (es : Int64) (ss : Int64) (h0 : Heap) (n0 : Nat) (v : Option Value) (h : Heap) (L : List Loc) : Prop := v = none ∧ Fr n0 L ∧ Keep h0 h [a0] ∧ Exa Z h a0 "com/example/hopchuan/hopchuan/ErrorCounter" ∧ Fld Z h a0 "com/example/hopchuan/hopchuan/ErrorCounter" "available" "Z" (.int (1 : Int32)) ∧ Fld Z h a0 "com/example/hopchuan/hopchuan/ErrorCounter" "seconds" "J" (.long sc) ∧ Fld Z h a0 "com/example/hopchuan/hopchuan/ErrorCounter" "sesErroredBlocks" "J" (.long th) ∧ Fld Z h a0 "com/example/hopchuan/hopchuan/ErrorCounter" "backgroundBlockErrors" "J" (.long bb) ∧ Fld Z h a0 "com/example/hopchuan/hopchuan/ErrorCounter" "unavailableSeconds" "J" (.long ua) ∧ Fld Z h a0 "com/example/hopchuan/hopchuan/ErrorCounter" "pending" "J" (.long (0 : Int64)) ∧ Fld Z h a0 "com/example/hopchuan/hopchuan/ErrorCounter" "erroredSeconds" "J" (.long (es + pe)) ∧ Fld Z h a0 "com/example/hopchuan/hopchuan/ErrorCounter" "severelyErroredSeconds" "J" (.long (ss + pe))
set_option maxRecDepth 65536 in
set_option maxHeartbeats 40000000 in
theorem rm5 (l : Launch) (Z : State) (aw : Array Value) (hw : ∀ d ∈ tables_1, d.before aw Z = true) (wq : List Jvm.Cond) (a0 : Addr) (sc : Int64) (th : Int64) (bb : Int64) (ua : Int64) (pe : Int64) (es : Int64) (ss : Int64) (h0 : Heap) (n0 : Nat) (Z0 : n0 ≤ h0.size) (E_a0 : Exa Z h0 a0 "com/example/hopchuan/hopchuan/ErrorCounter") (F_a0_available : Fld Z h0 a0 "com/example/hopchuan/hopchuan/ErrorCounter" "available" "Z" (.int (1 : Int32))) (F_a0_seconds : Fld Z h0 a0 "com/example/hopchuan/hopchuan/ErrorCounter" "seconds" "J" (.long sc)) (F_a0_sesErroredBlocks : Fld Z h0 a0 "com/example/hopchuan/hopchuan/ErrorCounter" "sesErroredBlocks" "J" (.long th)) (F_a0_backgroundBlockErrors : Fld Z h0 a0 "com/example/hopchuan/hopchuan/ErrorCounter" "backgroundBlockErrors" "J" (.long bb)) (F_a0_unavailableSeconds : Fld Z h0 a0 "com/example/hopchuan/hopchuan/ErrorCounter" "unavailableSeconds" "J" (.long ua)) (F_a0_pending : Fld Z h0 a0 "com/example/hopchuan/hopchuan/ErrorCounter" "pending" "J" (.long pe)) (F_a0_erroredSeconds : Fld Z h0 a0 "com/example/hopchuan/hopchuan/ErrorCounter" "erroredSeconds" "J" (.long es)) (F_a0_severelyErroredSeconds : Fld Z h0 a0 "com/example/hopchuan/hopchuan/ErrorCounter" "severelyErroredSeconds" "J" (.long ss)) (g_a0 : n0 ≤ a0) :
    MetFree l (⟨"com/example/hopchuan/hopchuan/ErrorCounter", "settleAvailableRun", "()V"⟩ : MethodName) (head1 (Jvm.Cond.code (⟨"com/example/hopchuan/hopchuan/ErrorCounter", "settleAvailableRun", "()V"⟩ : MethodName) prog_5_method_12_code 1 none :: wq) ({ frames := 0, cells := 0, slots := 0, locals := 0 } : Room)) (fun a U => a = #[(.ref a0)] ∧ Z.Warmed39 U.vm ∧ U.heap = h0) (fun _ _ _ _ _ => True) (fun _ U o U' => ∃ v L, o = .returned v ∧ Q5 Z a0 sc th bb ua pe es ss h0 n0 v U'.heap L ∧ FrameEnd U o U' L ({ frames := 0, cells := 0, slots := 0, locals := 0 } : Room).cells ({ frames := 0, cells := 0, slots := 0, locals := 0 } : Room).slots) := by
  refine MetFree.of_bodySF (plainFor_of_name pn_0) hisR ?_
  intro p e s m args below meth c s₁ Bd hml0 hP hK
  obtain ⟨rfl, hZ, hh⟩ := hP
  have hx := Bd.exec
  have hby := Bd.bytes
  have hml : c.maxLocals = 1 := hml0
  have hown : s.vm.findClass "com/example/hopchuan/hopchuan/ErrorCounter" = some m.cls := findClass_of_methodNamed Bd.named
  have hnm := (name_of_methodNamed Bd.named Bd.method).1
  have X0 : Stand p l e ({ frames := 0, cells := 0, slots := 0, locals := 0 } : Room) s m #[(.ref a0)] below meth c s₁ [] 0 0 := Stand.of_body Bd
  have e0 : s₁.heap = h0 := by rw [← hh, Bd.state]; rfl
  have N0 := Fr.nil n0
  have pre0 : own_Pre p e below (s₁.setTop (entryFrame m #[(.ref a0)] 1)) (s₁.setTop (mkF m 0 #[.val (.ref a0)] [])) := fun t k => castTop (ef_5 m a0) k
  obtain ⟨T1, X1, e1, st1⟩ := getF X0 hx hZ hown (host := "") (Or.inl (hw _ (List.mem_of_getElem? (i := 34) rfl))) Via.refl e0 F_a0_erroredSeconds (g := (mkF m 2 #[.val (.ref a0)] [(.ref a0), (.ref a0)])) rfl rfl (hb hby d5_2)
  obtain ⟨T2, X2, e2, st2⟩ := getF X1 hx hZ hown (host := "") (Or.inl (hw _ (List.mem_of_getElem? (i := 27) rfl))) Via.refl e1 F_a0_pending (g := (mkF m 6 #[.val (.ref a0)] [(.ref a0), (.long es), (.ref a0)])) rfl rfl (hb hby d5_6)
  obtain ⟨T3, h3, X3, e3, W3, st3⟩ := putF X2 hx hZ hown (host := "") (Or.inl (hw _ (List.mem_of_getElem? (i := 34) rfl))) Via.refl e2 F_a0_erroredSeconds E_a0 (Or.inl (hw _ (List.mem_of_getElem? (i := 35) rfl))) (hw _ (List.mem_of_getElem? (i := 6) rfl)) (ty := .long) (by decide) rfl rfl (g := (mkF m 10 #[.val (.ref a0)] [(.long (es + pe)), (.ref a0)])) rfl rfl (hb hby d5_10)
  have Fw3 := F_a0_erroredSeconds.same W3
  have N3 := Fr.snoc X3 N0 g_a0
  have kp4 : Keep h0 h3 [a0] := (Keep.refl h0 [a0]).wr W3 (Or.inl (List.mem_of_getElem? (i := 0) rfl))
  have f5 := (F_a0_severelyErroredSeconds.other W3 (Or.inr (slot_ne (Or.inl (hw _ (List.mem_of_getElem? (i := 37) rfl))) (Or.inl (hw _ (List.mem_of_getElem? (i := 35) rfl))) (by decide) (t := .long) (t' := .long) (by decide) (by decide))))
  obtain ⟨T6, X6, e6, st6⟩ := getF X3 hx hZ hown (host := "") (Or.inl (hw _ (List.mem_of_getElem? (i := 36) rfl))) Via.refl e3 f5 (g := (mkF m 15 #[.val (.ref a0)] [(.ref a0), (.ref a0)])) rfl rfl (hb hby d5_15)
  have f7 := (F_a0_pending.other W3 (Or.inr (slot_ne (Or.inl (hw _ (List.mem_of_getElem? (i := 28) rfl))) (Or.inl (hw _ (List.mem_of_getElem? (i := 35) rfl))) (by decide) (t := .long) (t' := .long) (by decide) (by decide))))
  obtain ⟨T8, X8, e8, st8⟩ := getF X6 hx hZ hown (host := "") (Or.inl (hw _ (List.mem_of_getElem? (i := 27) rfl))) Via.refl e6 f7 (g := (mkF m 19 #[.val (.ref a0)] [(.ref a0), (.long ss), (.ref a0)])) rfl rfl (hb hby d5_19)
  have f9 := (E_a0.wr W3)
  obtain ⟨T10, h10, X10, e10, W10, st10⟩ := putF X8 hx hZ hown (host := "") (Or.inl (hw _ (List.mem_of_getElem? (i := 36) rfl))) Via.refl e8 f5 f9 (Or.inl (hw _ (List.mem_of_getElem? (i := 37) rfl))) (hw _ (List.mem_of_getElem? (i := 6) rfl)) (ty := .long) (by decide) rfl rfl (g := (mkF m 23 #[.val (.ref a0)] [(.long (ss + pe)), (.ref a0)])) rfl rfl (hb hby d5_23)
  have Fw10 := f5.same W10
  have N10 := Fr.snoc X10 N3 g_a0
  have kp11 : Keep h0 h10 [a0] := kp4.wr W10 (Or.inl (List.mem_of_getElem? (i := 0) rfl))
  have f12 := (f9.wr W10)
  have f13 := (f7.other W10 (Or.inr (slot_ne (Or.inl (hw _ (List.mem_of_getElem? (i := 28) rfl))) (Or.inl (hw _ (List.mem_of_getElem? (i := 37) rfl))) (by decide) (t := .long) (t' := .long) (by decide) (by decide))))
  obtain ⟨T14, h14, X14, e14, W14, st14⟩ := putF X10 hx hZ hown (host := "") (Or.inl (hw _ (List.mem_of_getElem? (i := 27) rfl))) Via.refl e10 f13 f12 (Or.inl (hw _ (List.mem_of_getElem? (i := 28) rfl))) (hw _ (List.mem_of_getElem? (i := 6) rfl)) (ty := .long) (by decide) rfl rfl (g := (mkF m 28 #[.val (.ref a0)] [(.long (0 : Int64)), (.ref a0)])) rfl rfl (hb hby d5_28)
  have Fw14 := f13.same W14
  have N14 := Fr.snoc X14 N10 g_a0
  have kp15 : Keep h0 h14 [a0] := kp11.wr W14 (Or.inl (List.mem_of_getElem? (i := 0) rfl))
  obtain ⟨fs, hr, hrun, hended, hW, hsame⟩ := X14.leave (v := none) (fun _ => rfl)
  refine ⟨_, _, pre0 _ ?_, hrun, hended, _, _, rfl, ?_, ⟨_, rfl⟩, hW, hsame.mono (by decide) (by decide)⟩
  · show Steps p.tables e below (s₁.setTop (mkF m 0 #[.val (.ref a0)] [])) _
    refine XS.aloadN X0.here hx rfl (hb hby d5_0) rfl rfl ?_
    show Steps p.tables e below (s₁.setTop (mkF m 1 #[.val (.ref a0)] [(.ref a0)])) _
    refine XS.dup X0.here hx rfl (hb hby d5_1) rfl rfl ?_
    show Steps p.tables e below (s₁.setTop (mkF m 2 #[.val (.ref a0)] [(.ref a0), (.ref a0)])) _
    refine st1 _ ?_
    show Steps p.tables e below (T1.setTop (mkF m 5 #[.val (.ref a0)] [(.long es), (.ref a0)])) _
    refine XS.aloadN X1.here hx rfl (hb hby d5_5) rfl rfl ?_
    show Steps p.tables e below (T1.setTop (mkF m 6 #[.val (.ref a0)] [(.ref a0), (.long es), (.ref a0)])) _
    refine st2 _ ?_
    show Steps p.tables e below (T2.setTop (mkF m 9 #[.val (.ref a0)] [(.long pe), (.long es), (.ref a0)])) _
    refine XS.ladd X2.here hx rfl (hb hby d5_9) rfl ?_
    show Steps p.tables e below (T2.setTop (mkF m 10 #[.val (.ref a0)] [(.long (es + pe)), (.ref a0)])) _
    refine st3 _ ?_
    show Steps p.tables e below (T3.setTop (mkF m 13 #[.val (.ref a0)] [])) _
    refine XS.aloadN X3.here hx rfl (hb hby d5_13) rfl rfl ?_
    show Steps p.tables e below (T3.setTop (mkF m 14 #[.val (.ref a0)] [(.ref a0)])) _
    refine XS.dup X3.here hx rfl (hb hby d5_14) rfl rfl ?_
    show Steps p.tables e below (T3.setTop (mkF m 15 #[.val (.ref a0)] [(.ref a0), (.ref a0)])) _
    refine st6 _ ?_
    show Steps p.tables e below (T6.setTop (mkF m 18 #[.val (.ref a0)] [(.long ss), (.ref a0)])) _
    refine XS.aloadN X6.here hx rfl (hb hby d5_18) rfl rfl ?_
    show Steps p.tables e below (T6.setTop (mkF m 19 #[.val (.ref a0)] [(.ref a0), (.long ss), (.ref a0)])) _
    refine st8 _ ?_
    show Steps p.tables e below (T8.setTop (mkF m 22 #[.val (.ref a0)] [(.long pe), (.long ss), (.ref a0)])) _
    refine XS.ladd X8.here hx rfl (hb hby d5_22) rfl ?_
    show Steps p.tables e below (T8.setTop (mkF m 23 #[.val (.ref a0)] [(.long (ss + pe)), (.ref a0)])) _
    refine st10 _ ?_
    show Steps p.tables e below (T10.setTop (mkF m 26 #[.val (.ref a0)] [])) _
    refine XS.aloadN X10.here hx rfl (hb hby d5_26) rfl rfl ?_
    show Steps p.tables e below (T10.setTop (mkF m 27 #[.val (.ref a0)] [(.ref a0)])) _
    refine XS.lconst X10.here hx rfl (hb hby d5_27) ?_
    show Steps p.tables e below (T10.setTop (mkF m 28 #[.val (.ref a0)] [(.long (0 : Int64)), (.ref a0)])) _
    refine st14 _ ?_
    show Steps p.tables e below (T14.setTop (mkF m 31 #[.val (.ref a0)] [])) _
    exact X14.returnOut hx Bd.returns (hb hby d5_31) hr
  · show Q5 Z a0 sc th bb ua pe es ss h0 n0 _ T14.heap _
    rw [e14]
    unfold Q5
    have f16 := (f12.wr W14)
    have f17 := (((F_a0_available.other W3 (Or.inr (slot_ne (Or.inl (hw _ (List.mem_of_getElem? (i := 15) rfl))) (Or.inl (hw _ (List.mem_of_getElem? (i := 35) rfl))) (by decide) (t := .boolean) (t' := .long) (by decide) (by decide)))).other W10 (Or.inr (slot_ne (Or.inl (hw _ (List.mem_of_getElem? (i := 15) rfl))) (Or.inl (hw _ (List.mem_of_getElem? (i := 37) rfl))) (by decide) (t := .boolean) (t' := .long) (by decide) (by decide)))).other W14 (Or.inr (slot_ne (Or.inl (hw _ (List.mem_of_getElem? (i := 15) rfl))) (Or.inl (hw _ (List.mem_of_getElem? (i := 28) rfl))) (by decide) (t := .boolean) (t' := .long) (by decide) (by decide))))
    have f18 := (((F_a0_seconds.other W3 (Or.inr (slot_ne (Or.inl (hw _ (List.mem_of_getElem? (i := 26) rfl))) (Or.inl (hw _ (List.mem_of_getElem? (i := 35) rfl))) (by decide) (t := .long) (t' := .long) (by decide) (by decide)))).other W10 (Or.inr (slot_ne (Or.inl (hw _ (List.mem_of_getElem? (i := 26) rfl))) (Or.inl (hw _ (List.mem_of_getElem? (i := 37) rfl))) (by decide) (t := .long) (t' := .long) (by decide) (by decide)))).other W14 (Or.inr (slot_ne (Or.inl (hw _ (List.mem_of_getElem? (i := 26) rfl))) (Or.inl (hw _ (List.mem_of_getElem? (i := 28) rfl))) (by decide) (t := .long) (t' := .long) (by decide) (by decide))))
    have f19 := (((F_a0_sesErroredBlocks.other W3 (Or.inr (slot_ne (Or.inr (hw _ (List.mem_of_getElem? (i := 17) rfl))) (Or.inl (hw _ (List.mem_of_getElem? (i := 35) rfl))) (by decide) (t := .long) (t' := .long) (by decide) (by decide)))).other W10 (Or.inr (slot_ne (Or.inr (hw _ (List.mem_of_getElem? (i := 17) rfl))) (Or.inl (hw _ (List.mem_of_getElem? (i := 37) rfl))) (by decide) (t := .long) (t' := .long) (by decide) (by decide)))).other W14 (Or.inr (slot_ne (Or.inr (hw _ (List.mem_of_getElem? (i := 17) rfl))) (Or.inl (hw _ (List.mem_of_getElem? (i := 28) rfl))) (by decide) (t := .long) (t' := .long) (by decide) (by decide))))
    have f20 := (((F_a0_backgroundBlockErrors.other W3 (Or.inr (slot_ne (Or.inl (hw _ (List.mem_of_getElem? (i := 82) rfl))) (Or.inl (hw _ (List.mem_of_getElem? (i := 35) rfl))) (by decide) (t := .long) (t' := .long) (by decide) (by decide)))).other W10 (Or.inr (slot_ne (Or.inl (hw _ (List.mem_of_getElem? (i := 82) rfl))) (Or.inl (hw _ (List.mem_of_getElem? (i := 37) rfl))) (by decide) (t := .long) (t' := .long) (by decide) (by decide)))).other W14 (Or.inr (slot_ne (Or.inl (hw _ (List.mem_of_getElem? (i := 82) rfl))) (Or.inl (hw _ (List.mem_of_getElem? (i := 28) rfl))) (by decide) (t := .long) (t' := .long) (by decide) (by decide))))
    have f21 := (((F_a0_unavailableSeconds.other W3 (Or.inr (slot_ne (Or.inl (hw _ (List.mem_of_getElem? (i := 65) rfl))) (Or.inl (hw _ (List.mem_of_getElem? (i := 35) rfl))) (by decide) (t := .long) (t' := .long) (by decide) (by decide)))).other W10 (Or.inr (slot_ne (Or.inl (hw _ (List.mem_of_getElem? (i := 65) rfl))) (Or.inl (hw _ (List.mem_of_getElem? (i := 37) rfl))) (by decide) (t := .long) (t' := .long) (by decide) (by decide)))).other W14 (Or.inr (slot_ne (Or.inl (hw _ (List.mem_of_getElem? (i := 65) rfl))) (Or.inl (hw _ (List.mem_of_getElem? (i := 28) rfl))) (by decide) (t := .long) (t' := .long) (by decide) (by decide))))
    have f22 := ((Fw3.other W10 (Or.inr (slot_ne (Or.inl (hw _ (List.mem_of_getElem? (i := 35) rfl))) (Or.inl (hw _ (List.mem_of_getElem? (i := 37) rfl))) (by decide) (t := .long) (t' := .long) (by decide) (by decide)))).other W14 (Or.inr (slot_ne (Or.inl (hw _ (List.mem_of_getElem? (i := 35) rfl))) (Or.inl (hw _ (List.mem_of_getElem? (i := 28) rfl))) (by decide) (t := .long) (t' := .long) (by decide) (by decide))))
    have f23 := (Fw10.other W14 (Or.inr (slot_ne (Or.inl (hw _ (List.mem_of_getElem? (i := 37) rfl))) (Or.inl (hw _ (List.mem_of_getElem? (i := 28) rfl))) (by decide) (t := .long) (t' := .long) (by decide) (by decide))))
    refine ⟨rfl, N14, kp15, f16, ?_, ?_, ?_, ?_, ?_, ?_, ?_, ?_⟩
    · exact f17
    · exact f18
    · exact f19
    · exact f20
    · exact f21
    · exact Fw14
    · exact f22
    · exact f23
theorem d4_0 : decode prog_5_method_2_code 0 = .ok (.aload_n 0, 1) := by decide +kernel
theorem d4_1 : decode prog_5_method_2_code 1 = .ok (.dup, 1) := by decide +kernel
theorem d4_2 : decode prog_5_method_2_code 2 = .ok (.getfield 20, 3) := by decide +kernel
theorem d4_5 : decode prog_5_method_2_code 5 = .ok (.lconst 1, 1) := by decide +kernel
theorem d4_6 : decode prog_5_method_2_code 6 = .ok (.ladd, 1) := by decide +kernel
theorem d4_7 : decode prog_5_method_2_code 7 = .ok (.putfield 20, 3) := by decide +kernel
theorem d4_10 : decode prog_5_method_2_code 10 = .ok (.iload_n 3, 1) := by decide +kernel
theorem d4_11 : decode prog_5_method_2_code 11 = .ok (.ifCond .ne 12, 3) := by decide +kernel
theorem d4_14 : decode prog_5_method_2_code 14 = .ok (.lload_n 1, 1) := by decide +kernel
theorem d4_15 : decode prog_5_method_2_code 15 = .ok (.aload_n 0, 1) := by decide +kernel
theorem d4_16 : decode prog_5_method_2_code 16 = .ok (.getfield 13, 3) := by decide +kernel
theorem d4_19 : decode prog_5_method_2_code 19 = .ok (.lcmp, 1) := by decide +kernel
theorem d4_20 : decode prog_5_method_2_code 20 = .ok (.ifCond .lt 7, 3) := by decide +kernel
theorem d4_23 : decode prog_5_method_2_code 23 = .ok (.iconst 1, 1) := by decide +kernel
theorem d4_24 : decode prog_5_method_2_code 24 = .ok (.goto 4, 3) := by decide +kernel
theorem d4_27 : decode prog_5_method_2_code 27 = .ok (.iconst 0, 1) := by decide +kernel
theorem d4_28 : decode prog_5_method_2_code 28 = .ok (.istore 4, 2) := by decide +kernel
theorem d4_30 : decode prog_5_method_2_code 30 = .ok (.aload_n 0, 1) := by decide +kernel
theorem d4_31 : decode prog_5_method_2_code 31 = .ok (.getfield 7, 3) := by decide +kernel
theorem d4_34 : decode prog_5_method_2_code 34 = .ok (.ifCond .eq 49, 3) := by decide +kernel
theorem d4_37 : decode prog_5_method_2_code 37 = .ok (.iload 4, 2) := by decide +kernel
theorem d4_39 : decode prog_5_method_2_code 39 = .ok (.ifCond .eq 44, 3) := by decide +kernel
theorem d4_42 : decode prog_5_method_2_code 42 = .ok (.aload_n 0, 1) := by decide +kernel
theorem d4_43 : decode prog_5_method_2_code 43 = .ok (.dup, 1) := by decide +kernel
theorem d4_44 : decode prog_5_method_2_code 44 = .ok (.getfield 23, 3) := by decide +kernel
theorem d4_47 : decode prog_5_method_2_code 47 = .ok (.lconst 1, 1) := by decide +kernel
theorem d4_48 : decode prog_5_method_2_code 48 = .ok (.ladd, 1) := by decide +kernel
theorem d4_49 : decode prog_5_method_2_code 49 = .ok (.putfield 23, 3) := by decide +kernel
theorem d4_52 : decode prog_5_method_2_code 52 = .ok (.aload_n 0, 1) := by decide +kernel
theorem d4_53 : decode prog_5_method_2_code 53 = .ok (.getfield 23, 3) := by decide +kernel
theorem d4_56 : decode prog_5_method_2_code 56 = .ok (.ldc2_w 26, 3) := by decide +kernel
theorem d4_59 : decode prog_5_method_2_code 59 = .ok (.lcmp, 1) := by decide +kernel
theorem d4_60 : decode prog_5_method_2_code 60 = .ok (.ifCond .ne 176, 3) := by decide +kernel
theorem d4_83 : decode prog_5_method_2_code 83 = .ok (.aload_n 0, 1) := by decide +kernel
theorem d4_84 : decode prog_5_method_2_code 84 = .ok (.getfield 7, 3) := by decide +kernel
theorem d4_87 : decode prog_5_method_2_code 87 = .ok (.ifCond .eq 36, 3) := by decide +kernel
theorem d4_90 : decode prog_5_method_2_code 90 = .ok (.aload_n 0, 1) := by decide +kernel
theorem d4_91 : decode prog_5_method_2_code 91 = .ok (.invokevirtual 31, 3) := by decide +kernel
theorem d4_94 : decode prog_5_method_2_code 94 = .ok (.lload_n 1, 1) := by decide +kernel
theorem d4_95 : decode prog_5_method_2_code 95 = .ok (.lconst 0, 1) := by decide +kernel
theorem d4_96 : decode prog_5_method_2_code 96 = .ok (.lcmp, 1) := by decide +kernel
theorem d4_97 : decode prog_5_method_2_code 97 = .ok (.ifCond .le 139, 3) := by decide +kernel
theorem d4_100 : decode prog_5_method_2_code 100 = .ok (.aload_n 0, 1) := by decide +kernel
theorem d4_101 : decode prog_5_method_2_code 101 = .ok (.dup, 1) := by decide +kernel
theorem d4_102 : decode prog_5_method_2_code 102 = .ok (.getfield 34, 3) := by decide +kernel
theorem d4_105 : decode prog_5_method_2_code 105 = .ok (.lconst 1, 1) := by decide +kernel
theorem d4_106 : decode prog_5_method_2_code 106 = .ok (.ladd, 1) := by decide +kernel
theorem d4_107 : decode prog_5_method_2_code 107 = .ok (.putfield 34, 3) := by decide +kernel
theorem d4_110 : decode prog_5_method_2_code 110 = .ok (.aload_n 0, 1) := by decide +kernel
theorem d4_111 : decode prog_5_method_2_code 111 = .ok (.dup, 1) := by decide +kernel
theorem d4_112 : decode prog_5_method_2_code 112 = .ok (.getfield 37, 3) := by decide +kernel
theorem d4_115 : decode prog_5_method_2_code 115 = .ok (.lload_n 1, 1) := by decide +kernel
theorem d4_116 : decode prog_5_method_2_code 116 = .ok (.ladd, 1) := by decide +kernel
theorem d4_117 : decode prog_5_method_2_code 117 = .ok (.putfield 37, 3) := by decide +kernel
theorem d4_120 : decode prog_5_method_2_code 120 = .ok (.goto 116, 3) := by decide +kernel
theorem d4_236 : decode prog_5_method_2_code 236 = .ok (.return_, 1) := by decide +kernel
theorem pd_0 : parseMethodDescriptor "()V" = some ⟨[], none⟩ := by decide +kernel
theorem ef_4 (m : MethodId) (a0 : Addr) (q1 : Int64) (p2 : Int32) : entryFrame m #[(.ref a0), (.long q1), (.int p2)] 5 = mkF m 0 #[.val (.ref a0), .val (.long q1), .second, .val (.int p2), .unset] [] := by first | (simp [entryFrame, mkF, argsToLocals, Value.category]; done) | rfl
def own_m4_28_s0 (v0 : Int32) (v1 : Int64) (v2 : Int64) : Int32 := (if v0 = (0 : Int32) then (if v1 < v2 then (0 : Int32) else (1 : Int32)) else (1 : Int32))
def own_p4_seconds (q1 : Int64) (p2 : Int32) (th : Int64) (sc : Int64) : Int64 := (if ((own_m4_28_s0 p2 q1 th)) = (0 : Int32) then ((sc + (1 : Int64))) else (sc + (1 : Int64)))
def own_p4_pending (q1 : Int64) (p2 : Int32) (th : Int64) (pe : Int64) : Int64 := (if ((own_m4_28_s0 p2 q1 th)) = (0 : Int32) then (0 : Int64) else (pe + (1 : Int64)))
def own_p4_erroredSeconds (q1 : Int64) (p2 : Int32) (th : Int64) (pe : Int64) (es : Int64) : Int64 := (if ((own_m4_28_s0 p2 q1 th)) = (0 : Int32) then (if (0 : Int64) < q1 then ((es + pe) + (1 : Int64)) else (es + pe)) else es)
def own_p4_severelyErroredSeconds (q1 : Int64) (p2 : Int32) (th : Int64) (pe : Int64) (ss : Int64) : Int64 := (if ((own_m4_28_s0 p2 q1 th)) = (0 : Int32) then (ss + pe) else ss)
def own_p4_backgroundBlockErrors (q1 : Int64) (p2 : Int32) (th : Int64) (bb : Int64) : Int64 := (if ((own_m4_28_s0 p2 q1 th)) = (0 : Int32) then (if (0 : Int64) < q1 then (bb + q1) else bb) else bb)
def Q4 (Z : State) (a0 : Addr) (q1 : Int64) (p2 : Int32) (th : Int64) (sc : Int64) (pe : Int64) (es : Int64) (ss : Int64) (bb : Int64) (ua : Int64) (h0 : Heap) (n0 : Nat) (v : Option Value) (h : Heap) (L : List Loc) : Prop := v = none ∧ Fr n0 L ∧ Keep h0 h [a0] ∧ Exa Z h a0 "com/example/hopchuan/hopchuan/ErrorCounter" ∧ Fld Z h a0 "com/example/hopchuan/hopchuan/ErrorCounter" "available" "Z" (.int (1 : Int32)) ∧ Fld Z h a0 "com/example/hopchuan/hopchuan/ErrorCounter" "sesErroredBlocks" "J" (.long th) ∧ Fld Z h a0 "com/example/hopchuan/hopchuan/ErrorCounter" "seconds" "J" (.long (own_p4_seconds q1 p2 th sc)) ∧ Fld Z h a0 "com/example/hopchuan/hopchuan/ErrorCounter" "pending" "J" (.long (own_p4_pending q1 p2 th pe)) ∧ Fld Z h a0 "com/example/hopchuan/hopchuan/ErrorCounter" "erroredSeconds" "J" (.long (own_p4_erroredSeconds q1 p2 th pe es)) ∧ Fld Z h a0 "com/example/hopchuan/hopchuan/ErrorCounter" "severelyErroredSeconds" "J" (.long (own_p4_severelyErroredSeconds q1 p2 th pe ss)) ∧ Fld Z h a0 "com/example/hopchuan/hopchuan/ErrorCounter" "backgroundBlockErrors" "J" (.long (own_p4_backgroundBlockErrors q1 p2 th bb)) ∧ Fld Z h a0 "com/example/hopchuan/hopchuan/ErrorCounter" "unavailableSeconds" "J" (.long ua)
set_option maxRecDepth 65536 in
set_option maxHeartbeats 40000000 in
theorem rm4 (l : Launch) (Z : State) (aw : Array Value) (hw : ∀ d ∈ tables_1, d.before aw Z = true) (wq : List Jvm.Cond) (a0 : Addr) (q1 : Int64) (p2 : Int32) (th : Int64) (sc : Int64) (pe : Int64) (es : Int64) (ss : Int64) (bb : Int64) (ua : Int64) (h0 : Heap) (n0 : Nat) (Z0 : n0 ≤ h0.size) (E_a0 : Exa Z h0 a0 "com/example/hopchuan/hopchuan/ErrorCounter") (F_a0_available : Fld Z h0 a0 "com/example/hopchuan/hopchuan/ErrorCounter" "available" "Z" (.int (1 : Int32))) (F_a0_sesErroredBlocks : Fld Z h0 a0 "com/example/hopchuan/hopchuan/ErrorCounter" "sesErroredBlocks" "J" (.long th)) (F_a0_seconds : Fld Z h0 a0 "com/example/hopchuan/hopchuan/ErrorCounter" "seconds" "J" (.long sc)) (F_a0_pending : Fld Z h0 a0 "com/example/hopchuan/hopchuan/ErrorCounter" "pending" "J" (.long pe)) (F_a0_erroredSeconds : Fld Z h0 a0 "com/example/hopchuan/hopchuan/ErrorCounter" "erroredSeconds" "J" (.long es)) (F_a0_severelyErroredSeconds : Fld Z h0 a0 "com/example/hopchuan/hopchuan/ErrorCounter" "severelyErroredSeconds" "J" (.long ss)) (F_a0_backgroundBlockErrors : Fld Z h0 a0 "com/example/hopchuan/hopchuan/ErrorCounter" "backgroundBlockErrors" "J" (.long bb)) (F_a0_unavailableSeconds : Fld Z h0 a0 "com/example/hopchuan/hopchuan/ErrorCounter" "unavailableSeconds" "J" (.long ua)) (g_a0 : n0 ≤ a0) (hpe : ¬ (pe + (1 : Int64)) = (10 : Int64)) :
    MetFree l (⟨"com/example/hopchuan/hopchuan/ErrorCounter", "second", "(JZ)V"⟩ : MethodName) (head1 (Jvm.Cond.code (⟨"com/example/hopchuan/hopchuan/ErrorCounter", "second", "(JZ)V"⟩ : MethodName) prog_5_method_2_code 5 none :: wq) ({ frames := 1, cells := 0, slots := 0, locals := 12 } : Room)) (fun a U => a = #[(.ref a0), (.long q1), (.int p2)] ∧ Z.Warmed39 U.vm ∧ U.heap = h0) (fun _ _ _ _ _ => True) (fun _ U o U' => ∃ v L, o = .returned v ∧ Q4 Z a0 q1 p2 th sc pe es ss bb ua h0 n0 v U'.heap L ∧ FrameEnd U o U' L ({ frames := 1, cells := 0, slots := 0, locals := 12 } : Room).cells ({ frames := 1, cells := 0, slots := 0, locals := 12 } : Room).slots) := by
  refine MetFree.of_bodySF (plainFor_of_name pn_0) hisR ?_
  intro p e s m args below meth c s₁ Bd hml0 hP hK
  obtain ⟨rfl, hZ, hh⟩ := hP
  have hx := Bd.exec
  have hby := Bd.bytes
  have hml : c.maxLocals = 5 := hml0
  have hown : s.vm.findClass "com/example/hopchuan/hopchuan/ErrorCounter" = some m.cls := findClass_of_methodNamed Bd.named
  have hnm := (name_of_methodNamed Bd.named Bd.method).1
  have X0 : Stand p l e ({ frames := 1, cells := 0, slots := 0, locals := 12 } : Room) s m #[(.ref a0), (.long q1), (.int p2)] below meth c s₁ [] 0 0 := Stand.of_body Bd
  have e0 : s₁.heap = h0 := by rw [← hh, Bd.state]; rfl
  have N0 := Fr.nil n0
  have pre0 : own_Pre p e below (s₁.setTop (entryFrame m #[(.ref a0), (.long q1), (.int p2)] 5)) (s₁.setTop (mkF m 0 #[.val (.ref a0), .val (.long q1), .second, .val (.int p2), .unset] [])) := fun t k => castTop (ef_4 m a0 q1 p2) k
  obtain ⟨T1, X1, e1, st1⟩ := getF X0 hx hZ hown (host := "") (Or.inl (hw _ (List.mem_of_getElem? (i := 25) rfl))) Via.refl e0 F_a0_seconds (g := (mkF m 2 #[.val (.ref a0), .val (.long q1), .second, .val (.int p2), .unset] [(.ref a0), (.ref a0)])) rfl rfl (hb hby d4_2)
  obtain ⟨T2, h2, X2, e2, W2, st2⟩ := putF X1 hx hZ hown (host := "") (Or.inl (hw _ (List.mem_of_getElem? (i := 25) rfl))) Via.refl e1 F_a0_seconds E_a0 (Or.inl (hw _ (List.mem_of_getElem? (i := 26) rfl))) (hw _ (List.mem_of_getElem? (i := 6) rfl)) (ty := .long) (by decide) rfl rfl (g := (mkF m 7 #[.val (.ref a0), .val (.long q1), .second, .val (.int p2), .unset] [(.long (sc + (1 : Int64))), (.ref a0)])) rfl rfl (hb hby d4_7)
  have Fw2 := F_a0_seconds.same W2
  have N2 := Fr.snoc X2 N0 g_a0
  have kp3 : Keep h0 h2 [a0] := (Keep.refl h0 [a0]).wr W2 (Or.inl (List.mem_of_getElem? (i := 0) rfl))
  have pre6 : own_Pre p e below (s₁.setTop (entryFrame m #[(.ref a0), (.long q1), (.int p2)] 5)) (T2.setTop (mkF m 11 #[.val (.ref a0), .val (.long q1), .second, .val (.int p2), .unset] [(.int p2)])) := fun t k => pre0 t (by
      show Steps p.tables e below (s₁.setTop (mkF m 0 #[.val (.ref a0), .val (.long q1), .second, .val (.int p2), .unset] [])) _
      refine XS.aloadN X0.here hx rfl (hb hby d4_0) rfl rfl ?_
      show Steps p.tables e below (s₁.setTop (mkF m 1 #[.val (.ref a0), .val (.long q1), .second, .val (.int p2), .unset] [(.ref a0)])) _
      refine XS.dup X0.here hx rfl (hb hby d4_1) rfl rfl ?_
      show Steps p.tables e below (s₁.setTop (mkF m 2 #[.val (.ref a0), .val (.long q1), .second, .val (.int p2), .unset] [(.ref a0), (.ref a0)])) _
      refine st1 _ ?_
      show Steps p.tables e below (T1.setTop (mkF m 5 #[.val (.ref a0), .val (.long q1), .second, .val (.int p2), .unset] [(.long sc), (.ref a0)])) _
      refine XS.lconst X1.here hx rfl (hb hby d4_5) ?_
      show Steps p.tables e below (T1.setTop (mkF m 6 #[.val (.ref a0), .val (.long q1), .second, .val (.int p2), .unset] [(.long (1 : Int64)), (.long sc), (.ref a0)])) _
      refine XS.ladd X1.here hx rfl (hb hby d4_6) rfl ?_
      show Steps p.tables e below (T1.setTop (mkF m 7 #[.val (.ref a0), .val (.long q1), .second, .val (.int p2), .unset] [(.long (sc + (1 : Int64))), (.ref a0)])) _
      refine st2 _ ?_
      show Steps p.tables e below (T2.setTop (mkF m 10 #[.val (.ref a0), .val (.long q1), .second, .val (.int p2), .unset] [])) _
      refine XS.iloadN X2.here hx rfl (hb hby d4_10) rfl ?_
      exact k)
  obtain ⟨m28_s0, T4, L4, X4, N4, e4, hm28_s0, pre5⟩ : ∃ (m28_s0 : Int32) (T4 : State) (L4 : List Loc), Stand p l e ({ frames := 1, cells := 0, slots := 0, locals := 12 } : Room) s m #[(.ref a0), (.long q1), (.int p2)] below meth c T4 L4 0 0 ∧ Fr n0 L4 ∧ T4.heap = h2 ∧ m28_s0 = (own_m4_28_s0 p2 q1 th) ∧ own_Pre p e below (s₁.setTop (entryFrame m #[(.ref a0), (.long q1), (.int p2)] 5)) (T4.setTop (mkF m 28 #[.val (.ref a0), .val (.long q1), .second, .val (.int p2), .unset] [(.int m28_s0)])) := by
    by_cases hc11 : p2 = (0 : Int32)
    · have f7 := (F_a0_sesErroredBlocks.other W2 (Or.inr (slot_ne (Or.inr (hw _ (List.mem_of_getElem? (i := 17) rfl))) (Or.inl (hw _ (List.mem_of_getElem? (i := 26) rfl))) (by decide) (t := .long) (t' := .long) (by decide) (by decide))))
      obtain ⟨T8, X8, e8, st8⟩ := getF X2 hx hZ hown (host := "") (Or.inl (hw _ (List.mem_of_getElem? (i := 16) rfl))) Via.refl e2 f7 (g := (mkF m 16 #[.val (.ref a0), .val (.long q1), .second, .val (.int p2), .unset] [(.ref a0), (.long q1)])) rfl rfl (hb hby d4_16)
      have pre9 : own_Pre p e below (s₁.setTop (entryFrame m #[(.ref a0), (.long q1), (.int p2)] 5)) (T8.setTop (mkF m 20 #[.val (.ref a0), .val (.long q1), .second, .val (.int p2), .unset] [(.int (lcmpW q1 th))])) := fun t k => pre6 t (by
          show Steps p.tables e below (T2.setTop (mkF m 11 #[.val (.ref a0), .val (.long q1), .second, .val (.int p2), .unset] [(.int p2)])) _
          refine XS.ifNo X2.here hx rfl (hb hby d4_11) rfl ((if0 _ _).trans (teq hc11).2) ?_
          show Steps p.tables e below (T2.setTop (mkF m 14 #[.val (.ref a0), .val (.long q1), .second, .val (.int p2), .unset] [])) _
          refine XS.lloadN X2.here hx rfl (hb hby d4_14) rfl ?_
          show Steps p.tables e below (T2.setTop (mkF m 15 #[.val (.ref a0), .val (.long q1), .second, .val (.int p2), .unset] [(.long q1)])) _
          refine XS.aloadN X2.here hx rfl (hb hby d4_15) rfl rfl ?_
          show Steps p.tables e below (T2.setTop (mkF m 16 #[.val (.ref a0), .val (.long q1), .second, .val (.int p2), .unset] [(.ref a0), (.long q1)])) _
          refine st8 _ ?_
          show Steps p.tables e below (T8.setTop (mkF m 19 #[.val (.ref a0), .val (.long q1), .second, .val (.int p2), .unset] [(.long th), (.long q1)])) _
          refine XS.lcmp X8.here hx rfl (hb hby d4_19) rfl ?_
          exact k)
      by_cases hc20 : q1 < th
      · have pre10 : own_Pre p e below (s₁.setTop (entryFrame m #[(.ref a0), (.long q1), (.int p2)] 5)) (T8.setTop (mkF m 28 #[.val (.ref a0), .val (.long q1), .second, .val (.int p2), .unset] [(.int (0 : Int32))])) := fun t k => pre9 t (by
            show Steps p.tables e below (T8.setTop (mkF m 20 #[.val (.ref a0), .val (.long q1), .second, .val (.int p2), .unset] [(.int (lcmpW q1 th))])) _
            refine XS.ifYes X8.here hx rfl (pc0 := 20) (pc' := 27) rfl (hb hby d4_20) rfl ((if0 _ _).trans (tlt ((lw_lt _ _).mpr hc20)).1) (by decide) (by decide) ?_
            show Steps p.tables e below (T8.setTop (mkF m 27 #[.val (.ref a0), .val (.long q1), .second, .val (.int p2), .unset] [])) _
            refine XS.iconst X8.here hx rfl (hb hby d4_27) ?_
            exact k)
        refine ⟨_, _, _, X8, N2, e8, ?_, pre10⟩
        all_goals (first | (simp only [own_m4_28_s0, if_pos hc11, if_pos hc20]; done) | (simp [own_m4_28_s0, if_pos hc11, if_pos hc20]; done))
      · have pre11 : own_Pre p e below (s₁.setTop (entryFrame m #[(.ref a0), (.long q1), (.int p2)] 5)) (T8.setTop (mkF m 28 #[.val (.ref a0), .val (.long q1), .second, .val (.int p2), .unset] [(.int (1 : Int32))])) := fun t k => pre9 t (by
            show Steps p.tables e below (T8.setTop (mkF m 20 #[.val (.ref a0), .val (.long q1), .second, .val (.int p2), .unset] [(.int (lcmpW q1 th))])) _
            refine XS.ifNo X8.here hx rfl (hb hby d4_20) rfl ((if0 _ _).trans (flt (mt (lw_lt _ _).mp hc20)).1) ?_
            show Steps p.tables e below (T8.setTop (mkF m 23 #[.val (.ref a0), .val (.long q1), .second, .val (.int p2), .unset] [])) _
            refine XS.iconst X8.here hx rfl (hb hby d4_23) ?_
            show Steps p.tables e below (T8.setTop (mkF m 24 #[.val (.ref a0), .val (.long q1), .second, .val (.int p2), .unset] [(.int (1 : Int32))])) _
            refine XS.goto X8.here hx rfl (pc0 := 24) (pc' := 28) rfl (hb hby d4_24) (by decide) (by decide) ?_
            exact k)
        refine ⟨_, _, _, X8, N2, e8, ?_, pre11⟩
        all_goals (first | (simp only [own_m4_28_s0, if_pos hc11, if_neg hc20]; done) | (simp [own_m4_28_s0, if_pos hc11, if_neg hc20]; done))
    · have pre12 : own_Pre p e below (s₁.setTop (entryFrame m #[(.ref a0), (.long q1), (.int p2)] 5)) (T2.setTop (mkF m 28 #[.val (.ref a0), .val (.long q1), .second, .val (.int p2), .unset] [(.int (1 : Int32))])) := fun t k => pre6 t (by
          show Steps p.tables e below (T2.setTop (mkF m 11 #[.val (.ref a0), .val (.long q1), .second, .val (.int p2), .unset] [(.int p2)])) _
          refine XS.ifYes X2.here hx rfl (pc0 := 11) (pc' := 23) rfl (hb hby d4_11) rfl ((if0 _ _).trans (feq hc11).2) (by decide) (by decide) ?_
          show Steps p.tables e below (T2.setTop (mkF m 23 #[.val (.ref a0), .val (.long q1), .second, .val (.int p2), .unset] [])) _
          refine XS.iconst X2.here hx rfl (hb hby d4_23) ?_
          show Steps p.tables e below (T2.setTop (mkF m 24 #[.val (.ref a0), .val (.long q1), .second, .val (.int p2), .unset] [(.int (1 : Int32))])) _
          refine XS.goto X2.here hx rfl (pc0 := 24) (pc' := 28) rfl (hb hby d4_24) (by decide) (by decide) ?_
          exact k)
      refine ⟨_, _, _, X2, N2, e2, ?_, pre12⟩
      all_goals (first | (simp only [own_m4_28_s0, if_neg hc11]; done) | (simp [own_m4_28_s0, if_neg hc11]; done))
  have f13 := (F_a0_available.other W2 (Or.inr (slot_ne (Or.inl (hw _ (List.mem_of_getElem? (i := 15) rfl))) (Or.inl (hw _ (List.mem_of_getElem? (i := 26) rfl))) (by decide) (t := .boolean) (t' := .long) (by decide) (by decide))))
  obtain ⟨T14, X14, e14, st14⟩ := getF X4 hx hZ hown (host := "") (Or.inl (hw _ (List.mem_of_getElem? (i := 14) rfl))) Via.refl e4 f13 (g := (mkF m 31 #[.val (.ref a0), .val (.long q1), .second, .val (.int p2), .val (.int m28_s0)] [(.ref a0)])) rfl rfl (hb hby d4_31)
  have pre15 : own_Pre p e below (s₁.setTop (entryFrame m #[(.ref a0), (.long q1), (.int p2)] 5)) (T14.setTop (mkF m 39 #[.val (.ref a0), .val (.long q1), .second, .val (.int p2), .val (.int m28_s0)] [(.int m28_s0)])) := fun t k => pre5 t (by
      show Steps p.tables e below (T4.setTop (mkF m 28 #[.val (.ref a0), .val (.long q1), .second, .val (.int p2), .unset] [(.int m28_s0)])) _
      refine XS.istore X4.here hx rfl (hb hby d4_28) rfl (l' := #[.val (.ref a0), .val (.long q1), .second, .val (.int p2), .val (.int m28_s0)]) rfl ?_
      show Steps p.tables e below (T4.setTop (mkF m 30 #[.val (.ref a0), .val (.long q1), .second, .val (.int p2), .val (.int m28_s0)] [])) _
      refine XS.aloadN X4.here hx rfl (hb hby d4_30) rfl rfl ?_
      show Steps p.tables e below (T4.setTop (mkF m 31 #[.val (.ref a0), .val (.long q1), .second, .val (.int p2), .val (.int m28_s0)] [(.ref a0)])) _
      refine st14 _ ?_
      show Steps p.tables e below (T14.setTop (mkF m 34 #[.val (.ref a0), .val (.long q1), .second, .val (.int p2), .val (.int m28_s0)] [(.int (1 : Int32))])) _
      refine XS.ifNo X14.here hx rfl (hb hby d4_34) rfl ((if0 _ _).trans (feq (by decide : ¬ ((1 : Int32) = (0 : Int32)))).1) ?_
      show Steps p.tables e below (T14.setTop (mkF m 37 #[.val (.ref a0), .val (.long q1), .second, .val (.int p2), .val (.int m28_s0)] [])) _
      refine XS.iload X14.here hx rfl (hb hby d4_37) rfl ?_
      exact k)
  by_cases hc39 : m28_s0 = (0 : Int32)
  · obtain ⟨T16, X16, e16, st16⟩ := getF X14 hx hZ hown (host := "") (Or.inl (hw _ (List.mem_of_getElem? (i := 14) rfl))) Via.refl e14 f13 (g := (mkF m 84 #[.val (.ref a0), .val (.long q1), .second, .val (.int p2), .val (.int m28_s0)] [(.ref a0)])) rfl rfl (hb hby d4_84)
    have f18 := (E_a0.wr W2)
    have f19 := (F_a0_sesErroredBlocks.other W2 (Or.inr (slot_ne (Or.inr (hw _ (List.mem_of_getElem? (i := 17) rfl))) (Or.inl (hw _ (List.mem_of_getElem? (i := 26) rfl))) (by decide) (t := .long) (t' := .long) (by decide) (by decide))))
    have f20 := (F_a0_backgroundBlockErrors.other W2 (Or.inr (slot_ne (Or.inl (hw _ (List.mem_of_getElem? (i := 82) rfl))) (Or.inl (hw _ (List.mem_of_getElem? (i := 26) rfl))) (by decide) (t := .long) (t' := .long) (by decide) (by decide))))
    have f21 := (F_a0_unavailableSeconds.other W2 (Or.inr (slot_ne (Or.inl (hw _ (List.mem_of_getElem? (i := 65) rfl))) (Or.inl (hw _ (List.mem_of_getElem? (i := 26) rfl))) (by decide) (t := .long) (t' := .long) (by decide) (by decide))))
    have f22 := (F_a0_pending.other W2 (Or.inr (slot_ne (Or.inl (hw _ (List.mem_of_getElem? (i := 28) rfl))) (Or.inl (hw _ (List.mem_of_getElem? (i := 26) rfl))) (by decide) (t := .long) (t' := .long) (by decide) (by decide))))
    have f23 := (F_a0_erroredSeconds.other W2 (Or.inr (slot_ne (Or.inl (hw _ (List.mem_of_getElem? (i := 35) rfl))) (Or.inl (hw _ (List.mem_of_getElem? (i := 26) rfl))) (by decide) (t := .long) (t' := .long) (by decide) (by decide))))
    have f24 := (F_a0_severelyErroredSeconds.other W2 (Or.inr (slot_ne (Or.inl (hw _ (List.mem_of_getElem? (i := 37) rfl))) (Or.inl (hw _ (List.mem_of_getElem? (i := 26) rfl))) (by decide) (t := .long) (t' := .long) (by decide) (by decide))))
    have z25 : n0 ≤ (h2).size := (Nat.le_trans Z0 (Keep.of_wr W2).1)
    obtain ⟨cq17, qa17, qb17⟩ := f18.cell
    obtain ⟨_, _, ⟨T17, L17, k17, n17⟩, -, X17, ⟨Lc17, hQ17, l17, y17, z17⟩, st17⟩ := X16.privateBack hx (y := (⟨"com/example/hopchuan/hopchuan/ErrorCounter", "settleAvailableRun", "()V"⟩ : MethodName)) hown (mvT hZ (hw _ (List.mem_of_getElem? (i := 30) rfl))) (mvT hZ (hw _ (List.mem_of_getElem? (i := 31) rfl))) (own_selp (y := (⟨"com/example/hopchuan/hopchuan/ErrorCounter", "settleAvailableRun", "()V"⟩ : MethodName)) (z := (⟨"com/example/hopchuan/hopchuan/ErrorCounter", "second", "(JZ)V"⟩ : MethodName)) (mvT hZ (hw _ (List.mem_of_getElem? (i := 23) rfl))) rfl (Cond.privateMethod_at (mvP hZ (hw _ (List.mem_of_getElem? (i := 32) rfl)) (args := #[]))) (mvT hZ (hw _ (List.mem_of_getElem? (i := 31) rfl))) (by decide)) (Cond.privateMethod_at (mvP hZ (hw _ (List.mem_of_getElem? (i := 32) rfl)) (args := #[]))) (mvT hZ (hw _ (List.mem_of_getElem? (i := 33) rfl))) (by decide) (backOf (W := 0) (rm5 l Z aw hw [] (a0) ((sc + (1 : Int64))) (th) (bb) (ua) (pe) (es) (ss) (h2) n0 z25 f18 f13 Fw2 f19 f20 f21 f22 f23 f24 g_a0) hZ (hw _ (List.mem_of_getElem? (i := 33) rfl)) (hw _ (List.mem_of_getElem? (i := 7) rfl)) (by decide) (by decide)) (g := (mkF m 91 #[.val (.ref a0), .val (.long q1), .second, .val (.int p2), .val (.int m28_s0)] [(.ref a0)])) rfl (by rw [hml]; rfl) (Steps.refl _) (a := a0) (by rw [e16]; exact qa17) qb17 (argsL := []) (rest := []) (lenOf pd_0 rfl) rfl (by show 2 * 0 + _ ≤ _; exact Nat.le_of_eq rfl) (hb hby d4_91) (fun _ _ => ⟨rfl, e16, (by decide : 0 + 0 ≤ _), (by decide : 0 + 0 ≤ _)⟩)
    dsimp only [Pt.U, Pt.locs, Pt.cells, Pt.slots] at X17 l17 y17 z17 st17 hQ17
    subst l17 y17 z17
    obtain ⟨rfl, Nq17, K17, po17_0, po17_1, po17_2, po17_3, po17_4, po17_5, po17_6, po17_7, po17_8⟩ := hQ17
    have N17 := Fr.app N4 Nq17
    have kp26 : Keep h0 T17.heap [a0] := kp3.trans K17 (allS (Or.inl (List.mem_of_getElem? (i := 0) rfl)) all0)
    have pre27 : own_Pre p e below (s₁.setTop (entryFrame m #[(.ref a0), (.long q1), (.int p2)] 5)) (T17.setTop (mkF m 97 #[.val (.ref a0), .val (.long q1), .second, .val (.int p2), .val (.int m28_s0)] [(.int (lcmpW q1 (0 : Int64)))])) := fun t k => pre15 t (by
        show Steps p.tables e below (T14.setTop (mkF m 39 #[.val (.ref a0), .val (.long q1), .second, .val (.int p2), .val (.int m28_s0)] [(.int m28_s0)])) _
        refine XS.ifYes X14.here hx rfl (pc0 := 39) (pc' := 83) rfl (hb hby d4_39) rfl ((if0 _ _).trans (teq hc39).1) (by decide) (by decide) ?_
        show Steps p.tables e below (T14.setTop (mkF m 83 #[.val (.ref a0), .val (.long q1), .second, .val (.int p2), .val (.int m28_s0)] [])) _
        refine XS.aloadN X14.here hx rfl (hb hby d4_83) rfl rfl ?_
        show Steps p.tables e below (T14.setTop (mkF m 84 #[.val (.ref a0), .val (.long q1), .second, .val (.int p2), .val (.int m28_s0)] [(.ref a0)])) _
        refine st16 _ ?_
        show Steps p.tables e below (T16.setTop (mkF m 87 #[.val (.ref a0), .val (.long q1), .second, .val (.int p2), .val (.int m28_s0)] [(.int (1 : Int32))])) _
        refine XS.ifNo X16.here hx rfl (hb hby d4_87) rfl ((if0 _ _).trans (feq (by decide : ¬ ((1 : Int32) = (0 : Int32)))).1) ?_
        show Steps p.tables e below (T16.setTop (mkF m 90 #[.val (.ref a0), .val (.long q1), .second, .val (.int p2), .val (.int m28_s0)] [])) _
        refine XS.aloadN X16.here hx rfl (hb hby d4_90) rfl rfl ?_
        show Steps p.tables e below (T16.setTop (mkF m 91 #[.val (.ref a0), .val (.long q1), .second, .val (.int p2), .val (.int m28_s0)] [(.ref a0)])) _
        refine st17.trans ?_
        show Steps p.tables e below (T17.setTop (mkF m 94 #[.val (.ref a0), .val (.long q1), .second, .val (.int p2), .val (.int m28_s0)] [])) _
        refine XS.lloadN X17.here hx rfl (hb hby d4_94) rfl ?_
        show Steps p.tables e below (T17.setTop (mkF m 95 #[.val (.ref a0), .val (.long q1), .second, .val (.int p2), .val (.int m28_s0)] [(.long q1)])) _
        refine XS.lconst X17.here hx rfl (hb hby d4_95) ?_
        show Steps p.tables e below (T17.setTop (mkF m 96 #[.val (.ref a0), .val (.long q1), .second, .val (.int p2), .val (.int m28_s0)] [(.long (0 : Int64)), (.long q1)])) _
        refine XS.lcmp X17.here hx rfl (hb hby d4_96) rfl ?_
        exact k)
    by_cases hc97 : (0 : Int64) < q1
    · obtain ⟨T28, X28, e28, st28⟩ := getF X17 hx hZ hown (host := "") (Or.inl (hw _ (List.mem_of_getElem? (i := 34) rfl))) Via.refl rfl po17_7 (g := (mkF m 102 #[.val (.ref a0), .val (.long q1), .second, .val (.int p2), .val (.int m28_s0)] [(.ref a0), (.ref a0)])) rfl rfl (hb hby d4_102)
      obtain ⟨T29, h29, X29, e29, W29, st29⟩ := putF X28 hx hZ hown (host := "") (Or.inl (hw _ (List.mem_of_getElem? (i := 34) rfl))) Via.refl e28 po17_7 po17_0 (Or.inl (hw _ (List.mem_of_getElem? (i := 35) rfl))) (hw _ (List.mem_of_getElem? (i := 6) rfl)) (ty := .long) (by decide) rfl rfl (g := (mkF m 107 #[.val (.ref a0), .val (.long q1), .second, .val (.int p2), .val (.int m28_s0)] [(.long ((es + pe) + (1 : Int64))), (.ref a0)])) rfl rfl (hb hby d4_107)
      have Fw29 := po17_7.same W29
      have N29 := Fr.snoc X29 N17 g_a0
      have kp30 : Keep h0 h29 [a0] := kp26.wr W29 (Or.inl (List.mem_of_getElem? (i := 0) rfl))
      have f31 := (po17_4.other W29 (Or.inr (slot_ne (Or.inl (hw _ (List.mem_of_getElem? (i := 82) rfl))) (Or.inl (hw _ (List.mem_of_getElem? (i := 35) rfl))) (by decide) (t := .long) (t' := .long) (by decide) (by decide))))
      obtain ⟨T32, X32, e32, st32⟩ := getF X29 hx hZ hown (host := "") (Or.inl (hw _ (List.mem_of_getElem? (i := 81) rfl))) Via.refl e29 f31 (g := (mkF m 112 #[.val (.ref a0), .val (.long q1), .second, .val (.int p2), .val (.int m28_s0)] [(.ref a0), (.ref a0)])) rfl rfl (hb hby d4_112)
      have f33 := (po17_0.wr W29)
      obtain ⟨T34, h34, X34, e34, W34, st34⟩ := putF X32 hx hZ hown (host := "") (Or.inl (hw _ (List.mem_of_getElem? (i := 81) rfl))) Via.refl e32 f31 f33 (Or.inl (hw _ (List.mem_of_getElem? (i := 82) rfl))) (hw _ (List.mem_of_getElem? (i := 6) rfl)) (ty := .long) (by decide) rfl rfl (g := (mkF m 117 #[.val (.ref a0), .val (.long q1), .second, .val (.int p2), .val (.int m28_s0)] [(.long (bb + q1)), (.ref a0)])) rfl rfl (hb hby d4_117)
      have Fw34 := f31.same W34
      have N34 := Fr.snoc X34 N29 g_a0
      have kp35 : Keep h0 h34 [a0] := kp30.wr W34 (Or.inl (List.mem_of_getElem? (i := 0) rfl))
      obtain ⟨fs, hr, hrun, hended, hW, hsame⟩ := X34.leave (v := none) (fun _ => rfl)
      refine ⟨_, _, pre27 _ ?_, hrun, hended, _, _, rfl, ?_, ⟨_, rfl⟩, hW, hsame.mono (by decide) (by decide)⟩
      · show Steps p.tables e below (T17.setTop (mkF m 97 #[.val (.ref a0), .val (.long q1), .second, .val (.int p2), .val (.int m28_s0)] [(.int (lcmpW q1 (0 : Int64)))])) _
        refine XS.ifNo X17.here hx rfl (hb hby d4_97) rfl ((if0 _ _).trans (tlt ((lw_gt _ _).mpr hc97)).2.2.2) ?_
        show Steps p.tables e below (T17.setTop (mkF m 100 #[.val (.ref a0), .val (.long q1), .second, .val (.int p2), .val (.int m28_s0)] [])) _
        refine XS.aloadN X17.here hx rfl (hb hby d4_100) rfl rfl ?_
        show Steps p.tables e below (T17.setTop (mkF m 101 #[.val (.ref a0), .val (.long q1), .second, .val (.int p2), .val (.int m28_s0)] [(.ref a0)])) _
        refine XS.dup X17.here hx rfl (hb hby d4_101) rfl rfl ?_
        show Steps p.tables e below (T17.setTop (mkF m 102 #[.val (.ref a0), .val (.long q1), .second, .val (.int p2), .val (.int m28_s0)] [(.ref a0), (.ref a0)])) _
        refine st28 _ ?_
        show Steps p.tables e below (T28.setTop (mkF m 105 #[.val (.ref a0), .val (.long q1), .second, .val (.int p2), .val (.int m28_s0)] [(.long (es + pe)), (.ref a0)])) _
        refine XS.lconst X28.here hx rfl (hb hby d4_105) ?_
        show Steps p.tables e below (T28.setTop (mkF m 106 #[.val (.ref a0), .val (.long q1), .second, .val (.int p2), .val (.int m28_s0)] [(.long (1 : Int64)), (.long (es + pe)), (.ref a0)])) _
        refine XS.ladd X28.here hx rfl (hb hby d4_106) rfl ?_
        show Steps p.tables e below (T28.setTop (mkF m 107 #[.val (.ref a0), .val (.long q1), .second, .val (.int p2), .val (.int m28_s0)] [(.long ((es + pe) + (1 : Int64))), (.ref a0)])) _
        refine st29 _ ?_
        show Steps p.tables e below (T29.setTop (mkF m 110 #[.val (.ref a0), .val (.long q1), .second, .val (.int p2), .val (.int m28_s0)] [])) _
        refine XS.aloadN X29.here hx rfl (hb hby d4_110) rfl rfl ?_
        show Steps p.tables e below (T29.setTop (mkF m 111 #[.val (.ref a0), .val (.long q1), .second, .val (.int p2), .val (.int m28_s0)] [(.ref a0)])) _
        refine XS.dup X29.here hx rfl (hb hby d4_111) rfl rfl ?_
        show Steps p.tables e below (T29.setTop (mkF m 112 #[.val (.ref a0), .val (.long q1), .second, .val (.int p2), .val (.int m28_s0)] [(.ref a0), (.ref a0)])) _
        refine st32 _ ?_
        show Steps p.tables e below (T32.setTop (mkF m 115 #[.val (.ref a0), .val (.long q1), .second, .val (.int p2), .val (.int m28_s0)] [(.long bb), (.ref a0)])) _
        refine XS.lloadN X32.here hx rfl (hb hby d4_115) rfl ?_
        show Steps p.tables e below (T32.setTop (mkF m 116 #[.val (.ref a0), .val (.long q1), .second, .val (.int p2), .val (.int m28_s0)] [(.long q1), (.long bb), (.ref a0)])) _
        refine XS.ladd X32.here hx rfl (hb hby d4_116) rfl ?_
        show Steps p.tables e below (T32.setTop (mkF m 117 #[.val (.ref a0), .val (.long q1), .second, .val (.int p2), .val (.int m28_s0)] [(.long (bb + q1)), (.ref a0)])) _
        refine st34 _ ?_
        show Steps p.tables e below (T34.setTop (mkF m 120 #[.val (.ref a0), .val (.long q1), .second, .val (.int p2), .val (.int m28_s0)] [])) _
        refine XS.goto X34.here hx rfl (pc0 := 120) (pc' := 236) rfl (hb hby d4_120) (by decide) (by decide) ?_
        show Steps p.tables e below (T34.setTop (mkF m 236 #[.val (.ref a0), .val (.long q1), .second, .val (.int p2), .val (.int m28_s0)] [])) _
        exact X34.returnOut hx Bd.returns (hb hby d4_236) hr
      · show Q4 Z a0 q1 p2 th sc pe es ss bb ua h0 n0 _ T34.heap _
        rw [e34]
        unfold Q4
        have f36 := (f33.wr W34)
        have f37 := ((po17_1.other W29 (Or.inr (slot_ne (Or.inl (hw _ (List.mem_of_getElem? (i := 15) rfl))) (Or.inl (hw _ (List.mem_of_getElem? (i := 35) rfl))) (by decide) (t := .boolean) (t' := .long) (by decide) (by decide)))).other W34 (Or.inr (slot_ne (Or.inl (hw _ (List.mem_of_getElem? (i := 15) rfl))) (Or.inl (hw _ (List.mem_of_getElem? (i := 82) rfl))) (by decide) (t := .boolean) (t' := .long) (by decide) (by decide))))
        have f38 := ((po17_3.other W29 (Or.inr (slot_ne (Or.inr (hw _ (List.mem_of_getElem? (i := 17) rfl))) (Or.inl (hw _ (List.mem_of_getElem? (i := 35) rfl))) (by decide) (t := .long) (t' := .long) (by decide) (by decide)))).other W34 (Or.inr (slot_ne (Or.inr (hw _ (List.mem_of_getElem? (i := 17) rfl))) (Or.inl (hw _ (List.mem_of_getElem? (i := 82) rfl))) (by decide) (t := .long) (t' := .long) (by decide) (by decide))))
        have f39 := ((po17_2.other W29 (Or.inr (slot_ne (Or.inl (hw _ (List.mem_of_getElem? (i := 26) rfl))) (Or.inl (hw _ (List.mem_of_getElem? (i := 35) rfl))) (by decide) (t := .long) (t' := .long) (by decide) (by decide)))).other W34 (Or.inr (slot_ne (Or.inl (hw _ (List.mem_of_getElem? (i := 26) rfl))) (Or.inl (hw _ (List.mem_of_getElem? (i := 82) rfl))) (by decide) (t := .long) (t' := .long) (by decide) (by decide))))
        have f40 := ((po17_6.other W29 (Or.inr (slot_ne (Or.inl (hw _ (List.mem_of_getElem? (i := 28) rfl))) (Or.inl (hw _ (List.mem_of_getElem? (i := 35) rfl))) (by decide) (t := .long) (t' := .long) (by decide) (by decide)))).other W34 (Or.inr (slot_ne (Or.inl (hw _ (List.mem_of_getElem? (i := 28) rfl))) (Or.inl (hw _ (List.mem_of_getElem? (i := 82) rfl))) (by decide) (t := .long) (t' := .long) (by decide) (by decide))))
        have f41 := (Fw29.other W34 (Or.inr (slot_ne (Or.inl (hw _ (List.mem_of_getElem? (i := 35) rfl))) (Or.inl (hw _ (List.mem_of_getElem? (i := 82) rfl))) (by decide) (t := .long) (t' := .long) (by decide) (by decide))))
        have f42 := ((po17_8.other W29 (Or.inr (slot_ne (Or.inl (hw _ (List.mem_of_getElem? (i := 37) rfl))) (Or.inl (hw _ (List.mem_of_getElem? (i := 35) rfl))) (by decide) (t := .long) (t' := .long) (by decide) (by decide)))).other W34 (Or.inr (slot_ne (Or.inl (hw _ (List.mem_of_getElem? (i := 37) rfl))) (Or.inl (hw _ (List.mem_of_getElem? (i := 82) rfl))) (by decide) (t := .long) (t' := .long) (by decide) (by decide))))
        have f43 := ((po17_5.other W29 (Or.inr (slot_ne (Or.inl (hw _ (List.mem_of_getElem? (i := 65) rfl))) (Or.inl (hw _ (List.mem_of_getElem? (i := 35) rfl))) (by decide) (t := .long) (t' := .long) (by decide) (by decide)))).other W34 (Or.inr (slot_ne (Or.inl (hw _ (List.mem_of_getElem? (i := 65) rfl))) (Or.inl (hw _ (List.mem_of_getElem? (i := 82) rfl))) (by decide) (t := .long) (t' := .long) (by decide) (by decide))))
        refine ⟨rfl, N34, kp35, f36, ?_, ?_, ?_, ?_, ?_, ?_, ?_, ?_⟩
        · exact f37
        · exact f38
        · rw [show (own_p4_seconds q1 p2 th sc) = ((sc + (1 : Int64))) from (by subst hm28_s0; simp only [own_p4_seconds, if_pos hc39, if_pos hc97])]; exact f39
        · rw [show (own_p4_pending q1 p2 th pe) = (0 : Int64) from (by subst hm28_s0; simp only [own_p4_pending, if_pos hc39, if_pos hc97])]; exact f40
        · rw [show (own_p4_erroredSeconds q1 p2 th pe es) = ((es + pe) + (1 : Int64)) from (by subst hm28_s0; simp only [own_p4_erroredSeconds, if_pos hc39, if_pos hc97])]; exact f41
        · rw [show (own_p4_severelyErroredSeconds q1 p2 th pe ss) = (ss + pe) from (by subst hm28_s0; simp only [own_p4_severelyErroredSeconds, if_pos hc39, if_pos hc97])]; exact f42
        · rw [show (own_p4_backgroundBlockErrors q1 p2 th bb) = (bb + q1) from (by subst hm28_s0; simp only [own_p4_backgroundBlockErrors, if_pos hc39, if_pos hc97])]; exact Fw34
        · exact f43
    · obtain ⟨fs, hr, hrun, hended, hW, hsame⟩ := X17.leave (v := none) (fun _ => rfl)
      refine ⟨_, _, pre27 _ ?_, hrun, hended, _, _, rfl, ?_, ⟨_, rfl⟩, hW, hsame.mono (by decide) (by decide)⟩
      · show Steps p.tables e below (T17.setTop (mkF m 97 #[.val (.ref a0), .val (.long q1), .second, .val (.int p2), .val (.int m28_s0)] [(.int (lcmpW q1 (0 : Int64)))])) _
        refine XS.ifYes X17.here hx rfl (pc0 := 97) (pc' := 236) rfl (hb hby d4_97) rfl ((if0 _ _).trans (flt (mt (lw_gt _ _).mp hc97)).2.2.2) (by decide) (by decide) ?_
        show Steps p.tables e below (T17.setTop (mkF m 236 #[.val (.ref a0), .val (.long q1), .second, .val (.int p2), .val (.int m28_s0)] [])) _
        exact X17.returnOut hx Bd.returns (hb hby d4_236) hr
      · show Q4 Z a0 q1 p2 th sc pe es ss bb ua h0 n0 _ T17.heap _
        unfold Q4
        refine ⟨rfl, N17, kp26, po17_0, ?_, ?_, ?_, ?_, ?_, ?_, ?_, ?_⟩
        · exact po17_1
        · exact po17_3
        · rw [show (own_p4_seconds q1 p2 th sc) = ((sc + (1 : Int64))) from (by subst hm28_s0; simp only [own_p4_seconds, if_pos hc39, if_neg hc97])]; exact po17_2
        · rw [show (own_p4_pending q1 p2 th pe) = (0 : Int64) from (by subst hm28_s0; simp only [own_p4_pending, if_pos hc39, if_neg hc97])]; exact po17_6
        · rw [show (own_p4_erroredSeconds q1 p2 th pe es) = (es + pe) from (by subst hm28_s0; simp only [own_p4_erroredSeconds, if_pos hc39, if_neg hc97])]; exact po17_7
        · rw [show (own_p4_severelyErroredSeconds q1 p2 th pe ss) = (ss + pe) from (by subst hm28_s0; simp only [own_p4_severelyErroredSeconds, if_pos hc39, if_neg hc97])]; exact po17_8
        · rw [show (own_p4_backgroundBlockErrors q1 p2 th bb) = bb from (by subst hm28_s0; simp only [own_p4_backgroundBlockErrors, if_pos hc39, if_neg hc97])]; exact po17_4
        · exact po17_5
  · have f44 := (F_a0_pending.other W2 (Or.inr (slot_ne (Or.inl (hw _ (List.mem_of_getElem? (i := 28) rfl))) (Or.inl (hw _ (List.mem_of_getElem? (i := 26) rfl))) (by decide) (t := .long) (t' := .long) (by decide) (by decide))))
    obtain ⟨T45, X45, e45, st45⟩ := getF X14 hx hZ hown (host := "") (Or.inl (hw _ (List.mem_of_getElem? (i := 27) rfl))) Via.refl e14 f44 (g := (mkF m 44 #[.val (.ref a0), .val (.long q1), .second, .val (.int p2), .val (.int m28_s0)] [(.ref a0), (.ref a0)])) rfl rfl (hb hby d4_44)
    have f46 := (E_a0.wr W2)
    obtain ⟨T47, h47, X47, e47, W47, st47⟩ := putF X45 hx hZ hown (host := "") (Or.inl (hw _ (List.mem_of_getElem? (i := 27) rfl))) Via.refl e45 f44 f46 (Or.inl (hw _ (List.mem_of_getElem? (i := 28) rfl))) (hw _ (List.mem_of_getElem? (i := 6) rfl)) (ty := .long) (by decide) rfl rfl (g := (mkF m 49 #[.val (.ref a0), .val (.long q1), .second, .val (.int p2), .val (.int m28_s0)] [(.long (pe + (1 : Int64))), (.ref a0)])) rfl rfl (hb hby d4_49)
    have Fw47 := f44.same W47
    have N47 := Fr.snoc X47 N4 g_a0
    have kp48 : Keep h0 h47 [a0] := kp3.wr W47 (Or.inl (List.mem_of_getElem? (i := 0) rfl))
    obtain ⟨T49, X49, e49, st49⟩ := getF X47 hx hZ hown (host := "") (Or.inl (hw _ (List.mem_of_getElem? (i := 27) rfl))) Via.refl e47 Fw47 (g := (mkF m 53 #[.val (.ref a0), .val (.long q1), .second, .val (.int p2), .val (.int m28_s0)] [(.ref a0)])) rfl rfl (hb hby d4_53)
    have hc60 : ¬ ((pe + (1 : Int64)) = (10 : Int64)) := hpe
    obtain ⟨fs, hr, hrun, hended, hW, hsame⟩ := X49.leave (v := none) (fun _ => rfl)
    refine ⟨_, _, pre15 _ ?_, hrun, hended, _, _, rfl, ?_, ⟨_, rfl⟩, hW, hsame.mono (by decide) (by decide)⟩
    · show Steps p.tables e below (T14.setTop (mkF m 39 #[.val (.ref a0), .val (.long q1), .second, .val (.int p2), .val (.int m28_s0)] [(.int m28_s0)])) _
      refine XS.ifNo X14.here hx rfl (hb hby d4_39) rfl ((if0 _ _).trans (feq hc39).1) ?_
      show Steps p.tables e below (T14.setTop (mkF m 42 #[.val (.ref a0), .val (.long q1), .second, .val (.int p2), .val (.int m28_s0)] [])) _
      refine XS.aloadN X14.here hx rfl (hb hby d4_42) rfl rfl ?_
      show Steps p.tables e below (T14.setTop (mkF m 43 #[.val (.ref a0), .val (.long q1), .second, .val (.int p2), .val (.int m28_s0)] [(.ref a0)])) _
      refine XS.dup X14.here hx rfl (hb hby d4_43) rfl rfl ?_
      show Steps p.tables e below (T14.setTop (mkF m 44 #[.val (.ref a0), .val (.long q1), .second, .val (.int p2), .val (.int m28_s0)] [(.ref a0), (.ref a0)])) _
      refine st45 _ ?_
      show Steps p.tables e below (T45.setTop (mkF m 47 #[.val (.ref a0), .val (.long q1), .second, .val (.int p2), .val (.int m28_s0)] [(.long pe), (.ref a0)])) _
      refine XS.lconst X45.here hx rfl (hb hby d4_47) ?_
      show Steps p.tables e below (T45.setTop (mkF m 48 #[.val (.ref a0), .val (.long q1), .second, .val (.int p2), .val (.int m28_s0)] [(.long (1 : Int64)), (.long pe), (.ref a0)])) _
      refine XS.ladd X45.here hx rfl (hb hby d4_48) rfl ?_
      show Steps p.tables e below (T45.setTop (mkF m 49 #[.val (.ref a0), .val (.long q1), .second, .val (.int p2), .val (.int m28_s0)] [(.long (pe + (1 : Int64))), (.ref a0)])) _
      refine st47 _ ?_
      show Steps p.tables e below (T47.setTop (mkF m 52 #[.val (.ref a0), .val (.long q1), .second, .val (.int p2), .val (.int m28_s0)] [])) _
      refine XS.aloadN X47.here hx rfl (hb hby d4_52) rfl rfl ?_
      show Steps p.tables e below (T47.setTop (mkF m 53 #[.val (.ref a0), .val (.long q1), .second, .val (.int p2), .val (.int m28_s0)] [(.ref a0)])) _
      refine st49 _ ?_
      show Steps p.tables e below (T49.setTop (mkF m 56 #[.val (.ref a0), .val (.long q1), .second, .val (.int p2), .val (.int m28_s0)] [(.long (pe + (1 : Int64)))])) _
      refine X49.ldc2Long hx hown (mvT hZ (hw _ (List.mem_of_getElem? (i := 29) rfl))) (g := (mkF m 56 #[.val (.ref a0), .val (.long q1), .second, .val (.int p2), .val (.int m28_s0)] [(.long (pe + (1 : Int64)))])) rfl (hb hby d4_56) _ ?_
      show Steps p.tables e below (T49.setTop (mkF m 59 #[.val (.ref a0), .val (.long q1), .second, .val (.int p2), .val (.int m28_s0)] [(.long (10 : Int64)), (.long (pe + (1 : Int64)))])) _
      refine XS.lcmp X49.here hx rfl (hb hby d4_59) rfl ?_
      show Steps p.tables e below (T49.setTop (mkF m 60 #[.val (.ref a0), .val (.long q1), .second, .val (.int p2), .val (.int m28_s0)] [(.int (lcmpW (pe + (1 : Int64)) (10 : Int64)))])) _
      refine XS.ifYes X49.here hx rfl (pc0 := 60) (pc' := 236) rfl (hb hby d4_60) rfl ((if0 _ _).trans (feq (mt (lw_eq _ _).mp hc60)).2) (by decide) (by decide) ?_
      show Steps p.tables e below (T49.setTop (mkF m 236 #[.val (.ref a0), .val (.long q1), .second, .val (.int p2), .val (.int m28_s0)] [])) _
      exact X49.returnOut hx Bd.returns (hb hby d4_236) hr
    · show Q4 Z a0 q1 p2 th sc pe es ss bb ua h0 n0 _ T49.heap _
      rw [e49]
      unfold Q4
      have f50 := (f46.wr W47)
      have f51 := (f13.other W47 (Or.inr (slot_ne (Or.inl (hw _ (List.mem_of_getElem? (i := 15) rfl))) (Or.inl (hw _ (List.mem_of_getElem? (i := 28) rfl))) (by decide) (t := .boolean) (t' := .long) (by decide) (by decide))))
      have f52 := ((F_a0_sesErroredBlocks.other W2 (Or.inr (slot_ne (Or.inr (hw _ (List.mem_of_getElem? (i := 17) rfl))) (Or.inl (hw _ (List.mem_of_getElem? (i := 26) rfl))) (by decide) (t := .long) (t' := .long) (by decide) (by decide)))).other W47 (Or.inr (slot_ne (Or.inr (hw _ (List.mem_of_getElem? (i := 17) rfl))) (Or.inl (hw _ (List.mem_of_getElem? (i := 28) rfl))) (by decide) (t := .long) (t' := .long) (by decide) (by decide))))
      have f53 := (Fw2.other W47 (Or.inr (slot_ne (Or.inl (hw _ (List.mem_of_getElem? (i := 26) rfl))) (Or.inl (hw _ (List.mem_of_getElem? (i := 28) rfl))) (by decide) (t := .long) (t' := .long) (by decide) (by decide))))
      have f54 := ((F_a0_erroredSeconds.other W2 (Or.inr (slot_ne (Or.inl (hw _ (List.mem_of_getElem? (i := 35) rfl))) (Or.inl (hw _ (List.mem_of_getElem? (i := 26) rfl))) (by decide) (t := .long) (t' := .long) (by decide) (by decide)))).other W47 (Or.inr (slot_ne (Or.inl (hw _ (List.mem_of_getElem? (i := 35) rfl))) (Or.inl (hw _ (List.mem_of_getElem? (i := 28) rfl))) (by decide) (t := .long) (t' := .long) (by decide) (by decide))))
      have f55 := ((F_a0_severelyErroredSeconds.other W2 (Or.inr (slot_ne (Or.inl (hw _ (List.mem_of_getElem? (i := 37) rfl))) (Or.inl (hw _ (List.mem_of_getElem? (i := 26) rfl))) (by decide) (t := .long) (t' := .long) (by decide) (by decide)))).other W47 (Or.inr (slot_ne (Or.inl (hw _ (List.mem_of_getElem? (i := 37) rfl))) (Or.inl (hw _ (List.mem_of_getElem? (i := 28) rfl))) (by decide) (t := .long) (t' := .long) (by decide) (by decide))))
      have f56 := ((F_a0_backgroundBlockErrors.other W2 (Or.inr (slot_ne (Or.inl (hw _ (List.mem_of_getElem? (i := 82) rfl))) (Or.inl (hw _ (List.mem_of_getElem? (i := 26) rfl))) (by decide) (t := .long) (t' := .long) (by decide) (by decide)))).other W47 (Or.inr (slot_ne (Or.inl (hw _ (List.mem_of_getElem? (i := 82) rfl))) (Or.inl (hw _ (List.mem_of_getElem? (i := 28) rfl))) (by decide) (t := .long) (t' := .long) (by decide) (by decide))))
      have f57 := ((F_a0_unavailableSeconds.other W2 (Or.inr (slot_ne (Or.inl (hw _ (List.mem_of_getElem? (i := 65) rfl))) (Or.inl (hw _ (List.mem_of_getElem? (i := 26) rfl))) (by decide) (t := .long) (t' := .long) (by decide) (by decide)))).other W47 (Or.inr (slot_ne (Or.inl (hw _ (List.mem_of_getElem? (i := 65) rfl))) (Or.inl (hw _ (List.mem_of_getElem? (i := 28) rfl))) (by decide) (t := .long) (t' := .long) (by decide) (by decide))))
      refine ⟨rfl, N47, kp48, f50, ?_, ?_, ?_, ?_, ?_, ?_, ?_, ?_⟩
      · exact f51
      · exact f52
      · rw [show (own_p4_seconds q1 p2 th sc) = (sc + (1 : Int64)) from (by subst hm28_s0; simp only [own_p4_seconds, if_neg hc39])]; exact f53
      · rw [show (own_p4_pending q1 p2 th pe) = (pe + (1 : Int64)) from (by subst hm28_s0; simp only [own_p4_pending, if_neg hc39])]; exact Fw47
      · rw [show (own_p4_erroredSeconds q1 p2 th pe es) = es from (by subst hm28_s0; simp only [own_p4_erroredSeconds, if_neg hc39])]; exact f54
      · rw [show (own_p4_severelyErroredSeconds q1 p2 th pe ss) = ss from (by subst hm28_s0; simp only [own_p4_severelyErroredSeconds, if_neg hc39])]; exact f55
      · rw [show (own_p4_backgroundBlockErrors q1 p2 th bb) = bb from (by subst hm28_s0; simp only [own_p4_backgroundBlockErrors, if_neg hc39])]; exact f56
      · exact f57
theorem d6_0 : decode prog_5_method_4_code 0 = .ok (.aload_n 0, 1) := by decide +kernel
theorem d6_1 : decode prog_5_method_4_code 1 = .ok (.getfield 7, 3) := by decide +kernel
theorem d6_4 : decode prog_5_method_4_code 4 = .ok (.ifCond .eq 10, 3) := by decide +kernel
theorem d6_7 : decode prog_5_method_4_code 7 = .ok (.aload_n 0, 1) := by decide +kernel
theorem d6_8 : decode prog_5_method_4_code 8 = .ok (.invokevirtual 31, 3) := by decide +kernel
theorem d6_11 : decode prog_5_method_4_code 11 = .ok (.goto 24, 3) := by decide +kernel
theorem d6_35 : decode prog_5_method_4_code 35 = .ok (.return_, 1) := by decide +kernel
theorem ef_6 (m : MethodId) (a0 : Addr) : entryFrame m #[(.ref a0)] 1 = mkF m 0 #[.val (.ref a0)] [] := by first | (simp [entryFrame, mkF, argsToLocals, Value.category]; done) | rfl
def Q6 (Z : State) (a0 : Addr) (th : Int64) (sc : Int64) (pe : Int64) (es : Int64) (ss : Int64) (bb : Int64) (ua : Int64) (h0 : Heap) (n0 : Nat) (v : Option Value) (h : Heap) (L : List Loc) : Prop := v = none ∧ Fr n0 L ∧ Keep h0 h [a0] ∧ Exa Z h a0 "com/example/hopchuan/hopchuan/ErrorCounter" ∧ Fld Z h a0 "com/example/hopchuan/hopchuan/ErrorCounter" "seconds" "J" (.long sc) ∧ Fld Z h a0 "com/example/hopchuan/hopchuan/ErrorCounter" "erroredSeconds" "J" (.long (es + pe)) ∧ Fld Z h a0 "com/example/hopchuan/hopchuan/ErrorCounter" "severelyErroredSeconds" "J" (.long (ss + pe)) ∧ Fld Z h a0 "com/example/hopchuan/hopchuan/ErrorCounter" "backgroundBlockErrors" "J" (.long bb) ∧ Fld Z h a0 "com/example/hopchuan/hopchuan/ErrorCounter" "unavailableSeconds" "J" (.long ua)
set_option maxRecDepth 65536 in
set_option maxHeartbeats 40000000 in
theorem rm6 (l : Launch) (Z : State) (aw : Array Value) (hw : ∀ d ∈ tables_1, d.before aw Z = true) (wq : List Jvm.Cond) (a0 : Addr) (th : Int64) (sc : Int64) (pe : Int64) (es : Int64) (ss : Int64) (bb : Int64) (ua : Int64) (h0 : Heap) (n0 : Nat) (Z0 : n0 ≤ h0.size) (E_a0 : Exa Z h0 a0 "com/example/hopchuan/hopchuan/ErrorCounter") (F_a0_available : Fld Z h0 a0 "com/example/hopchuan/hopchuan/ErrorCounter" "available" "Z" (.int (1 : Int32))) (F_a0_sesErroredBlocks : Fld Z h0 a0 "com/example/hopchuan/hopchuan/ErrorCounter" "sesErroredBlocks" "J" (.long th)) (F_a0_seconds : Fld Z h0 a0 "com/example/hopchuan/hopchuan/ErrorCounter" "seconds" "J" (.long sc)) (F_a0_pending : Fld Z h0 a0 "com/example/hopchuan/hopchuan/ErrorCounter" "pending" "J" (.long pe)) (F_a0_erroredSeconds : Fld Z h0 a0 "com/example/hopchuan/hopchuan/ErrorCounter" "erroredSeconds" "J" (.long es)) (F_a0_severelyErroredSeconds : Fld Z h0 a0 "com/example/hopchuan/hopchuan/ErrorCounter" "severelyErroredSeconds" "J" (.long ss)) (F_a0_backgroundBlockErrors : Fld Z h0 a0 "com/example/hopchuan/hopchuan/ErrorCounter" "backgroundBlockErrors" "J" (.long bb)) (F_a0_unavailableSeconds : Fld Z h0 a0 "com/example/hopchuan/hopchuan/ErrorCounter" "unavailableSeconds" "J" (.long ua)) (g_a0 : n0 ≤ a0) :
    MetFree l (⟨"com/example/hopchuan/hopchuan/ErrorCounter", "end", "()V"⟩ : MethodName) (head1 (Jvm.Cond.code (⟨"com/example/hopchuan/hopchuan/ErrorCounter", "end", "()V"⟩ : MethodName) prog_5_method_4_code 1 none :: wq) ({ frames := 1, cells := 0, slots := 0, locals := 12 } : Room)) (fun a U => a = #[(.ref a0)] ∧ Z.Warmed39 U.vm ∧ U.heap = h0) (fun _ _ _ _ _ => True) (fun _ U o U' => ∃ v L, o = .returned v ∧ Q6 Z a0 th sc pe es ss bb ua h0 n0 v U'.heap L ∧ FrameEnd U o U' L ({ frames := 1, cells := 0, slots := 0, locals := 12 } : Room).cells ({ frames := 1, cells := 0, slots := 0, locals := 12 } : Room).slots) := by
  refine MetFree.of_bodySF (plainFor_of_name pn_0) hisR ?_
  intro p e s m args below meth c s₁ Bd hml0 hP hK
  obtain ⟨rfl, hZ, hh⟩ := hP
  have hx := Bd.exec
  have hby := Bd.bytes
  have hml : c.maxLocals = 1 := hml0
  have hown : s.vm.findClass "com/example/hopchuan/hopchuan/ErrorCounter" = some m.cls := findClass_of_methodNamed Bd.named
  have hnm := (name_of_methodNamed Bd.named Bd.method).1
  have X0 : Stand p l e ({ frames := 1, cells := 0, slots := 0, locals := 12 } : Room) s m #[(.ref a0)] below meth c s₁ [] 0 0 := Stand.of_body Bd
  have e0 : s₁.heap = h0 := by rw [← hh, Bd.state]; rfl
  have N0 := Fr.nil n0
  have pre0 : own_Pre p e below (s₁.setTop (entryFrame m #[(.ref a0)] 1)) (s₁.setTop (mkF m 0 #[.val (.ref a0)] [])) := fun t k => castTop (ef_6 m a0) k
  obtain ⟨T1, X1, e1, st1⟩ := getF X0 hx hZ hown (host := "") (Or.inl (hw _ (List.mem_of_getElem? (i := 14) rfl))) Via.refl e0 F_a0_available (g := (mkF m 1 #[.val (.ref a0)] [(.ref a0)])) rfl rfl (hb hby d6_1)
  obtain ⟨cq2, qa2, qb2⟩ := E_a0.cell
  obtain ⟨_, _, ⟨T2, L2, k2, n2⟩, -, X2, ⟨Lc2, hQ2, l2, y2, z2⟩, st2⟩ := X1.privateBack hx (y := (⟨"com/example/hopchuan/hopchuan/ErrorCounter", "settleAvailableRun", "()V"⟩ : MethodName)) hown (mvT hZ (hw _ (List.mem_of_getElem? (i := 30) rfl))) (mvT hZ (hw _ (List.mem_of_getElem? (i := 31) rfl))) (own_selp (y := (⟨"com/example/hopchuan/hopchuan/ErrorCounter", "settleAvailableRun", "()V"⟩ : MethodName)) (z := (⟨"com/example/hopchuan/hopchuan/ErrorCounter", "second", "(JZ)V"⟩ : MethodName)) (mvT hZ (hw _ (List.mem_of_getElem? (i := 23) rfl))) rfl (Cond.privateMethod_at (mvP hZ (hw _ (List.mem_of_getElem? (i := 32) rfl)) (args := #[]))) (mvT hZ (hw _ (List.mem_of_getElem? (i := 31) rfl))) (by decide)) (Cond.privateMethod_at (mvP hZ (hw _ (List.mem_of_getElem? (i := 32) rfl)) (args := #[]))) (mvT hZ (hw _ (List.mem_of_getElem? (i := 33) rfl))) (by decide) (backOf (W := 0) (rm5 l Z aw hw [] (a0) (sc) (th) (bb) (ua) (pe) (es) (ss) (h0) n0 Z0 E_a0 F_a0_available F_a0_seconds F_a0_sesErroredBlocks F_a0_backgroundBlockErrors F_a0_unavailableSeconds F_a0_pending F_a0_erroredSeconds F_a0_severelyErroredSeconds g_a0) hZ (hw _ (List.mem_of_getElem? (i := 33) rfl)) (hw _ (List.mem_of_getElem? (i := 7) rfl)) (by decide) (by decide)) (g := (mkF m 8 #[.val (.ref a0)] [(.ref a0)])) rfl (by rw [hml]; rfl) (Steps.refl _) (a := a0) (by rw [e1]; exact qa2) qb2 (argsL := []) (rest := []) (lenOf pd_0 rfl) rfl (by show 2 * 0 + _ ≤ _; exact Nat.le_of_eq rfl) (hb hby d6_8) (fun _ _ => ⟨rfl, e1, (by decide : 0 + 0 ≤ _), (by decide : 0 + 0 ≤ _)⟩)
  dsimp only [Pt.U, Pt.locs, Pt.cells, Pt.slots] at X2 l2 y2 z2 st2 hQ2
  subst l2 y2 z2
  obtain ⟨rfl, Nq2, K2, po2_0, po2_1, po2_2, po2_3, po2_4, po2_5, po2_6, po2_7, po2_8⟩ := hQ2
  have N2 := Fr.app N0 Nq2
  have kp3 : Keep h0 T2.heap [a0] := (Keep.refl h0 [a0]).trans K2 (allS (Or.inl (List.mem_of_getElem? (i := 0) rfl)) all0)
  obtain ⟨fs, hr, hrun, hended, hW, hsame⟩ := X2.leave (v := none) (fun _ => rfl)
  refine ⟨_, _, pre0 _ ?_, hrun, hended, _, _, rfl, ?_, ⟨_, rfl⟩, hW, hsame.mono (by decide) (by decide)⟩
  · show Steps p.tables e below (s₁.setTop (mkF m 0 #[.val (.ref a0)] [])) _
    refine XS.aloadN X0.here hx rfl (hb hby d6_0) rfl rfl ?_
    show Steps p.tables e below (s₁.setTop (mkF m 1 #[.val (.ref a0)] [(.ref a0)])) _
    refine st1 _ ?_
    show Steps p.tables e below (T1.setTop (mkF m 4 #[.val (.ref a0)] [(.int (1 : Int32))])) _
    refine XS.ifNo X1.here hx rfl (hb hby d6_4) rfl ((if0 _ _).trans (feq (by decide : ¬ ((1 : Int32) = (0 : Int32)))).1) ?_
    show Steps p.tables e below (T1.setTop (mkF m 7 #[.val (.ref a0)] [])) _
    refine XS.aloadN X1.here hx rfl (hb hby d6_7) rfl rfl ?_
    show Steps p.tables e below (T1.setTop (mkF m 8 #[.val (.ref a0)] [(.ref a0)])) _
    refine st2.trans ?_
    show Steps p.tables e below (T2.setTop (mkF m 11 #[.val (.ref a0)] [])) _
    refine XS.goto X2.here hx rfl (pc0 := 11) (pc' := 35) rfl (hb hby d6_11) (by decide) (by decide) ?_
    show Steps p.tables e below (T2.setTop (mkF m 35 #[.val (.ref a0)] [])) _
    exact X2.returnOut hx Bd.returns (hb hby d6_35) hr
  · show Q6 Z a0 th sc pe es ss bb ua h0 n0 _ T2.heap _
    unfold Q6
    refine ⟨rfl, N2, kp3, po2_0, ?_, ?_, ?_, ?_, ?_⟩
    · exact po2_2
    · exact po2_7
    · exact po2_8
    · exact po2_4
    · exact po2_5
theorem d7_0 : decode method_3_code 0 = .ok (.iload_n 0, 1) := by decide +kernel
theorem d7_1 : decode method_3_code 1 = .ok (.ifCond .ne 9, 3) := by decide +kernel
theorem d7_4 : decode method_3_code 4 = .ok (.lload_n 1, 1) := by decide +kernel
theorem d7_5 : decode method_3_code 5 = .ok (.lconst 0, 1) := by decide +kernel
theorem d7_6 : decode method_3_code 6 = .ok (.lcmp, 1) := by decide +kernel
theorem d7_7 : decode method_3_code 7 = .ok (.ifCond .le 5, 3) := by decide +kernel
theorem d7_10 : decode method_3_code 10 = .ok (.lconst 1, 1) := by decide +kernel
theorem d7_11 : decode method_3_code 11 = .ok (.lreturn, 1) := by decide +kernel
theorem d7_12 : decode method_3_code 12 = .ok (.lconst 0, 1) := by decide +kernel
theorem d7_13 : decode method_3_code 13 = .ok (.lreturn, 1) := by decide +kernel
theorem pn_1 : plainName "com/example/hopchuan/hopchuan/ErrorCounterSecondPinLaw" = true := by first | (simp [plainName, overriddenIn]; done) | decide +kernel
theorem ef_7 (m : MethodId) (p0 : Int32) (q1 : Int64) : entryFrame m #[(.int p0), (.long q1)] 3 = mkF m 0 #[.val (.int p0), .val (.long q1), .second] [] := by first | (simp [entryFrame, mkF, argsToLocals, Value.category]; done) | rfl
def own_f7 (p0 : Int32) (q1 : Int64) : Int64 := (if p0 = (0 : Int32) then (if (0 : Int64) < q1 then (1 : Int64) else (0 : Int64)) else (1 : Int64))
def Q7 (Z : State) (p0 : Int32) (q1 : Int64) (h0 : Heap) (n0 : Nat) (v : Option Value) (h : Heap) (L : List Loc) : Prop := v = some (.long (own_f7 p0 q1)) ∧ Fr n0 L ∧ h = h0
set_option maxRecDepth 65536 in
set_option maxHeartbeats 40000000 in
theorem rm7 (l : Launch) (Z : State) (aw : Array Value) (hw : ∀ d ∈ tables_1, d.before aw Z = true) (wq : List Jvm.Cond) (p0 : Int32) (q1 : Int64) (h0 : Heap) (n0 : Nat) (Z0 : n0 ≤ h0.size) :
    MetFree l (⟨"com/example/hopchuan/hopchuan/ErrorCounterSecondPinLaw", "es", "(ZJ)J"⟩ : MethodName) (head1 (Jvm.Cond.code (⟨"com/example/hopchuan/hopchuan/ErrorCounterSecondPinLaw", "es", "(ZJ)J"⟩ : MethodName) method_3_code 3 (some .long) :: wq) ({ frames := 0, cells := 0, slots := 0, locals := 0 } : Room)) (fun a U => a = #[(.int p0), (.long q1)] ∧ Z.Warmed39 U.vm ∧ U.heap = h0) (fun _ _ _ _ _ => True) (fun _ U o U' => ∃ v L, o = .returned v ∧ Q7 Z p0 q1 h0 n0 v U'.heap L ∧ FrameEnd U o U' L ({ frames := 0, cells := 0, slots := 0, locals := 0 } : Room).cells ({ frames := 0, cells := 0, slots := 0, locals := 0 } : Room).slots) := by
  refine MetFree.of_bodySF (plainFor_of_name pn_1) hisR ?_
  intro p e s m args below meth c s₁ Bd hml0 hP hK
  obtain ⟨rfl, hZ, hh⟩ := hP
  have hx := Bd.exec
  have hby := Bd.bytes
  have hml : c.maxLocals = 3 := hml0
  have hown : s.vm.findClass "com/example/hopchuan/hopchuan/ErrorCounterSecondPinLaw" = some m.cls := findClass_of_methodNamed Bd.named
  have hnm := (name_of_methodNamed Bd.named Bd.method).1
  have X0 : Stand p l e ({ frames := 0, cells := 0, slots := 0, locals := 0 } : Room) s m #[(.int p0), (.long q1)] below meth c s₁ [] 0 0 := Stand.of_body Bd
  have e0 : s₁.heap = h0 := by rw [← hh, Bd.state]; rfl
  have N0 := Fr.nil n0
  have pre0 : own_Pre p e below (s₁.setTop (entryFrame m #[(.int p0), (.long q1)] 3)) (s₁.setTop (mkF m 0 #[.val (.int p0), .val (.long q1), .second] [])) := fun t k => castTop (ef_7 m p0 q1) k
  have pre1 : own_Pre p e below (s₁.setTop (entryFrame m #[(.int p0), (.long q1)] 3)) (s₁.setTop (mkF m 1 #[.val (.int p0), .val (.long q1), .second] [(.int p0)])) := fun t k => pre0 t (by
      show Steps p.tables e below (s₁.setTop (mkF m 0 #[.val (.int p0), .val (.long q1), .second] [])) _
      refine XS.iloadN X0.here hx rfl (hb hby d7_0) rfl ?_
      exact k)
  by_cases hc1 : p0 = (0 : Int32)
  · have pre2 : own_Pre p e below (s₁.setTop (entryFrame m #[(.int p0), (.long q1)] 3)) (s₁.setTop (mkF m 7 #[.val (.int p0), .val (.long q1), .second] [(.int (lcmpW q1 (0 : Int64)))])) := fun t k => pre1 t (by
        show Steps p.tables e below (s₁.setTop (mkF m 1 #[.val (.int p0), .val (.long q1), .second] [(.int p0)])) _
        refine XS.ifNo X0.here hx rfl (hb hby d7_1) rfl ((if0 _ _).trans (teq hc1).2) ?_
        show Steps p.tables e below (s₁.setTop (mkF m 4 #[.val (.int p0), .val (.long q1), .second] [])) _
        refine XS.lloadN X0.here hx rfl (hb hby d7_4) rfl ?_
        show Steps p.tables e below (s₁.setTop (mkF m 5 #[.val (.int p0), .val (.long q1), .second] [(.long q1)])) _
        refine XS.lconst X0.here hx rfl (hb hby d7_5) ?_
        show Steps p.tables e below (s₁.setTop (mkF m 6 #[.val (.int p0), .val (.long q1), .second] [(.long (0 : Int64)), (.long q1)])) _
        refine XS.lcmp X0.here hx rfl (hb hby d7_6) rfl ?_
        exact k)
    by_cases hc7 : (0 : Int64) < q1
    · obtain ⟨fs, hr, hrun, hended, hW, hsame⟩ := X0.leave (v := some (.long (1 : Int64))) (fun h => by rw [Bd.returns] at h; cases h)
      refine ⟨_, _, pre2 _ ?_, hrun, hended, _, _, rfl, ?_, ⟨_, rfl⟩, hW, hsame.mono (by decide) (by decide)⟩
      · show Steps p.tables e below (s₁.setTop (mkF m 7 #[.val (.int p0), .val (.long q1), .second] [(.int (lcmpW q1 (0 : Int64)))])) _
        refine XS.ifNo X0.here hx rfl (hb hby d7_7) rfl ((if0 _ _).trans (tlt ((lw_gt _ _).mpr hc7)).2.2.2) ?_
        show Steps p.tables e below (s₁.setTop (mkF m 10 #[.val (.int p0), .val (.long q1), .second] [])) _
        refine XS.lconst X0.here hx rfl (hb hby d7_10) ?_
        show Steps p.tables e below (s₁.setTop (mkF m 11 #[.val (.int p0), .val (.long q1), .second] [(.long (1 : Int64))])) _
        exact retJ X0 hx Bd.returns (hb hby d7_11) hr
      · show Q7 Z p0 q1 h0 n0 _ s₁.heap _
        rw [e0]
        unfold Q7
        refine ⟨?_, N0, rfl⟩
        · simp only [own_f7, if_pos hc1, if_pos hc7]
    · obtain ⟨fs, hr, hrun, hended, hW, hsame⟩ := X0.leave (v := some (.long (0 : Int64))) (fun h => by rw [Bd.returns] at h; cases h)
      refine ⟨_, _, pre2 _ ?_, hrun, hended, _, _, rfl, ?_, ⟨_, rfl⟩, hW, hsame.mono (by decide) (by decide)⟩
      · show Steps p.tables e below (s₁.setTop (mkF m 7 #[.val (.int p0), .val (.long q1), .second] [(.int (lcmpW q1 (0 : Int64)))])) _
        refine XS.ifYes X0.here hx rfl (pc0 := 7) (pc' := 12) rfl (hb hby d7_7) rfl ((if0 _ _).trans (flt (mt (lw_gt _ _).mp hc7)).2.2.2) (by decide) (by decide) ?_
        show Steps p.tables e below (s₁.setTop (mkF m 12 #[.val (.int p0), .val (.long q1), .second] [])) _
        refine XS.lconst X0.here hx rfl (hb hby d7_12) ?_
        show Steps p.tables e below (s₁.setTop (mkF m 13 #[.val (.int p0), .val (.long q1), .second] [(.long (0 : Int64))])) _
        exact retJ X0 hx Bd.returns (hb hby d7_13) hr
      · show Q7 Z p0 q1 h0 n0 _ s₁.heap _
        rw [e0]
        unfold Q7
        refine ⟨?_, N0, rfl⟩
        · simp only [own_f7, if_pos hc1, if_neg hc7]
  · obtain ⟨fs, hr, hrun, hended, hW, hsame⟩ := X0.leave (v := some (.long (1 : Int64))) (fun h => by rw [Bd.returns] at h; cases h)
    refine ⟨_, _, pre1 _ ?_, hrun, hended, _, _, rfl, ?_, ⟨_, rfl⟩, hW, hsame.mono (by decide) (by decide)⟩
    · show Steps p.tables e below (s₁.setTop (mkF m 1 #[.val (.int p0), .val (.long q1), .second] [(.int p0)])) _
      refine XS.ifYes X0.here hx rfl (pc0 := 1) (pc' := 10) rfl (hb hby d7_1) rfl ((if0 _ _).trans (feq hc1).2) (by decide) (by decide) ?_
      show Steps p.tables e below (s₁.setTop (mkF m 10 #[.val (.int p0), .val (.long q1), .second] [])) _
      refine XS.lconst X0.here hx rfl (hb hby d7_10) ?_
      show Steps p.tables e below (s₁.setTop (mkF m 11 #[.val (.int p0), .val (.long q1), .second] [(.long (1 : Int64))])) _
      exact retJ X0 hx Bd.returns (hb hby d7_11) hr
    · show Q7 Z p0 q1 h0 n0 _ s₁.heap _
      rw [e0]
      unfold Q7
      refine ⟨?_, N0, rfl⟩
      · simp only [own_f7, if_neg hc1]
theorem d8_0 : decode method_4_code 0 = .ok (.iload_n 0, 1) := by decide +kernel
theorem d8_1 : decode method_4_code 1 = .ok (.ifCond .eq 5, 3) := by decide +kernel
theorem d8_4 : decode method_4_code 4 = .ok (.lconst 1, 1) := by decide +kernel
theorem d8_5 : decode method_4_code 5 = .ok (.lreturn, 1) := by decide +kernel
theorem d8_6 : decode method_4_code 6 = .ok (.lconst 0, 1) := by decide +kernel
theorem d8_7 : decode method_4_code 7 = .ok (.lreturn, 1) := by decide +kernel
theorem ef_8 (m : MethodId) (p0 : Int32) : entryFrame m #[(.int p0)] 1 = mkF m 0 #[.val (.int p0)] [] := by first | (simp [entryFrame, mkF, argsToLocals, Value.category]; done) | rfl
def own_f8 (p0 : Int32) : Int64 := (if p0 = (0 : Int32) then (0 : Int64) else (1 : Int64))
def Q8 (Z : State) (p0 : Int32) (h0 : Heap) (n0 : Nat) (v : Option Value) (h : Heap) (L : List Loc) : Prop := v = some (.long (own_f8 p0)) ∧ Fr n0 L ∧ h = h0
set_option maxRecDepth 65536 in
set_option maxHeartbeats 40000000 in
theorem rm8 (l : Launch) (Z : State) (aw : Array Value) (hw : ∀ d ∈ tables_1, d.before aw Z = true) (wq : List Jvm.Cond) (p0 : Int32) (h0 : Heap) (n0 : Nat) (Z0 : n0 ≤ h0.size) :
    MetFree l (⟨"com/example/hopchuan/hopchuan/ErrorCounterSecondPinLaw", "ses", "(Z)J"⟩ : MethodName) (head1 (Jvm.Cond.code (⟨"com/example/hopchuan/hopchuan/ErrorCounterSecondPinLaw", "ses", "(Z)J"⟩ : MethodName) method_4_code 1 (some .long) :: wq) ({ frames := 0, cells := 0, slots := 0, locals := 0 } : Room)) (fun a U => a = #[(.int p0)] ∧ Z.Warmed39 U.vm ∧ U.heap = h0) (fun _ _ _ _ _ => True) (fun _ U o U' => ∃ v L, o = .returned v ∧ Q8 Z p0 h0 n0 v U'.heap L ∧ FrameEnd U o U' L ({ frames := 0, cells := 0, slots := 0, locals := 0 } : Room).cells ({ frames := 0, cells := 0, slots := 0, locals := 0 } : Room).slots) := by
  refine MetFree.of_bodySF (plainFor_of_name pn_1) hisR ?_
  intro p e s m args below meth c s₁ Bd hml0 hP hK
  obtain ⟨rfl, hZ, hh⟩ := hP
  have hx := Bd.exec
  have hby := Bd.bytes
  have hml : c.maxLocals = 1 := hml0
  have hown : s.vm.findClass "com/example/hopchuan/hopchuan/ErrorCounterSecondPinLaw" = some m.cls := findClass_of_methodNamed Bd.named
  have hnm := (name_of_methodNamed Bd.named Bd.method).1
  have X0 : Stand p l e ({ frames := 0, cells := 0, slots := 0, locals := 0 } : Room) s m #[(.int p0)] below meth c s₁ [] 0 0 := Stand.of_body Bd
  have e0 : s₁.heap = h0 := by rw [← hh, Bd.state]; rfl
  have N0 := Fr.nil n0
  have pre0 : own_Pre p e below (s₁.setTop (entryFrame m #[(.int p0)] 1)) (s₁.setTop (mkF m 0 #[.val (.int p0)] [])) := fun t k => castTop (ef_8 m p0) k
  have pre1 : own_Pre p e below (s₁.setTop (entryFrame m #[(.int p0)] 1)) (s₁.setTop (mkF m 1 #[.val (.int p0)] [(.int p0)])) := fun t k => pre0 t (by
      show Steps p.tables e below (s₁.setTop (mkF m 0 #[.val (.int p0)] [])) _
      refine XS.iloadN X0.here hx rfl (hb hby d8_0) rfl ?_
      exact k)
  by_cases hc1 : p0 = (0 : Int32)
  · obtain ⟨fs, hr, hrun, hended, hW, hsame⟩ := X0.leave (v := some (.long (0 : Int64))) (fun h => by rw [Bd.returns] at h; cases h)
    refine ⟨_, _, pre1 _ ?_, hrun, hended, _, _, rfl, ?_, ⟨_, rfl⟩, hW, hsame.mono (by decide) (by decide)⟩
    · show Steps p.tables e below (s₁.setTop (mkF m 1 #[.val (.int p0)] [(.int p0)])) _
      refine XS.ifYes X0.here hx rfl (pc0 := 1) (pc' := 6) rfl (hb hby d8_1) rfl ((if0 _ _).trans (teq hc1).1) (by decide) (by decide) ?_
      show Steps p.tables e below (s₁.setTop (mkF m 6 #[.val (.int p0)] [])) _
      refine XS.lconst X0.here hx rfl (hb hby d8_6) ?_
      show Steps p.tables e below (s₁.setTop (mkF m 7 #[.val (.int p0)] [(.long (0 : Int64))])) _
      exact retJ X0 hx Bd.returns (hb hby d8_7) hr
    · show Q8 Z p0 h0 n0 _ s₁.heap _
      rw [e0]
      unfold Q8
      refine ⟨?_, N0, rfl⟩
      · simp only [own_f8, if_pos hc1]
  · obtain ⟨fs, hr, hrun, hended, hW, hsame⟩ := X0.leave (v := some (.long (1 : Int64))) (fun h => by rw [Bd.returns] at h; cases h)
    refine ⟨_, _, pre1 _ ?_, hrun, hended, _, _, rfl, ?_, ⟨_, rfl⟩, hW, hsame.mono (by decide) (by decide)⟩
    · show Steps p.tables e below (s₁.setTop (mkF m 1 #[.val (.int p0)] [(.int p0)])) _
      refine XS.ifNo X0.here hx rfl (hb hby d8_1) rfl ((if0 _ _).trans (feq hc1).1) ?_
      show Steps p.tables e below (s₁.setTop (mkF m 4 #[.val (.int p0)] [])) _
      refine XS.lconst X0.here hx rfl (hb hby d8_4) ?_
      show Steps p.tables e below (s₁.setTop (mkF m 5 #[.val (.int p0)] [(.long (1 : Int64))])) _
      exact retJ X0 hx Bd.returns (hb hby d8_5) hr
    · show Q8 Z p0 h0 n0 _ s₁.heap _
      rw [e0]
      unfold Q8
      refine ⟨?_, N0, rfl⟩
      · simp only [own_f8, if_neg hc1]
theorem d9_0 : decode method_5_code 0 = .ok (.iload_n 0, 1) := by decide +kernel
theorem d9_1 : decode method_5_code 1 = .ok (.ifCond .eq 5, 3) := by decide +kernel
theorem d9_4 : decode method_5_code 4 = .ok (.lconst 0, 1) := by decide +kernel
theorem d9_5 : decode method_5_code 5 = .ok (.lreturn, 1) := by decide +kernel
theorem d9_6 : decode method_5_code 6 = .ok (.lload_n 1, 1) := by decide +kernel
theorem d9_7 : decode method_5_code 7 = .ok (.lreturn, 1) := by decide +kernel
theorem ef_9 (m : MethodId) (p0 : Int32) (q1 : Int64) : entryFrame m #[(.int p0), (.long q1)] 3 = mkF m 0 #[.val (.int p0), .val (.long q1), .second] [] := by first | (simp [entryFrame, mkF, argsToLocals, Value.category]; done) | rfl
def own_f9 (p0 : Int32) (q1 : Int64) : Int64 := (if p0 = (0 : Int32) then q1 else (0 : Int64))
def Q9 (Z : State) (p0 : Int32) (q1 : Int64) (h0 : Heap) (n0 : Nat) (v : Option Value) (h : Heap) (L : List Loc) : Prop := v = some (.long (own_f9 p0 q1)) ∧ Fr n0 L ∧ h = h0
set_option maxRecDepth 65536 in
set_option maxHeartbeats 40000000 in
theorem rm9 (l : Launch) (Z : State) (aw : Array Value) (hw : ∀ d ∈ tables_1, d.before aw Z = true) (wq : List Jvm.Cond) (p0 : Int32) (q1 : Int64) (h0 : Heap) (n0 : Nat) (Z0 : n0 ≤ h0.size) :
    MetFree l (⟨"com/example/hopchuan/hopchuan/ErrorCounterSecondPinLaw", "bbe", "(ZJ)J"⟩ : MethodName) (head1 (Jvm.Cond.code (⟨"com/example/hopchuan/hopchuan/ErrorCounterSecondPinLaw", "bbe", "(ZJ)J"⟩ : MethodName) method_5_code 3 (some .long) :: wq) ({ frames := 0, cells := 0, slots := 0, locals := 0 } : Room)) (fun a U => a = #[(.int p0), (.long q1)] ∧ Z.Warmed39 U.vm ∧ U.heap = h0) (fun _ _ _ _ _ => True) (fun _ U o U' => ∃ v L, o = .returned v ∧ Q9 Z p0 q1 h0 n0 v U'.heap L ∧ FrameEnd U o U' L ({ frames := 0, cells := 0, slots := 0, locals := 0 } : Room).cells ({ frames := 0, cells := 0, slots := 0, locals := 0 } : Room).slots) := by
  refine MetFree.of_bodySF (plainFor_of_name pn_1) hisR ?_
  intro p e s m args below meth c s₁ Bd hml0 hP hK
  obtain ⟨rfl, hZ, hh⟩ := hP
  have hx := Bd.exec
  have hby := Bd.bytes
  have hml : c.maxLocals = 3 := hml0
  have hown : s.vm.findClass "com/example/hopchuan/hopchuan/ErrorCounterSecondPinLaw" = some m.cls := findClass_of_methodNamed Bd.named
  have hnm := (name_of_methodNamed Bd.named Bd.method).1
  have X0 : Stand p l e ({ frames := 0, cells := 0, slots := 0, locals := 0 } : Room) s m #[(.int p0), (.long q1)] below meth c s₁ [] 0 0 := Stand.of_body Bd
  have e0 : s₁.heap = h0 := by rw [← hh, Bd.state]; rfl
  have N0 := Fr.nil n0
  have pre0 : own_Pre p e below (s₁.setTop (entryFrame m #[(.int p0), (.long q1)] 3)) (s₁.setTop (mkF m 0 #[.val (.int p0), .val (.long q1), .second] [])) := fun t k => castTop (ef_9 m p0 q1) k
  have pre1 : own_Pre p e below (s₁.setTop (entryFrame m #[(.int p0), (.long q1)] 3)) (s₁.setTop (mkF m 1 #[.val (.int p0), .val (.long q1), .second] [(.int p0)])) := fun t k => pre0 t (by
      show Steps p.tables e below (s₁.setTop (mkF m 0 #[.val (.int p0), .val (.long q1), .second] [])) _
      refine XS.iloadN X0.here hx rfl (hb hby d9_0) rfl ?_
      exact k)
  by_cases hc1 : p0 = (0 : Int32)
  · obtain ⟨fs, hr, hrun, hended, hW, hsame⟩ := X0.leave (v := some (.long q1)) (fun h => by rw [Bd.returns] at h; cases h)
    refine ⟨_, _, pre1 _ ?_, hrun, hended, _, _, rfl, ?_, ⟨_, rfl⟩, hW, hsame.mono (by decide) (by decide)⟩
    · show Steps p.tables e below (s₁.setTop (mkF m 1 #[.val (.int p0), .val (.long q1), .second] [(.int p0)])) _
      refine XS.ifYes X0.here hx rfl (pc0 := 1) (pc' := 6) rfl (hb hby d9_1) rfl ((if0 _ _).trans (teq hc1).1) (by decide) (by decide) ?_
      show Steps p.tables e below (s₁.setTop (mkF m 6 #[.val (.int p0), .val (.long q1), .second] [])) _
      refine XS.lloadN X0.here hx rfl (hb hby d9_6) rfl ?_
      show Steps p.tables e below (s₁.setTop (mkF m 7 #[.val (.int p0), .val (.long q1), .second] [(.long q1)])) _
      exact retJ X0 hx Bd.returns (hb hby d9_7) hr
    · show Q9 Z p0 q1 h0 n0 _ s₁.heap _
      rw [e0]
      unfold Q9
      refine ⟨?_, N0, rfl⟩
      · simp only [own_f9, if_pos hc1]
  · obtain ⟨fs, hr, hrun, hended, hW, hsame⟩ := X0.leave (v := some (.long (0 : Int64))) (fun h => by rw [Bd.returns] at h; cases h)
    refine ⟨_, _, pre1 _ ?_, hrun, hended, _, _, rfl, ?_, ⟨_, rfl⟩, hW, hsame.mono (by decide) (by decide)⟩
    · show Steps p.tables e below (s₁.setTop (mkF m 1 #[.val (.int p0), .val (.long q1), .second] [(.int p0)])) _
      refine XS.ifNo X0.here hx rfl (hb hby d9_1) rfl ((if0 _ _).trans (feq hc1).1) ?_
      show Steps p.tables e below (s₁.setTop (mkF m 4 #[.val (.int p0), .val (.long q1), .second] [])) _
      refine XS.lconst X0.here hx rfl (hb hby d9_4) ?_
      show Steps p.tables e below (s₁.setTop (mkF m 5 #[.val (.int p0), .val (.long q1), .second] [(.long (0 : Int64))])) _
      exact retJ X0 hx Bd.returns (hb hby d9_5) hr
    · show Q9 Z p0 q1 h0 n0 _ s₁.heap _
      rw [e0]
      unfold Q9
      refine ⟨?_, N0, rfl⟩
      · simp only [own_f9, if_neg hc1]
theorem d10_0 : decode prog_5_method_5_code 0 = .ok (.aload_n 0, 1) := by decide +kernel
theorem d10_1 : decode prog_5_method_5_code 1 = .ok (.getfield 20, 3) := by decide +kernel
theorem d10_4 : decode prog_5_method_5_code 4 = .ok (.lreturn, 1) := by decide +kernel
theorem ef_10 (m : MethodId) (a0 : Addr) : entryFrame m #[(.ref a0)] 1 = mkF m 0 #[.val (.ref a0)] [] := by first | (simp [entryFrame, mkF, argsToLocals, Value.category]; done) | rfl
def Q10 (Z : State) (a0 : Addr) (w : Int64) (h0 : Heap) (n0 : Nat) (v : Option Value) (h : Heap) (L : List Loc) : Prop := v = some (.long w) ∧ Fr n0 L ∧ h = h0
set_option maxRecDepth 65536 in
set_option maxHeartbeats 40000000 in
theorem rm10 (l : Launch) (Z : State) (aw : Array Value) (hw : ∀ d ∈ tables_1, d.before aw Z = true) (wq : List Jvm.Cond) (a0 : Addr) (w : Int64) (h0 : Heap) (n0 : Nat) (Z0 : n0 ≤ h0.size) (F_a0_seconds : Fld Z h0 a0 "com/example/hopchuan/hopchuan/ErrorCounter" "seconds" "J" (.long w)) :
    MetFree l (⟨"com/example/hopchuan/hopchuan/ErrorCounter", "seconds", "()J"⟩ : MethodName) (head1 (Jvm.Cond.code (⟨"com/example/hopchuan/hopchuan/ErrorCounter", "seconds", "()J"⟩ : MethodName) prog_5_method_5_code 1 (some .long) :: wq) ({ frames := 0, cells := 0, slots := 0, locals := 0 } : Room)) (fun a U => a = #[(.ref a0)] ∧ Z.Warmed39 U.vm ∧ U.heap = h0) (fun _ _ _ _ _ => True) (fun _ U o U' => ∃ v L, o = .returned v ∧ Q10 Z a0 w h0 n0 v U'.heap L ∧ FrameEnd U o U' L ({ frames := 0, cells := 0, slots := 0, locals := 0 } : Room).cells ({ frames := 0, cells := 0, slots := 0, locals := 0 } : Room).slots) := by
  refine MetFree.of_bodySF (plainFor_of_name pn_0) hisR ?_
  intro p e s m args below meth c s₁ Bd hml0 hP hK
  obtain ⟨rfl, hZ, hh⟩ := hP
  have hx := Bd.exec
  have hby := Bd.bytes
  have hml : c.maxLocals = 1 := hml0
  have hown : s.vm.findClass "com/example/hopchuan/hopchuan/ErrorCounter" = some m.cls := findClass_of_methodNamed Bd.named
  have hnm := (name_of_methodNamed Bd.named Bd.method).1
  have X0 : Stand p l e ({ frames := 0, cells := 0, slots := 0, locals := 0 } : Room) s m #[(.ref a0)] below meth c s₁ [] 0 0 := Stand.of_body Bd
  have e0 : s₁.heap = h0 := by rw [← hh, Bd.state]; rfl
  have N0 := Fr.nil n0
  have pre0 : own_Pre p e below (s₁.setTop (entryFrame m #[(.ref a0)] 1)) (s₁.setTop (mkF m 0 #[.val (.ref a0)] [])) := fun t k => castTop (ef_10 m a0) k
  obtain ⟨T1, X1, e1, st1⟩ := getF X0 hx hZ hown (host := "") (Or.inl (hw _ (List.mem_of_getElem? (i := 25) rfl))) Via.refl e0 F_a0_seconds (g := (mkF m 1 #[.val (.ref a0)] [(.ref a0)])) rfl rfl (hb hby d10_1)
  obtain ⟨fs, hr, hrun, hended, hW, hsame⟩ := X1.leave (v := some (.long w)) (fun h => by rw [Bd.returns] at h; cases h)
  refine ⟨_, _, pre0 _ ?_, hrun, hended, _, _, rfl, ?_, ⟨_, rfl⟩, hW, hsame.mono (by decide) (by decide)⟩
  · show Steps p.tables e below (s₁.setTop (mkF m 0 #[.val (.ref a0)] [])) _
    refine XS.aloadN X0.here hx rfl (hb hby d10_0) rfl rfl ?_
    show Steps p.tables e below (s₁.setTop (mkF m 1 #[.val (.ref a0)] [(.ref a0)])) _
    refine st1 _ ?_
    show Steps p.tables e below (T1.setTop (mkF m 4 #[.val (.ref a0)] [(.long w)])) _
    exact retJ X1 hx Bd.returns (hb hby d10_4) hr
  · show Q10 Z a0 w h0 n0 _ T1.heap _
    rw [e1]
    unfold Q10
    refine ⟨rfl, N0, rfl⟩
theorem d12_0 : decode prog_5_method_9_code 0 = .ok (.aload_n 0, 1) := by decide +kernel
theorem d12_1 : decode prog_5_method_9_code 1 = .ok (.getfield 34, 3) := by decide +kernel
theorem d12_4 : decode prog_5_method_9_code 4 = .ok (.lreturn, 1) := by decide +kernel
theorem ef_12 (m : MethodId) (a0 : Addr) : entryFrame m #[(.ref a0)] 1 = mkF m 0 #[.val (.ref a0)] [] := by first | (simp [entryFrame, mkF, argsToLocals, Value.category]; done) | rfl
def Q12 (Z : State) (a0 : Addr) (w : Int64) (h0 : Heap) (n0 : Nat) (v : Option Value) (h : Heap) (L : List Loc) : Prop := v = some (.long w) ∧ Fr n0 L ∧ h = h0
set_option maxRecDepth 65536 in
set_option maxHeartbeats 40000000 in
theorem rm12 (l : Launch) (Z : State) (aw : Array Value) (hw : ∀ d ∈ tables_1, d.before aw Z = true) (wq : List Jvm.Cond) (a0 : Addr) (w : Int64) (h0 : Heap) (n0 : Nat) (Z0 : n0 ≤ h0.size) (F_a0_erroredSeconds : Fld Z h0 a0 "com/example/hopchuan/hopchuan/ErrorCounter" "erroredSeconds" "J" (.long w)) :
    MetFree l (⟨"com/example/hopchuan/hopchuan/ErrorCounter", "erroredSeconds", "()J"⟩ : MethodName) (head1 (Jvm.Cond.code (⟨"com/example/hopchuan/hopchuan/ErrorCounter", "erroredSeconds", "()J"⟩ : MethodName) prog_5_method_9_code 1 (some .long) :: wq) ({ frames := 0, cells := 0, slots := 0, locals := 0 } : Room)) (fun a U => a = #[(.ref a0)] ∧ Z.Warmed39 U.vm ∧ U.heap = h0) (fun _ _ _ _ _ => True) (fun _ U o U' => ∃ v L, o = .returned v ∧ Q12 Z a0 w h0 n0 v U'.heap L ∧ FrameEnd U o U' L ({ frames := 0, cells := 0, slots := 0, locals := 0 } : Room).cells ({ frames := 0, cells := 0, slots := 0, locals := 0 } : Room).slots) := by
  refine MetFree.of_bodySF (plainFor_of_name pn_0) hisR ?_
  intro p e s m args below meth c s₁ Bd hml0 hP hK
  obtain ⟨rfl, hZ, hh⟩ := hP
  have hx := Bd.exec
  have hby := Bd.bytes
  have hml : c.maxLocals = 1 := hml0
  have hown : s.vm.findClass "com/example/hopchuan/hopchuan/ErrorCounter" = some m.cls := findClass_of_methodNamed Bd.named
  have hnm := (name_of_methodNamed Bd.named Bd.method).1
  have X0 : Stand p l e ({ frames := 0, cells := 0, slots := 0, locals := 0 } : Room) s m #[(.ref a0)] below meth c s₁ [] 0 0 := Stand.of_body Bd
  have e0 : s₁.heap = h0 := by rw [← hh, Bd.state]; rfl
  have N0 := Fr.nil n0
  have pre0 : own_Pre p e below (s₁.setTop (entryFrame m #[(.ref a0)] 1)) (s₁.setTop (mkF m 0 #[.val (.ref a0)] [])) := fun t k => castTop (ef_12 m a0) k
  obtain ⟨T1, X1, e1, st1⟩ := getF X0 hx hZ hown (host := "") (Or.inl (hw _ (List.mem_of_getElem? (i := 34) rfl))) Via.refl e0 F_a0_erroredSeconds (g := (mkF m 1 #[.val (.ref a0)] [(.ref a0)])) rfl rfl (hb hby d12_1)
  obtain ⟨fs, hr, hrun, hended, hW, hsame⟩ := X1.leave (v := some (.long w)) (fun h => by rw [Bd.returns] at h; cases h)
  refine ⟨_, _, pre0 _ ?_, hrun, hended, _, _, rfl, ?_, ⟨_, rfl⟩, hW, hsame.mono (by decide) (by decide)⟩
  · show Steps p.tables e below (s₁.setTop (mkF m 0 #[.val (.ref a0)] [])) _
    refine XS.aloadN X0.here hx rfl (hb hby d12_0) rfl rfl ?_
    show Steps p.tables e below (s₁.setTop (mkF m 1 #[.val (.ref a0)] [(.ref a0)])) _
    refine st1 _ ?_
    show Steps p.tables e below (T1.setTop (mkF m 4 #[.val (.ref a0)] [(.long w)])) _
    exact retJ X1 hx Bd.returns (hb hby d12_4) hr
  · show Q12 Z a0 w h0 n0 _ T1.heap _
    rw [e1]
    unfold Q12
    refine ⟨rfl, N0, rfl⟩
theorem d13_0 : decode prog_5_method_10_code 0 = .ok (.aload_n 0, 1) := by decide +kernel
theorem d13_1 : decode prog_5_method_10_code 1 = .ok (.getfield 68, 3) := by decide +kernel
theorem d13_4 : decode prog_5_method_10_code 4 = .ok (.lreturn, 1) := by decide +kernel
theorem ef_13 (m : MethodId) (a0 : Addr) : entryFrame m #[(.ref a0)] 1 = mkF m 0 #[.val (.ref a0)] [] := by first | (simp [entryFrame, mkF, argsToLocals, Value.category]; done) | rfl
def Q13 (Z : State) (a0 : Addr) (w : Int64) (h0 : Heap) (n0 : Nat) (v : Option Value) (h : Heap) (L : List Loc) : Prop := v = some (.long w) ∧ Fr n0 L ∧ h = h0
set_option maxRecDepth 65536 in
set_option maxHeartbeats 40000000 in
theorem rm13 (l : Launch) (Z : State) (aw : Array Value) (hw : ∀ d ∈ tables_1, d.before aw Z = true) (wq : List Jvm.Cond) (a0 : Addr) (w : Int64) (h0 : Heap) (n0 : Nat) (Z0 : n0 ≤ h0.size) (F_a0_severelyErroredSeconds : Fld Z h0 a0 "com/example/hopchuan/hopchuan/ErrorCounter" "severelyErroredSeconds" "J" (.long w)) :
    MetFree l (⟨"com/example/hopchuan/hopchuan/ErrorCounter", "severelyErroredSeconds", "()J"⟩ : MethodName) (head1 (Jvm.Cond.code (⟨"com/example/hopchuan/hopchuan/ErrorCounter", "severelyErroredSeconds", "()J"⟩ : MethodName) prog_5_method_10_code 1 (some .long) :: wq) ({ frames := 0, cells := 0, slots := 0, locals := 0 } : Room)) (fun a U => a = #[(.ref a0)] ∧ Z.Warmed39 U.vm ∧ U.heap = h0) (fun _ _ _ _ _ => True) (fun _ U o U' => ∃ v L, o = .returned v ∧ Q13 Z a0 w h0 n0 v U'.heap L ∧ FrameEnd U o U' L ({ frames := 0, cells := 0, slots := 0, locals := 0 } : Room).cells ({ frames := 0, cells := 0, slots := 0, locals := 0 } : Room).slots) := by
  refine MetFree.of_bodySF (plainFor_of_name pn_0) hisR ?_
  intro p e s m args below meth c s₁ Bd hml0 hP hK
  obtain ⟨rfl, hZ, hh⟩ := hP
  have hx := Bd.exec
  have hby := Bd.bytes
  have hml : c.maxLocals = 1 := hml0
  have hown : s.vm.findClass "com/example/hopchuan/hopchuan/ErrorCounter" = some m.cls := findClass_of_methodNamed Bd.named
  have hnm := (name_of_methodNamed Bd.named Bd.method).1
  have X0 : Stand p l e ({ frames := 0, cells := 0, slots := 0, locals := 0 } : Room) s m #[(.ref a0)] below meth c s₁ [] 0 0 := Stand.of_body Bd
  have e0 : s₁.heap = h0 := by rw [← hh, Bd.state]; rfl
  have N0 := Fr.nil n0
  have pre0 : own_Pre p e below (s₁.setTop (entryFrame m #[(.ref a0)] 1)) (s₁.setTop (mkF m 0 #[.val (.ref a0)] [])) := fun t k => castTop (ef_13 m a0) k
  obtain ⟨T1, X1, e1, st1⟩ := getF X0 hx hZ hown (host := "") (Or.inl (hw _ (List.mem_of_getElem? (i := 36) rfl))) Via.refl e0 F_a0_severelyErroredSeconds (g := (mkF m 1 #[.val (.ref a0)] [(.ref a0)])) rfl rfl (hb hby d13_1)
  obtain ⟨fs, hr, hrun, hended, hW, hsame⟩ := X1.leave (v := some (.long w)) (fun h => by rw [Bd.returns] at h; cases h)
  refine ⟨_, _, pre0 _ ?_, hrun, hended, _, _, rfl, ?_, ⟨_, rfl⟩, hW, hsame.mono (by decide) (by decide)⟩
  · show Steps p.tables e below (s₁.setTop (mkF m 0 #[.val (.ref a0)] [])) _
    refine XS.aloadN X0.here hx rfl (hb hby d13_0) rfl rfl ?_
    show Steps p.tables e below (s₁.setTop (mkF m 1 #[.val (.ref a0)] [(.ref a0)])) _
    refine st1 _ ?_
    show Steps p.tables e below (T1.setTop (mkF m 4 #[.val (.ref a0)] [(.long w)])) _
    exact retJ X1 hx Bd.returns (hb hby d13_4) hr
  · show Q13 Z a0 w h0 n0 _ T1.heap _
    rw [e1]
    unfold Q13
    refine ⟨rfl, N0, rfl⟩
theorem d14_0 : decode prog_5_method_11_code 0 = .ok (.aload_n 0, 1) := by decide +kernel
theorem d14_1 : decode prog_5_method_11_code 1 = .ok (.getfield 37, 3) := by decide +kernel
theorem d14_4 : decode prog_5_method_11_code 4 = .ok (.lreturn, 1) := by decide +kernel
theorem ef_14 (m : MethodId) (a0 : Addr) : entryFrame m #[(.ref a0)] 1 = mkF m 0 #[.val (.ref a0)] [] := by first | (simp [entryFrame, mkF, argsToLocals, Value.category]; done) | rfl
def Q14 (Z : State) (a0 : Addr) (w : Int64) (h0 : Heap) (n0 : Nat) (v : Option Value) (h : Heap) (L : List Loc) : Prop := v = some (.long w) ∧ Fr n0 L ∧ h = h0
set_option maxRecDepth 65536 in
set_option maxHeartbeats 40000000 in
theorem rm14 (l : Launch) (Z : State) (aw : Array Value) (hw : ∀ d ∈ tables_1, d.before aw Z = true) (wq : List Jvm.Cond) (a0 : Addr) (w : Int64) (h0 : Heap) (n0 : Nat) (Z0 : n0 ≤ h0.size) (F_a0_backgroundBlockErrors : Fld Z h0 a0 "com/example/hopchuan/hopchuan/ErrorCounter" "backgroundBlockErrors" "J" (.long w)) :
    MetFree l (⟨"com/example/hopchuan/hopchuan/ErrorCounter", "backgroundBlockErrors", "()J"⟩ : MethodName) (head1 (Jvm.Cond.code (⟨"com/example/hopchuan/hopchuan/ErrorCounter", "backgroundBlockErrors", "()J"⟩ : MethodName) prog_5_method_11_code 1 (some .long) :: wq) ({ frames := 0, cells := 0, slots := 0, locals := 0 } : Room)) (fun a U => a = #[(.ref a0)] ∧ Z.Warmed39 U.vm ∧ U.heap = h0) (fun _ _ _ _ _ => True) (fun _ U o U' => ∃ v L, o = .returned v ∧ Q14 Z a0 w h0 n0 v U'.heap L ∧ FrameEnd U o U' L ({ frames := 0, cells := 0, slots := 0, locals := 0 } : Room).cells ({ frames := 0, cells := 0, slots := 0, locals := 0 } : Room).slots) := by
  refine MetFree.of_bodySF (plainFor_of_name pn_0) hisR ?_
  intro p e s m args below meth c s₁ Bd hml0 hP hK
  obtain ⟨rfl, hZ, hh⟩ := hP
  have hx := Bd.exec
  have hby := Bd.bytes
  have hml : c.maxLocals = 1 := hml0
  have hown : s.vm.findClass "com/example/hopchuan/hopchuan/ErrorCounter" = some m.cls := findClass_of_methodNamed Bd.named
  have hnm := (name_of_methodNamed Bd.named Bd.method).1
  have X0 : Stand p l e ({ frames := 0, cells := 0, slots := 0, locals := 0 } : Room) s m #[(.ref a0)] below meth c s₁ [] 0 0 := Stand.of_body Bd
  have e0 : s₁.heap = h0 := by rw [← hh, Bd.state]; rfl
  have N0 := Fr.nil n0
  have pre0 : own_Pre p e below (s₁.setTop (entryFrame m #[(.ref a0)] 1)) (s₁.setTop (mkF m 0 #[.val (.ref a0)] [])) := fun t k => castTop (ef_14 m a0) k
  obtain ⟨T1, X1, e1, st1⟩ := getF X0 hx hZ hown (host := "") (Or.inl (hw _ (List.mem_of_getElem? (i := 81) rfl))) Via.refl e0 F_a0_backgroundBlockErrors (g := (mkF m 1 #[.val (.ref a0)] [(.ref a0)])) rfl rfl (hb hby d14_1)
  obtain ⟨fs, hr, hrun, hended, hW, hsame⟩ := X1.leave (v := some (.long w)) (fun h => by rw [Bd.returns] at h; cases h)
  refine ⟨_, _, pre0 _ ?_, hrun, hended, _, _, rfl, ?_, ⟨_, rfl⟩, hW, hsame.mono (by decide) (by decide)⟩
  · show Steps p.tables e below (s₁.setTop (mkF m 0 #[.val (.ref a0)] [])) _
    refine XS.aloadN X0.here hx rfl (hb hby d14_0) rfl rfl ?_
    show Steps p.tables e below (s₁.setTop (mkF m 1 #[.val (.ref a0)] [(.ref a0)])) _
    refine st1 _ ?_
    show Steps p.tables e below (T1.setTop (mkF m 4 #[.val (.ref a0)] [(.long w)])) _
    exact retJ X1 hx Bd.returns (hb hby d14_4) hr
  · show Q14 Z a0 w h0 n0 _ T1.heap _
    rw [e1]
    unfold Q14
    refine ⟨rfl, N0, rfl⟩
theorem d11_0 : decode prog_5_method_7_code 0 = .ok (.aload_n 0, 1) := by decide +kernel
theorem d11_1 : decode prog_5_method_7_code 1 = .ok (.getfield 20, 3) := by decide +kernel
theorem d11_4 : decode prog_5_method_7_code 4 = .ok (.aload_n 0, 1) := by decide +kernel
theorem d11_5 : decode prog_5_method_7_code 5 = .ok (.getfield 62, 3) := by decide +kernel
theorem d11_8 : decode prog_5_method_7_code 8 = .ok (.lsub, 1) := by decide +kernel
theorem d11_9 : decode prog_5_method_7_code 9 = .ok (.lreturn, 1) := by decide +kernel
theorem ef_11 (m : MethodId) (a0 : Addr) : entryFrame m #[(.ref a0)] 1 = mkF m 0 #[.val (.ref a0)] [] := by first | (simp [entryFrame, mkF, argsToLocals, Value.category]; done) | rfl
def Q11 (Z : State) (a0 : Addr) (w : Int64) (u : Int64) (h0 : Heap) (n0 : Nat) (v : Option Value) (h : Heap) (L : List Loc) : Prop := v = some (.long (w - u)) ∧ Fr n0 L ∧ h = h0
set_option maxRecDepth 65536 in
set_option maxHeartbeats 40000000 in
theorem rm11 (l : Launch) (Z : State) (aw : Array Value) (hw : ∀ d ∈ tables_1, d.before aw Z = true) (wq : List Jvm.Cond) (a0 : Addr) (w : Int64) (u : Int64) (h0 : Heap) (n0 : Nat) (Z0 : n0 ≤ h0.size) (F_a0_seconds : Fld Z h0 a0 "com/example/hopchuan/hopchuan/ErrorCounter" "seconds" "J" (.long w)) (F_a0_unavailableSeconds : Fld Z h0 a0 "com/example/hopchuan/hopchuan/ErrorCounter" "unavailableSeconds" "J" (.long u)) :
    MetFree l (⟨"com/example/hopchuan/hopchuan/ErrorCounter", "availableSeconds", "()J"⟩ : MethodName) (head1 (Jvm.Cond.code (⟨"com/example/hopchuan/hopchuan/ErrorCounter", "availableSeconds", "()J"⟩ : MethodName) prog_5_method_7_code 1 (some .long) :: wq) ({ frames := 0, cells := 0, slots := 0, locals := 0 } : Room)) (fun a U => a = #[(.ref a0)] ∧ Z.Warmed39 U.vm ∧ U.heap = h0) (fun _ _ _ _ _ => True) (fun _ U o U' => ∃ v L, o = .returned v ∧ Q11 Z a0 w u h0 n0 v U'.heap L ∧ FrameEnd U o U' L ({ frames := 0, cells := 0, slots := 0, locals := 0 } : Room).cells ({ frames := 0, cells := 0, slots := 0, locals := 0 } : Room).slots) := by
  refine MetFree.of_bodySF (plainFor_of_name pn_0) hisR ?_
  intro p e s m args below meth c s₁ Bd hml0 hP hK
  obtain ⟨rfl, hZ, hh⟩ := hP
  have hx := Bd.exec
  have hby := Bd.bytes
  have hml : c.maxLocals = 1 := hml0
  have hown : s.vm.findClass "com/example/hopchuan/hopchuan/ErrorCounter" = some m.cls := findClass_of_methodNamed Bd.named
  have hnm := (name_of_methodNamed Bd.named Bd.method).1
  have X0 : Stand p l e ({ frames := 0, cells := 0, slots := 0, locals := 0 } : Room) s m #[(.ref a0)] below meth c s₁ [] 0 0 := Stand.of_body Bd
  have e0 : s₁.heap = h0 := by rw [← hh, Bd.state]; rfl
  have N0 := Fr.nil n0
  have pre0 : own_Pre p e below (s₁.setTop (entryFrame m #[(.ref a0)] 1)) (s₁.setTop (mkF m 0 #[.val (.ref a0)] [])) := fun t k => castTop (ef_11 m a0) k
  obtain ⟨T1, X1, e1, st1⟩ := getF X0 hx hZ hown (host := "") (Or.inl (hw _ (List.mem_of_getElem? (i := 25) rfl))) Via.refl e0 F_a0_seconds (g := (mkF m 1 #[.val (.ref a0)] [(.ref a0)])) rfl rfl (hb hby d11_1)
  obtain ⟨T2, X2, e2, st2⟩ := getF X1 hx hZ hown (host := "") (Or.inl (hw _ (List.mem_of_getElem? (i := 64) rfl))) Via.refl e1 F_a0_unavailableSeconds (g := (mkF m 5 #[.val (.ref a0)] [(.ref a0), (.long w)])) rfl rfl (hb hby d11_5)
  obtain ⟨fs, hr, hrun, hended, hW, hsame⟩ := X2.leave (v := some (.long (w - u))) (fun h => by rw [Bd.returns] at h; cases h)
  refine ⟨_, _, pre0 _ ?_, hrun, hended, _, _, rfl, ?_, ⟨_, rfl⟩, hW, hsame.mono (by decide) (by decide)⟩
  · show Steps p.tables e below (s₁.setTop (mkF m 0 #[.val (.ref a0)] [])) _
    refine XS.aloadN X0.here hx rfl (hb hby d11_0) rfl rfl ?_
    show Steps p.tables e below (s₁.setTop (mkF m 1 #[.val (.ref a0)] [(.ref a0)])) _
    refine st1 _ ?_
    show Steps p.tables e below (T1.setTop (mkF m 4 #[.val (.ref a0)] [(.long w)])) _
    refine XS.aloadN X1.here hx rfl (hb hby d11_4) rfl rfl ?_
    show Steps p.tables e below (T1.setTop (mkF m 5 #[.val (.ref a0)] [(.ref a0), (.long w)])) _
    refine st2 _ ?_
    show Steps p.tables e below (T2.setTop (mkF m 8 #[.val (.ref a0)] [(.long u), (.long w)])) _
    refine XS.lsub X2.here hx rfl (hb hby d11_8) rfl ?_
    show Steps p.tables e below (T2.setTop (mkF m 9 #[.val (.ref a0)] [(.long (w - u))])) _
    exact retJ X2 hx Bd.returns (hb hby d11_9) hr
  · show Q11 Z a0 w u h0 n0 _ T2.heap _
    rw [e2]
    unfold Q11
    refine ⟨rfl, N0, rfl⟩
theorem pd_1 : parseMethodDescriptor "(JJ)J" = some ⟨[.long, .long], some .long⟩ := by decide +kernel
theorem pd_2 : parseMethodDescriptor "(JJ)V" = some ⟨[.long, .long], none⟩ := by decide +kernel
theorem pd_3 : parseMethodDescriptor "(JZ)V" = some ⟨[.long, .boolean], none⟩ := by decide +kernel
theorem pd_4 : parseMethodDescriptor "(ZJ)J" = some ⟨[.boolean, .long], some .long⟩ := by decide +kernel
theorem pd_5 : parseMethodDescriptor "(Z)J" = some ⟨[.boolean], some .long⟩ := by decide +kernel
theorem pd_6 : parseMethodDescriptor "()J" = some ⟨[], some .long⟩ := by decide +kernel
theorem ef_0 (m : MethodId) (q0 : Int64) (q1 : Int64) (q2 : Int64) (q3 : Int64) (q4 : Int64) (p5 : Int32) : entryFrame m #[(.long q0), (.long q1), (.long q2), (.long q3), (.long q4), (.int p5)] maxLocals = mkF m 0 #[.val (.long q0), .second, .val (.long q1), .second, .val (.long q2), .second, .val (.long q3), .second, .val (.long q4), .second, .val (.int p5), .unset, .unset, .unset, .unset, .unset, .unset, .unset, .unset, .unset, .unset, .unset, .unset, .unset, .unset, .unset, .unset, .unset, .unset, .unset, .unset, .unset] [] := by first | (simp [entryFrame, mkF, argsToLocals, Value.category, maxLocals]; done) | rfl
def own_m0_47_s0 (v0 : Int32) : Int32 := (if (v0 &&& (1 : Int32)) = (0 : Int32) then (0 : Int32) else (1 : Int32))
def own_m0_61_s0 (v0 : Int32) : Int32 := (if (v0 &&& (2 : Int32)) = (0 : Int32) then (0 : Int32) else (1 : Int32))
def own_m0_75_s0 (v0 : Int32) : Int32 := (if (v0 &&& (4 : Int32)) = (0 : Int32) then (0 : Int32) else (1 : Int32))
def own_m0_139_s0 (v0 : Int32) (v1 : Int64) (v2 : Int64) : Int32 := (if v0 = (0 : Int32) then (if v1 < v2 then (0 : Int32) else (1 : Int32)) else (1 : Int32))
theorem own_sev (d : Int32) (c t : Int64) : own_m0_139_s0 d c t = own_m4_28_s0 d c t := rfl
theorem own_pe1 (c t : Int64) (d : Int32) : ¬ (own_p4_pending c d t (0 : Int64) + (1 : Int64)) = (10 : Int64) := by
  unfold own_p4_pending; repeat' split
  all_goals decide
theorem own_pe2 (c c' t : Int64) (d d' : Int32) : ¬ (own_p4_pending c' d' t (own_p4_pending c d t (0 : Int64)) + (1 : Int64)) = (10 : Int64) := by
  unfold own_p4_pending; repeat' split
  all_goals decide
section OwnSums
variable (t c0 c1 c2 : Int64) (d0 d1 d2 : Int32)
theorem own_sc : own_p4_seconds c2 d2 t (own_p4_seconds c1 d1 t (own_p4_seconds c0 d0 t (0 : Int64))) = (3 : Int64) := by
  have e : ∀ (c : Int64) (d : Int32) (s : Int64), own_p4_seconds c d t s = s + 1 := fun c d s => by unfold own_p4_seconds; split <;> rfl
  rw [e, e, e]; decide
theorem own_ess (a0 a1 a2 : Int32) (h0 : own_m4_28_s0 d0 c0 t = a0) (h1 : own_m4_28_s0 d1 c1 t = a1) (h2 : own_m4_28_s0 d2 c2 t = a2) :
    own_p4_erroredSeconds c2 d2 t (own_p4_pending c1 d1 t (own_p4_pending c0 d0 t (0 : Int64))) (own_p4_erroredSeconds c1 d1 t (own_p4_pending c0 d0 t (0 : Int64)) (own_p4_erroredSeconds c0 d0 t (0 : Int64) (0 : Int64))) + own_p4_pending c2 d2 t (own_p4_pending c1 d1 t (own_p4_pending c0 d0 t (0 : Int64)))
      = own_f7 a0 c0 + own_f7 a1 c1 + own_f7 a2 c2 := by
  simp only [own_p4_erroredSeconds, own_p4_pending, own_f7, h0, h1, h2]
  by_cases q0 : a0 = 0 <;> by_cases q1 : a1 = 0 <;> by_cases q2 : a2 = 0 <;> by_cases r0 : (0 : Int64) < c0 <;> by_cases r1 : (0 : Int64) < c1 <;> by_cases r2 : (0 : Int64) < c2 <;> simp only [q0, q1, q2, r0, r1, r2, if_true, if_false] <;> decide
theorem own_sess (a0 a1 a2 : Int32) (h0 : own_m4_28_s0 d0 c0 t = a0) (h1 : own_m4_28_s0 d1 c1 t = a1) (h2 : own_m4_28_s0 d2 c2 t = a2) :
    own_p4_severelyErroredSeconds c2 d2 t (own_p4_pending c1 d1 t (own_p4_pending c0 d0 t (0 : Int64))) (own_p4_severelyErroredSeconds c1 d1 t (own_p4_pending c0 d0 t (0 : Int64)) (own_p4_severelyErroredSeconds c0 d0 t (0 : Int64) (0 : Int64))) + own_p4_pending c2 d2 t (own_p4_pending c1 d1 t (own_p4_pending c0 d0 t (0 : Int64)))
      = own_f8 a0 + own_f8 a1 + own_f8 a2 := by
  simp only [own_p4_severelyErroredSeconds, own_p4_pending, own_f8, h0, h1, h2]
  by_cases q0 : a0 = 0 <;> by_cases q1 : a1 = 0 <;> by_cases q2 : a2 = 0 <;> simp only [q0, q1, q2, if_true, if_false] <;> decide
theorem own_bbs (a0 a1 a2 : Int32) (h0 : own_m4_28_s0 d0 c0 t = a0) (h1 : own_m4_28_s0 d1 c1 t = a1) (h2 : own_m4_28_s0 d2 c2 t = a2) (n0 : ¬ c0 < 0) (n1 : ¬ c1 < 0) (n2 : ¬ c2 < 0) :
    own_p4_backgroundBlockErrors c2 d2 t (own_p4_backgroundBlockErrors c1 d1 t (own_p4_backgroundBlockErrors c0 d0 t (0 : Int64))) = own_f9 a0 c0 + own_f9 a1 c1 + own_f9 a2 c2 := by
  have z : ∀ c : Int64, ¬ c < 0 → ¬ (0 : Int64) < c → c = 0 := fun c u v => by
    apply Int64.toInt_inj.mp
    rw [Int64.lt_iff_toInt_lt] at u v
    show c.toInt = 0
    have e : (0 : Int64).toInt = 0 := rfl
    omega
  simp only [own_p4_backgroundBlockErrors, own_f9, h0, h1, h2]
  by_cases r0 : (0 : Int64) < c0
  all_goals by_cases r1 : (0 : Int64) < c1
  all_goals by_cases r2 : (0 : Int64) < c2
  all_goals (first | (have w0 := z c0 n0 r0) | skip)
  all_goals (first | (have w1 := z c1 n1 r1) | skip)
  all_goals (first | (have w2 := z c2 n2 r2) | skip)
  all_goals (by_cases q0 : a0 = 0 <;> by_cases q1 : a1 = 0 <;> by_cases q2 : a2 = 0 <;> simp_all [Int64.add_zero, Int64.zero_add])
end OwnSums
theorem own_nn (x : Int64) : ¬ (x &&& (9223372036854775807 : Int64)) < 0 := by
  have := c_maskL x 9223372036854775807 63 (by decide) (by decide)
  rw [Int64.lt_iff_toInt_lt, this]
  show ¬ _ < (0 : Int)
  omega

def Q0 (Z : State) (q0 : Int64) (q1 : Int64) (q2 : Int64) (q3 : Int64) (q4 : Int64) (p5 : Int32) (h0 : Heap) (n0 : Nat) (v : Option Value) (h : Heap) (L : List Loc) : Prop := v = some (.int (1 : Int32)) ∧ Fr n0 L
set_option maxRecDepth 65536 in
set_option maxHeartbeats 40000000 in
theorem rm0 (l : Launch) (Z : State) (aw : Array Value) (hw : ∀ d ∈ tables_1, d.before aw Z = true) (wq : List Jvm.Cond) (q0 : Int64) (q1 : Int64) (q2 : Int64) (q3 : Int64) (q4 : Int64) (p5 : Int32) (h0 : Heap) (n0 : Nat) (Z0 : n0 ≤ h0.size) :
    MetFree l x (head1 (Jvm.Cond.code x code maxLocals ret :: wq) room_1) (fun a U => a = #[(.long q0), (.long q1), (.long q2), (.long q3), (.long q4), (.int p5)] ∧ Z.Warmed39 U.vm ∧ U.heap = h0) (fun _ _ _ _ _ => True) (fun _ U o U' => ∃ v L, o = .returned v ∧ Q0 Z q0 q1 q2 q3 q4 p5 h0 n0 v U'.heap L ∧ FrameEnd U o U' L 1 13) := by
  refine MetFree.of_bodySF (plainFor_of_name pn_1) hisR ?_
  intro p e s m args below meth c s₁ Bd hml0 hP hK
  obtain ⟨rfl, hZ, hh⟩ := hP
  have hx := Bd.exec
  have hby := Bd.bytes
  have hml : c.maxLocals = 32 := hml0
  have hown : s.vm.findClass "com/example/hopchuan/hopchuan/ErrorCounterSecondPinLaw" = some m.cls := findClass_of_methodNamed Bd.named
  have hnm := (name_of_methodNamed Bd.named Bd.method).1
  have X0 : Stand p l e room_1 s m #[(.long q0), (.long q1), (.long q2), (.long q3), (.long q4), (.int p5)] below meth c s₁ [] 0 0 := Stand.of_body Bd
  have e0 : s₁.heap = h0 := by rw [← hh, Bd.state]; rfl
  have N0 := Fr.nil n0
  have pre0 : own_Pre p e below (s₁.setTop (entryFrame m #[(.long q0), (.long q1), (.long q2), (.long q3), (.long q4), (.int p5)] maxLocals)) (s₁.setTop (mkF m 0 #[.val (.long q0), .second, .val (.long q1), .second, .val (.long q2), .second, .val (.long q3), .second, .val (.long q4), .second, .val (.int p5), .unset, .unset, .unset, .unset, .unset, .unset, .unset, .unset, .unset, .unset, .unset, .unset, .unset, .unset, .unset, .unset, .unset, .unset, .unset, .unset, .unset] [])) := fun t k => castTop (ef_0 m q0 q1 q2 q3 q4 p5) k
  obtain ⟨_, _, ⟨T1, L1, k1, n1⟩, -, X1, ⟨Lc1, hQ1, l1, y1, z1⟩, st1⟩ := Jvm.LawKit.callS X0 hx (y := (⟨"java/lang/Math", "max", "(JJ)J"⟩ : MethodName)) hown (mvT hZ (hw _ (List.mem_of_getElem? (i := 1) rfl))) (mvT hZ (hw _ (List.mem_of_getElem? (i := 2) rfl))) (mvT hZ (hw _ (List.mem_of_getElem? (i := 3) rfl))) (mvT hZ (hw _ (List.mem_of_getElem? (i := 4) rfl))) (by decide) (backOf (W := 0) (rm1 l Z aw hw [] ((1 : Int64)) ((q0 &&& (9223372036854775807 : Int64))) (h0) n0 Z0) hZ (hw _ (List.mem_of_getElem? (i := 4) rfl)) (hw _ (List.mem_of_getElem? (i := 3) rfl)) (by decide) (by decide)) (g := (mkF m 6 #[.val (.long q0), .second, .val (.long q1), .second, .val (.long q2), .second, .val (.long q3), .second, .val (.long q4), .second, .val (.int p5), .unset, .unset, .unset, .unset, .unset, .unset, .unset, .unset, .unset, .unset, .unset, .unset, .unset, .unset, .unset, .unset, .unset, .unset, .unset, .unset, .unset] [(.long (q0 &&& (9223372036854775807 : Int64))), (.long (1 : Int64))])) rfl (by rw [hml]; rfl) (argsL := [(.long (1 : Int64)), (.long (q0 &&& (9223372036854775807 : Int64)))]) (rest := []) (lenOf pd_1 rfl) rfl (by show 2 * 0 + _ ≤ _; exact Nat.le_of_eq rfl) (hb hby at_6) (fun _ _ => ⟨rfl, e0, (by decide : 0 + 0 ≤ _), (by decide : 0 + 0 ≤ _)⟩)
  dsimp only [Pt.U, Pt.locs, Pt.cells, Pt.slots] at X1 l1 y1 z1 st1 hQ1
  subst l1 y1 z1
  obtain ⟨rfl, Nq1, eq1⟩ := hQ1
  have N1 := Fr.app N0 Nq1
  obtain ⟨x11_11, hx11_11, pre2⟩ : ∃ z : Int64, z = (own_f1 ((1 : Int64)) ((q0 &&& (9223372036854775807 : Int64)))) ∧ own_Pre p e below (s₁.setTop (entryFrame m #[(.long q0), (.long q1), (.long q2), (.long q3), (.long q4), (.int p5)] maxLocals)) (T1.setTop (mkF m 11 #[.val (.long q0), .second, .val (.long q1), .second, .val (.long q2), .second, .val (.long q3), .second, .val (.long q4), .second, .val (.int p5), .val (.long z), .second, .unset, .unset, .unset, .unset, .unset, .unset, .unset, .unset, .unset, .unset, .unset, .unset, .unset, .unset, .unset, .unset, .unset, .unset, .unset] [])) := ⟨_, rfl, fun t k => pre0 t (by
      show Steps p.tables e below (s₁.setTop (mkF m 0 #[.val (.long q0), .second, .val (.long q1), .second, .val (.long q2), .second, .val (.long q3), .second, .val (.long q4), .second, .val (.int p5), .unset, .unset, .unset, .unset, .unset, .unset, .unset, .unset, .unset, .unset, .unset, .unset, .unset, .unset, .unset, .unset, .unset, .unset, .unset, .unset, .unset] [])) _
      refine XS.lconst X0.here hx rfl (hb hby at_0) ?_
      show Steps p.tables e below (s₁.setTop (mkF m 1 #[.val (.long q0), .second, .val (.long q1), .second, .val (.long q2), .second, .val (.long q3), .second, .val (.long q4), .second, .val (.int p5), .unset, .unset, .unset, .unset, .unset, .unset, .unset, .unset, .unset, .unset, .unset, .unset, .unset, .unset, .unset, .unset, .unset, .unset, .unset, .unset, .unset] [(.long (1 : Int64))])) _
      refine XS.lloadN X0.here hx rfl (hb hby at_1) rfl ?_
      show Steps p.tables e below (s₁.setTop (mkF m 2 #[.val (.long q0), .second, .val (.long q1), .second, .val (.long q2), .second, .val (.long q3), .second, .val (.long q4), .second, .val (.int p5), .unset, .unset, .unset, .unset, .unset, .unset, .unset, .unset, .unset, .unset, .unset, .unset, .unset, .unset, .unset, .unset, .unset, .unset, .unset, .unset, .unset] [(.long q0), (.long (1 : Int64))])) _
      refine X0.ldc2Long hx hown (mvT hZ (hw _ (List.mem_of_getElem? (i := 0) rfl))) (g := (mkF m 2 #[.val (.long q0), .second, .val (.long q1), .second, .val (.long q2), .second, .val (.long q3), .second, .val (.long q4), .second, .val (.int p5), .unset, .unset, .unset, .unset, .unset, .unset, .unset, .unset, .unset, .unset, .unset, .unset, .unset, .unset, .unset, .unset, .unset, .unset, .unset, .unset, .unset] [(.long q0), (.long (1 : Int64))])) rfl (hb hby at_2) _ ?_
      show Steps p.tables e below (s₁.setTop (mkF m 5 #[.val (.long q0), .second, .val (.long q1), .second, .val (.long q2), .second, .val (.long q3), .second, .val (.long q4), .second, .val (.int p5), .unset, .unset, .unset, .unset, .unset, .unset, .unset, .unset, .unset, .unset, .unset, .unset, .unset, .unset, .unset, .unset, .unset, .unset, .unset, .unset, .unset] [(.long (9223372036854775807 : Int64)), (.long q0), (.long (1 : Int64))])) _
      refine XS.land X0.here hx rfl (hb hby at_5) rfl ?_
      show Steps p.tables e below (s₁.setTop (mkF m 6 #[.val (.long q0), .second, .val (.long q1), .second, .val (.long q2), .second, .val (.long q3), .second, .val (.long q4), .second, .val (.int p5), .unset, .unset, .unset, .unset, .unset, .unset, .unset, .unset, .unset, .unset, .unset, .unset, .unset, .unset, .unset, .unset, .unset, .unset, .unset, .unset, .unset] [(.long (q0 &&& (9223372036854775807 : Int64))), (.long (1 : Int64))])) _
      refine st1 _ ?_
      show Steps p.tables e below (T1.setTop (mkF m 9 #[.val (.long q0), .second, .val (.long q1), .second, .val (.long q2), .second, .val (.long q3), .second, .val (.long q4), .second, .val (.int p5), .unset, .unset, .unset, .unset, .unset, .unset, .unset, .unset, .unset, .unset, .unset, .unset, .unset, .unset, .unset, .unset, .unset, .unset, .unset, .unset, .unset] [(.long (own_f1 ((1 : Int64)) ((q0 &&& (9223372036854775807 : Int64)))))])) _
      refine XS.lstore X1.here hx rfl (hb hby at_9) rfl (l' := #[.val (.long q0), .second, .val (.long q1), .second, .val (.long q2), .second, .val (.long q3), .second, .val (.long q4), .second, .val (.int p5), .val (.long (own_f1 ((1 : Int64)) ((q0 &&& (9223372036854775807 : Int64))))), .second, .unset, .unset, .unset, .unset, .unset, .unset, .unset, .unset, .unset, .unset, .unset, .unset, .unset, .unset, .unset, .unset, .unset, .unset, .unset]) rfl ?_
      exact k)⟩
  obtain ⟨x13_19, hx13_19, pre3⟩ : ∃ z : Int64, z = (q2 &&& (9223372036854775807 : Int64)) ∧ own_Pre p e below (s₁.setTop (entryFrame m #[(.long q0), (.long q1), (.long q2), (.long q3), (.long q4), (.int p5)] maxLocals)) (T1.setTop (mkF m 19 #[.val (.long q0), .second, .val (.long q1), .second, .val (.long q2), .second, .val (.long q3), .second, .val (.long q4), .second, .val (.int p5), .val (.long x11_11), .second, .val (.long z), .second, .unset, .unset, .unset, .unset, .unset, .unset, .unset, .unset, .unset, .unset, .unset, .unset, .unset, .unset, .unset, .unset, .unset] [])) := ⟨_, rfl, fun t k => pre2 t (by
      show Steps p.tables e below (T1.setTop (mkF m 11 #[.val (.long q0), .second, .val (.long q1), .second, .val (.long q2), .second, .val (.long q3), .second, .val (.long q4), .second, .val (.int p5), .val (.long x11_11), .second, .unset, .unset, .unset, .unset, .unset, .unset, .unset, .unset, .unset, .unset, .unset, .unset, .unset, .unset, .unset, .unset, .unset, .unset, .unset] [])) _
      refine XS.lload X1.here hx rfl (hb hby at_11) rfl ?_
      show Steps p.tables e below (T1.setTop (mkF m 13 #[.val (.long q0), .second, .val (.long q1), .second, .val (.long q2), .second, .val (.long q3), .second, .val (.long q4), .second, .val (.int p5), .val (.long x11_11), .second, .unset, .unset, .unset, .unset, .unset, .unset, .unset, .unset, .unset, .unset, .unset, .unset, .unset, .unset, .unset, .unset, .unset, .unset, .unset] [(.long q2)])) _
      refine X1.ldc2Long hx hown (mvT hZ (hw _ (List.mem_of_getElem? (i := 0) rfl))) (g := (mkF m 13 #[.val (.long q0), .second, .val (.long q1), .second, .val (.long q2), .second, .val (.long q3), .second, .val (.long q4), .second, .val (.int p5), .val (.long x11_11), .second, .unset, .unset, .unset, .unset, .unset, .unset, .unset, .unset, .unset, .unset, .unset, .unset, .unset, .unset, .unset, .unset, .unset, .unset, .unset] [(.long q2)])) rfl (hb hby at_13) _ ?_
      show Steps p.tables e below (T1.setTop (mkF m 16 #[.val (.long q0), .second, .val (.long q1), .second, .val (.long q2), .second, .val (.long q3), .second, .val (.long q4), .second, .val (.int p5), .val (.long x11_11), .second, .unset, .unset, .unset, .unset, .unset, .unset, .unset, .unset, .unset, .unset, .unset, .unset, .unset, .unset, .unset, .unset, .unset, .unset, .unset] [(.long (9223372036854775807 : Int64)), (.long q2)])) _
      refine XS.land X1.here hx rfl (hb hby at_16) rfl ?_
      show Steps p.tables e below (T1.setTop (mkF m 17 #[.val (.long q0), .second, .val (.long q1), .second, .val (.long q2), .second, .val (.long q3), .second, .val (.long q4), .second, .val (.int p5), .val (.long x11_11), .second, .unset, .unset, .unset, .unset, .unset, .unset, .unset, .unset, .unset, .unset, .unset, .unset, .unset, .unset, .unset, .unset, .unset, .unset, .unset] [(.long (q2 &&& (9223372036854775807 : Int64)))])) _
      refine XS.lstore X1.here hx rfl (hb hby at_17) rfl (l' := #[.val (.long q0), .second, .val (.long q1), .second, .val (.long q2), .second, .val (.long q3), .second, .val (.long q4), .second, .val (.int p5), .val (.long x11_11), .second, .val (.long (q2 &&& (9223372036854775807 : Int64))), .second, .unset, .unset, .unset, .unset, .unset, .unset, .unset, .unset, .unset, .unset, .unset, .unset, .unset, .unset, .unset, .unset, .unset]) rfl ?_
      exact k)⟩
  obtain ⟨x15_27, hx15_27, pre4⟩ : ∃ z : Int64, z = (q3 &&& (9223372036854775807 : Int64)) ∧ own_Pre p e below (s₁.setTop (entryFrame m #[(.long q0), (.long q1), (.long q2), (.long q3), (.long q4), (.int p5)] maxLocals)) (T1.setTop (mkF m 27 #[.val (.long q0), .second, .val (.long q1), .second, .val (.long q2), .second, .val (.long q3), .second, .val (.long q4), .second, .val (.int p5), .val (.long x11_11), .second, .val (.long x13_19), .second, .val (.long z), .second, .unset, .unset, .unset, .unset, .unset, .unset, .unset, .unset, .unset, .unset, .unset, .unset, .unset, .unset, .unset] [])) := ⟨_, rfl, fun t k => pre3 t (by
      show Steps p.tables e below (T1.setTop (mkF m 19 #[.val (.long q0), .second, .val (.long q1), .second, .val (.long q2), .second, .val (.long q3), .second, .val (.long q4), .second, .val (.int p5), .val (.long x11_11), .second, .val (.long x13_19), .second, .unset, .unset, .unset, .unset, .unset, .unset, .unset, .unset, .unset, .unset, .unset, .unset, .unset, .unset, .unset, .unset, .unset] [])) _
      refine XS.lload X1.here hx rfl (hb hby at_19) rfl ?_
      show Steps p.tables e below (T1.setTop (mkF m 21 #[.val (.long q0), .second, .val (.long q1), .second, .val (.long q2), .second, .val (.long q3), .second, .val (.long q4), .second, .val (.int p5), .val (.long x11_11), .second, .val (.long x13_19), .second, .unset, .unset, .unset, .unset, .unset, .unset, .unset, .unset, .unset, .unset, .unset, .unset, .unset, .unset, .unset, .unset, .unset] [(.long q3)])) _
      refine X1.ldc2Long hx hown (mvT hZ (hw _ (List.mem_of_getElem? (i := 0) rfl))) (g := (mkF m 21 #[.val (.long q0), .second, .val (.long q1), .second, .val (.long q2), .second, .val (.long q3), .second, .val (.long q4), .second, .val (.int p5), .val (.long x11_11), .second, .val (.long x13_19), .second, .unset, .unset, .unset, .unset, .unset, .unset, .unset, .unset, .unset, .unset, .unset, .unset, .unset, .unset, .unset, .unset, .unset] [(.long q3)])) rfl (hb hby at_21) _ ?_
      show Steps p.tables e below (T1.setTop (mkF m 24 #[.val (.long q0), .second, .val (.long q1), .second, .val (.long q2), .second, .val (.long q3), .second, .val (.long q4), .second, .val (.int p5), .val (.long x11_11), .second, .val (.long x13_19), .second, .unset, .unset, .unset, .unset, .unset, .unset, .unset, .unset, .unset, .unset, .unset, .unset, .unset, .unset, .unset, .unset, .unset] [(.long (9223372036854775807 : Int64)), (.long q3)])) _
      refine XS.land X1.here hx rfl (hb hby at_24) rfl ?_
      show Steps p.tables e below (T1.setTop (mkF m 25 #[.val (.long q0), .second, .val (.long q1), .second, .val (.long q2), .second, .val (.long q3), .second, .val (.long q4), .second, .val (.int p5), .val (.long x11_11), .second, .val (.long x13_19), .second, .unset, .unset, .unset, .unset, .unset, .unset, .unset, .unset, .unset, .unset, .unset, .unset, .unset, .unset, .unset, .unset, .unset] [(.long (q3 &&& (9223372036854775807 : Int64)))])) _
      refine XS.lstore X1.here hx rfl (hb hby at_25) rfl (l' := #[.val (.long q0), .second, .val (.long q1), .second, .val (.long q2), .second, .val (.long q3), .second, .val (.long q4), .second, .val (.int p5), .val (.long x11_11), .second, .val (.long x13_19), .second, .val (.long (q3 &&& (9223372036854775807 : Int64))), .second, .unset, .unset, .unset, .unset, .unset, .unset, .unset, .unset, .unset, .unset, .unset, .unset, .unset, .unset, .unset]) rfl ?_
      exact k)⟩
  obtain ⟨x17_35, hx17_35, pre5⟩ : ∃ z : Int64, z = (q4 &&& (9223372036854775807 : Int64)) ∧ own_Pre p e below (s₁.setTop (entryFrame m #[(.long q0), (.long q1), (.long q2), (.long q3), (.long q4), (.int p5)] maxLocals)) (T1.setTop (mkF m 35 #[.val (.long q0), .second, .val (.long q1), .second, .val (.long q2), .second, .val (.long q3), .second, .val (.long q4), .second, .val (.int p5), .val (.long x11_11), .second, .val (.long x13_19), .second, .val (.long x15_27), .second, .val (.long z), .second, .unset, .unset, .unset, .unset, .unset, .unset, .unset, .unset, .unset, .unset, .unset, .unset, .unset] [])) := ⟨_, rfl, fun t k => pre4 t (by
      show Steps p.tables e below (T1.setTop (mkF m 27 #[.val (.long q0), .second, .val (.long q1), .second, .val (.long q2), .second, .val (.long q3), .second, .val (.long q4), .second, .val (.int p5), .val (.long x11_11), .second, .val (.long x13_19), .second, .val (.long x15_27), .second, .unset, .unset, .unset, .unset, .unset, .unset, .unset, .unset, .unset, .unset, .unset, .unset, .unset, .unset, .unset] [])) _
      refine XS.lload X1.here hx rfl (hb hby at_27) rfl ?_
      show Steps p.tables e below (T1.setTop (mkF m 29 #[.val (.long q0), .second, .val (.long q1), .second, .val (.long q2), .second, .val (.long q3), .second, .val (.long q4), .second, .val (.int p5), .val (.long x11_11), .second, .val (.long x13_19), .second, .val (.long x15_27), .second, .unset, .unset, .unset, .unset, .unset, .unset, .unset, .unset, .unset, .unset, .unset, .unset, .unset, .unset, .unset] [(.long q4)])) _
      refine X1.ldc2Long hx hown (mvT hZ (hw _ (List.mem_of_getElem? (i := 0) rfl))) (g := (mkF m 29 #[.val (.long q0), .second, .val (.long q1), .second, .val (.long q2), .second, .val (.long q3), .second, .val (.long q4), .second, .val (.int p5), .val (.long x11_11), .second, .val (.long x13_19), .second, .val (.long x15_27), .second, .unset, .unset, .unset, .unset, .unset, .unset, .unset, .unset, .unset, .unset, .unset, .unset, .unset, .unset, .unset] [(.long q4)])) rfl (hb hby at_29) _ ?_
      show Steps p.tables e below (T1.setTop (mkF m 32 #[.val (.long q0), .second, .val (.long q1), .second, .val (.long q2), .second, .val (.long q3), .second, .val (.long q4), .second, .val (.int p5), .val (.long x11_11), .second, .val (.long x13_19), .second, .val (.long x15_27), .second, .unset, .unset, .unset, .unset, .unset, .unset, .unset, .unset, .unset, .unset, .unset, .unset, .unset, .unset, .unset] [(.long (9223372036854775807 : Int64)), (.long q4)])) _
      refine XS.land X1.here hx rfl (hb hby at_32) rfl ?_
      show Steps p.tables e below (T1.setTop (mkF m 33 #[.val (.long q0), .second, .val (.long q1), .second, .val (.long q2), .second, .val (.long q3), .second, .val (.long q4), .second, .val (.int p5), .val (.long x11_11), .second, .val (.long x13_19), .second, .val (.long x15_27), .second, .unset, .unset, .unset, .unset, .unset, .unset, .unset, .unset, .unset, .unset, .unset, .unset, .unset, .unset, .unset] [(.long (q4 &&& (9223372036854775807 : Int64)))])) _
      refine XS.lstore X1.here hx rfl (hb hby at_33) rfl (l' := #[.val (.long q0), .second, .val (.long q1), .second, .val (.long q2), .second, .val (.long q3), .second, .val (.long q4), .second, .val (.int p5), .val (.long x11_11), .second, .val (.long x13_19), .second, .val (.long x15_27), .second, .val (.long (q4 &&& (9223372036854775807 : Int64))), .second, .unset, .unset, .unset, .unset, .unset, .unset, .unset, .unset, .unset, .unset, .unset, .unset, .unset]) rfl ?_
      exact k)⟩
  have pre8 : own_Pre p e below (s₁.setTop (entryFrame m #[(.long q0), (.long q1), (.long q2), (.long q3), (.long q4), (.int p5)] maxLocals)) (T1.setTop (mkF m 39 #[.val (.long q0), .second, .val (.long q1), .second, .val (.long q2), .second, .val (.long q3), .second, .val (.long q4), .second, .val (.int p5), .val (.long x11_11), .second, .val (.long x13_19), .second, .val (.long x15_27), .second, .val (.long x17_35), .second, .unset, .unset, .unset, .unset, .unset, .unset, .unset, .unset, .unset, .unset, .unset, .unset, .unset] [(.int (p5 &&& (1 : Int32)))])) := fun t k => pre5 t (by
      show Steps p.tables e below (T1.setTop (mkF m 35 #[.val (.long q0), .second, .val (.long q1), .second, .val (.long q2), .second, .val (.long q3), .second, .val (.long q4), .second, .val (.int p5), .val (.long x11_11), .second, .val (.long x13_19), .second, .val (.long x15_27), .second, .val (.long x17_35), .second, .unset, .unset, .unset, .unset, .unset, .unset, .unset, .unset, .unset, .unset, .unset, .unset, .unset] [])) _
      refine XS.iload X1.here hx rfl (hb hby at_35) rfl ?_
      show Steps p.tables e below (T1.setTop (mkF m 37 #[.val (.long q0), .second, .val (.long q1), .second, .val (.long q2), .second, .val (.long q3), .second, .val (.long q4), .second, .val (.int p5), .val (.long x11_11), .second, .val (.long x13_19), .second, .val (.long x15_27), .second, .val (.long x17_35), .second, .unset, .unset, .unset, .unset, .unset, .unset, .unset, .unset, .unset, .unset, .unset, .unset, .unset] [(.int p5)])) _
      refine XS.iconst X1.here hx rfl (hb hby at_37) ?_
      show Steps p.tables e below (T1.setTop (mkF m 38 #[.val (.long q0), .second, .val (.long q1), .second, .val (.long q2), .second, .val (.long q3), .second, .val (.long q4), .second, .val (.int p5), .val (.long x11_11), .second, .val (.long x13_19), .second, .val (.long x15_27), .second, .val (.long x17_35), .second, .unset, .unset, .unset, .unset, .unset, .unset, .unset, .unset, .unset, .unset, .unset, .unset, .unset] [(.int (1 : Int32)), (.int p5)])) _
      refine XS.iand X1.here hx rfl (hb hby at_38) rfl ?_
      exact k)
  obtain ⟨m47_s0, hm47_s0, pre7⟩ : ∃ (m47_s0 : Int32), m47_s0 = (own_m0_47_s0 p5) ∧ own_Pre p e below (s₁.setTop (entryFrame m #[(.long q0), (.long q1), (.long q2), (.long q3), (.long q4), (.int p5)] maxLocals)) (T1.setTop (mkF m 47 #[.val (.long q0), .second, .val (.long q1), .second, .val (.long q2), .second, .val (.long q3), .second, .val (.long q4), .second, .val (.int p5), .val (.long x11_11), .second, .val (.long x13_19), .second, .val (.long x15_27), .second, .val (.long x17_35), .second, .unset, .unset, .unset, .unset, .unset, .unset, .unset, .unset, .unset, .unset, .unset, .unset, .unset] [(.int m47_s0)])) := by
    by_cases hc39 : (p5 &&& (1 : Int32)) = (0 : Int32)
    · have pre9 : own_Pre p e below (s₁.setTop (entryFrame m #[(.long q0), (.long q1), (.long q2), (.long q3), (.long q4), (.int p5)] maxLocals)) (T1.setTop (mkF m 47 #[.val (.long q0), .second, .val (.long q1), .second, .val (.long q2), .second, .val (.long q3), .second, .val (.long q4), .second, .val (.int p5), .val (.long x11_11), .second, .val (.long x13_19), .second, .val (.long x15_27), .second, .val (.long x17_35), .second, .unset, .unset, .unset, .unset, .unset, .unset, .unset, .unset, .unset, .unset, .unset, .unset, .unset] [(.int (0 : Int32))])) := fun t k => pre8 t (by
          show Steps p.tables e below (T1.setTop (mkF m 39 #[.val (.long q0), .second, .val (.long q1), .second, .val (.long q2), .second, .val (.long q3), .second, .val (.long q4), .second, .val (.int p5), .val (.long x11_11), .second, .val (.long x13_19), .second, .val (.long x15_27), .second, .val (.long x17_35), .second, .unset, .unset, .unset, .unset, .unset, .unset, .unset, .unset, .unset, .unset, .unset, .unset, .unset] [(.int (p5 &&& (1 : Int32)))])) _
          refine XS.ifYes X1.here hx rfl (pc0 := 39) (pc' := 46) rfl (hb hby at_39) rfl ((if0 _ _).trans (teq hc39).1) (by decide) (by decide) ?_
          show Steps p.tables e below (T1.setTop (mkF m 46 #[.val (.long q0), .second, .val (.long q1), .second, .val (.long q2), .second, .val (.long q3), .second, .val (.long q4), .second, .val (.int p5), .val (.long x11_11), .second, .val (.long x13_19), .second, .val (.long x15_27), .second, .val (.long x17_35), .second, .unset, .unset, .unset, .unset, .unset, .unset, .unset, .unset, .unset, .unset, .unset, .unset, .unset] [])) _
          refine XS.iconst X1.here hx rfl (hb hby at_46) ?_
          exact k)
      refine ⟨_, ?_, pre9⟩
      all_goals (first | (simp only [own_m0_47_s0, if_pos hc39]; done) | (simp [own_m0_47_s0, if_pos hc39]; done))
    · have pre10 : own_Pre p e below (s₁.setTop (entryFrame m #[(.long q0), (.long q1), (.long q2), (.long q3), (.long q4), (.int p5)] maxLocals)) (T1.setTop (mkF m 47 #[.val (.long q0), .second, .val (.long q1), .second, .val (.long q2), .second, .val (.long q3), .second, .val (.long q4), .second, .val (.int p5), .val (.long x11_11), .second, .val (.long x13_19), .second, .val (.long x15_27), .second, .val (.long x17_35), .second, .unset, .unset, .unset, .unset, .unset, .unset, .unset, .unset, .unset, .unset, .unset, .unset, .unset] [(.int (1 : Int32))])) := fun t k => pre8 t (by
          show Steps p.tables e below (T1.setTop (mkF m 39 #[.val (.long q0), .second, .val (.long q1), .second, .val (.long q2), .second, .val (.long q3), .second, .val (.long q4), .second, .val (.int p5), .val (.long x11_11), .second, .val (.long x13_19), .second, .val (.long x15_27), .second, .val (.long x17_35), .second, .unset, .unset, .unset, .unset, .unset, .unset, .unset, .unset, .unset, .unset, .unset, .unset, .unset] [(.int (p5 &&& (1 : Int32)))])) _
          refine XS.ifNo X1.here hx rfl (hb hby at_39) rfl ((if0 _ _).trans (feq hc39).1) ?_
          show Steps p.tables e below (T1.setTop (mkF m 42 #[.val (.long q0), .second, .val (.long q1), .second, .val (.long q2), .second, .val (.long q3), .second, .val (.long q4), .second, .val (.int p5), .val (.long x11_11), .second, .val (.long x13_19), .second, .val (.long x15_27), .second, .val (.long x17_35), .second, .unset, .unset, .unset, .unset, .unset, .unset, .unset, .unset, .unset, .unset, .unset, .unset, .unset] [])) _
          refine XS.iconst X1.here hx rfl (hb hby at_42) ?_
          show Steps p.tables e below (T1.setTop (mkF m 43 #[.val (.long q0), .second, .val (.long q1), .second, .val (.long q2), .second, .val (.long q3), .second, .val (.long q4), .second, .val (.int p5), .val (.long x11_11), .second, .val (.long x13_19), .second, .val (.long x15_27), .second, .val (.long x17_35), .second, .unset, .unset, .unset, .unset, .unset, .unset, .unset, .unset, .unset, .unset, .unset, .unset, .unset] [(.int (1 : Int32))])) _
          refine XS.goto X1.here hx rfl (pc0 := 43) (pc' := 47) rfl (hb hby at_43) (by decide) (by decide) ?_
          exact k)
      refine ⟨_, ?_, pre10⟩
      all_goals (first | (simp only [own_m0_47_s0, if_neg hc39]; done) | (simp [own_m0_47_s0, if_neg hc39]; done))
  have pre13 : own_Pre p e below (s₁.setTop (entryFrame m #[(.long q0), (.long q1), (.long q2), (.long q3), (.long q4), (.int p5)] maxLocals)) (T1.setTop (mkF m 53 #[.val (.long q0), .second, .val (.long q1), .second, .val (.long q2), .second, .val (.long q3), .second, .val (.long q4), .second, .val (.int p5), .val (.long x11_11), .second, .val (.long x13_19), .second, .val (.long x15_27), .second, .val (.long x17_35), .second, .val (.int m47_s0), .unset, .unset, .unset, .unset, .unset, .unset, .unset, .unset, .unset, .unset, .unset, .unset] [(.int (p5 &&& (2 : Int32)))])) := fun t k => pre7 t (by
      show Steps p.tables e below (T1.setTop (mkF m 47 #[.val (.long q0), .second, .val (.long q1), .second, .val (.long q2), .second, .val (.long q3), .second, .val (.long q4), .second, .val (.int p5), .val (.long x11_11), .second, .val (.long x13_19), .second, .val (.long x15_27), .second, .val (.long x17_35), .second, .unset, .unset, .unset, .unset, .unset, .unset, .unset, .unset, .unset, .unset, .unset, .unset, .unset] [(.int m47_s0)])) _
      refine XS.istore X1.here hx rfl (hb hby at_47) rfl (l' := #[.val (.long q0), .second, .val (.long q1), .second, .val (.long q2), .second, .val (.long q3), .second, .val (.long q4), .second, .val (.int p5), .val (.long x11_11), .second, .val (.long x13_19), .second, .val (.long x15_27), .second, .val (.long x17_35), .second, .val (.int m47_s0), .unset, .unset, .unset, .unset, .unset, .unset, .unset, .unset, .unset, .unset, .unset, .unset]) rfl ?_
      show Steps p.tables e below (T1.setTop (mkF m 49 #[.val (.long q0), .second, .val (.long q1), .second, .val (.long q2), .second, .val (.long q3), .second, .val (.long q4), .second, .val (.int p5), .val (.long x11_11), .second, .val (.long x13_19), .second, .val (.long x15_27), .second, .val (.long x17_35), .second, .val (.int m47_s0), .unset, .unset, .unset, .unset, .unset, .unset, .unset, .unset, .unset, .unset, .unset, .unset] [])) _
      refine XS.iload X1.here hx rfl (hb hby at_49) rfl ?_
      show Steps p.tables e below (T1.setTop (mkF m 51 #[.val (.long q0), .second, .val (.long q1), .second, .val (.long q2), .second, .val (.long q3), .second, .val (.long q4), .second, .val (.int p5), .val (.long x11_11), .second, .val (.long x13_19), .second, .val (.long x15_27), .second, .val (.long x17_35), .second, .val (.int m47_s0), .unset, .unset, .unset, .unset, .unset, .unset, .unset, .unset, .unset, .unset, .unset, .unset] [(.int p5)])) _
      refine XS.iconst X1.here hx rfl (hb hby at_51) ?_
      show Steps p.tables e below (T1.setTop (mkF m 52 #[.val (.long q0), .second, .val (.long q1), .second, .val (.long q2), .second, .val (.long q3), .second, .val (.long q4), .second, .val (.int p5), .val (.long x11_11), .second, .val (.long x13_19), .second, .val (.long x15_27), .second, .val (.long x17_35), .second, .val (.int m47_s0), .unset, .unset, .unset, .unset, .unset, .unset, .unset, .unset, .unset, .unset, .unset, .unset] [(.int (2 : Int32)), (.int p5)])) _
      refine XS.iand X1.here hx rfl (hb hby at_52) rfl ?_
      exact k)
  obtain ⟨m61_s0, hm61_s0, pre12⟩ : ∃ (m61_s0 : Int32), m61_s0 = (own_m0_61_s0 p5) ∧ own_Pre p e below (s₁.setTop (entryFrame m #[(.long q0), (.long q1), (.long q2), (.long q3), (.long q4), (.int p5)] maxLocals)) (T1.setTop (mkF m 61 #[.val (.long q0), .second, .val (.long q1), .second, .val (.long q2), .second, .val (.long q3), .second, .val (.long q4), .second, .val (.int p5), .val (.long x11_11), .second, .val (.long x13_19), .second, .val (.long x15_27), .second, .val (.long x17_35), .second, .val (.int m47_s0), .unset, .unset, .unset, .unset, .unset, .unset, .unset, .unset, .unset, .unset, .unset, .unset] [(.int m61_s0)])) := by
    by_cases hc53 : (p5 &&& (2 : Int32)) = (0 : Int32)
    · have pre14 : own_Pre p e below (s₁.setTop (entryFrame m #[(.long q0), (.long q1), (.long q2), (.long q3), (.long q4), (.int p5)] maxLocals)) (T1.setTop (mkF m 61 #[.val (.long q0), .second, .val (.long q1), .second, .val (.long q2), .second, .val (.long q3), .second, .val (.long q4), .second, .val (.int p5), .val (.long x11_11), .second, .val (.long x13_19), .second, .val (.long x15_27), .second, .val (.long x17_35), .second, .val (.int m47_s0), .unset, .unset, .unset, .unset, .unset, .unset, .unset, .unset, .unset, .unset, .unset, .unset] [(.int (0 : Int32))])) := fun t k => pre13 t (by
          show Steps p.tables e below (T1.setTop (mkF m 53 #[.val (.long q0), .second, .val (.long q1), .second, .val (.long q2), .second, .val (.long q3), .second, .val (.long q4), .second, .val (.int p5), .val (.long x11_11), .second, .val (.long x13_19), .second, .val (.long x15_27), .second, .val (.long x17_35), .second, .val (.int m47_s0), .unset, .unset, .unset, .unset, .unset, .unset, .unset, .unset, .unset, .unset, .unset, .unset] [(.int (p5 &&& (2 : Int32)))])) _
          refine XS.ifYes X1.here hx rfl (pc0 := 53) (pc' := 60) rfl (hb hby at_53) rfl ((if0 _ _).trans (teq hc53).1) (by decide) (by decide) ?_
          show Steps p.tables e below (T1.setTop (mkF m 60 #[.val (.long q0), .second, .val (.long q1), .second, .val (.long q2), .second, .val (.long q3), .second, .val (.long q4), .second, .val (.int p5), .val (.long x11_11), .second, .val (.long x13_19), .second, .val (.long x15_27), .second, .val (.long x17_35), .second, .val (.int m47_s0), .unset, .unset, .unset, .unset, .unset, .unset, .unset, .unset, .unset, .unset, .unset, .unset] [])) _
          refine XS.iconst X1.here hx rfl (hb hby at_60) ?_
          exact k)
      refine ⟨_, ?_, pre14⟩
      all_goals (first | (simp only [own_m0_61_s0, if_pos hc53]; done) | (simp [own_m0_61_s0, if_pos hc53]; done))
    · have pre15 : own_Pre p e below (s₁.setTop (entryFrame m #[(.long q0), (.long q1), (.long q2), (.long q3), (.long q4), (.int p5)] maxLocals)) (T1.setTop (mkF m 61 #[.val (.long q0), .second, .val (.long q1), .second, .val (.long q2), .second, .val (.long q3), .second, .val (.long q4), .second, .val (.int p5), .val (.long x11_11), .second, .val (.long x13_19), .second, .val (.long x15_27), .second, .val (.long x17_35), .second, .val (.int m47_s0), .unset, .unset, .unset, .unset, .unset, .unset, .unset, .unset, .unset, .unset, .unset, .unset] [(.int (1 : Int32))])) := fun t k => pre13 t (by
          show Steps p.tables e below (T1.setTop (mkF m 53 #[.val (.long q0), .second, .val (.long q1), .second, .val (.long q2), .second, .val (.long q3), .second, .val (.long q4), .second, .val (.int p5), .val (.long x11_11), .second, .val (.long x13_19), .second, .val (.long x15_27), .second, .val (.long x17_35), .second, .val (.int m47_s0), .unset, .unset, .unset, .unset, .unset, .unset, .unset, .unset, .unset, .unset, .unset, .unset] [(.int (p5 &&& (2 : Int32)))])) _
          refine XS.ifNo X1.here hx rfl (hb hby at_53) rfl ((if0 _ _).trans (feq hc53).1) ?_
          show Steps p.tables e below (T1.setTop (mkF m 56 #[.val (.long q0), .second, .val (.long q1), .second, .val (.long q2), .second, .val (.long q3), .second, .val (.long q4), .second, .val (.int p5), .val (.long x11_11), .second, .val (.long x13_19), .second, .val (.long x15_27), .second, .val (.long x17_35), .second, .val (.int m47_s0), .unset, .unset, .unset, .unset, .unset, .unset, .unset, .unset, .unset, .unset, .unset, .unset] [])) _
          refine XS.iconst X1.here hx rfl (hb hby at_56) ?_
          show Steps p.tables e below (T1.setTop (mkF m 57 #[.val (.long q0), .second, .val (.long q1), .second, .val (.long q2), .second, .val (.long q3), .second, .val (.long q4), .second, .val (.int p5), .val (.long x11_11), .second, .val (.long x13_19), .second, .val (.long x15_27), .second, .val (.long x17_35), .second, .val (.int m47_s0), .unset, .unset, .unset, .unset, .unset, .unset, .unset, .unset, .unset, .unset, .unset, .unset] [(.int (1 : Int32))])) _
          refine XS.goto X1.here hx rfl (pc0 := 57) (pc' := 61) rfl (hb hby at_57) (by decide) (by decide) ?_
          exact k)
      refine ⟨_, ?_, pre15⟩
      all_goals (first | (simp only [own_m0_61_s0, if_neg hc53]; done) | (simp [own_m0_61_s0, if_neg hc53]; done))
  have pre18 : own_Pre p e below (s₁.setTop (entryFrame m #[(.long q0), (.long q1), (.long q2), (.long q3), (.long q4), (.int p5)] maxLocals)) (T1.setTop (mkF m 67 #[.val (.long q0), .second, .val (.long q1), .second, .val (.long q2), .second, .val (.long q3), .second, .val (.long q4), .second, .val (.int p5), .val (.long x11_11), .second, .val (.long x13_19), .second, .val (.long x15_27), .second, .val (.long x17_35), .second, .val (.int m47_s0), .val (.int m61_s0), .unset, .unset, .unset, .unset, .unset, .unset, .unset, .unset, .unset, .unset, .unset] [(.int (p5 &&& (4 : Int32)))])) := fun t k => pre12 t (by
      show Steps p.tables e below (T1.setTop (mkF m 61 #[.val (.long q0), .second, .val (.long q1), .second, .val (.long q2), .second, .val (.long q3), .second, .val (.long q4), .second, .val (.int p5), .val (.long x11_11), .second, .val (.long x13_19), .second, .val (.long x15_27), .second, .val (.long x17_35), .second, .val (.int m47_s0), .unset, .unset, .unset, .unset, .unset, .unset, .unset, .unset, .unset, .unset, .unset, .unset] [(.int m61_s0)])) _
      refine XS.istore X1.here hx rfl (hb hby at_61) rfl (l' := #[.val (.long q0), .second, .val (.long q1), .second, .val (.long q2), .second, .val (.long q3), .second, .val (.long q4), .second, .val (.int p5), .val (.long x11_11), .second, .val (.long x13_19), .second, .val (.long x15_27), .second, .val (.long x17_35), .second, .val (.int m47_s0), .val (.int m61_s0), .unset, .unset, .unset, .unset, .unset, .unset, .unset, .unset, .unset, .unset, .unset]) rfl ?_
      show Steps p.tables e below (T1.setTop (mkF m 63 #[.val (.long q0), .second, .val (.long q1), .second, .val (.long q2), .second, .val (.long q3), .second, .val (.long q4), .second, .val (.int p5), .val (.long x11_11), .second, .val (.long x13_19), .second, .val (.long x15_27), .second, .val (.long x17_35), .second, .val (.int m47_s0), .val (.int m61_s0), .unset, .unset, .unset, .unset, .unset, .unset, .unset, .unset, .unset, .unset, .unset] [])) _
      refine XS.iload X1.here hx rfl (hb hby at_63) rfl ?_
      show Steps p.tables e below (T1.setTop (mkF m 65 #[.val (.long q0), .second, .val (.long q1), .second, .val (.long q2), .second, .val (.long q3), .second, .val (.long q4), .second, .val (.int p5), .val (.long x11_11), .second, .val (.long x13_19), .second, .val (.long x15_27), .second, .val (.long x17_35), .second, .val (.int m47_s0), .val (.int m61_s0), .unset, .unset, .unset, .unset, .unset, .unset, .unset, .unset, .unset, .unset, .unset] [(.int p5)])) _
      refine XS.iconst X1.here hx rfl (hb hby at_65) ?_
      show Steps p.tables e below (T1.setTop (mkF m 66 #[.val (.long q0), .second, .val (.long q1), .second, .val (.long q2), .second, .val (.long q3), .second, .val (.long q4), .second, .val (.int p5), .val (.long x11_11), .second, .val (.long x13_19), .second, .val (.long x15_27), .second, .val (.long x17_35), .second, .val (.int m47_s0), .val (.int m61_s0), .unset, .unset, .unset, .unset, .unset, .unset, .unset, .unset, .unset, .unset, .unset] [(.int (4 : Int32)), (.int p5)])) _
      refine XS.iand X1.here hx rfl (hb hby at_66) rfl ?_
      exact k)
  obtain ⟨m75_s0, hm75_s0, pre17⟩ : ∃ (m75_s0 : Int32), m75_s0 = (own_m0_75_s0 p5) ∧ own_Pre p e below (s₁.setTop (entryFrame m #[(.long q0), (.long q1), (.long q2), (.long q3), (.long q4), (.int p5)] maxLocals)) (T1.setTop (mkF m 75 #[.val (.long q0), .second, .val (.long q1), .second, .val (.long q2), .second, .val (.long q3), .second, .val (.long q4), .second, .val (.int p5), .val (.long x11_11), .second, .val (.long x13_19), .second, .val (.long x15_27), .second, .val (.long x17_35), .second, .val (.int m47_s0), .val (.int m61_s0), .unset, .unset, .unset, .unset, .unset, .unset, .unset, .unset, .unset, .unset, .unset] [(.int m75_s0)])) := by
    by_cases hc67 : (p5 &&& (4 : Int32)) = (0 : Int32)
    · have pre19 : own_Pre p e below (s₁.setTop (entryFrame m #[(.long q0), (.long q1), (.long q2), (.long q3), (.long q4), (.int p5)] maxLocals)) (T1.setTop (mkF m 75 #[.val (.long q0), .second, .val (.long q1), .second, .val (.long q2), .second, .val (.long q3), .second, .val (.long q4), .second, .val (.int p5), .val (.long x11_11), .second, .val (.long x13_19), .second, .val (.long x15_27), .second, .val (.long x17_35), .second, .val (.int m47_s0), .val (.int m61_s0), .unset, .unset, .unset, .unset, .unset, .unset, .unset, .unset, .unset, .unset, .unset] [(.int (0 : Int32))])) := fun t k => pre18 t (by
          show Steps p.tables e below (T1.setTop (mkF m 67 #[.val (.long q0), .second, .val (.long q1), .second, .val (.long q2), .second, .val (.long q3), .second, .val (.long q4), .second, .val (.int p5), .val (.long x11_11), .second, .val (.long x13_19), .second, .val (.long x15_27), .second, .val (.long x17_35), .second, .val (.int m47_s0), .val (.int m61_s0), .unset, .unset, .unset, .unset, .unset, .unset, .unset, .unset, .unset, .unset, .unset] [(.int (p5 &&& (4 : Int32)))])) _
          refine XS.ifYes X1.here hx rfl (pc0 := 67) (pc' := 74) rfl (hb hby at_67) rfl ((if0 _ _).trans (teq hc67).1) (by decide) (by decide) ?_
          show Steps p.tables e below (T1.setTop (mkF m 74 #[.val (.long q0), .second, .val (.long q1), .second, .val (.long q2), .second, .val (.long q3), .second, .val (.long q4), .second, .val (.int p5), .val (.long x11_11), .second, .val (.long x13_19), .second, .val (.long x15_27), .second, .val (.long x17_35), .second, .val (.int m47_s0), .val (.int m61_s0), .unset, .unset, .unset, .unset, .unset, .unset, .unset, .unset, .unset, .unset, .unset] [])) _
          refine XS.iconst X1.here hx rfl (hb hby at_74) ?_
          exact k)
      refine ⟨_, ?_, pre19⟩
      all_goals (first | (simp only [own_m0_75_s0, if_pos hc67]; done) | (simp [own_m0_75_s0, if_pos hc67]; done))
    · have pre20 : own_Pre p e below (s₁.setTop (entryFrame m #[(.long q0), (.long q1), (.long q2), (.long q3), (.long q4), (.int p5)] maxLocals)) (T1.setTop (mkF m 75 #[.val (.long q0), .second, .val (.long q1), .second, .val (.long q2), .second, .val (.long q3), .second, .val (.long q4), .second, .val (.int p5), .val (.long x11_11), .second, .val (.long x13_19), .second, .val (.long x15_27), .second, .val (.long x17_35), .second, .val (.int m47_s0), .val (.int m61_s0), .unset, .unset, .unset, .unset, .unset, .unset, .unset, .unset, .unset, .unset, .unset] [(.int (1 : Int32))])) := fun t k => pre18 t (by
          show Steps p.tables e below (T1.setTop (mkF m 67 #[.val (.long q0), .second, .val (.long q1), .second, .val (.long q2), .second, .val (.long q3), .second, .val (.long q4), .second, .val (.int p5), .val (.long x11_11), .second, .val (.long x13_19), .second, .val (.long x15_27), .second, .val (.long x17_35), .second, .val (.int m47_s0), .val (.int m61_s0), .unset, .unset, .unset, .unset, .unset, .unset, .unset, .unset, .unset, .unset, .unset] [(.int (p5 &&& (4 : Int32)))])) _
          refine XS.ifNo X1.here hx rfl (hb hby at_67) rfl ((if0 _ _).trans (feq hc67).1) ?_
          show Steps p.tables e below (T1.setTop (mkF m 70 #[.val (.long q0), .second, .val (.long q1), .second, .val (.long q2), .second, .val (.long q3), .second, .val (.long q4), .second, .val (.int p5), .val (.long x11_11), .second, .val (.long x13_19), .second, .val (.long x15_27), .second, .val (.long x17_35), .second, .val (.int m47_s0), .val (.int m61_s0), .unset, .unset, .unset, .unset, .unset, .unset, .unset, .unset, .unset, .unset, .unset] [])) _
          refine XS.iconst X1.here hx rfl (hb hby at_70) ?_
          show Steps p.tables e below (T1.setTop (mkF m 71 #[.val (.long q0), .second, .val (.long q1), .second, .val (.long q2), .second, .val (.long q3), .second, .val (.long q4), .second, .val (.int p5), .val (.long x11_11), .second, .val (.long x13_19), .second, .val (.long x15_27), .second, .val (.long x17_35), .second, .val (.int m47_s0), .val (.int m61_s0), .unset, .unset, .unset, .unset, .unset, .unset, .unset, .unset, .unset, .unset, .unset] [(.int (1 : Int32))])) _
          refine XS.goto X1.here hx rfl (pc0 := 71) (pc' := 75) rfl (hb hby at_71) (by decide) (by decide) ?_
          exact k)
      refine ⟨_, ?_, pre20⟩
      all_goals (first | (simp only [own_m0_75_s0, if_neg hc67]; done) | (simp [own_m0_75_s0, if_neg hc67]; done))
  obtain ⟨T21, h21, X21, e21, E21, A21, D21, -, st21⟩ := newO X1 hx hZ hown (hw _ (List.mem_of_getElem? (i := 5) rfl)) (hw _ (List.mem_of_getElem? (i := 6) rfl)) (hw _ (List.mem_of_getElem? (i := 7) rfl)) eq1 (g := (mkF m 77 #[.val (.long q0), .second, .val (.long q1), .second, .val (.long q2), .second, .val (.long q3), .second, .val (.long q4), .second, .val (.int p5), .val (.long x11_11), .second, .val (.long x13_19), .second, .val (.long x15_27), .second, .val (.long x17_35), .second, .val (.int m47_s0), .val (.int m61_s0), .val (.int m75_s0), .unset, .unset, .unset, .unset, .unset, .unset, .unset, .unset, .unset, .unset] [])) rfl (hb hby at_77) (by decide) (by decide)
  obtain ⟨b21, gq21⟩ : ∃ z, z = (h0).size := ⟨_, rfl⟩
  rw [← gq21] at A21 D21 st21
  have g_b21 : n0 ≤ b21 := Nat.le_trans Z0 (Nat.le_of_eq gq21.symm)
  have F_b21_available : Fld Z h21 b21 "com/example/hopchuan/hopchuan/ErrorCounter" "available" "Z" (.int (0 : Int32)) := D21 (Or.inl (hw _ (List.mem_of_getElem? (i := 15) rfl))) (ty := .boolean) (by decide)
  have F_b21_sesErroredBlocks : Fld Z h21 b21 "com/example/hopchuan/hopchuan/ErrorCounter" "sesErroredBlocks" "J" (.long (0 : Int64)) := D21 (Or.inr (hw _ (List.mem_of_getElem? (i := 17) rfl))) (ty := .long) (by decide)
  have F_b21_extendingPeriodSeconds : Fld Z h21 b21 "com/example/hopchuan/hopchuan/ErrorCounter" "extendingPeriodSeconds" "J" (.long (0 : Int64)) := D21 (Or.inr (hw _ (List.mem_of_getElem? (i := 19) rfl))) (ty := .long) (by decide)
  have F_b21_seconds : Fld Z h21 b21 "com/example/hopchuan/hopchuan/ErrorCounter" "seconds" "J" (.long (0 : Int64)) := D21 (Or.inl (hw _ (List.mem_of_getElem? (i := 26) rfl))) (ty := .long) (by decide)
  have F_b21_pending : Fld Z h21 b21 "com/example/hopchuan/hopchuan/ErrorCounter" "pending" "J" (.long (0 : Int64)) := D21 (Or.inl (hw _ (List.mem_of_getElem? (i := 28) rfl))) (ty := .long) (by decide)
  have F_b21_erroredSeconds : Fld Z h21 b21 "com/example/hopchuan/hopchuan/ErrorCounter" "erroredSeconds" "J" (.long (0 : Int64)) := D21 (Or.inl (hw _ (List.mem_of_getElem? (i := 35) rfl))) (ty := .long) (by decide)
  have F_b21_severelyErroredSeconds : Fld Z h21 b21 "com/example/hopchuan/hopchuan/ErrorCounter" "severelyErroredSeconds" "J" (.long (0 : Int64)) := D21 (Or.inl (hw _ (List.mem_of_getElem? (i := 37) rfl))) (ty := .long) (by decide)
  have F_b21_unavailableSeconds : Fld Z h21 b21 "com/example/hopchuan/hopchuan/ErrorCounter" "unavailableSeconds" "J" (.long (0 : Int64)) := D21 (Or.inl (hw _ (List.mem_of_getElem? (i := 65) rfl))) (ty := .long) (by decide)
  have F_b21_backgroundBlockErrors : Fld Z h21 b21 "com/example/hopchuan/hopchuan/ErrorCounter" "backgroundBlockErrors" "J" (.long (0 : Int64)) := D21 (Or.inl (hw _ (List.mem_of_getElem? (i := 82) rfl))) (ty := .long) (by decide)
  have F_b21_period : Fld Z h21 b21 "com/example/hopchuan/hopchuan/ErrorCounter" "period" "J" (.long (0 : Int64)) := D21 (Or.inl (hw _ (List.mem_of_getElem? (i := 84) rfl))) (ty := .long) (by decide)
  have F_b21_pendingErrored : Fld Z h21 b21 "com/example/hopchuan/hopchuan/ErrorCounter" "pendingErrored" "J" (.long (0 : Int64)) := D21 (Or.inl (hw _ (List.mem_of_getElem? (i := 86) rfl))) (ty := .long) (by decide)
  have F_b21_pendingBlocks : Fld Z h21 b21 "com/example/hopchuan/hopchuan/ErrorCounter" "pendingBlocks" "J" (.long (0 : Int64)) := D21 (Or.inl (hw _ (List.mem_of_getElem? (i := 88) rfl))) (ty := .long) (by decide)
  have z23 : n0 ≤ (h21).size := (Nat.le_trans Z0 E21.1)
  obtain ⟨_, _, ⟨T22, L22, k22, n22⟩, -, X22, ⟨Lc22, hQ22, l22, y22, z22⟩, st22⟩ := X21.specialBack hx (y := (⟨"com/example/hopchuan/hopchuan/ErrorCounter", "<init>", "(JJ)V"⟩ : MethodName)) rfl hown (mvT hZ (hw _ (List.mem_of_getElem? (i := 8) rfl))) (mvT hZ (hw _ (List.mem_of_getElem? (i := 9) rfl))) (mvT hZ (hw _ (List.mem_of_getElem? (i := 10) rfl))) (by decide) (backOf (W := 1) (rm2 l Z aw hw [] (b21) (x11_11) (q1) (h21) n0 z23 A21 F_b21_available F_b21_sesErroredBlocks F_b21_extendingPeriodSeconds F_b21_seconds F_b21_pending F_b21_erroredSeconds F_b21_severelyErroredSeconds F_b21_backgroundBlockErrors F_b21_unavailableSeconds g_b21) hZ (hw _ (List.mem_of_getElem? (i := 10) rfl)) (hw _ (List.mem_of_getElem? (i := 7) rfl)) (by decide) (by decide)) (g := (mkF m 84 #[.val (.long q0), .second, .val (.long q1), .second, .val (.long q2), .second, .val (.long q3), .second, .val (.long q4), .second, .val (.int p5), .val (.long x11_11), .second, .val (.long x13_19), .second, .val (.long x15_27), .second, .val (.long x17_35), .second, .val (.int m47_s0), .val (.int m61_s0), .val (.int m75_s0), .unset, .unset, .unset, .unset, .unset, .unset, .unset, .unset, .unset, .unset] [(.long q1), (.long x11_11), (.ref b21), (.ref b21)])) rfl (by rw [hml]; rfl) (Steps.refl _) (a := b21) (argsL := [(.long x11_11), (.long q1)]) (rest := [(.ref b21)]) (lenOf pd_2 rfl) rfl (by show 2 * 0 + _ ≤ _; exact Nat.le_of_eq rfl) (hb hby at_84) (fun _ _ => ⟨rfl, e21, (by decide : 1 + 0 ≤ _), (by decide : 13 + 0 ≤ _)⟩)
  dsimp only [Pt.U, Pt.locs, Pt.cells, Pt.slots] at X22 l22 y22 z22 st22 hQ22
  subst l22 y22 z22
  obtain ⟨rfl, Nq22, K22, po22_0, po22_1, po22_2, po22_3, po22_4, po22_5, po22_6, po22_7, po22_8⟩ := hQ22
  have N22 := Fr.app N1 Nq22
  have z25 : n0 ≤ (T22.heap).size := (Nat.le_trans z23 K22.1)
  obtain ⟨cq24, kq24, q24a, q24b, q24c⟩ := isOf hZ rfl po22_0
  obtain ⟨_, _, ⟨T24, L24, k24, n24⟩, -, X24, ⟨Lc24, hQ24, l24, y24, z24⟩, st24⟩ := X22.virtualBack hx (y := (⟨"com/example/hopchuan/hopchuan/ErrorCounter", "second", "(JZ)V"⟩ : MethodName)) (z := (⟨"com/example/hopchuan/hopchuan/ErrorCounter", "second", "(JZ)V"⟩ : MethodName)) hown (mvT hZ (hw _ (List.mem_of_getElem? (i := 20) rfl))) (mvT hZ (hw _ (List.mem_of_getElem? (i := 21) rfl))) (notFace_of_selects (args := #[]) (mvT hZ (hw _ (List.mem_of_getElem? (i := 23) rfl)))) (mvT hZ (hw _ (List.mem_of_getElem? (i := 23) rfl))) (mvT hZ (hw _ (List.mem_of_getElem? (i := 22) rfl))) (by decide) (backOf (W := 0) (rm4 l Z aw hw [] (b21) (x13_19) (m47_s0) (x11_11) ((0 : Int64)) ((0 : Int64)) ((0 : Int64)) ((0 : Int64)) ((0 : Int64)) ((0 : Int64)) (T22.heap) n0 z25 po22_0 po22_1 po22_2 po22_3 po22_4 po22_5 po22_6 po22_7 po22_8 g_b21 (by decide)) hZ (hw _ (List.mem_of_getElem? (i := 24) rfl)) (hw _ (List.mem_of_getElem? (i := 7) rfl)) (by decide) (by decide)) q24a q24c (g := (mkF m 95 #[.val (.long q0), .second, .val (.long q1), .second, .val (.long q2), .second, .val (.long q3), .second, .val (.long q4), .second, .val (.int p5), .val (.long x11_11), .second, .val (.long x13_19), .second, .val (.long x15_27), .second, .val (.long x17_35), .second, .val (.int m47_s0), .val (.int m61_s0), .val (.int m75_s0), .val (.ref b21), .unset, .unset, .unset, .unset, .unset, .unset, .unset, .unset, .unset] [(.int m47_s0), (.long x13_19), (.ref b21)])) rfl (by rw [hml]; rfl) (Steps.refl _) (argsL := [(.long x13_19), (.int m47_s0)]) (rest := []) (lenOf pd_3 rfl) rfl (by show 2 * 0 + _ ≤ _; exact Nat.le_of_eq rfl) (hb hby at_95) (fun _ _ => ⟨rfl, rfl, (by decide : 1 + 0 ≤ _), (by decide : 13 + 0 ≤ _)⟩)
  dsimp only [Pt.U, Pt.locs, Pt.cells, Pt.slots] at X24 l24 y24 z24 st24 hQ24
  subst l24 y24 z24
  obtain ⟨rfl, Nq24, K24, po24_0, po24_1, po24_2, po24_3, po24_4, po24_5, po24_6, po24_7, po24_8⟩ := hQ24
  have N24 := Fr.app N22 Nq24
  obtain ⟨u24_seconds, hu24_seconds⟩ : ∃ z, z = (own_p4_seconds x13_19 m47_s0 x11_11 (0 : Int64)) := ⟨_, rfl⟩
  rw [← hu24_seconds] at po24_3
  obtain ⟨u24_pending, hu24_pending⟩ : ∃ z, z = (own_p4_pending x13_19 m47_s0 x11_11 (0 : Int64)) := ⟨_, rfl⟩
  rw [← hu24_pending] at po24_4
  obtain ⟨u24_erroredSeconds, hu24_erroredSeconds⟩ : ∃ z, z = (own_p4_erroredSeconds x13_19 m47_s0 x11_11 (0 : Int64) (0 : Int64)) := ⟨_, rfl⟩
  rw [← hu24_erroredSeconds] at po24_5
  obtain ⟨u24_severelyErroredSeconds, hu24_severelyErroredSeconds⟩ : ∃ z, z = (own_p4_severelyErroredSeconds x13_19 m47_s0 x11_11 (0 : Int64) (0 : Int64)) := ⟨_, rfl⟩
  rw [← hu24_severelyErroredSeconds] at po24_6
  obtain ⟨u24_backgroundBlockErrors, hu24_backgroundBlockErrors⟩ : ∃ z, z = (own_p4_backgroundBlockErrors x13_19 m47_s0 x11_11 (0 : Int64)) := ⟨_, rfl⟩
  rw [← hu24_backgroundBlockErrors] at po24_7
  have z27 : n0 ≤ (T24.heap).size := (Nat.le_trans z25 K24.1)
  obtain ⟨cq26, kq26, q26a, q26b, q26c⟩ := isOf hZ rfl po24_0
  obtain ⟨_, _, ⟨T26, L26, k26, n26⟩, -, X26, ⟨Lc26, hQ26, l26, y26, z26⟩, st26⟩ := X24.virtualBack hx (y := (⟨"com/example/hopchuan/hopchuan/ErrorCounter", "second", "(JZ)V"⟩ : MethodName)) (z := (⟨"com/example/hopchuan/hopchuan/ErrorCounter", "second", "(JZ)V"⟩ : MethodName)) hown (mvT hZ (hw _ (List.mem_of_getElem? (i := 20) rfl))) (mvT hZ (hw _ (List.mem_of_getElem? (i := 21) rfl))) (notFace_of_selects (args := #[]) (mvT hZ (hw _ (List.mem_of_getElem? (i := 23) rfl)))) (mvT hZ (hw _ (List.mem_of_getElem? (i := 23) rfl))) (mvT hZ (hw _ (List.mem_of_getElem? (i := 22) rfl))) (by decide) (backOf (W := 0) (rm4 l Z aw hw [] (b21) (x15_27) (m61_s0) (x11_11) (u24_seconds) (u24_pending) (u24_erroredSeconds) (u24_severelyErroredSeconds) (u24_backgroundBlockErrors) ((0 : Int64)) (T24.heap) n0 z27 po24_0 po24_1 po24_2 po24_3 po24_4 po24_5 po24_6 po24_7 po24_8 g_b21 (by subst hu24_backgroundBlockErrors hu24_severelyErroredSeconds hu24_erroredSeconds hu24_pending hu24_seconds; exact own_pe1 _ _ _)) hZ (hw _ (List.mem_of_getElem? (i := 24) rfl)) (hw _ (List.mem_of_getElem? (i := 7) rfl)) (by decide) (by decide)) q26a q26c (g := (mkF m 104 #[.val (.long q0), .second, .val (.long q1), .second, .val (.long q2), .second, .val (.long q3), .second, .val (.long q4), .second, .val (.int p5), .val (.long x11_11), .second, .val (.long x13_19), .second, .val (.long x15_27), .second, .val (.long x17_35), .second, .val (.int m47_s0), .val (.int m61_s0), .val (.int m75_s0), .val (.ref b21), .unset, .unset, .unset, .unset, .unset, .unset, .unset, .unset, .unset] [(.int m61_s0), (.long x15_27), (.ref b21)])) rfl (by rw [hml]; rfl) (Steps.refl _) (argsL := [(.long x15_27), (.int m61_s0)]) (rest := []) (lenOf pd_3 rfl) rfl (by show 2 * 0 + _ ≤ _; exact Nat.le_of_eq rfl) (hb hby at_104) (fun _ _ => ⟨rfl, rfl, (by decide : 1 + 0 ≤ _), (by decide : 13 + 0 ≤ _)⟩)
  dsimp only [Pt.U, Pt.locs, Pt.cells, Pt.slots] at X26 l26 y26 z26 st26 hQ26
  subst l26 y26 z26
  obtain ⟨rfl, Nq26, K26, po26_0, po26_1, po26_2, po26_3, po26_4, po26_5, po26_6, po26_7, po26_8⟩ := hQ26
  have N26 := Fr.app N24 Nq26
  obtain ⟨u26_seconds, hu26_seconds⟩ : ∃ z, z = (own_p4_seconds x15_27 m61_s0 x11_11 u24_seconds) := ⟨_, rfl⟩
  rw [← hu26_seconds] at po26_3
  obtain ⟨u26_pending, hu26_pending⟩ : ∃ z, z = (own_p4_pending x15_27 m61_s0 x11_11 u24_pending) := ⟨_, rfl⟩
  rw [← hu26_pending] at po26_4
  obtain ⟨u26_erroredSeconds, hu26_erroredSeconds⟩ : ∃ z, z = (own_p4_erroredSeconds x15_27 m61_s0 x11_11 u24_pending u24_erroredSeconds) := ⟨_, rfl⟩
  rw [← hu26_erroredSeconds] at po26_5
  obtain ⟨u26_severelyErroredSeconds, hu26_severelyErroredSeconds⟩ : ∃ z, z = (own_p4_severelyErroredSeconds x15_27 m61_s0 x11_11 u24_pending u24_severelyErroredSeconds) := ⟨_, rfl⟩
  rw [← hu26_severelyErroredSeconds] at po26_6
  obtain ⟨u26_backgroundBlockErrors, hu26_backgroundBlockErrors⟩ : ∃ z, z = (own_p4_backgroundBlockErrors x15_27 m61_s0 x11_11 u24_backgroundBlockErrors) := ⟨_, rfl⟩
  rw [← hu26_backgroundBlockErrors] at po26_7
  have z29 : n0 ≤ (T26.heap).size := (Nat.le_trans z27 K26.1)
  obtain ⟨cq28, kq28, q28a, q28b, q28c⟩ := isOf hZ rfl po26_0
  obtain ⟨_, _, ⟨T28, L28, k28, n28⟩, -, X28, ⟨Lc28, hQ28, l28, y28, z28⟩, st28⟩ := X26.virtualBack hx (y := (⟨"com/example/hopchuan/hopchuan/ErrorCounter", "second", "(JZ)V"⟩ : MethodName)) (z := (⟨"com/example/hopchuan/hopchuan/ErrorCounter", "second", "(JZ)V"⟩ : MethodName)) hown (mvT hZ (hw _ (List.mem_of_getElem? (i := 20) rfl))) (mvT hZ (hw _ (List.mem_of_getElem? (i := 21) rfl))) (notFace_of_selects (args := #[]) (mvT hZ (hw _ (List.mem_of_getElem? (i := 23) rfl)))) (mvT hZ (hw _ (List.mem_of_getElem? (i := 23) rfl))) (mvT hZ (hw _ (List.mem_of_getElem? (i := 22) rfl))) (by decide) (backOf (W := 0) (rm4 l Z aw hw [] (b21) (x17_35) (m75_s0) (x11_11) (u26_seconds) (u26_pending) (u26_erroredSeconds) (u26_severelyErroredSeconds) (u26_backgroundBlockErrors) ((0 : Int64)) (T26.heap) n0 z29 po26_0 po26_1 po26_2 po26_3 po26_4 po26_5 po26_6 po26_7 po26_8 g_b21 (by subst hu26_backgroundBlockErrors hu26_severelyErroredSeconds hu26_erroredSeconds hu26_pending hu26_seconds hu24_backgroundBlockErrors hu24_severelyErroredSeconds hu24_erroredSeconds hu24_pending hu24_seconds; exact own_pe2 _ _ _ _ _)) hZ (hw _ (List.mem_of_getElem? (i := 24) rfl)) (hw _ (List.mem_of_getElem? (i := 7) rfl)) (by decide) (by decide)) q28a q28c (g := (mkF m 113 #[.val (.long q0), .second, .val (.long q1), .second, .val (.long q2), .second, .val (.long q3), .second, .val (.long q4), .second, .val (.int p5), .val (.long x11_11), .second, .val (.long x13_19), .second, .val (.long x15_27), .second, .val (.long x17_35), .second, .val (.int m47_s0), .val (.int m61_s0), .val (.int m75_s0), .val (.ref b21), .unset, .unset, .unset, .unset, .unset, .unset, .unset, .unset, .unset] [(.int m75_s0), (.long x17_35), (.ref b21)])) rfl (by rw [hml]; rfl) (Steps.refl _) (argsL := [(.long x17_35), (.int m75_s0)]) (rest := []) (lenOf pd_3 rfl) rfl (by show 2 * 0 + _ ≤ _; exact Nat.le_of_eq rfl) (hb hby at_113) (fun _ _ => ⟨rfl, rfl, (by decide : 1 + 0 ≤ _), (by decide : 13 + 0 ≤ _)⟩)
  dsimp only [Pt.U, Pt.locs, Pt.cells, Pt.slots] at X28 l28 y28 z28 st28 hQ28
  subst l28 y28 z28
  obtain ⟨rfl, Nq28, K28, po28_0, po28_1, po28_2, po28_3, po28_4, po28_5, po28_6, po28_7, po28_8⟩ := hQ28
  have N28 := Fr.app N26 Nq28
  obtain ⟨u28_seconds, hu28_seconds⟩ : ∃ z, z = (own_p4_seconds x17_35 m75_s0 x11_11 u26_seconds) := ⟨_, rfl⟩
  rw [← hu28_seconds] at po28_3
  obtain ⟨u28_pending, hu28_pending⟩ : ∃ z, z = (own_p4_pending x17_35 m75_s0 x11_11 u26_pending) := ⟨_, rfl⟩
  rw [← hu28_pending] at po28_4
  obtain ⟨u28_erroredSeconds, hu28_erroredSeconds⟩ : ∃ z, z = (own_p4_erroredSeconds x17_35 m75_s0 x11_11 u26_pending u26_erroredSeconds) := ⟨_, rfl⟩
  rw [← hu28_erroredSeconds] at po28_5
  obtain ⟨u28_severelyErroredSeconds, hu28_severelyErroredSeconds⟩ : ∃ z, z = (own_p4_severelyErroredSeconds x17_35 m75_s0 x11_11 u26_pending u26_severelyErroredSeconds) := ⟨_, rfl⟩
  rw [← hu28_severelyErroredSeconds] at po28_6
  obtain ⟨u28_backgroundBlockErrors, hu28_backgroundBlockErrors⟩ : ∃ z, z = (own_p4_backgroundBlockErrors x17_35 m75_s0 x11_11 u26_backgroundBlockErrors) := ⟨_, rfl⟩
  rw [← hu28_backgroundBlockErrors] at po28_7
  have z31 : n0 ≤ (T28.heap).size := (Nat.le_trans z29 K28.1)
  obtain ⟨cq30, kq30, q30a, q30b, q30c⟩ := isOf hZ rfl po28_0
  obtain ⟨_, _, ⟨T30, L30, k30, n30⟩, -, X30, ⟨Lc30, hQ30, l30, y30, z30⟩, st30⟩ := X28.virtualBack hx (y := (⟨"com/example/hopchuan/hopchuan/ErrorCounter", "end", "()V"⟩ : MethodName)) (z := (⟨"com/example/hopchuan/hopchuan/ErrorCounter", "end", "()V"⟩ : MethodName)) hown (mvT hZ (hw _ (List.mem_of_getElem? (i := 38) rfl))) (mvT hZ (hw _ (List.mem_of_getElem? (i := 39) rfl))) (notFace_of_selects (args := #[]) (mvT hZ (hw _ (List.mem_of_getElem? (i := 41) rfl)))) (mvT hZ (hw _ (List.mem_of_getElem? (i := 41) rfl))) (mvT hZ (hw _ (List.mem_of_getElem? (i := 40) rfl))) (by decide) (backOf (W := 0) (rm6 l Z aw hw [] (b21) (x11_11) (u28_seconds) (u28_pending) (u28_erroredSeconds) (u28_severelyErroredSeconds) (u28_backgroundBlockErrors) ((0 : Int64)) (T28.heap) n0 z31 po28_0 po28_1 po28_2 po28_3 po28_4 po28_5 po28_6 po28_7 po28_8 g_b21) hZ (hw _ (List.mem_of_getElem? (i := 42) rfl)) (hw _ (List.mem_of_getElem? (i := 7) rfl)) (by decide) (by decide)) q30a q30c (g := (mkF m 118 #[.val (.long q0), .second, .val (.long q1), .second, .val (.long q2), .second, .val (.long q3), .second, .val (.long q4), .second, .val (.int p5), .val (.long x11_11), .second, .val (.long x13_19), .second, .val (.long x15_27), .second, .val (.long x17_35), .second, .val (.int m47_s0), .val (.int m61_s0), .val (.int m75_s0), .val (.ref b21), .unset, .unset, .unset, .unset, .unset, .unset, .unset, .unset, .unset] [(.ref b21)])) rfl (by rw [hml]; rfl) (Steps.refl _) (argsL := []) (rest := []) (lenOf pd_0 rfl) rfl (by show 2 * 0 + _ ≤ _; exact Nat.le_of_eq rfl) (hb hby at_118) (fun _ _ => ⟨rfl, rfl, (by decide : 1 + 0 ≤ _), (by decide : 13 + 0 ≤ _)⟩)
  dsimp only [Pt.U, Pt.locs, Pt.cells, Pt.slots] at X30 l30 y30 z30 st30 hQ30
  subst l30 y30 z30
  obtain ⟨rfl, Nq30, K30, po30_0, po30_1, po30_2, po30_3, po30_4, po30_5⟩ := hQ30
  have N30 := Fr.app N28 Nq30
  obtain ⟨u30_erroredSeconds, hu30_erroredSeconds⟩ : ∃ z, z = (u28_erroredSeconds + u28_pending) := ⟨_, rfl⟩
  rw [← hu30_erroredSeconds] at po30_2
  obtain ⟨u30_severelyErroredSeconds, hu30_severelyErroredSeconds⟩ : ∃ z, z = (u28_severelyErroredSeconds + u28_pending) := ⟨_, rfl⟩
  rw [← hu30_severelyErroredSeconds] at po30_3
  have pre34 : own_Pre p e below (s₁.setTop (entryFrame m #[(.long q0), (.long q1), (.long q2), (.long q3), (.long q4), (.int p5)] maxLocals)) (T30.setTop (mkF m 123 #[.val (.long q0), .second, .val (.long q1), .second, .val (.long q2), .second, .val (.long q3), .second, .val (.long q4), .second, .val (.int p5), .val (.long x11_11), .second, .val (.long x13_19), .second, .val (.long x15_27), .second, .val (.long x17_35), .second, .val (.int m47_s0), .val (.int m61_s0), .val (.int m75_s0), .val (.ref b21), .unset, .unset, .unset, .unset, .unset, .unset, .unset, .unset, .unset] [(.int m47_s0)])) := fun t k => pre17 t (by
      show Steps p.tables e below (T1.setTop (mkF m 75 #[.val (.long q0), .second, .val (.long q1), .second, .val (.long q2), .second, .val (.long q3), .second, .val (.long q4), .second, .val (.int p5), .val (.long x11_11), .second, .val (.long x13_19), .second, .val (.long x15_27), .second, .val (.long x17_35), .second, .val (.int m47_s0), .val (.int m61_s0), .unset, .unset, .unset, .unset, .unset, .unset, .unset, .unset, .unset, .unset, .unset] [(.int m75_s0)])) _
      refine XS.istore X1.here hx rfl (hb hby at_75) rfl (l' := #[.val (.long q0), .second, .val (.long q1), .second, .val (.long q2), .second, .val (.long q3), .second, .val (.long q4), .second, .val (.int p5), .val (.long x11_11), .second, .val (.long x13_19), .second, .val (.long x15_27), .second, .val (.long x17_35), .second, .val (.int m47_s0), .val (.int m61_s0), .val (.int m75_s0), .unset, .unset, .unset, .unset, .unset, .unset, .unset, .unset, .unset, .unset]) rfl ?_
      show Steps p.tables e below (T1.setTop (mkF m 77 #[.val (.long q0), .second, .val (.long q1), .second, .val (.long q2), .second, .val (.long q3), .second, .val (.long q4), .second, .val (.int p5), .val (.long x11_11), .second, .val (.long x13_19), .second, .val (.long x15_27), .second, .val (.long x17_35), .second, .val (.int m47_s0), .val (.int m61_s0), .val (.int m75_s0), .unset, .unset, .unset, .unset, .unset, .unset, .unset, .unset, .unset, .unset] [])) _
      refine st21 _ ?_
      show Steps p.tables e below (T21.setTop (mkF m 80 #[.val (.long q0), .second, .val (.long q1), .second, .val (.long q2), .second, .val (.long q3), .second, .val (.long q4), .second, .val (.int p5), .val (.long x11_11), .second, .val (.long x13_19), .second, .val (.long x15_27), .second, .val (.long x17_35), .second, .val (.int m47_s0), .val (.int m61_s0), .val (.int m75_s0), .unset, .unset, .unset, .unset, .unset, .unset, .unset, .unset, .unset, .unset] [(.ref b21)])) _
      refine XS.dup X21.here hx rfl (hb hby at_80) rfl rfl ?_
      show Steps p.tables e below (T21.setTop (mkF m 81 #[.val (.long q0), .second, .val (.long q1), .second, .val (.long q2), .second, .val (.long q3), .second, .val (.long q4), .second, .val (.int p5), .val (.long x11_11), .second, .val (.long x13_19), .second, .val (.long x15_27), .second, .val (.long x17_35), .second, .val (.int m47_s0), .val (.int m61_s0), .val (.int m75_s0), .unset, .unset, .unset, .unset, .unset, .unset, .unset, .unset, .unset, .unset] [(.ref b21), (.ref b21)])) _
      refine XS.lload X21.here hx rfl (hb hby at_81) rfl ?_
      show Steps p.tables e below (T21.setTop (mkF m 83 #[.val (.long q0), .second, .val (.long q1), .second, .val (.long q2), .second, .val (.long q3), .second, .val (.long q4), .second, .val (.int p5), .val (.long x11_11), .second, .val (.long x13_19), .second, .val (.long x15_27), .second, .val (.long x17_35), .second, .val (.int m47_s0), .val (.int m61_s0), .val (.int m75_s0), .unset, .unset, .unset, .unset, .unset, .unset, .unset, .unset, .unset, .unset] [(.long x11_11), (.ref b21), (.ref b21)])) _
      refine XS.lloadN X21.here hx rfl (hb hby at_83) rfl ?_
      show Steps p.tables e below (T21.setTop (mkF m 84 #[.val (.long q0), .second, .val (.long q1), .second, .val (.long q2), .second, .val (.long q3), .second, .val (.long q4), .second, .val (.int p5), .val (.long x11_11), .second, .val (.long x13_19), .second, .val (.long x15_27), .second, .val (.long x17_35), .second, .val (.int m47_s0), .val (.int m61_s0), .val (.int m75_s0), .unset, .unset, .unset, .unset, .unset, .unset, .unset, .unset, .unset, .unset] [(.long q1), (.long x11_11), (.ref b21), (.ref b21)])) _
      refine st22.trans ?_
      show Steps p.tables e below (T22.setTop (mkF m 87 #[.val (.long q0), .second, .val (.long q1), .second, .val (.long q2), .second, .val (.long q3), .second, .val (.long q4), .second, .val (.int p5), .val (.long x11_11), .second, .val (.long x13_19), .second, .val (.long x15_27), .second, .val (.long x17_35), .second, .val (.int m47_s0), .val (.int m61_s0), .val (.int m75_s0), .unset, .unset, .unset, .unset, .unset, .unset, .unset, .unset, .unset, .unset] [(.ref b21)])) _
      refine XS.astore X22.here hx rfl (hb hby at_87) rfl rfl (l' := #[.val (.long q0), .second, .val (.long q1), .second, .val (.long q2), .second, .val (.long q3), .second, .val (.long q4), .second, .val (.int p5), .val (.long x11_11), .second, .val (.long x13_19), .second, .val (.long x15_27), .second, .val (.long x17_35), .second, .val (.int m47_s0), .val (.int m61_s0), .val (.int m75_s0), .val (.ref b21), .unset, .unset, .unset, .unset, .unset, .unset, .unset, .unset, .unset]) rfl ?_
      show Steps p.tables e below (T22.setTop (mkF m 89 #[.val (.long q0), .second, .val (.long q1), .second, .val (.long q2), .second, .val (.long q3), .second, .val (.long q4), .second, .val (.int p5), .val (.long x11_11), .second, .val (.long x13_19), .second, .val (.long x15_27), .second, .val (.long x17_35), .second, .val (.int m47_s0), .val (.int m61_s0), .val (.int m75_s0), .val (.ref b21), .unset, .unset, .unset, .unset, .unset, .unset, .unset, .unset, .unset] [])) _
      refine XS.aload X22.here hx rfl (hb hby at_89) rfl rfl ?_
      show Steps p.tables e below (T22.setTop (mkF m 91 #[.val (.long q0), .second, .val (.long q1), .second, .val (.long q2), .second, .val (.long q3), .second, .val (.long q4), .second, .val (.int p5), .val (.long x11_11), .second, .val (.long x13_19), .second, .val (.long x15_27), .second, .val (.long x17_35), .second, .val (.int m47_s0), .val (.int m61_s0), .val (.int m75_s0), .val (.ref b21), .unset, .unset, .unset, .unset, .unset, .unset, .unset, .unset, .unset] [(.ref b21)])) _
      refine XS.lload X22.here hx rfl (hb hby at_91) rfl ?_
      show Steps p.tables e below (T22.setTop (mkF m 93 #[.val (.long q0), .second, .val (.long q1), .second, .val (.long q2), .second, .val (.long q3), .second, .val (.long q4), .second, .val (.int p5), .val (.long x11_11), .second, .val (.long x13_19), .second, .val (.long x15_27), .second, .val (.long x17_35), .second, .val (.int m47_s0), .val (.int m61_s0), .val (.int m75_s0), .val (.ref b21), .unset, .unset, .unset, .unset, .unset, .unset, .unset, .unset, .unset] [(.long x13_19), (.ref b21)])) _
      refine XS.iload X22.here hx rfl (hb hby at_93) rfl ?_
      show Steps p.tables e below (T22.setTop (mkF m 95 #[.val (.long q0), .second, .val (.long q1), .second, .val (.long q2), .second, .val (.long q3), .second, .val (.long q4), .second, .val (.int p5), .val (.long x11_11), .second, .val (.long x13_19), .second, .val (.long x15_27), .second, .val (.long x17_35), .second, .val (.int m47_s0), .val (.int m61_s0), .val (.int m75_s0), .val (.ref b21), .unset, .unset, .unset, .unset, .unset, .unset, .unset, .unset, .unset] [(.int m47_s0), (.long x13_19), (.ref b21)])) _
      refine st24.trans ?_
      show Steps p.tables e below (T24.setTop (mkF m 98 #[.val (.long q0), .second, .val (.long q1), .second, .val (.long q2), .second, .val (.long q3), .second, .val (.long q4), .second, .val (.int p5), .val (.long x11_11), .second, .val (.long x13_19), .second, .val (.long x15_27), .second, .val (.long x17_35), .second, .val (.int m47_s0), .val (.int m61_s0), .val (.int m75_s0), .val (.ref b21), .unset, .unset, .unset, .unset, .unset, .unset, .unset, .unset, .unset] [])) _
      refine XS.aload X24.here hx rfl (hb hby at_98) rfl rfl ?_
      show Steps p.tables e below (T24.setTop (mkF m 100 #[.val (.long q0), .second, .val (.long q1), .second, .val (.long q2), .second, .val (.long q3), .second, .val (.long q4), .second, .val (.int p5), .val (.long x11_11), .second, .val (.long x13_19), .second, .val (.long x15_27), .second, .val (.long x17_35), .second, .val (.int m47_s0), .val (.int m61_s0), .val (.int m75_s0), .val (.ref b21), .unset, .unset, .unset, .unset, .unset, .unset, .unset, .unset, .unset] [(.ref b21)])) _
      refine XS.lload X24.here hx rfl (hb hby at_100) rfl ?_
      show Steps p.tables e below (T24.setTop (mkF m 102 #[.val (.long q0), .second, .val (.long q1), .second, .val (.long q2), .second, .val (.long q3), .second, .val (.long q4), .second, .val (.int p5), .val (.long x11_11), .second, .val (.long x13_19), .second, .val (.long x15_27), .second, .val (.long x17_35), .second, .val (.int m47_s0), .val (.int m61_s0), .val (.int m75_s0), .val (.ref b21), .unset, .unset, .unset, .unset, .unset, .unset, .unset, .unset, .unset] [(.long x15_27), (.ref b21)])) _
      refine XS.iload X24.here hx rfl (hb hby at_102) rfl ?_
      show Steps p.tables e below (T24.setTop (mkF m 104 #[.val (.long q0), .second, .val (.long q1), .second, .val (.long q2), .second, .val (.long q3), .second, .val (.long q4), .second, .val (.int p5), .val (.long x11_11), .second, .val (.long x13_19), .second, .val (.long x15_27), .second, .val (.long x17_35), .second, .val (.int m47_s0), .val (.int m61_s0), .val (.int m75_s0), .val (.ref b21), .unset, .unset, .unset, .unset, .unset, .unset, .unset, .unset, .unset] [(.int m61_s0), (.long x15_27), (.ref b21)])) _
      refine st26.trans ?_
      show Steps p.tables e below (T26.setTop (mkF m 107 #[.val (.long q0), .second, .val (.long q1), .second, .val (.long q2), .second, .val (.long q3), .second, .val (.long q4), .second, .val (.int p5), .val (.long x11_11), .second, .val (.long x13_19), .second, .val (.long x15_27), .second, .val (.long x17_35), .second, .val (.int m47_s0), .val (.int m61_s0), .val (.int m75_s0), .val (.ref b21), .unset, .unset, .unset, .unset, .unset, .unset, .unset, .unset, .unset] [])) _
      refine XS.aload X26.here hx rfl (hb hby at_107) rfl rfl ?_
      show Steps p.tables e below (T26.setTop (mkF m 109 #[.val (.long q0), .second, .val (.long q1), .second, .val (.long q2), .second, .val (.long q3), .second, .val (.long q4), .second, .val (.int p5), .val (.long x11_11), .second, .val (.long x13_19), .second, .val (.long x15_27), .second, .val (.long x17_35), .second, .val (.int m47_s0), .val (.int m61_s0), .val (.int m75_s0), .val (.ref b21), .unset, .unset, .unset, .unset, .unset, .unset, .unset, .unset, .unset] [(.ref b21)])) _
      refine XS.lload X26.here hx rfl (hb hby at_109) rfl ?_
      show Steps p.tables e below (T26.setTop (mkF m 111 #[.val (.long q0), .second, .val (.long q1), .second, .val (.long q2), .second, .val (.long q3), .second, .val (.long q4), .second, .val (.int p5), .val (.long x11_11), .second, .val (.long x13_19), .second, .val (.long x15_27), .second, .val (.long x17_35), .second, .val (.int m47_s0), .val (.int m61_s0), .val (.int m75_s0), .val (.ref b21), .unset, .unset, .unset, .unset, .unset, .unset, .unset, .unset, .unset] [(.long x17_35), (.ref b21)])) _
      refine XS.iload X26.here hx rfl (hb hby at_111) rfl ?_
      show Steps p.tables e below (T26.setTop (mkF m 113 #[.val (.long q0), .second, .val (.long q1), .second, .val (.long q2), .second, .val (.long q3), .second, .val (.long q4), .second, .val (.int p5), .val (.long x11_11), .second, .val (.long x13_19), .second, .val (.long x15_27), .second, .val (.long x17_35), .second, .val (.int m47_s0), .val (.int m61_s0), .val (.int m75_s0), .val (.ref b21), .unset, .unset, .unset, .unset, .unset, .unset, .unset, .unset, .unset] [(.int m75_s0), (.long x17_35), (.ref b21)])) _
      refine st28.trans ?_
      show Steps p.tables e below (T28.setTop (mkF m 116 #[.val (.long q0), .second, .val (.long q1), .second, .val (.long q2), .second, .val (.long q3), .second, .val (.long q4), .second, .val (.int p5), .val (.long x11_11), .second, .val (.long x13_19), .second, .val (.long x15_27), .second, .val (.long x17_35), .second, .val (.int m47_s0), .val (.int m61_s0), .val (.int m75_s0), .val (.ref b21), .unset, .unset, .unset, .unset, .unset, .unset, .unset, .unset, .unset] [])) _
      refine XS.aload X28.here hx rfl (hb hby at_116) rfl rfl ?_
      show Steps p.tables e below (T28.setTop (mkF m 118 #[.val (.long q0), .second, .val (.long q1), .second, .val (.long q2), .second, .val (.long q3), .second, .val (.long q4), .second, .val (.int p5), .val (.long x11_11), .second, .val (.long x13_19), .second, .val (.long x15_27), .second, .val (.long x17_35), .second, .val (.int m47_s0), .val (.int m61_s0), .val (.int m75_s0), .val (.ref b21), .unset, .unset, .unset, .unset, .unset, .unset, .unset, .unset, .unset] [(.ref b21)])) _
      refine st30.trans ?_
      show Steps p.tables e below (T30.setTop (mkF m 121 #[.val (.long q0), .second, .val (.long q1), .second, .val (.long q2), .second, .val (.long q3), .second, .val (.long q4), .second, .val (.int p5), .val (.long x11_11), .second, .val (.long x13_19), .second, .val (.long x15_27), .second, .val (.long x17_35), .second, .val (.int m47_s0), .val (.int m61_s0), .val (.int m75_s0), .val (.ref b21), .unset, .unset, .unset, .unset, .unset, .unset, .unset, .unset, .unset] [])) _
      refine XS.iload X30.here hx rfl (hb hby at_121) rfl ?_
      exact k)
  obtain ⟨m139_s0, hm139_s0, pre33⟩ : ∃ (m139_s0 : Int32), m139_s0 = (own_m0_139_s0 m47_s0 x13_19 x11_11) ∧ own_Pre p e below (s₁.setTop (entryFrame m #[(.long q0), (.long q1), (.long q2), (.long q3), (.long q4), (.int p5)] maxLocals)) (T30.setTop (mkF m 139 #[.val (.long q0), .second, .val (.long q1), .second, .val (.long q2), .second, .val (.long q3), .second, .val (.long q4), .second, .val (.int p5), .val (.long x11_11), .second, .val (.long x13_19), .second, .val (.long x15_27), .second, .val (.long x17_35), .second, .val (.int m47_s0), .val (.int m61_s0), .val (.int m75_s0), .val (.ref b21), .unset, .unset, .unset, .unset, .unset, .unset, .unset, .unset, .unset] [(.int m139_s0)])) := by
    by_cases hc123 : m47_s0 = (0 : Int32)
    · have pre35 : own_Pre p e below (s₁.setTop (entryFrame m #[(.long q0), (.long q1), (.long q2), (.long q3), (.long q4), (.int p5)] maxLocals)) (T30.setTop (mkF m 131 #[.val (.long q0), .second, .val (.long q1), .second, .val (.long q2), .second, .val (.long q3), .second, .val (.long q4), .second, .val (.int p5), .val (.long x11_11), .second, .val (.long x13_19), .second, .val (.long x15_27), .second, .val (.long x17_35), .second, .val (.int m47_s0), .val (.int m61_s0), .val (.int m75_s0), .val (.ref b21), .unset, .unset, .unset, .unset, .unset, .unset, .unset, .unset, .unset] [(.int (lcmpW x13_19 x11_11))])) := fun t k => pre34 t (by
          show Steps p.tables e below (T30.setTop (mkF m 123 #[.val (.long q0), .second, .val (.long q1), .second, .val (.long q2), .second, .val (.long q3), .second, .val (.long q4), .second, .val (.int p5), .val (.long x11_11), .second, .val (.long x13_19), .second, .val (.long x15_27), .second, .val (.long x17_35), .second, .val (.int m47_s0), .val (.int m61_s0), .val (.int m75_s0), .val (.ref b21), .unset, .unset, .unset, .unset, .unset, .unset, .unset, .unset, .unset] [(.int m47_s0)])) _
          refine XS.ifNo X30.here hx rfl (hb hby at_123) rfl ((if0 _ _).trans (teq hc123).2) ?_
          show Steps p.tables e below (T30.setTop (mkF m 126 #[.val (.long q0), .second, .val (.long q1), .second, .val (.long q2), .second, .val (.long q3), .second, .val (.long q4), .second, .val (.int p5), .val (.long x11_11), .second, .val (.long x13_19), .second, .val (.long x15_27), .second, .val (.long x17_35), .second, .val (.int m47_s0), .val (.int m61_s0), .val (.int m75_s0), .val (.ref b21), .unset, .unset, .unset, .unset, .unset, .unset, .unset, .unset, .unset] [])) _
          refine XS.lload X30.here hx rfl (hb hby at_126) rfl ?_
          show Steps p.tables e below (T30.setTop (mkF m 128 #[.val (.long q0), .second, .val (.long q1), .second, .val (.long q2), .second, .val (.long q3), .second, .val (.long q4), .second, .val (.int p5), .val (.long x11_11), .second, .val (.long x13_19), .second, .val (.long x15_27), .second, .val (.long x17_35), .second, .val (.int m47_s0), .val (.int m61_s0), .val (.int m75_s0), .val (.ref b21), .unset, .unset, .unset, .unset, .unset, .unset, .unset, .unset, .unset] [(.long x13_19)])) _
          refine XS.lload X30.here hx rfl (hb hby at_128) rfl ?_
          show Steps p.tables e below (T30.setTop (mkF m 130 #[.val (.long q0), .second, .val (.long q1), .second, .val (.long q2), .second, .val (.long q3), .second, .val (.long q4), .second, .val (.int p5), .val (.long x11_11), .second, .val (.long x13_19), .second, .val (.long x15_27), .second, .val (.long x17_35), .second, .val (.int m47_s0), .val (.int m61_s0), .val (.int m75_s0), .val (.ref b21), .unset, .unset, .unset, .unset, .unset, .unset, .unset, .unset, .unset] [(.long x11_11), (.long x13_19)])) _
          refine XS.lcmp X30.here hx rfl (hb hby at_130) rfl ?_
          exact k)
      by_cases hc131 : x13_19 < x11_11
      · have pre36 : own_Pre p e below (s₁.setTop (entryFrame m #[(.long q0), (.long q1), (.long q2), (.long q3), (.long q4), (.int p5)] maxLocals)) (T30.setTop (mkF m 139 #[.val (.long q0), .second, .val (.long q1), .second, .val (.long q2), .second, .val (.long q3), .second, .val (.long q4), .second, .val (.int p5), .val (.long x11_11), .second, .val (.long x13_19), .second, .val (.long x15_27), .second, .val (.long x17_35), .second, .val (.int m47_s0), .val (.int m61_s0), .val (.int m75_s0), .val (.ref b21), .unset, .unset, .unset, .unset, .unset, .unset, .unset, .unset, .unset] [(.int (0 : Int32))])) := fun t k => pre35 t (by
            show Steps p.tables e below (T30.setTop (mkF m 131 #[.val (.long q0), .second, .val (.long q1), .second, .val (.long q2), .second, .val (.long q3), .second, .val (.long q4), .second, .val (.int p5), .val (.long x11_11), .second, .val (.long x13_19), .second, .val (.long x15_27), .second, .val (.long x17_35), .second, .val (.int m47_s0), .val (.int m61_s0), .val (.int m75_s0), .val (.ref b21), .unset, .unset, .unset, .unset, .unset, .unset, .unset, .unset, .unset] [(.int (lcmpW x13_19 x11_11))])) _
            refine XS.ifYes X30.here hx rfl (pc0 := 131) (pc' := 138) rfl (hb hby at_131) rfl ((if0 _ _).trans (tlt ((lw_lt _ _).mpr hc131)).1) (by decide) (by decide) ?_
            show Steps p.tables e below (T30.setTop (mkF m 138 #[.val (.long q0), .second, .val (.long q1), .second, .val (.long q2), .second, .val (.long q3), .second, .val (.long q4), .second, .val (.int p5), .val (.long x11_11), .second, .val (.long x13_19), .second, .val (.long x15_27), .second, .val (.long x17_35), .second, .val (.int m47_s0), .val (.int m61_s0), .val (.int m75_s0), .val (.ref b21), .unset, .unset, .unset, .unset, .unset, .unset, .unset, .unset, .unset] [])) _
            refine XS.iconst X30.here hx rfl (hb hby at_138) ?_
            exact k)
        refine ⟨_, ?_, pre36⟩
        all_goals (first | (simp only [own_m0_139_s0, if_pos hc123, if_pos hc131]; done) | (simp [own_m0_139_s0, if_pos hc123, if_pos hc131]; done))
      · have pre37 : own_Pre p e below (s₁.setTop (entryFrame m #[(.long q0), (.long q1), (.long q2), (.long q3), (.long q4), (.int p5)] maxLocals)) (T30.setTop (mkF m 139 #[.val (.long q0), .second, .val (.long q1), .second, .val (.long q2), .second, .val (.long q3), .second, .val (.long q4), .second, .val (.int p5), .val (.long x11_11), .second, .val (.long x13_19), .second, .val (.long x15_27), .second, .val (.long x17_35), .second, .val (.int m47_s0), .val (.int m61_s0), .val (.int m75_s0), .val (.ref b21), .unset, .unset, .unset, .unset, .unset, .unset, .unset, .unset, .unset] [(.int (1 : Int32))])) := fun t k => pre35 t (by
            show Steps p.tables e below (T30.setTop (mkF m 131 #[.val (.long q0), .second, .val (.long q1), .second, .val (.long q2), .second, .val (.long q3), .second, .val (.long q4), .second, .val (.int p5), .val (.long x11_11), .second, .val (.long x13_19), .second, .val (.long x15_27), .second, .val (.long x17_35), .second, .val (.int m47_s0), .val (.int m61_s0), .val (.int m75_s0), .val (.ref b21), .unset, .unset, .unset, .unset, .unset, .unset, .unset, .unset, .unset] [(.int (lcmpW x13_19 x11_11))])) _
            refine XS.ifNo X30.here hx rfl (hb hby at_131) rfl ((if0 _ _).trans (flt (mt (lw_lt _ _).mp hc131)).1) ?_
            show Steps p.tables e below (T30.setTop (mkF m 134 #[.val (.long q0), .second, .val (.long q1), .second, .val (.long q2), .second, .val (.long q3), .second, .val (.long q4), .second, .val (.int p5), .val (.long x11_11), .second, .val (.long x13_19), .second, .val (.long x15_27), .second, .val (.long x17_35), .second, .val (.int m47_s0), .val (.int m61_s0), .val (.int m75_s0), .val (.ref b21), .unset, .unset, .unset, .unset, .unset, .unset, .unset, .unset, .unset] [])) _
            refine XS.iconst X30.here hx rfl (hb hby at_134) ?_
            show Steps p.tables e below (T30.setTop (mkF m 135 #[.val (.long q0), .second, .val (.long q1), .second, .val (.long q2), .second, .val (.long q3), .second, .val (.long q4), .second, .val (.int p5), .val (.long x11_11), .second, .val (.long x13_19), .second, .val (.long x15_27), .second, .val (.long x17_35), .second, .val (.int m47_s0), .val (.int m61_s0), .val (.int m75_s0), .val (.ref b21), .unset, .unset, .unset, .unset, .unset, .unset, .unset, .unset, .unset] [(.int (1 : Int32))])) _
            refine XS.goto X30.here hx rfl (pc0 := 135) (pc' := 139) rfl (hb hby at_135) (by decide) (by decide) ?_
            exact k)
        refine ⟨_, ?_, pre37⟩
        all_goals (first | (simp only [own_m0_139_s0, if_pos hc123, if_neg hc131]; done) | (simp [own_m0_139_s0, if_pos hc123, if_neg hc131]; done))
    · have pre38 : own_Pre p e below (s₁.setTop (entryFrame m #[(.long q0), (.long q1), (.long q2), (.long q3), (.long q4), (.int p5)] maxLocals)) (T30.setTop (mkF m 139 #[.val (.long q0), .second, .val (.long q1), .second, .val (.long q2), .second, .val (.long q3), .second, .val (.long q4), .second, .val (.int p5), .val (.long x11_11), .second, .val (.long x13_19), .second, .val (.long x15_27), .second, .val (.long x17_35), .second, .val (.int m47_s0), .val (.int m61_s0), .val (.int m75_s0), .val (.ref b21), .unset, .unset, .unset, .unset, .unset, .unset, .unset, .unset, .unset] [(.int (1 : Int32))])) := fun t k => pre34 t (by
          show Steps p.tables e below (T30.setTop (mkF m 123 #[.val (.long q0), .second, .val (.long q1), .second, .val (.long q2), .second, .val (.long q3), .second, .val (.long q4), .second, .val (.int p5), .val (.long x11_11), .second, .val (.long x13_19), .second, .val (.long x15_27), .second, .val (.long x17_35), .second, .val (.int m47_s0), .val (.int m61_s0), .val (.int m75_s0), .val (.ref b21), .unset, .unset, .unset, .unset, .unset, .unset, .unset, .unset, .unset] [(.int m47_s0)])) _
          refine XS.ifYes X30.here hx rfl (pc0 := 123) (pc' := 134) rfl (hb hby at_123) rfl ((if0 _ _).trans (feq hc123).2) (by decide) (by decide) ?_
          show Steps p.tables e below (T30.setTop (mkF m 134 #[.val (.long q0), .second, .val (.long q1), .second, .val (.long q2), .second, .val (.long q3), .second, .val (.long q4), .second, .val (.int p5), .val (.long x11_11), .second, .val (.long x13_19), .second, .val (.long x15_27), .second, .val (.long x17_35), .second, .val (.int m47_s0), .val (.int m61_s0), .val (.int m75_s0), .val (.ref b21), .unset, .unset, .unset, .unset, .unset, .unset, .unset, .unset, .unset] [])) _
          refine XS.iconst X30.here hx rfl (hb hby at_134) ?_
          show Steps p.tables e below (T30.setTop (mkF m 135 #[.val (.long q0), .second, .val (.long q1), .second, .val (.long q2), .second, .val (.long q3), .second, .val (.long q4), .second, .val (.int p5), .val (.long x11_11), .second, .val (.long x13_19), .second, .val (.long x15_27), .second, .val (.long x17_35), .second, .val (.int m47_s0), .val (.int m61_s0), .val (.int m75_s0), .val (.ref b21), .unset, .unset, .unset, .unset, .unset, .unset, .unset, .unset, .unset] [(.int (1 : Int32))])) _
          refine XS.goto X30.here hx rfl (pc0 := 135) (pc' := 139) rfl (hb hby at_135) (by decide) (by decide) ?_
          exact k)
      refine ⟨_, ?_, pre38⟩
      all_goals (first | (simp only [own_m0_139_s0, if_neg hc123]; done) | (simp [own_m0_139_s0, if_neg hc123]; done))
  have pre41 : own_Pre p e below (s₁.setTop (entryFrame m #[(.long q0), (.long q1), (.long q2), (.long q3), (.long q4), (.int p5)] maxLocals)) (T30.setTop (mkF m 143 #[.val (.long q0), .second, .val (.long q1), .second, .val (.long q2), .second, .val (.long q3), .second, .val (.long q4), .second, .val (.int p5), .val (.long x11_11), .second, .val (.long x13_19), .second, .val (.long x15_27), .second, .val (.long x17_35), .second, .val (.int m47_s0), .val (.int m61_s0), .val (.int m75_s0), .val (.ref b21), .val (.int m139_s0), .unset, .unset, .unset, .unset, .unset, .unset, .unset, .unset] [(.int m61_s0)])) := fun t k => pre33 t (by
      show Steps p.tables e below (T30.setTop (mkF m 139 #[.val (.long q0), .second, .val (.long q1), .second, .val (.long q2), .second, .val (.long q3), .second, .val (.long q4), .second, .val (.int p5), .val (.long x11_11), .second, .val (.long x13_19), .second, .val (.long x15_27), .second, .val (.long x17_35), .second, .val (.int m47_s0), .val (.int m61_s0), .val (.int m75_s0), .val (.ref b21), .unset, .unset, .unset, .unset, .unset, .unset, .unset, .unset, .unset] [(.int m139_s0)])) _
      refine XS.istore X30.here hx rfl (hb hby at_139) rfl (l' := #[.val (.long q0), .second, .val (.long q1), .second, .val (.long q2), .second, .val (.long q3), .second, .val (.long q4), .second, .val (.int p5), .val (.long x11_11), .second, .val (.long x13_19), .second, .val (.long x15_27), .second, .val (.long x17_35), .second, .val (.int m47_s0), .val (.int m61_s0), .val (.int m75_s0), .val (.ref b21), .val (.int m139_s0), .unset, .unset, .unset, .unset, .unset, .unset, .unset, .unset]) rfl ?_
      show Steps p.tables e below (T30.setTop (mkF m 141 #[.val (.long q0), .second, .val (.long q1), .second, .val (.long q2), .second, .val (.long q3), .second, .val (.long q4), .second, .val (.int p5), .val (.long x11_11), .second, .val (.long x13_19), .second, .val (.long x15_27), .second, .val (.long x17_35), .second, .val (.int m47_s0), .val (.int m61_s0), .val (.int m75_s0), .val (.ref b21), .val (.int m139_s0), .unset, .unset, .unset, .unset, .unset, .unset, .unset, .unset] [])) _
      refine XS.iload X30.here hx rfl (hb hby at_141) rfl ?_
      exact k)
  obtain ⟨m159_s0, hm159_s0, pre40⟩ : ∃ (m159_s0 : Int32), m159_s0 = (own_m0_139_s0 m61_s0 x15_27 x11_11) ∧ own_Pre p e below (s₁.setTop (entryFrame m #[(.long q0), (.long q1), (.long q2), (.long q3), (.long q4), (.int p5)] maxLocals)) (T30.setTop (mkF m 159 #[.val (.long q0), .second, .val (.long q1), .second, .val (.long q2), .second, .val (.long q3), .second, .val (.long q4), .second, .val (.int p5), .val (.long x11_11), .second, .val (.long x13_19), .second, .val (.long x15_27), .second, .val (.long x17_35), .second, .val (.int m47_s0), .val (.int m61_s0), .val (.int m75_s0), .val (.ref b21), .val (.int m139_s0), .unset, .unset, .unset, .unset, .unset, .unset, .unset, .unset] [(.int m159_s0)])) := by
    by_cases hc143 : m61_s0 = (0 : Int32)
    · have pre42 : own_Pre p e below (s₁.setTop (entryFrame m #[(.long q0), (.long q1), (.long q2), (.long q3), (.long q4), (.int p5)] maxLocals)) (T30.setTop (mkF m 151 #[.val (.long q0), .second, .val (.long q1), .second, .val (.long q2), .second, .val (.long q3), .second, .val (.long q4), .second, .val (.int p5), .val (.long x11_11), .second, .val (.long x13_19), .second, .val (.long x15_27), .second, .val (.long x17_35), .second, .val (.int m47_s0), .val (.int m61_s0), .val (.int m75_s0), .val (.ref b21), .val (.int m139_s0), .unset, .unset, .unset, .unset, .unset, .unset, .unset, .unset] [(.int (lcmpW x15_27 x11_11))])) := fun t k => pre41 t (by
          show Steps p.tables e below (T30.setTop (mkF m 143 #[.val (.long q0), .second, .val (.long q1), .second, .val (.long q2), .second, .val (.long q3), .second, .val (.long q4), .second, .val (.int p5), .val (.long x11_11), .second, .val (.long x13_19), .second, .val (.long x15_27), .second, .val (.long x17_35), .second, .val (.int m47_s0), .val (.int m61_s0), .val (.int m75_s0), .val (.ref b21), .val (.int m139_s0), .unset, .unset, .unset, .unset, .unset, .unset, .unset, .unset] [(.int m61_s0)])) _
          refine XS.ifNo X30.here hx rfl (hb hby at_143) rfl ((if0 _ _).trans (teq hc143).2) ?_
          show Steps p.tables e below (T30.setTop (mkF m 146 #[.val (.long q0), .second, .val (.long q1), .second, .val (.long q2), .second, .val (.long q3), .second, .val (.long q4), .second, .val (.int p5), .val (.long x11_11), .second, .val (.long x13_19), .second, .val (.long x15_27), .second, .val (.long x17_35), .second, .val (.int m47_s0), .val (.int m61_s0), .val (.int m75_s0), .val (.ref b21), .val (.int m139_s0), .unset, .unset, .unset, .unset, .unset, .unset, .unset, .unset] [])) _
          refine XS.lload X30.here hx rfl (hb hby at_146) rfl ?_
          show Steps p.tables e below (T30.setTop (mkF m 148 #[.val (.long q0), .second, .val (.long q1), .second, .val (.long q2), .second, .val (.long q3), .second, .val (.long q4), .second, .val (.int p5), .val (.long x11_11), .second, .val (.long x13_19), .second, .val (.long x15_27), .second, .val (.long x17_35), .second, .val (.int m47_s0), .val (.int m61_s0), .val (.int m75_s0), .val (.ref b21), .val (.int m139_s0), .unset, .unset, .unset, .unset, .unset, .unset, .unset, .unset] [(.long x15_27)])) _
          refine XS.lload X30.here hx rfl (hb hby at_148) rfl ?_
          show Steps p.tables e below (T30.setTop (mkF m 150 #[.val (.long q0), .second, .val (.long q1), .second, .val (.long q2), .second, .val (.long q3), .second, .val (.long q4), .second, .val (.int p5), .val (.long x11_11), .second, .val (.long x13_19), .second, .val (.long x15_27), .second, .val (.long x17_35), .second, .val (.int m47_s0), .val (.int m61_s0), .val (.int m75_s0), .val (.ref b21), .val (.int m139_s0), .unset, .unset, .unset, .unset, .unset, .unset, .unset, .unset] [(.long x11_11), (.long x15_27)])) _
          refine XS.lcmp X30.here hx rfl (hb hby at_150) rfl ?_
          exact k)
      by_cases hc151 : x15_27 < x11_11
      · have pre43 : own_Pre p e below (s₁.setTop (entryFrame m #[(.long q0), (.long q1), (.long q2), (.long q3), (.long q4), (.int p5)] maxLocals)) (T30.setTop (mkF m 159 #[.val (.long q0), .second, .val (.long q1), .second, .val (.long q2), .second, .val (.long q3), .second, .val (.long q4), .second, .val (.int p5), .val (.long x11_11), .second, .val (.long x13_19), .second, .val (.long x15_27), .second, .val (.long x17_35), .second, .val (.int m47_s0), .val (.int m61_s0), .val (.int m75_s0), .val (.ref b21), .val (.int m139_s0), .unset, .unset, .unset, .unset, .unset, .unset, .unset, .unset] [(.int (0 : Int32))])) := fun t k => pre42 t (by
            show Steps p.tables e below (T30.setTop (mkF m 151 #[.val (.long q0), .second, .val (.long q1), .second, .val (.long q2), .second, .val (.long q3), .second, .val (.long q4), .second, .val (.int p5), .val (.long x11_11), .second, .val (.long x13_19), .second, .val (.long x15_27), .second, .val (.long x17_35), .second, .val (.int m47_s0), .val (.int m61_s0), .val (.int m75_s0), .val (.ref b21), .val (.int m139_s0), .unset, .unset, .unset, .unset, .unset, .unset, .unset, .unset] [(.int (lcmpW x15_27 x11_11))])) _
            refine XS.ifYes X30.here hx rfl (pc0 := 151) (pc' := 158) rfl (hb hby at_151) rfl ((if0 _ _).trans (tlt ((lw_lt _ _).mpr hc151)).1) (by decide) (by decide) ?_
            show Steps p.tables e below (T30.setTop (mkF m 158 #[.val (.long q0), .second, .val (.long q1), .second, .val (.long q2), .second, .val (.long q3), .second, .val (.long q4), .second, .val (.int p5), .val (.long x11_11), .second, .val (.long x13_19), .second, .val (.long x15_27), .second, .val (.long x17_35), .second, .val (.int m47_s0), .val (.int m61_s0), .val (.int m75_s0), .val (.ref b21), .val (.int m139_s0), .unset, .unset, .unset, .unset, .unset, .unset, .unset, .unset] [])) _
            refine XS.iconst X30.here hx rfl (hb hby at_158) ?_
            exact k)
        refine ⟨_, ?_, pre43⟩
        all_goals (first | (simp only [own_m0_139_s0, if_pos hc143, if_pos hc151]; done) | (simp [own_m0_139_s0, if_pos hc143, if_pos hc151]; done))
      · have pre44 : own_Pre p e below (s₁.setTop (entryFrame m #[(.long q0), (.long q1), (.long q2), (.long q3), (.long q4), (.int p5)] maxLocals)) (T30.setTop (mkF m 159 #[.val (.long q0), .second, .val (.long q1), .second, .val (.long q2), .second, .val (.long q3), .second, .val (.long q4), .second, .val (.int p5), .val (.long x11_11), .second, .val (.long x13_19), .second, .val (.long x15_27), .second, .val (.long x17_35), .second, .val (.int m47_s0), .val (.int m61_s0), .val (.int m75_s0), .val (.ref b21), .val (.int m139_s0), .unset, .unset, .unset, .unset, .unset, .unset, .unset, .unset] [(.int (1 : Int32))])) := fun t k => pre42 t (by
            show Steps p.tables e below (T30.setTop (mkF m 151 #[.val (.long q0), .second, .val (.long q1), .second, .val (.long q2), .second, .val (.long q3), .second, .val (.long q4), .second, .val (.int p5), .val (.long x11_11), .second, .val (.long x13_19), .second, .val (.long x15_27), .second, .val (.long x17_35), .second, .val (.int m47_s0), .val (.int m61_s0), .val (.int m75_s0), .val (.ref b21), .val (.int m139_s0), .unset, .unset, .unset, .unset, .unset, .unset, .unset, .unset] [(.int (lcmpW x15_27 x11_11))])) _
            refine XS.ifNo X30.here hx rfl (hb hby at_151) rfl ((if0 _ _).trans (flt (mt (lw_lt _ _).mp hc151)).1) ?_
            show Steps p.tables e below (T30.setTop (mkF m 154 #[.val (.long q0), .second, .val (.long q1), .second, .val (.long q2), .second, .val (.long q3), .second, .val (.long q4), .second, .val (.int p5), .val (.long x11_11), .second, .val (.long x13_19), .second, .val (.long x15_27), .second, .val (.long x17_35), .second, .val (.int m47_s0), .val (.int m61_s0), .val (.int m75_s0), .val (.ref b21), .val (.int m139_s0), .unset, .unset, .unset, .unset, .unset, .unset, .unset, .unset] [])) _
            refine XS.iconst X30.here hx rfl (hb hby at_154) ?_
            show Steps p.tables e below (T30.setTop (mkF m 155 #[.val (.long q0), .second, .val (.long q1), .second, .val (.long q2), .second, .val (.long q3), .second, .val (.long q4), .second, .val (.int p5), .val (.long x11_11), .second, .val (.long x13_19), .second, .val (.long x15_27), .second, .val (.long x17_35), .second, .val (.int m47_s0), .val (.int m61_s0), .val (.int m75_s0), .val (.ref b21), .val (.int m139_s0), .unset, .unset, .unset, .unset, .unset, .unset, .unset, .unset] [(.int (1 : Int32))])) _
            refine XS.goto X30.here hx rfl (pc0 := 155) (pc' := 159) rfl (hb hby at_155) (by decide) (by decide) ?_
            exact k)
        refine ⟨_, ?_, pre44⟩
        all_goals (first | (simp only [own_m0_139_s0, if_pos hc143, if_neg hc151]; done) | (simp [own_m0_139_s0, if_pos hc143, if_neg hc151]; done))
    · have pre45 : own_Pre p e below (s₁.setTop (entryFrame m #[(.long q0), (.long q1), (.long q2), (.long q3), (.long q4), (.int p5)] maxLocals)) (T30.setTop (mkF m 159 #[.val (.long q0), .second, .val (.long q1), .second, .val (.long q2), .second, .val (.long q3), .second, .val (.long q4), .second, .val (.int p5), .val (.long x11_11), .second, .val (.long x13_19), .second, .val (.long x15_27), .second, .val (.long x17_35), .second, .val (.int m47_s0), .val (.int m61_s0), .val (.int m75_s0), .val (.ref b21), .val (.int m139_s0), .unset, .unset, .unset, .unset, .unset, .unset, .unset, .unset] [(.int (1 : Int32))])) := fun t k => pre41 t (by
          show Steps p.tables e below (T30.setTop (mkF m 143 #[.val (.long q0), .second, .val (.long q1), .second, .val (.long q2), .second, .val (.long q3), .second, .val (.long q4), .second, .val (.int p5), .val (.long x11_11), .second, .val (.long x13_19), .second, .val (.long x15_27), .second, .val (.long x17_35), .second, .val (.int m47_s0), .val (.int m61_s0), .val (.int m75_s0), .val (.ref b21), .val (.int m139_s0), .unset, .unset, .unset, .unset, .unset, .unset, .unset, .unset] [(.int m61_s0)])) _
          refine XS.ifYes X30.here hx rfl (pc0 := 143) (pc' := 154) rfl (hb hby at_143) rfl ((if0 _ _).trans (feq hc143).2) (by decide) (by decide) ?_
          show Steps p.tables e below (T30.setTop (mkF m 154 #[.val (.long q0), .second, .val (.long q1), .second, .val (.long q2), .second, .val (.long q3), .second, .val (.long q4), .second, .val (.int p5), .val (.long x11_11), .second, .val (.long x13_19), .second, .val (.long x15_27), .second, .val (.long x17_35), .second, .val (.int m47_s0), .val (.int m61_s0), .val (.int m75_s0), .val (.ref b21), .val (.int m139_s0), .unset, .unset, .unset, .unset, .unset, .unset, .unset, .unset] [])) _
          refine XS.iconst X30.here hx rfl (hb hby at_154) ?_
          show Steps p.tables e below (T30.setTop (mkF m 155 #[.val (.long q0), .second, .val (.long q1), .second, .val (.long q2), .second, .val (.long q3), .second, .val (.long q4), .second, .val (.int p5), .val (.long x11_11), .second, .val (.long x13_19), .second, .val (.long x15_27), .second, .val (.long x17_35), .second, .val (.int m47_s0), .val (.int m61_s0), .val (.int m75_s0), .val (.ref b21), .val (.int m139_s0), .unset, .unset, .unset, .unset, .unset, .unset, .unset, .unset] [(.int (1 : Int32))])) _
          refine XS.goto X30.here hx rfl (pc0 := 155) (pc' := 159) rfl (hb hby at_155) (by decide) (by decide) ?_
          exact k)
      refine ⟨_, ?_, pre45⟩
      all_goals (first | (simp only [own_m0_139_s0, if_neg hc143]; done) | (simp [own_m0_139_s0, if_neg hc143]; done))
  have pre48 : own_Pre p e below (s₁.setTop (entryFrame m #[(.long q0), (.long q1), (.long q2), (.long q3), (.long q4), (.int p5)] maxLocals)) (T30.setTop (mkF m 163 #[.val (.long q0), .second, .val (.long q1), .second, .val (.long q2), .second, .val (.long q3), .second, .val (.long q4), .second, .val (.int p5), .val (.long x11_11), .second, .val (.long x13_19), .second, .val (.long x15_27), .second, .val (.long x17_35), .second, .val (.int m47_s0), .val (.int m61_s0), .val (.int m75_s0), .val (.ref b21), .val (.int m139_s0), .val (.int m159_s0), .unset, .unset, .unset, .unset, .unset, .unset, .unset] [(.int m75_s0)])) := fun t k => pre40 t (by
      show Steps p.tables e below (T30.setTop (mkF m 159 #[.val (.long q0), .second, .val (.long q1), .second, .val (.long q2), .second, .val (.long q3), .second, .val (.long q4), .second, .val (.int p5), .val (.long x11_11), .second, .val (.long x13_19), .second, .val (.long x15_27), .second, .val (.long x17_35), .second, .val (.int m47_s0), .val (.int m61_s0), .val (.int m75_s0), .val (.ref b21), .val (.int m139_s0), .unset, .unset, .unset, .unset, .unset, .unset, .unset, .unset] [(.int m159_s0)])) _
      refine XS.istore X30.here hx rfl (hb hby at_159) rfl (l' := #[.val (.long q0), .second, .val (.long q1), .second, .val (.long q2), .second, .val (.long q3), .second, .val (.long q4), .second, .val (.int p5), .val (.long x11_11), .second, .val (.long x13_19), .second, .val (.long x15_27), .second, .val (.long x17_35), .second, .val (.int m47_s0), .val (.int m61_s0), .val (.int m75_s0), .val (.ref b21), .val (.int m139_s0), .val (.int m159_s0), .unset, .unset, .unset, .unset, .unset, .unset, .unset]) rfl ?_
      show Steps p.tables e below (T30.setTop (mkF m 161 #[.val (.long q0), .second, .val (.long q1), .second, .val (.long q2), .second, .val (.long q3), .second, .val (.long q4), .second, .val (.int p5), .val (.long x11_11), .second, .val (.long x13_19), .second, .val (.long x15_27), .second, .val (.long x17_35), .second, .val (.int m47_s0), .val (.int m61_s0), .val (.int m75_s0), .val (.ref b21), .val (.int m139_s0), .val (.int m159_s0), .unset, .unset, .unset, .unset, .unset, .unset, .unset] [])) _
      refine XS.iload X30.here hx rfl (hb hby at_161) rfl ?_
      exact k)
  obtain ⟨m179_s0, hm179_s0, pre47⟩ : ∃ (m179_s0 : Int32), m179_s0 = (own_m0_139_s0 m75_s0 x17_35 x11_11) ∧ own_Pre p e below (s₁.setTop (entryFrame m #[(.long q0), (.long q1), (.long q2), (.long q3), (.long q4), (.int p5)] maxLocals)) (T30.setTop (mkF m 179 #[.val (.long q0), .second, .val (.long q1), .second, .val (.long q2), .second, .val (.long q3), .second, .val (.long q4), .second, .val (.int p5), .val (.long x11_11), .second, .val (.long x13_19), .second, .val (.long x15_27), .second, .val (.long x17_35), .second, .val (.int m47_s0), .val (.int m61_s0), .val (.int m75_s0), .val (.ref b21), .val (.int m139_s0), .val (.int m159_s0), .unset, .unset, .unset, .unset, .unset, .unset, .unset] [(.int m179_s0)])) := by
    by_cases hc163 : m75_s0 = (0 : Int32)
    · have pre49 : own_Pre p e below (s₁.setTop (entryFrame m #[(.long q0), (.long q1), (.long q2), (.long q3), (.long q4), (.int p5)] maxLocals)) (T30.setTop (mkF m 171 #[.val (.long q0), .second, .val (.long q1), .second, .val (.long q2), .second, .val (.long q3), .second, .val (.long q4), .second, .val (.int p5), .val (.long x11_11), .second, .val (.long x13_19), .second, .val (.long x15_27), .second, .val (.long x17_35), .second, .val (.int m47_s0), .val (.int m61_s0), .val (.int m75_s0), .val (.ref b21), .val (.int m139_s0), .val (.int m159_s0), .unset, .unset, .unset, .unset, .unset, .unset, .unset] [(.int (lcmpW x17_35 x11_11))])) := fun t k => pre48 t (by
          show Steps p.tables e below (T30.setTop (mkF m 163 #[.val (.long q0), .second, .val (.long q1), .second, .val (.long q2), .second, .val (.long q3), .second, .val (.long q4), .second, .val (.int p5), .val (.long x11_11), .second, .val (.long x13_19), .second, .val (.long x15_27), .second, .val (.long x17_35), .second, .val (.int m47_s0), .val (.int m61_s0), .val (.int m75_s0), .val (.ref b21), .val (.int m139_s0), .val (.int m159_s0), .unset, .unset, .unset, .unset, .unset, .unset, .unset] [(.int m75_s0)])) _
          refine XS.ifNo X30.here hx rfl (hb hby at_163) rfl ((if0 _ _).trans (teq hc163).2) ?_
          show Steps p.tables e below (T30.setTop (mkF m 166 #[.val (.long q0), .second, .val (.long q1), .second, .val (.long q2), .second, .val (.long q3), .second, .val (.long q4), .second, .val (.int p5), .val (.long x11_11), .second, .val (.long x13_19), .second, .val (.long x15_27), .second, .val (.long x17_35), .second, .val (.int m47_s0), .val (.int m61_s0), .val (.int m75_s0), .val (.ref b21), .val (.int m139_s0), .val (.int m159_s0), .unset, .unset, .unset, .unset, .unset, .unset, .unset] [])) _
          refine XS.lload X30.here hx rfl (hb hby at_166) rfl ?_
          show Steps p.tables e below (T30.setTop (mkF m 168 #[.val (.long q0), .second, .val (.long q1), .second, .val (.long q2), .second, .val (.long q3), .second, .val (.long q4), .second, .val (.int p5), .val (.long x11_11), .second, .val (.long x13_19), .second, .val (.long x15_27), .second, .val (.long x17_35), .second, .val (.int m47_s0), .val (.int m61_s0), .val (.int m75_s0), .val (.ref b21), .val (.int m139_s0), .val (.int m159_s0), .unset, .unset, .unset, .unset, .unset, .unset, .unset] [(.long x17_35)])) _
          refine XS.lload X30.here hx rfl (hb hby at_168) rfl ?_
          show Steps p.tables e below (T30.setTop (mkF m 170 #[.val (.long q0), .second, .val (.long q1), .second, .val (.long q2), .second, .val (.long q3), .second, .val (.long q4), .second, .val (.int p5), .val (.long x11_11), .second, .val (.long x13_19), .second, .val (.long x15_27), .second, .val (.long x17_35), .second, .val (.int m47_s0), .val (.int m61_s0), .val (.int m75_s0), .val (.ref b21), .val (.int m139_s0), .val (.int m159_s0), .unset, .unset, .unset, .unset, .unset, .unset, .unset] [(.long x11_11), (.long x17_35)])) _
          refine XS.lcmp X30.here hx rfl (hb hby at_170) rfl ?_
          exact k)
      by_cases hc171 : x17_35 < x11_11
      · have pre50 : own_Pre p e below (s₁.setTop (entryFrame m #[(.long q0), (.long q1), (.long q2), (.long q3), (.long q4), (.int p5)] maxLocals)) (T30.setTop (mkF m 179 #[.val (.long q0), .second, .val (.long q1), .second, .val (.long q2), .second, .val (.long q3), .second, .val (.long q4), .second, .val (.int p5), .val (.long x11_11), .second, .val (.long x13_19), .second, .val (.long x15_27), .second, .val (.long x17_35), .second, .val (.int m47_s0), .val (.int m61_s0), .val (.int m75_s0), .val (.ref b21), .val (.int m139_s0), .val (.int m159_s0), .unset, .unset, .unset, .unset, .unset, .unset, .unset] [(.int (0 : Int32))])) := fun t k => pre49 t (by
            show Steps p.tables e below (T30.setTop (mkF m 171 #[.val (.long q0), .second, .val (.long q1), .second, .val (.long q2), .second, .val (.long q3), .second, .val (.long q4), .second, .val (.int p5), .val (.long x11_11), .second, .val (.long x13_19), .second, .val (.long x15_27), .second, .val (.long x17_35), .second, .val (.int m47_s0), .val (.int m61_s0), .val (.int m75_s0), .val (.ref b21), .val (.int m139_s0), .val (.int m159_s0), .unset, .unset, .unset, .unset, .unset, .unset, .unset] [(.int (lcmpW x17_35 x11_11))])) _
            refine XS.ifYes X30.here hx rfl (pc0 := 171) (pc' := 178) rfl (hb hby at_171) rfl ((if0 _ _).trans (tlt ((lw_lt _ _).mpr hc171)).1) (by decide) (by decide) ?_
            show Steps p.tables e below (T30.setTop (mkF m 178 #[.val (.long q0), .second, .val (.long q1), .second, .val (.long q2), .second, .val (.long q3), .second, .val (.long q4), .second, .val (.int p5), .val (.long x11_11), .second, .val (.long x13_19), .second, .val (.long x15_27), .second, .val (.long x17_35), .second, .val (.int m47_s0), .val (.int m61_s0), .val (.int m75_s0), .val (.ref b21), .val (.int m139_s0), .val (.int m159_s0), .unset, .unset, .unset, .unset, .unset, .unset, .unset] [])) _
            refine XS.iconst X30.here hx rfl (hb hby at_178) ?_
            exact k)
        refine ⟨_, ?_, pre50⟩
        all_goals (first | (simp only [own_m0_139_s0, if_pos hc163, if_pos hc171]; done) | (simp [own_m0_139_s0, if_pos hc163, if_pos hc171]; done))
      · have pre51 : own_Pre p e below (s₁.setTop (entryFrame m #[(.long q0), (.long q1), (.long q2), (.long q3), (.long q4), (.int p5)] maxLocals)) (T30.setTop (mkF m 179 #[.val (.long q0), .second, .val (.long q1), .second, .val (.long q2), .second, .val (.long q3), .second, .val (.long q4), .second, .val (.int p5), .val (.long x11_11), .second, .val (.long x13_19), .second, .val (.long x15_27), .second, .val (.long x17_35), .second, .val (.int m47_s0), .val (.int m61_s0), .val (.int m75_s0), .val (.ref b21), .val (.int m139_s0), .val (.int m159_s0), .unset, .unset, .unset, .unset, .unset, .unset, .unset] [(.int (1 : Int32))])) := fun t k => pre49 t (by
            show Steps p.tables e below (T30.setTop (mkF m 171 #[.val (.long q0), .second, .val (.long q1), .second, .val (.long q2), .second, .val (.long q3), .second, .val (.long q4), .second, .val (.int p5), .val (.long x11_11), .second, .val (.long x13_19), .second, .val (.long x15_27), .second, .val (.long x17_35), .second, .val (.int m47_s0), .val (.int m61_s0), .val (.int m75_s0), .val (.ref b21), .val (.int m139_s0), .val (.int m159_s0), .unset, .unset, .unset, .unset, .unset, .unset, .unset] [(.int (lcmpW x17_35 x11_11))])) _
            refine XS.ifNo X30.here hx rfl (hb hby at_171) rfl ((if0 _ _).trans (flt (mt (lw_lt _ _).mp hc171)).1) ?_
            show Steps p.tables e below (T30.setTop (mkF m 174 #[.val (.long q0), .second, .val (.long q1), .second, .val (.long q2), .second, .val (.long q3), .second, .val (.long q4), .second, .val (.int p5), .val (.long x11_11), .second, .val (.long x13_19), .second, .val (.long x15_27), .second, .val (.long x17_35), .second, .val (.int m47_s0), .val (.int m61_s0), .val (.int m75_s0), .val (.ref b21), .val (.int m139_s0), .val (.int m159_s0), .unset, .unset, .unset, .unset, .unset, .unset, .unset] [])) _
            refine XS.iconst X30.here hx rfl (hb hby at_174) ?_
            show Steps p.tables e below (T30.setTop (mkF m 175 #[.val (.long q0), .second, .val (.long q1), .second, .val (.long q2), .second, .val (.long q3), .second, .val (.long q4), .second, .val (.int p5), .val (.long x11_11), .second, .val (.long x13_19), .second, .val (.long x15_27), .second, .val (.long x17_35), .second, .val (.int m47_s0), .val (.int m61_s0), .val (.int m75_s0), .val (.ref b21), .val (.int m139_s0), .val (.int m159_s0), .unset, .unset, .unset, .unset, .unset, .unset, .unset] [(.int (1 : Int32))])) _
            refine XS.goto X30.here hx rfl (pc0 := 175) (pc' := 179) rfl (hb hby at_175) (by decide) (by decide) ?_
            exact k)
        refine ⟨_, ?_, pre51⟩
        all_goals (first | (simp only [own_m0_139_s0, if_pos hc163, if_neg hc171]; done) | (simp [own_m0_139_s0, if_pos hc163, if_neg hc171]; done))
    · have pre52 : own_Pre p e below (s₁.setTop (entryFrame m #[(.long q0), (.long q1), (.long q2), (.long q3), (.long q4), (.int p5)] maxLocals)) (T30.setTop (mkF m 179 #[.val (.long q0), .second, .val (.long q1), .second, .val (.long q2), .second, .val (.long q3), .second, .val (.long q4), .second, .val (.int p5), .val (.long x11_11), .second, .val (.long x13_19), .second, .val (.long x15_27), .second, .val (.long x17_35), .second, .val (.int m47_s0), .val (.int m61_s0), .val (.int m75_s0), .val (.ref b21), .val (.int m139_s0), .val (.int m159_s0), .unset, .unset, .unset, .unset, .unset, .unset, .unset] [(.int (1 : Int32))])) := fun t k => pre48 t (by
          show Steps p.tables e below (T30.setTop (mkF m 163 #[.val (.long q0), .second, .val (.long q1), .second, .val (.long q2), .second, .val (.long q3), .second, .val (.long q4), .second, .val (.int p5), .val (.long x11_11), .second, .val (.long x13_19), .second, .val (.long x15_27), .second, .val (.long x17_35), .second, .val (.int m47_s0), .val (.int m61_s0), .val (.int m75_s0), .val (.ref b21), .val (.int m139_s0), .val (.int m159_s0), .unset, .unset, .unset, .unset, .unset, .unset, .unset] [(.int m75_s0)])) _
          refine XS.ifYes X30.here hx rfl (pc0 := 163) (pc' := 174) rfl (hb hby at_163) rfl ((if0 _ _).trans (feq hc163).2) (by decide) (by decide) ?_
          show Steps p.tables e below (T30.setTop (mkF m 174 #[.val (.long q0), .second, .val (.long q1), .second, .val (.long q2), .second, .val (.long q3), .second, .val (.long q4), .second, .val (.int p5), .val (.long x11_11), .second, .val (.long x13_19), .second, .val (.long x15_27), .second, .val (.long x17_35), .second, .val (.int m47_s0), .val (.int m61_s0), .val (.int m75_s0), .val (.ref b21), .val (.int m139_s0), .val (.int m159_s0), .unset, .unset, .unset, .unset, .unset, .unset, .unset] [])) _
          refine XS.iconst X30.here hx rfl (hb hby at_174) ?_
          show Steps p.tables e below (T30.setTop (mkF m 175 #[.val (.long q0), .second, .val (.long q1), .second, .val (.long q2), .second, .val (.long q3), .second, .val (.long q4), .second, .val (.int p5), .val (.long x11_11), .second, .val (.long x13_19), .second, .val (.long x15_27), .second, .val (.long x17_35), .second, .val (.int m47_s0), .val (.int m61_s0), .val (.int m75_s0), .val (.ref b21), .val (.int m139_s0), .val (.int m159_s0), .unset, .unset, .unset, .unset, .unset, .unset, .unset] [(.int (1 : Int32))])) _
          refine XS.goto X30.here hx rfl (pc0 := 175) (pc' := 179) rfl (hb hby at_175) (by decide) (by decide) ?_
          exact k)
      refine ⟨_, ?_, pre52⟩
      all_goals (first | (simp only [own_m0_139_s0, if_neg hc163]; done) | (simp [own_m0_139_s0, if_neg hc163]; done))
  have z54 : n0 ≤ (T30.heap).size := (Nat.le_trans z31 K30.1)
  obtain ⟨_, _, ⟨T53, L53, k53, n53⟩, -, X53, ⟨Lc53, hQ53, l53, y53, z53⟩, st53⟩ := Jvm.LawKit.callS X30 hx (y := (⟨"com/example/hopchuan/hopchuan/ErrorCounterSecondPinLaw", "es", "(ZJ)J"⟩ : MethodName)) hown (mvT hZ (hw _ (List.mem_of_getElem? (i := 43) rfl))) (mvT hZ (hw _ (List.mem_of_getElem? (i := 44) rfl))) (mvT hZ (hw _ (List.mem_of_getElem? (i := 45) rfl))) (mvT hZ (hw _ (List.mem_of_getElem? (i := 46) rfl))) (by decide) (backOf (W := 0) (rm7 l Z aw hw [] (m139_s0) (x13_19) (T30.heap) n0 z54) hZ (hw _ (List.mem_of_getElem? (i := 46) rfl)) (hw _ (List.mem_of_getElem? (i := 45) rfl)) (by decide) (by decide)) (g := (mkF m 185 #[.val (.long q0), .second, .val (.long q1), .second, .val (.long q2), .second, .val (.long q3), .second, .val (.long q4), .second, .val (.int p5), .val (.long x11_11), .second, .val (.long x13_19), .second, .val (.long x15_27), .second, .val (.long x17_35), .second, .val (.int m47_s0), .val (.int m61_s0), .val (.int m75_s0), .val (.ref b21), .val (.int m139_s0), .val (.int m159_s0), .val (.int m179_s0), .unset, .unset, .unset, .unset, .unset, .unset] [(.long x13_19), (.int m139_s0)])) rfl (by rw [hml]; rfl) (argsL := [(.int m139_s0), (.long x13_19)]) (rest := []) (lenOf pd_4 rfl) rfl (by show 2 * 0 + _ ≤ _; exact Nat.le_of_eq rfl) (hb hby at_185) (fun _ _ => ⟨rfl, rfl, (by decide : 1 + 0 ≤ _), (by decide : 13 + 0 ≤ _)⟩)
  dsimp only [Pt.U, Pt.locs, Pt.cells, Pt.slots] at X53 l53 y53 z53 st53 hQ53
  subst l53 y53 z53
  obtain ⟨rfl, Nq53, eq53⟩ := hQ53
  have N53 := Fr.app N30 Nq53
  obtain ⟨_, _, ⟨T55, L55, k55, n55⟩, -, X55, ⟨Lc55, hQ55, l55, y55, z55⟩, st55⟩ := Jvm.LawKit.callS X53 hx (y := (⟨"com/example/hopchuan/hopchuan/ErrorCounterSecondPinLaw", "es", "(ZJ)J"⟩ : MethodName)) hown (mvT hZ (hw _ (List.mem_of_getElem? (i := 43) rfl))) (mvT hZ (hw _ (List.mem_of_getElem? (i := 44) rfl))) (mvT hZ (hw _ (List.mem_of_getElem? (i := 45) rfl))) (mvT hZ (hw _ (List.mem_of_getElem? (i := 46) rfl))) (by decide) (backOf (W := 2) (rm7 l Z aw hw [] (m159_s0) (x15_27) (T30.heap) n0 z54) hZ (hw _ (List.mem_of_getElem? (i := 46) rfl)) (hw _ (List.mem_of_getElem? (i := 45) rfl)) (by decide) (by decide)) (g := (mkF m 192 #[.val (.long q0), .second, .val (.long q1), .second, .val (.long q2), .second, .val (.long q3), .second, .val (.long q4), .second, .val (.int p5), .val (.long x11_11), .second, .val (.long x13_19), .second, .val (.long x15_27), .second, .val (.long x17_35), .second, .val (.int m47_s0), .val (.int m61_s0), .val (.int m75_s0), .val (.ref b21), .val (.int m139_s0), .val (.int m159_s0), .val (.int m179_s0), .unset, .unset, .unset, .unset, .unset, .unset] [(.long x15_27), (.int m159_s0), (.long (own_f7 m139_s0 x13_19))])) rfl (by rw [hml]; rfl) (argsL := [(.int m159_s0), (.long x15_27)]) (rest := [(.long (own_f7 m139_s0 x13_19))]) (lenOf pd_4 rfl) rfl (by show 2 * 0 + _ ≤ _; exact Nat.le_of_eq rfl) (hb hby at_192) (fun _ _ => ⟨rfl, eq53, (by decide : 1 + 0 ≤ _), (by decide : 13 + 0 ≤ _)⟩)
  dsimp only [Pt.U, Pt.locs, Pt.cells, Pt.slots] at X55 l55 y55 z55 st55 hQ55
  subst l55 y55 z55
  obtain ⟨rfl, Nq55, eq55⟩ := hQ55
  have N55 := Fr.app N53 Nq55
  obtain ⟨_, _, ⟨T56, L56, k56, n56⟩, -, X56, ⟨Lc56, hQ56, l56, y56, z56⟩, st56⟩ := Jvm.LawKit.callS X55 hx (y := (⟨"com/example/hopchuan/hopchuan/ErrorCounterSecondPinLaw", "es", "(ZJ)J"⟩ : MethodName)) hown (mvT hZ (hw _ (List.mem_of_getElem? (i := 43) rfl))) (mvT hZ (hw _ (List.mem_of_getElem? (i := 44) rfl))) (mvT hZ (hw _ (List.mem_of_getElem? (i := 45) rfl))) (mvT hZ (hw _ (List.mem_of_getElem? (i := 46) rfl))) (by decide) (backOf (W := 2) (rm7 l Z aw hw [] (m179_s0) (x17_35) (T30.heap) n0 z54) hZ (hw _ (List.mem_of_getElem? (i := 46) rfl)) (hw _ (List.mem_of_getElem? (i := 45) rfl)) (by decide) (by decide)) (g := (mkF m 200 #[.val (.long q0), .second, .val (.long q1), .second, .val (.long q2), .second, .val (.long q3), .second, .val (.long q4), .second, .val (.int p5), .val (.long x11_11), .second, .val (.long x13_19), .second, .val (.long x15_27), .second, .val (.long x17_35), .second, .val (.int m47_s0), .val (.int m61_s0), .val (.int m75_s0), .val (.ref b21), .val (.int m139_s0), .val (.int m159_s0), .val (.int m179_s0), .unset, .unset, .unset, .unset, .unset, .unset] [(.long x17_35), (.int m179_s0), (.long ((own_f7 m139_s0 x13_19) + (own_f7 m159_s0 x15_27)))])) rfl (by rw [hml]; rfl) (argsL := [(.int m179_s0), (.long x17_35)]) (rest := [(.long ((own_f7 m139_s0 x13_19) + (own_f7 m159_s0 x15_27)))]) (lenOf pd_4 rfl) rfl (by show 2 * 0 + _ ≤ _; exact Nat.le_of_eq rfl) (hb hby at_200) (fun _ _ => ⟨rfl, eq55, (by decide : 1 + 0 ≤ _), (by decide : 13 + 0 ≤ _)⟩)
  dsimp only [Pt.U, Pt.locs, Pt.cells, Pt.slots] at X56 l56 y56 z56 st56 hQ56
  subst l56 y56 z56
  obtain ⟨rfl, Nq56, eq56⟩ := hQ56
  have N56 := Fr.app N55 Nq56
  obtain ⟨x26_206, hx26_206, pre57⟩ : ∃ z : Int64, z = (((own_f7 m139_s0 x13_19) + (own_f7 m159_s0 x15_27)) + (own_f7 m179_s0 x17_35)) ∧ own_Pre p e below (s₁.setTop (entryFrame m #[(.long q0), (.long q1), (.long q2), (.long q3), (.long q4), (.int p5)] maxLocals)) (T56.setTop (mkF m 206 #[.val (.long q0), .second, .val (.long q1), .second, .val (.long q2), .second, .val (.long q3), .second, .val (.long q4), .second, .val (.int p5), .val (.long x11_11), .second, .val (.long x13_19), .second, .val (.long x15_27), .second, .val (.long x17_35), .second, .val (.int m47_s0), .val (.int m61_s0), .val (.int m75_s0), .val (.ref b21), .val (.int m139_s0), .val (.int m159_s0), .val (.int m179_s0), .val (.long z), .second, .unset, .unset, .unset, .unset] [])) := ⟨_, rfl, fun t k => pre47 t (by
      show Steps p.tables e below (T30.setTop (mkF m 179 #[.val (.long q0), .second, .val (.long q1), .second, .val (.long q2), .second, .val (.long q3), .second, .val (.long q4), .second, .val (.int p5), .val (.long x11_11), .second, .val (.long x13_19), .second, .val (.long x15_27), .second, .val (.long x17_35), .second, .val (.int m47_s0), .val (.int m61_s0), .val (.int m75_s0), .val (.ref b21), .val (.int m139_s0), .val (.int m159_s0), .unset, .unset, .unset, .unset, .unset, .unset, .unset] [(.int m179_s0)])) _
      refine XS.istore X30.here hx rfl (hb hby at_179) rfl (l' := #[.val (.long q0), .second, .val (.long q1), .second, .val (.long q2), .second, .val (.long q3), .second, .val (.long q4), .second, .val (.int p5), .val (.long x11_11), .second, .val (.long x13_19), .second, .val (.long x15_27), .second, .val (.long x17_35), .second, .val (.int m47_s0), .val (.int m61_s0), .val (.int m75_s0), .val (.ref b21), .val (.int m139_s0), .val (.int m159_s0), .val (.int m179_s0), .unset, .unset, .unset, .unset, .unset, .unset]) rfl ?_
      show Steps p.tables e below (T30.setTop (mkF m 181 #[.val (.long q0), .second, .val (.long q1), .second, .val (.long q2), .second, .val (.long q3), .second, .val (.long q4), .second, .val (.int p5), .val (.long x11_11), .second, .val (.long x13_19), .second, .val (.long x15_27), .second, .val (.long x17_35), .second, .val (.int m47_s0), .val (.int m61_s0), .val (.int m75_s0), .val (.ref b21), .val (.int m139_s0), .val (.int m159_s0), .val (.int m179_s0), .unset, .unset, .unset, .unset, .unset, .unset] [])) _
      refine XS.iload X30.here hx rfl (hb hby at_181) rfl ?_
      show Steps p.tables e below (T30.setTop (mkF m 183 #[.val (.long q0), .second, .val (.long q1), .second, .val (.long q2), .second, .val (.long q3), .second, .val (.long q4), .second, .val (.int p5), .val (.long x11_11), .second, .val (.long x13_19), .second, .val (.long x15_27), .second, .val (.long x17_35), .second, .val (.int m47_s0), .val (.int m61_s0), .val (.int m75_s0), .val (.ref b21), .val (.int m139_s0), .val (.int m159_s0), .val (.int m179_s0), .unset, .unset, .unset, .unset, .unset, .unset] [(.int m139_s0)])) _
      refine XS.lload X30.here hx rfl (hb hby at_183) rfl ?_
      show Steps p.tables e below (T30.setTop (mkF m 185 #[.val (.long q0), .second, .val (.long q1), .second, .val (.long q2), .second, .val (.long q3), .second, .val (.long q4), .second, .val (.int p5), .val (.long x11_11), .second, .val (.long x13_19), .second, .val (.long x15_27), .second, .val (.long x17_35), .second, .val (.int m47_s0), .val (.int m61_s0), .val (.int m75_s0), .val (.ref b21), .val (.int m139_s0), .val (.int m159_s0), .val (.int m179_s0), .unset, .unset, .unset, .unset, .unset, .unset] [(.long x13_19), (.int m139_s0)])) _
      refine st53 _ ?_
      show Steps p.tables e below (T53.setTop (mkF m 188 #[.val (.long q0), .second, .val (.long q1), .second, .val (.long q2), .second, .val (.long q3), .second, .val (.long q4), .second, .val (.int p5), .val (.long x11_11), .second, .val (.long x13_19), .second, .val (.long x15_27), .second, .val (.long x17_35), .second, .val (.int m47_s0), .val (.int m61_s0), .val (.int m75_s0), .val (.ref b21), .val (.int m139_s0), .val (.int m159_s0), .val (.int m179_s0), .unset, .unset, .unset, .unset, .unset, .unset] [(.long (own_f7 m139_s0 x13_19))])) _
      refine XS.iload X53.here hx rfl (hb hby at_188) rfl ?_
      show Steps p.tables e below (T53.setTop (mkF m 190 #[.val (.long q0), .second, .val (.long q1), .second, .val (.long q2), .second, .val (.long q3), .second, .val (.long q4), .second, .val (.int p5), .val (.long x11_11), .second, .val (.long x13_19), .second, .val (.long x15_27), .second, .val (.long x17_35), .second, .val (.int m47_s0), .val (.int m61_s0), .val (.int m75_s0), .val (.ref b21), .val (.int m139_s0), .val (.int m159_s0), .val (.int m179_s0), .unset, .unset, .unset, .unset, .unset, .unset] [(.int m159_s0), (.long (own_f7 m139_s0 x13_19))])) _
      refine XS.lload X53.here hx rfl (hb hby at_190) rfl ?_
      show Steps p.tables e below (T53.setTop (mkF m 192 #[.val (.long q0), .second, .val (.long q1), .second, .val (.long q2), .second, .val (.long q3), .second, .val (.long q4), .second, .val (.int p5), .val (.long x11_11), .second, .val (.long x13_19), .second, .val (.long x15_27), .second, .val (.long x17_35), .second, .val (.int m47_s0), .val (.int m61_s0), .val (.int m75_s0), .val (.ref b21), .val (.int m139_s0), .val (.int m159_s0), .val (.int m179_s0), .unset, .unset, .unset, .unset, .unset, .unset] [(.long x15_27), (.int m159_s0), (.long (own_f7 m139_s0 x13_19))])) _
      refine st55 _ ?_
      show Steps p.tables e below (T55.setTop (mkF m 195 #[.val (.long q0), .second, .val (.long q1), .second, .val (.long q2), .second, .val (.long q3), .second, .val (.long q4), .second, .val (.int p5), .val (.long x11_11), .second, .val (.long x13_19), .second, .val (.long x15_27), .second, .val (.long x17_35), .second, .val (.int m47_s0), .val (.int m61_s0), .val (.int m75_s0), .val (.ref b21), .val (.int m139_s0), .val (.int m159_s0), .val (.int m179_s0), .unset, .unset, .unset, .unset, .unset, .unset] [(.long (own_f7 m159_s0 x15_27)), (.long (own_f7 m139_s0 x13_19))])) _
      refine XS.ladd X55.here hx rfl (hb hby at_195) rfl ?_
      show Steps p.tables e below (T55.setTop (mkF m 196 #[.val (.long q0), .second, .val (.long q1), .second, .val (.long q2), .second, .val (.long q3), .second, .val (.long q4), .second, .val (.int p5), .val (.long x11_11), .second, .val (.long x13_19), .second, .val (.long x15_27), .second, .val (.long x17_35), .second, .val (.int m47_s0), .val (.int m61_s0), .val (.int m75_s0), .val (.ref b21), .val (.int m139_s0), .val (.int m159_s0), .val (.int m179_s0), .unset, .unset, .unset, .unset, .unset, .unset] [(.long ((own_f7 m139_s0 x13_19) + (own_f7 m159_s0 x15_27)))])) _
      refine XS.iload X55.here hx rfl (hb hby at_196) rfl ?_
      show Steps p.tables e below (T55.setTop (mkF m 198 #[.val (.long q0), .second, .val (.long q1), .second, .val (.long q2), .second, .val (.long q3), .second, .val (.long q4), .second, .val (.int p5), .val (.long x11_11), .second, .val (.long x13_19), .second, .val (.long x15_27), .second, .val (.long x17_35), .second, .val (.int m47_s0), .val (.int m61_s0), .val (.int m75_s0), .val (.ref b21), .val (.int m139_s0), .val (.int m159_s0), .val (.int m179_s0), .unset, .unset, .unset, .unset, .unset, .unset] [(.int m179_s0), (.long ((own_f7 m139_s0 x13_19) + (own_f7 m159_s0 x15_27)))])) _
      refine XS.lload X55.here hx rfl (hb hby at_198) rfl ?_
      show Steps p.tables e below (T55.setTop (mkF m 200 #[.val (.long q0), .second, .val (.long q1), .second, .val (.long q2), .second, .val (.long q3), .second, .val (.long q4), .second, .val (.int p5), .val (.long x11_11), .second, .val (.long x13_19), .second, .val (.long x15_27), .second, .val (.long x17_35), .second, .val (.int m47_s0), .val (.int m61_s0), .val (.int m75_s0), .val (.ref b21), .val (.int m139_s0), .val (.int m159_s0), .val (.int m179_s0), .unset, .unset, .unset, .unset, .unset, .unset] [(.long x17_35), (.int m179_s0), (.long ((own_f7 m139_s0 x13_19) + (own_f7 m159_s0 x15_27)))])) _
      refine st56 _ ?_
      show Steps p.tables e below (T56.setTop (mkF m 203 #[.val (.long q0), .second, .val (.long q1), .second, .val (.long q2), .second, .val (.long q3), .second, .val (.long q4), .second, .val (.int p5), .val (.long x11_11), .second, .val (.long x13_19), .second, .val (.long x15_27), .second, .val (.long x17_35), .second, .val (.int m47_s0), .val (.int m61_s0), .val (.int m75_s0), .val (.ref b21), .val (.int m139_s0), .val (.int m159_s0), .val (.int m179_s0), .unset, .unset, .unset, .unset, .unset, .unset] [(.long (own_f7 m179_s0 x17_35)), (.long ((own_f7 m139_s0 x13_19) + (own_f7 m159_s0 x15_27)))])) _
      refine XS.ladd X56.here hx rfl (hb hby at_203) rfl ?_
      show Steps p.tables e below (T56.setTop (mkF m 204 #[.val (.long q0), .second, .val (.long q1), .second, .val (.long q2), .second, .val (.long q3), .second, .val (.long q4), .second, .val (.int p5), .val (.long x11_11), .second, .val (.long x13_19), .second, .val (.long x15_27), .second, .val (.long x17_35), .second, .val (.int m47_s0), .val (.int m61_s0), .val (.int m75_s0), .val (.ref b21), .val (.int m139_s0), .val (.int m159_s0), .val (.int m179_s0), .unset, .unset, .unset, .unset, .unset, .unset] [(.long (((own_f7 m139_s0 x13_19) + (own_f7 m159_s0 x15_27)) + (own_f7 m179_s0 x17_35)))])) _
      refine XS.lstore X56.here hx rfl (hb hby at_204) rfl (l' := #[.val (.long q0), .second, .val (.long q1), .second, .val (.long q2), .second, .val (.long q3), .second, .val (.long q4), .second, .val (.int p5), .val (.long x11_11), .second, .val (.long x13_19), .second, .val (.long x15_27), .second, .val (.long x17_35), .second, .val (.int m47_s0), .val (.int m61_s0), .val (.int m75_s0), .val (.ref b21), .val (.int m139_s0), .val (.int m159_s0), .val (.int m179_s0), .val (.long (((own_f7 m139_s0 x13_19) + (own_f7 m159_s0 x15_27)) + (own_f7 m179_s0 x17_35))), .second, .unset, .unset, .unset, .unset]) rfl ?_
      exact k)⟩
  obtain ⟨_, _, ⟨T58, L58, k58, n58⟩, -, X58, ⟨Lc58, hQ58, l58, y58, z58⟩, st58⟩ := Jvm.LawKit.callS X56 hx (y := (⟨"com/example/hopchuan/hopchuan/ErrorCounterSecondPinLaw", "ses", "(Z)J"⟩ : MethodName)) hown (mvT hZ (hw _ (List.mem_of_getElem? (i := 47) rfl))) (mvT hZ (hw _ (List.mem_of_getElem? (i := 48) rfl))) (mvT hZ (hw _ (List.mem_of_getElem? (i := 45) rfl))) (mvT hZ (hw _ (List.mem_of_getElem? (i := 49) rfl))) (by decide) (backOf (W := 0) (rm8 l Z aw hw [] (m139_s0) (T30.heap) n0 z54) hZ (hw _ (List.mem_of_getElem? (i := 49) rfl)) (hw _ (List.mem_of_getElem? (i := 45) rfl)) (by decide) (by decide)) (g := (mkF m 208 #[.val (.long q0), .second, .val (.long q1), .second, .val (.long q2), .second, .val (.long q3), .second, .val (.long q4), .second, .val (.int p5), .val (.long x11_11), .second, .val (.long x13_19), .second, .val (.long x15_27), .second, .val (.long x17_35), .second, .val (.int m47_s0), .val (.int m61_s0), .val (.int m75_s0), .val (.ref b21), .val (.int m139_s0), .val (.int m159_s0), .val (.int m179_s0), .val (.long x26_206), .second, .unset, .unset, .unset, .unset] [(.int m139_s0)])) rfl (by rw [hml]; rfl) (argsL := [(.int m139_s0)]) (rest := []) (lenOf pd_5 rfl) rfl (by show 2 * 0 + _ ≤ _; exact Nat.le_of_eq rfl) (hb hby at_208) (fun _ _ => ⟨rfl, eq56, (by decide : 1 + 0 ≤ _), (by decide : 13 + 0 ≤ _)⟩)
  dsimp only [Pt.U, Pt.locs, Pt.cells, Pt.slots] at X58 l58 y58 z58 st58 hQ58
  subst l58 y58 z58
  obtain ⟨rfl, Nq58, eq58⟩ := hQ58
  have N58 := Fr.app N56 Nq58
  obtain ⟨_, _, ⟨T59, L59, k59, n59⟩, -, X59, ⟨Lc59, hQ59, l59, y59, z59⟩, st59⟩ := Jvm.LawKit.callS X58 hx (y := (⟨"com/example/hopchuan/hopchuan/ErrorCounterSecondPinLaw", "ses", "(Z)J"⟩ : MethodName)) hown (mvT hZ (hw _ (List.mem_of_getElem? (i := 47) rfl))) (mvT hZ (hw _ (List.mem_of_getElem? (i := 48) rfl))) (mvT hZ (hw _ (List.mem_of_getElem? (i := 45) rfl))) (mvT hZ (hw _ (List.mem_of_getElem? (i := 49) rfl))) (by decide) (backOf (W := 2) (rm8 l Z aw hw [] (m159_s0) (T30.heap) n0 z54) hZ (hw _ (List.mem_of_getElem? (i := 49) rfl)) (hw _ (List.mem_of_getElem? (i := 45) rfl)) (by decide) (by decide)) (g := (mkF m 213 #[.val (.long q0), .second, .val (.long q1), .second, .val (.long q2), .second, .val (.long q3), .second, .val (.long q4), .second, .val (.int p5), .val (.long x11_11), .second, .val (.long x13_19), .second, .val (.long x15_27), .second, .val (.long x17_35), .second, .val (.int m47_s0), .val (.int m61_s0), .val (.int m75_s0), .val (.ref b21), .val (.int m139_s0), .val (.int m159_s0), .val (.int m179_s0), .val (.long x26_206), .second, .unset, .unset, .unset, .unset] [(.int m159_s0), (.long (own_f8 m139_s0))])) rfl (by rw [hml]; rfl) (argsL := [(.int m159_s0)]) (rest := [(.long (own_f8 m139_s0))]) (lenOf pd_5 rfl) rfl (by show 2 * 0 + _ ≤ _; exact Nat.le_of_eq rfl) (hb hby at_213) (fun _ _ => ⟨rfl, eq58, (by decide : 1 + 0 ≤ _), (by decide : 13 + 0 ≤ _)⟩)
  dsimp only [Pt.U, Pt.locs, Pt.cells, Pt.slots] at X59 l59 y59 z59 st59 hQ59
  subst l59 y59 z59
  obtain ⟨rfl, Nq59, eq59⟩ := hQ59
  have N59 := Fr.app N58 Nq59
  obtain ⟨_, _, ⟨T60, L60, k60, n60⟩, -, X60, ⟨Lc60, hQ60, l60, y60, z60⟩, st60⟩ := Jvm.LawKit.callS X59 hx (y := (⟨"com/example/hopchuan/hopchuan/ErrorCounterSecondPinLaw", "ses", "(Z)J"⟩ : MethodName)) hown (mvT hZ (hw _ (List.mem_of_getElem? (i := 47) rfl))) (mvT hZ (hw _ (List.mem_of_getElem? (i := 48) rfl))) (mvT hZ (hw _ (List.mem_of_getElem? (i := 45) rfl))) (mvT hZ (hw _ (List.mem_of_getElem? (i := 49) rfl))) (by decide) (backOf (W := 2) (rm8 l Z aw hw [] (m179_s0) (T30.heap) n0 z54) hZ (hw _ (List.mem_of_getElem? (i := 49) rfl)) (hw _ (List.mem_of_getElem? (i := 45) rfl)) (by decide) (by decide)) (g := (mkF m 219 #[.val (.long q0), .second, .val (.long q1), .second, .val (.long q2), .second, .val (.long q3), .second, .val (.long q4), .second, .val (.int p5), .val (.long x11_11), .second, .val (.long x13_19), .second, .val (.long x15_27), .second, .val (.long x17_35), .second, .val (.int m47_s0), .val (.int m61_s0), .val (.int m75_s0), .val (.ref b21), .val (.int m139_s0), .val (.int m159_s0), .val (.int m179_s0), .val (.long x26_206), .second, .unset, .unset, .unset, .unset] [(.int m179_s0), (.long ((own_f8 m139_s0) + (own_f8 m159_s0)))])) rfl (by rw [hml]; rfl) (argsL := [(.int m179_s0)]) (rest := [(.long ((own_f8 m139_s0) + (own_f8 m159_s0)))]) (lenOf pd_5 rfl) rfl (by show 2 * 0 + _ ≤ _; exact Nat.le_of_eq rfl) (hb hby at_219) (fun _ _ => ⟨rfl, eq59, (by decide : 1 + 0 ≤ _), (by decide : 13 + 0 ≤ _)⟩)
  dsimp only [Pt.U, Pt.locs, Pt.cells, Pt.slots] at X60 l60 y60 z60 st60 hQ60
  subst l60 y60 z60
  obtain ⟨rfl, Nq60, eq60⟩ := hQ60
  have N60 := Fr.app N59 Nq60
  obtain ⟨x28_225, hx28_225, pre61⟩ : ∃ z : Int64, z = (((own_f8 m139_s0) + (own_f8 m159_s0)) + (own_f8 m179_s0)) ∧ own_Pre p e below (s₁.setTop (entryFrame m #[(.long q0), (.long q1), (.long q2), (.long q3), (.long q4), (.int p5)] maxLocals)) (T60.setTop (mkF m 225 #[.val (.long q0), .second, .val (.long q1), .second, .val (.long q2), .second, .val (.long q3), .second, .val (.long q4), .second, .val (.int p5), .val (.long x11_11), .second, .val (.long x13_19), .second, .val (.long x15_27), .second, .val (.long x17_35), .second, .val (.int m47_s0), .val (.int m61_s0), .val (.int m75_s0), .val (.ref b21), .val (.int m139_s0), .val (.int m159_s0), .val (.int m179_s0), .val (.long x26_206), .second, .val (.long z), .second, .unset, .unset] [])) := ⟨_, rfl, fun t k => pre57 t (by
      show Steps p.tables e below (T56.setTop (mkF m 206 #[.val (.long q0), .second, .val (.long q1), .second, .val (.long q2), .second, .val (.long q3), .second, .val (.long q4), .second, .val (.int p5), .val (.long x11_11), .second, .val (.long x13_19), .second, .val (.long x15_27), .second, .val (.long x17_35), .second, .val (.int m47_s0), .val (.int m61_s0), .val (.int m75_s0), .val (.ref b21), .val (.int m139_s0), .val (.int m159_s0), .val (.int m179_s0), .val (.long x26_206), .second, .unset, .unset, .unset, .unset] [])) _
      refine XS.iload X56.here hx rfl (hb hby at_206) rfl ?_
      show Steps p.tables e below (T56.setTop (mkF m 208 #[.val (.long q0), .second, .val (.long q1), .second, .val (.long q2), .second, .val (.long q3), .second, .val (.long q4), .second, .val (.int p5), .val (.long x11_11), .second, .val (.long x13_19), .second, .val (.long x15_27), .second, .val (.long x17_35), .second, .val (.int m47_s0), .val (.int m61_s0), .val (.int m75_s0), .val (.ref b21), .val (.int m139_s0), .val (.int m159_s0), .val (.int m179_s0), .val (.long x26_206), .second, .unset, .unset, .unset, .unset] [(.int m139_s0)])) _
      refine st58 _ ?_
      show Steps p.tables e below (T58.setTop (mkF m 211 #[.val (.long q0), .second, .val (.long q1), .second, .val (.long q2), .second, .val (.long q3), .second, .val (.long q4), .second, .val (.int p5), .val (.long x11_11), .second, .val (.long x13_19), .second, .val (.long x15_27), .second, .val (.long x17_35), .second, .val (.int m47_s0), .val (.int m61_s0), .val (.int m75_s0), .val (.ref b21), .val (.int m139_s0), .val (.int m159_s0), .val (.int m179_s0), .val (.long x26_206), .second, .unset, .unset, .unset, .unset] [(.long (own_f8 m139_s0))])) _
      refine XS.iload X58.here hx rfl (hb hby at_211) rfl ?_
      show Steps p.tables e below (T58.setTop (mkF m 213 #[.val (.long q0), .second, .val (.long q1), .second, .val (.long q2), .second, .val (.long q3), .second, .val (.long q4), .second, .val (.int p5), .val (.long x11_11), .second, .val (.long x13_19), .second, .val (.long x15_27), .second, .val (.long x17_35), .second, .val (.int m47_s0), .val (.int m61_s0), .val (.int m75_s0), .val (.ref b21), .val (.int m139_s0), .val (.int m159_s0), .val (.int m179_s0), .val (.long x26_206), .second, .unset, .unset, .unset, .unset] [(.int m159_s0), (.long (own_f8 m139_s0))])) _
      refine st59 _ ?_
      show Steps p.tables e below (T59.setTop (mkF m 216 #[.val (.long q0), .second, .val (.long q1), .second, .val (.long q2), .second, .val (.long q3), .second, .val (.long q4), .second, .val (.int p5), .val (.long x11_11), .second, .val (.long x13_19), .second, .val (.long x15_27), .second, .val (.long x17_35), .second, .val (.int m47_s0), .val (.int m61_s0), .val (.int m75_s0), .val (.ref b21), .val (.int m139_s0), .val (.int m159_s0), .val (.int m179_s0), .val (.long x26_206), .second, .unset, .unset, .unset, .unset] [(.long (own_f8 m159_s0)), (.long (own_f8 m139_s0))])) _
      refine XS.ladd X59.here hx rfl (hb hby at_216) rfl ?_
      show Steps p.tables e below (T59.setTop (mkF m 217 #[.val (.long q0), .second, .val (.long q1), .second, .val (.long q2), .second, .val (.long q3), .second, .val (.long q4), .second, .val (.int p5), .val (.long x11_11), .second, .val (.long x13_19), .second, .val (.long x15_27), .second, .val (.long x17_35), .second, .val (.int m47_s0), .val (.int m61_s0), .val (.int m75_s0), .val (.ref b21), .val (.int m139_s0), .val (.int m159_s0), .val (.int m179_s0), .val (.long x26_206), .second, .unset, .unset, .unset, .unset] [(.long ((own_f8 m139_s0) + (own_f8 m159_s0)))])) _
      refine XS.iload X59.here hx rfl (hb hby at_217) rfl ?_
      show Steps p.tables e below (T59.setTop (mkF m 219 #[.val (.long q0), .second, .val (.long q1), .second, .val (.long q2), .second, .val (.long q3), .second, .val (.long q4), .second, .val (.int p5), .val (.long x11_11), .second, .val (.long x13_19), .second, .val (.long x15_27), .second, .val (.long x17_35), .second, .val (.int m47_s0), .val (.int m61_s0), .val (.int m75_s0), .val (.ref b21), .val (.int m139_s0), .val (.int m159_s0), .val (.int m179_s0), .val (.long x26_206), .second, .unset, .unset, .unset, .unset] [(.int m179_s0), (.long ((own_f8 m139_s0) + (own_f8 m159_s0)))])) _
      refine st60 _ ?_
      show Steps p.tables e below (T60.setTop (mkF m 222 #[.val (.long q0), .second, .val (.long q1), .second, .val (.long q2), .second, .val (.long q3), .second, .val (.long q4), .second, .val (.int p5), .val (.long x11_11), .second, .val (.long x13_19), .second, .val (.long x15_27), .second, .val (.long x17_35), .second, .val (.int m47_s0), .val (.int m61_s0), .val (.int m75_s0), .val (.ref b21), .val (.int m139_s0), .val (.int m159_s0), .val (.int m179_s0), .val (.long x26_206), .second, .unset, .unset, .unset, .unset] [(.long (own_f8 m179_s0)), (.long ((own_f8 m139_s0) + (own_f8 m159_s0)))])) _
      refine XS.ladd X60.here hx rfl (hb hby at_222) rfl ?_
      show Steps p.tables e below (T60.setTop (mkF m 223 #[.val (.long q0), .second, .val (.long q1), .second, .val (.long q2), .second, .val (.long q3), .second, .val (.long q4), .second, .val (.int p5), .val (.long x11_11), .second, .val (.long x13_19), .second, .val (.long x15_27), .second, .val (.long x17_35), .second, .val (.int m47_s0), .val (.int m61_s0), .val (.int m75_s0), .val (.ref b21), .val (.int m139_s0), .val (.int m159_s0), .val (.int m179_s0), .val (.long x26_206), .second, .unset, .unset, .unset, .unset] [(.long (((own_f8 m139_s0) + (own_f8 m159_s0)) + (own_f8 m179_s0)))])) _
      refine XS.lstore X60.here hx rfl (hb hby at_223) rfl (l' := #[.val (.long q0), .second, .val (.long q1), .second, .val (.long q2), .second, .val (.long q3), .second, .val (.long q4), .second, .val (.int p5), .val (.long x11_11), .second, .val (.long x13_19), .second, .val (.long x15_27), .second, .val (.long x17_35), .second, .val (.int m47_s0), .val (.int m61_s0), .val (.int m75_s0), .val (.ref b21), .val (.int m139_s0), .val (.int m159_s0), .val (.int m179_s0), .val (.long x26_206), .second, .val (.long (((own_f8 m139_s0) + (own_f8 m159_s0)) + (own_f8 m179_s0))), .second, .unset, .unset]) rfl ?_
      exact k)⟩
  obtain ⟨_, _, ⟨T62, L62, k62, n62⟩, -, X62, ⟨Lc62, hQ62, l62, y62, z62⟩, st62⟩ := Jvm.LawKit.callS X60 hx (y := (⟨"com/example/hopchuan/hopchuan/ErrorCounterSecondPinLaw", "bbe", "(ZJ)J"⟩ : MethodName)) hown (mvT hZ (hw _ (List.mem_of_getElem? (i := 50) rfl))) (mvT hZ (hw _ (List.mem_of_getElem? (i := 51) rfl))) (mvT hZ (hw _ (List.mem_of_getElem? (i := 45) rfl))) (mvT hZ (hw _ (List.mem_of_getElem? (i := 52) rfl))) (by decide) (backOf (W := 0) (rm9 l Z aw hw [] (m139_s0) (x13_19) (T30.heap) n0 z54) hZ (hw _ (List.mem_of_getElem? (i := 52) rfl)) (hw _ (List.mem_of_getElem? (i := 45) rfl)) (by decide) (by decide)) (g := (mkF m 229 #[.val (.long q0), .second, .val (.long q1), .second, .val (.long q2), .second, .val (.long q3), .second, .val (.long q4), .second, .val (.int p5), .val (.long x11_11), .second, .val (.long x13_19), .second, .val (.long x15_27), .second, .val (.long x17_35), .second, .val (.int m47_s0), .val (.int m61_s0), .val (.int m75_s0), .val (.ref b21), .val (.int m139_s0), .val (.int m159_s0), .val (.int m179_s0), .val (.long x26_206), .second, .val (.long x28_225), .second, .unset, .unset] [(.long x13_19), (.int m139_s0)])) rfl (by rw [hml]; rfl) (argsL := [(.int m139_s0), (.long x13_19)]) (rest := []) (lenOf pd_4 rfl) rfl (by show 2 * 0 + _ ≤ _; exact Nat.le_of_eq rfl) (hb hby at_229) (fun _ _ => ⟨rfl, eq60, (by decide : 1 + 0 ≤ _), (by decide : 13 + 0 ≤ _)⟩)
  dsimp only [Pt.U, Pt.locs, Pt.cells, Pt.slots] at X62 l62 y62 z62 st62 hQ62
  subst l62 y62 z62
  obtain ⟨rfl, Nq62, eq62⟩ := hQ62
  have N62 := Fr.app N60 Nq62
  obtain ⟨_, _, ⟨T63, L63, k63, n63⟩, -, X63, ⟨Lc63, hQ63, l63, y63, z63⟩, st63⟩ := Jvm.LawKit.callS X62 hx (y := (⟨"com/example/hopchuan/hopchuan/ErrorCounterSecondPinLaw", "bbe", "(ZJ)J"⟩ : MethodName)) hown (mvT hZ (hw _ (List.mem_of_getElem? (i := 50) rfl))) (mvT hZ (hw _ (List.mem_of_getElem? (i := 51) rfl))) (mvT hZ (hw _ (List.mem_of_getElem? (i := 45) rfl))) (mvT hZ (hw _ (List.mem_of_getElem? (i := 52) rfl))) (by decide) (backOf (W := 2) (rm9 l Z aw hw [] (m159_s0) (x15_27) (T30.heap) n0 z54) hZ (hw _ (List.mem_of_getElem? (i := 52) rfl)) (hw _ (List.mem_of_getElem? (i := 45) rfl)) (by decide) (by decide)) (g := (mkF m 236 #[.val (.long q0), .second, .val (.long q1), .second, .val (.long q2), .second, .val (.long q3), .second, .val (.long q4), .second, .val (.int p5), .val (.long x11_11), .second, .val (.long x13_19), .second, .val (.long x15_27), .second, .val (.long x17_35), .second, .val (.int m47_s0), .val (.int m61_s0), .val (.int m75_s0), .val (.ref b21), .val (.int m139_s0), .val (.int m159_s0), .val (.int m179_s0), .val (.long x26_206), .second, .val (.long x28_225), .second, .unset, .unset] [(.long x15_27), (.int m159_s0), (.long (own_f9 m139_s0 x13_19))])) rfl (by rw [hml]; rfl) (argsL := [(.int m159_s0), (.long x15_27)]) (rest := [(.long (own_f9 m139_s0 x13_19))]) (lenOf pd_4 rfl) rfl (by show 2 * 0 + _ ≤ _; exact Nat.le_of_eq rfl) (hb hby at_236) (fun _ _ => ⟨rfl, eq62, (by decide : 1 + 0 ≤ _), (by decide : 13 + 0 ≤ _)⟩)
  dsimp only [Pt.U, Pt.locs, Pt.cells, Pt.slots] at X63 l63 y63 z63 st63 hQ63
  subst l63 y63 z63
  obtain ⟨rfl, Nq63, eq63⟩ := hQ63
  have N63 := Fr.app N62 Nq63
  obtain ⟨_, _, ⟨T64, L64, k64, n64⟩, -, X64, ⟨Lc64, hQ64, l64, y64, z64⟩, st64⟩ := Jvm.LawKit.callS X63 hx (y := (⟨"com/example/hopchuan/hopchuan/ErrorCounterSecondPinLaw", "bbe", "(ZJ)J"⟩ : MethodName)) hown (mvT hZ (hw _ (List.mem_of_getElem? (i := 50) rfl))) (mvT hZ (hw _ (List.mem_of_getElem? (i := 51) rfl))) (mvT hZ (hw _ (List.mem_of_getElem? (i := 45) rfl))) (mvT hZ (hw _ (List.mem_of_getElem? (i := 52) rfl))) (by decide) (backOf (W := 2) (rm9 l Z aw hw [] (m179_s0) (x17_35) (T30.heap) n0 z54) hZ (hw _ (List.mem_of_getElem? (i := 52) rfl)) (hw _ (List.mem_of_getElem? (i := 45) rfl)) (by decide) (by decide)) (g := (mkF m 244 #[.val (.long q0), .second, .val (.long q1), .second, .val (.long q2), .second, .val (.long q3), .second, .val (.long q4), .second, .val (.int p5), .val (.long x11_11), .second, .val (.long x13_19), .second, .val (.long x15_27), .second, .val (.long x17_35), .second, .val (.int m47_s0), .val (.int m61_s0), .val (.int m75_s0), .val (.ref b21), .val (.int m139_s0), .val (.int m159_s0), .val (.int m179_s0), .val (.long x26_206), .second, .val (.long x28_225), .second, .unset, .unset] [(.long x17_35), (.int m179_s0), (.long ((own_f9 m139_s0 x13_19) + (own_f9 m159_s0 x15_27)))])) rfl (by rw [hml]; rfl) (argsL := [(.int m179_s0), (.long x17_35)]) (rest := [(.long ((own_f9 m139_s0 x13_19) + (own_f9 m159_s0 x15_27)))]) (lenOf pd_4 rfl) rfl (by show 2 * 0 + _ ≤ _; exact Nat.le_of_eq rfl) (hb hby at_244) (fun _ _ => ⟨rfl, eq63, (by decide : 1 + 0 ≤ _), (by decide : 13 + 0 ≤ _)⟩)
  dsimp only [Pt.U, Pt.locs, Pt.cells, Pt.slots] at X64 l64 y64 z64 st64 hQ64
  subst l64 y64 z64
  obtain ⟨rfl, Nq64, eq64⟩ := hQ64
  have N64 := Fr.app N63 Nq64
  obtain ⟨x30_250, hx30_250, pre65⟩ : ∃ z : Int64, z = (((own_f9 m139_s0 x13_19) + (own_f9 m159_s0 x15_27)) + (own_f9 m179_s0 x17_35)) ∧ own_Pre p e below (s₁.setTop (entryFrame m #[(.long q0), (.long q1), (.long q2), (.long q3), (.long q4), (.int p5)] maxLocals)) (T64.setTop (mkF m 250 #[.val (.long q0), .second, .val (.long q1), .second, .val (.long q2), .second, .val (.long q3), .second, .val (.long q4), .second, .val (.int p5), .val (.long x11_11), .second, .val (.long x13_19), .second, .val (.long x15_27), .second, .val (.long x17_35), .second, .val (.int m47_s0), .val (.int m61_s0), .val (.int m75_s0), .val (.ref b21), .val (.int m139_s0), .val (.int m159_s0), .val (.int m179_s0), .val (.long x26_206), .second, .val (.long x28_225), .second, .val (.long z), .second] [])) := ⟨_, rfl, fun t k => pre61 t (by
      show Steps p.tables e below (T60.setTop (mkF m 225 #[.val (.long q0), .second, .val (.long q1), .second, .val (.long q2), .second, .val (.long q3), .second, .val (.long q4), .second, .val (.int p5), .val (.long x11_11), .second, .val (.long x13_19), .second, .val (.long x15_27), .second, .val (.long x17_35), .second, .val (.int m47_s0), .val (.int m61_s0), .val (.int m75_s0), .val (.ref b21), .val (.int m139_s0), .val (.int m159_s0), .val (.int m179_s0), .val (.long x26_206), .second, .val (.long x28_225), .second, .unset, .unset] [])) _
      refine XS.iload X60.here hx rfl (hb hby at_225) rfl ?_
      show Steps p.tables e below (T60.setTop (mkF m 227 #[.val (.long q0), .second, .val (.long q1), .second, .val (.long q2), .second, .val (.long q3), .second, .val (.long q4), .second, .val (.int p5), .val (.long x11_11), .second, .val (.long x13_19), .second, .val (.long x15_27), .second, .val (.long x17_35), .second, .val (.int m47_s0), .val (.int m61_s0), .val (.int m75_s0), .val (.ref b21), .val (.int m139_s0), .val (.int m159_s0), .val (.int m179_s0), .val (.long x26_206), .second, .val (.long x28_225), .second, .unset, .unset] [(.int m139_s0)])) _
      refine XS.lload X60.here hx rfl (hb hby at_227) rfl ?_
      show Steps p.tables e below (T60.setTop (mkF m 229 #[.val (.long q0), .second, .val (.long q1), .second, .val (.long q2), .second, .val (.long q3), .second, .val (.long q4), .second, .val (.int p5), .val (.long x11_11), .second, .val (.long x13_19), .second, .val (.long x15_27), .second, .val (.long x17_35), .second, .val (.int m47_s0), .val (.int m61_s0), .val (.int m75_s0), .val (.ref b21), .val (.int m139_s0), .val (.int m159_s0), .val (.int m179_s0), .val (.long x26_206), .second, .val (.long x28_225), .second, .unset, .unset] [(.long x13_19), (.int m139_s0)])) _
      refine st62 _ ?_
      show Steps p.tables e below (T62.setTop (mkF m 232 #[.val (.long q0), .second, .val (.long q1), .second, .val (.long q2), .second, .val (.long q3), .second, .val (.long q4), .second, .val (.int p5), .val (.long x11_11), .second, .val (.long x13_19), .second, .val (.long x15_27), .second, .val (.long x17_35), .second, .val (.int m47_s0), .val (.int m61_s0), .val (.int m75_s0), .val (.ref b21), .val (.int m139_s0), .val (.int m159_s0), .val (.int m179_s0), .val (.long x26_206), .second, .val (.long x28_225), .second, .unset, .unset] [(.long (own_f9 m139_s0 x13_19))])) _
      refine XS.iload X62.here hx rfl (hb hby at_232) rfl ?_
      show Steps p.tables e below (T62.setTop (mkF m 234 #[.val (.long q0), .second, .val (.long q1), .second, .val (.long q2), .second, .val (.long q3), .second, .val (.long q4), .second, .val (.int p5), .val (.long x11_11), .second, .val (.long x13_19), .second, .val (.long x15_27), .second, .val (.long x17_35), .second, .val (.int m47_s0), .val (.int m61_s0), .val (.int m75_s0), .val (.ref b21), .val (.int m139_s0), .val (.int m159_s0), .val (.int m179_s0), .val (.long x26_206), .second, .val (.long x28_225), .second, .unset, .unset] [(.int m159_s0), (.long (own_f9 m139_s0 x13_19))])) _
      refine XS.lload X62.here hx rfl (hb hby at_234) rfl ?_
      show Steps p.tables e below (T62.setTop (mkF m 236 #[.val (.long q0), .second, .val (.long q1), .second, .val (.long q2), .second, .val (.long q3), .second, .val (.long q4), .second, .val (.int p5), .val (.long x11_11), .second, .val (.long x13_19), .second, .val (.long x15_27), .second, .val (.long x17_35), .second, .val (.int m47_s0), .val (.int m61_s0), .val (.int m75_s0), .val (.ref b21), .val (.int m139_s0), .val (.int m159_s0), .val (.int m179_s0), .val (.long x26_206), .second, .val (.long x28_225), .second, .unset, .unset] [(.long x15_27), (.int m159_s0), (.long (own_f9 m139_s0 x13_19))])) _
      refine st63 _ ?_
      show Steps p.tables e below (T63.setTop (mkF m 239 #[.val (.long q0), .second, .val (.long q1), .second, .val (.long q2), .second, .val (.long q3), .second, .val (.long q4), .second, .val (.int p5), .val (.long x11_11), .second, .val (.long x13_19), .second, .val (.long x15_27), .second, .val (.long x17_35), .second, .val (.int m47_s0), .val (.int m61_s0), .val (.int m75_s0), .val (.ref b21), .val (.int m139_s0), .val (.int m159_s0), .val (.int m179_s0), .val (.long x26_206), .second, .val (.long x28_225), .second, .unset, .unset] [(.long (own_f9 m159_s0 x15_27)), (.long (own_f9 m139_s0 x13_19))])) _
      refine XS.ladd X63.here hx rfl (hb hby at_239) rfl ?_
      show Steps p.tables e below (T63.setTop (mkF m 240 #[.val (.long q0), .second, .val (.long q1), .second, .val (.long q2), .second, .val (.long q3), .second, .val (.long q4), .second, .val (.int p5), .val (.long x11_11), .second, .val (.long x13_19), .second, .val (.long x15_27), .second, .val (.long x17_35), .second, .val (.int m47_s0), .val (.int m61_s0), .val (.int m75_s0), .val (.ref b21), .val (.int m139_s0), .val (.int m159_s0), .val (.int m179_s0), .val (.long x26_206), .second, .val (.long x28_225), .second, .unset, .unset] [(.long ((own_f9 m139_s0 x13_19) + (own_f9 m159_s0 x15_27)))])) _
      refine XS.iload X63.here hx rfl (hb hby at_240) rfl ?_
      show Steps p.tables e below (T63.setTop (mkF m 242 #[.val (.long q0), .second, .val (.long q1), .second, .val (.long q2), .second, .val (.long q3), .second, .val (.long q4), .second, .val (.int p5), .val (.long x11_11), .second, .val (.long x13_19), .second, .val (.long x15_27), .second, .val (.long x17_35), .second, .val (.int m47_s0), .val (.int m61_s0), .val (.int m75_s0), .val (.ref b21), .val (.int m139_s0), .val (.int m159_s0), .val (.int m179_s0), .val (.long x26_206), .second, .val (.long x28_225), .second, .unset, .unset] [(.int m179_s0), (.long ((own_f9 m139_s0 x13_19) + (own_f9 m159_s0 x15_27)))])) _
      refine XS.lload X63.here hx rfl (hb hby at_242) rfl ?_
      show Steps p.tables e below (T63.setTop (mkF m 244 #[.val (.long q0), .second, .val (.long q1), .second, .val (.long q2), .second, .val (.long q3), .second, .val (.long q4), .second, .val (.int p5), .val (.long x11_11), .second, .val (.long x13_19), .second, .val (.long x15_27), .second, .val (.long x17_35), .second, .val (.int m47_s0), .val (.int m61_s0), .val (.int m75_s0), .val (.ref b21), .val (.int m139_s0), .val (.int m159_s0), .val (.int m179_s0), .val (.long x26_206), .second, .val (.long x28_225), .second, .unset, .unset] [(.long x17_35), (.int m179_s0), (.long ((own_f9 m139_s0 x13_19) + (own_f9 m159_s0 x15_27)))])) _
      refine st64 _ ?_
      show Steps p.tables e below (T64.setTop (mkF m 247 #[.val (.long q0), .second, .val (.long q1), .second, .val (.long q2), .second, .val (.long q3), .second, .val (.long q4), .second, .val (.int p5), .val (.long x11_11), .second, .val (.long x13_19), .second, .val (.long x15_27), .second, .val (.long x17_35), .second, .val (.int m47_s0), .val (.int m61_s0), .val (.int m75_s0), .val (.ref b21), .val (.int m139_s0), .val (.int m159_s0), .val (.int m179_s0), .val (.long x26_206), .second, .val (.long x28_225), .second, .unset, .unset] [(.long (own_f9 m179_s0 x17_35)), (.long ((own_f9 m139_s0 x13_19) + (own_f9 m159_s0 x15_27)))])) _
      refine XS.ladd X64.here hx rfl (hb hby at_247) rfl ?_
      show Steps p.tables e below (T64.setTop (mkF m 248 #[.val (.long q0), .second, .val (.long q1), .second, .val (.long q2), .second, .val (.long q3), .second, .val (.long q4), .second, .val (.int p5), .val (.long x11_11), .second, .val (.long x13_19), .second, .val (.long x15_27), .second, .val (.long x17_35), .second, .val (.int m47_s0), .val (.int m61_s0), .val (.int m75_s0), .val (.ref b21), .val (.int m139_s0), .val (.int m159_s0), .val (.int m179_s0), .val (.long x26_206), .second, .val (.long x28_225), .second, .unset, .unset] [(.long (((own_f9 m139_s0 x13_19) + (own_f9 m159_s0 x15_27)) + (own_f9 m179_s0 x17_35)))])) _
      refine XS.lstore X64.here hx rfl (hb hby at_248) rfl (l' := #[.val (.long q0), .second, .val (.long q1), .second, .val (.long q2), .second, .val (.long q3), .second, .val (.long q4), .second, .val (.int p5), .val (.long x11_11), .second, .val (.long x13_19), .second, .val (.long x15_27), .second, .val (.long x17_35), .second, .val (.int m47_s0), .val (.int m61_s0), .val (.int m75_s0), .val (.ref b21), .val (.int m139_s0), .val (.int m159_s0), .val (.int m179_s0), .val (.long x26_206), .second, .val (.long x28_225), .second, .val (.long (((own_f9 m139_s0 x13_19) + (own_f9 m159_s0 x15_27)) + (own_f9 m179_s0 x17_35))), .second]) rfl ?_
      exact k)⟩
  obtain ⟨cq66, kq66, q66a, q66b, q66c⟩ := isOf hZ eq64 po30_0
  obtain ⟨_, _, ⟨T66, L66, k66, n66⟩, -, X66, ⟨Lc66, hQ66, l66, y66, z66⟩, st66⟩ := X64.virtualBack hx (y := (⟨"com/example/hopchuan/hopchuan/ErrorCounter", "seconds", "()J"⟩ : MethodName)) (z := (⟨"com/example/hopchuan/hopchuan/ErrorCounter", "seconds", "()J"⟩ : MethodName)) hown (mvT hZ (hw _ (List.mem_of_getElem? (i := 53) rfl))) (mvT hZ (hw _ (List.mem_of_getElem? (i := 54) rfl))) (notFace_of_selects (args := #[]) (mvT hZ (hw _ (List.mem_of_getElem? (i := 56) rfl)))) (mvT hZ (hw _ (List.mem_of_getElem? (i := 56) rfl))) (mvT hZ (hw _ (List.mem_of_getElem? (i := 55) rfl))) (by decide) (backOf (W := 0) (rm10 l Z aw hw [] (b21) (u28_seconds) (T30.heap) n0 z54 po30_1) hZ (hw _ (List.mem_of_getElem? (i := 57) rfl)) (hw _ (List.mem_of_getElem? (i := 7) rfl)) (by decide) (by decide)) q66a q66c (g := (mkF m 252 #[.val (.long q0), .second, .val (.long q1), .second, .val (.long q2), .second, .val (.long q3), .second, .val (.long q4), .second, .val (.int p5), .val (.long x11_11), .second, .val (.long x13_19), .second, .val (.long x15_27), .second, .val (.long x17_35), .second, .val (.int m47_s0), .val (.int m61_s0), .val (.int m75_s0), .val (.ref b21), .val (.int m139_s0), .val (.int m159_s0), .val (.int m179_s0), .val (.long x26_206), .second, .val (.long x28_225), .second, .val (.long x30_250), .second] [(.ref b21)])) rfl (by rw [hml]; rfl) (Steps.refl _) (argsL := []) (rest := []) (lenOf pd_6 rfl) rfl (by show 2 * 0 + _ ≤ _; exact Nat.le_of_eq rfl) (hb hby at_252) (fun _ _ => ⟨rfl, eq64, (by decide : 1 + 0 ≤ _), (by decide : 13 + 0 ≤ _)⟩)
  dsimp only [Pt.U, Pt.locs, Pt.cells, Pt.slots] at X66 l66 y66 z66 st66 hQ66
  subst l66 y66 z66
  obtain ⟨rfl, Nq66, eq66⟩ := hQ66
  have N66 := Fr.app N64 Nq66
  have hc259 : (u28_seconds = (3 : Int64)) := by subst hu30_severelyErroredSeconds hu30_erroredSeconds hu28_backgroundBlockErrors hu28_severelyErroredSeconds hu28_erroredSeconds hu28_pending hu28_seconds hu26_backgroundBlockErrors hu26_severelyErroredSeconds hu26_erroredSeconds hu26_pending hu26_seconds hu24_backgroundBlockErrors hu24_severelyErroredSeconds hu24_erroredSeconds hu24_pending hu24_seconds; exact own_sc _ _ _ _ _ _ _
  obtain ⟨cq67, kq67, q67a, q67b, q67c⟩ := isOf hZ eq66 po30_0
  obtain ⟨_, _, ⟨T67, L67, k67, n67⟩, -, X67, ⟨Lc67, hQ67, l67, y67, z67⟩, st67⟩ := X66.virtualBack hx (y := (⟨"com/example/hopchuan/hopchuan/ErrorCounter", "availableSeconds", "()J"⟩ : MethodName)) (z := (⟨"com/example/hopchuan/hopchuan/ErrorCounter", "availableSeconds", "()J"⟩ : MethodName)) hown (mvT hZ (hw _ (List.mem_of_getElem? (i := 59) rfl))) (mvT hZ (hw _ (List.mem_of_getElem? (i := 60) rfl))) (notFace_of_selects (args := #[]) (mvT hZ (hw _ (List.mem_of_getElem? (i := 62) rfl)))) (mvT hZ (hw _ (List.mem_of_getElem? (i := 62) rfl))) (mvT hZ (hw _ (List.mem_of_getElem? (i := 61) rfl))) (by decide) (backOf (W := 0) (rm11 l Z aw hw [] (b21) (u28_seconds) ((0 : Int64)) (T30.heap) n0 z54 po30_1 po30_5) hZ (hw _ (List.mem_of_getElem? (i := 63) rfl)) (hw _ (List.mem_of_getElem? (i := 7) rfl)) (by decide) (by decide)) q67a q67c (g := (mkF m 264 #[.val (.long q0), .second, .val (.long q1), .second, .val (.long q2), .second, .val (.long q3), .second, .val (.long q4), .second, .val (.int p5), .val (.long x11_11), .second, .val (.long x13_19), .second, .val (.long x15_27), .second, .val (.long x17_35), .second, .val (.int m47_s0), .val (.int m61_s0), .val (.int m75_s0), .val (.ref b21), .val (.int m139_s0), .val (.int m159_s0), .val (.int m179_s0), .val (.long x26_206), .second, .val (.long x28_225), .second, .val (.long x30_250), .second] [(.ref b21)])) rfl (by rw [hml]; rfl) (Steps.refl _) (argsL := []) (rest := []) (lenOf pd_6 rfl) rfl (by show 2 * 0 + _ ≤ _; exact Nat.le_of_eq rfl) (hb hby at_264) (fun _ _ => ⟨rfl, eq66, (by decide : 1 + 0 ≤ _), (by decide : 13 + 0 ≤ _)⟩)
  dsimp only [Pt.U, Pt.locs, Pt.cells, Pt.slots] at X67 l67 y67 z67 st67 hQ67
  subst l67 y67 z67
  obtain ⟨rfl, Nq67, eq67⟩ := hQ67
  have N67 := Fr.app N66 Nq67
  have hc271 : ((u28_seconds - ((0 : Int64))) = (3 : Int64)) := by subst hu30_severelyErroredSeconds hu30_erroredSeconds hu28_backgroundBlockErrors hu28_severelyErroredSeconds hu28_erroredSeconds hu28_pending hu28_seconds hu26_backgroundBlockErrors hu26_severelyErroredSeconds hu26_erroredSeconds hu26_pending hu26_seconds hu24_backgroundBlockErrors hu24_severelyErroredSeconds hu24_erroredSeconds hu24_pending hu24_seconds; rw [own_sc]; rfl
  obtain ⟨cq68, kq68, q68a, q68b, q68c⟩ := isOf hZ eq67 po30_0
  obtain ⟨_, _, ⟨T68, L68, k68, n68⟩, -, X68, ⟨Lc68, hQ68, l68, y68, z68⟩, st68⟩ := X67.virtualBack hx (y := (⟨"com/example/hopchuan/hopchuan/ErrorCounter", "erroredSeconds", "()J"⟩ : MethodName)) (z := (⟨"com/example/hopchuan/hopchuan/ErrorCounter", "erroredSeconds", "()J"⟩ : MethodName)) hown (mvT hZ (hw _ (List.mem_of_getElem? (i := 66) rfl))) (mvT hZ (hw _ (List.mem_of_getElem? (i := 67) rfl))) (notFace_of_selects (args := #[]) (mvT hZ (hw _ (List.mem_of_getElem? (i := 69) rfl)))) (mvT hZ (hw _ (List.mem_of_getElem? (i := 69) rfl))) (mvT hZ (hw _ (List.mem_of_getElem? (i := 68) rfl))) (by decide) (backOf (W := 0) (rm12 l Z aw hw [] (b21) (u30_erroredSeconds) (T30.heap) n0 z54 po30_2) hZ (hw _ (List.mem_of_getElem? (i := 70) rfl)) (hw _ (List.mem_of_getElem? (i := 7) rfl)) (by decide) (by decide)) q68a q68c (g := (mkF m 276 #[.val (.long q0), .second, .val (.long q1), .second, .val (.long q2), .second, .val (.long q3), .second, .val (.long q4), .second, .val (.int p5), .val (.long x11_11), .second, .val (.long x13_19), .second, .val (.long x15_27), .second, .val (.long x17_35), .second, .val (.int m47_s0), .val (.int m61_s0), .val (.int m75_s0), .val (.ref b21), .val (.int m139_s0), .val (.int m159_s0), .val (.int m179_s0), .val (.long x26_206), .second, .val (.long x28_225), .second, .val (.long x30_250), .second] [(.ref b21)])) rfl (by rw [hml]; rfl) (Steps.refl _) (argsL := []) (rest := []) (lenOf pd_6 rfl) rfl (by show 2 * 0 + _ ≤ _; exact Nat.le_of_eq rfl) (hb hby at_276) (fun _ _ => ⟨rfl, eq67, (by decide : 1 + 0 ≤ _), (by decide : 13 + 0 ≤ _)⟩)
  dsimp only [Pt.U, Pt.locs, Pt.cells, Pt.slots] at X68 l68 y68 z68 st68 hQ68
  subst l68 y68 z68
  obtain ⟨rfl, Nq68, eq68⟩ := hQ68
  have N68 := Fr.app N67 Nq68
  have hc282 : (u30_erroredSeconds = x26_206) := by rw [hx26_206]; subst hu30_severelyErroredSeconds hu30_erroredSeconds hu28_backgroundBlockErrors hu28_severelyErroredSeconds hu28_erroredSeconds hu28_pending hu28_seconds hu26_backgroundBlockErrors hu26_severelyErroredSeconds hu26_erroredSeconds hu26_pending hu26_seconds hu24_backgroundBlockErrors hu24_severelyErroredSeconds hu24_erroredSeconds hu24_pending hu24_seconds; exact own_ess _ _ _ _ _ _ _ _ _ _ hm139_s0.symm hm159_s0.symm hm179_s0.symm
  obtain ⟨cq69, kq69, q69a, q69b, q69c⟩ := isOf hZ eq68 po30_0
  obtain ⟨_, _, ⟨T69, L69, k69, n69⟩, -, X69, ⟨Lc69, hQ69, l69, y69, z69⟩, st69⟩ := X68.virtualBack hx (y := (⟨"com/example/hopchuan/hopchuan/ErrorCounter", "severelyErroredSeconds", "()J"⟩ : MethodName)) (z := (⟨"com/example/hopchuan/hopchuan/ErrorCounter", "severelyErroredSeconds", "()J"⟩ : MethodName)) hown (mvT hZ (hw _ (List.mem_of_getElem? (i := 71) rfl))) (mvT hZ (hw _ (List.mem_of_getElem? (i := 72) rfl))) (notFace_of_selects (args := #[]) (mvT hZ (hw _ (List.mem_of_getElem? (i := 74) rfl)))) (mvT hZ (hw _ (List.mem_of_getElem? (i := 74) rfl))) (mvT hZ (hw _ (List.mem_of_getElem? (i := 73) rfl))) (by decide) (backOf (W := 0) (rm13 l Z aw hw [] (b21) (u30_severelyErroredSeconds) (T30.heap) n0 z54 po30_3) hZ (hw _ (List.mem_of_getElem? (i := 75) rfl)) (hw _ (List.mem_of_getElem? (i := 7) rfl)) (by decide) (by decide)) q69a q69c (g := (mkF m 287 #[.val (.long q0), .second, .val (.long q1), .second, .val (.long q2), .second, .val (.long q3), .second, .val (.long q4), .second, .val (.int p5), .val (.long x11_11), .second, .val (.long x13_19), .second, .val (.long x15_27), .second, .val (.long x17_35), .second, .val (.int m47_s0), .val (.int m61_s0), .val (.int m75_s0), .val (.ref b21), .val (.int m139_s0), .val (.int m159_s0), .val (.int m179_s0), .val (.long x26_206), .second, .val (.long x28_225), .second, .val (.long x30_250), .second] [(.ref b21)])) rfl (by rw [hml]; rfl) (Steps.refl _) (argsL := []) (rest := []) (lenOf pd_6 rfl) rfl (by show 2 * 0 + _ ≤ _; exact Nat.le_of_eq rfl) (hb hby at_287) (fun _ _ => ⟨rfl, eq68, (by decide : 1 + 0 ≤ _), (by decide : 13 + 0 ≤ _)⟩)
  dsimp only [Pt.U, Pt.locs, Pt.cells, Pt.slots] at X69 l69 y69 z69 st69 hQ69
  subst l69 y69 z69
  obtain ⟨rfl, Nq69, eq69⟩ := hQ69
  have N69 := Fr.app N68 Nq69
  have hc293 : (u30_severelyErroredSeconds = x28_225) := by rw [hx28_225]; subst hu30_severelyErroredSeconds hu30_erroredSeconds hu28_backgroundBlockErrors hu28_severelyErroredSeconds hu28_erroredSeconds hu28_pending hu28_seconds hu26_backgroundBlockErrors hu26_severelyErroredSeconds hu26_erroredSeconds hu26_pending hu26_seconds hu24_backgroundBlockErrors hu24_severelyErroredSeconds hu24_erroredSeconds hu24_pending hu24_seconds; exact own_sess _ _ _ _ _ _ _ _ _ _ hm139_s0.symm hm159_s0.symm hm179_s0.symm
  obtain ⟨cq70, kq70, q70a, q70b, q70c⟩ := isOf hZ eq69 po30_0
  obtain ⟨_, _, ⟨T70, L70, k70, n70⟩, -, X70, ⟨Lc70, hQ70, l70, y70, z70⟩, st70⟩ := X69.virtualBack hx (y := (⟨"com/example/hopchuan/hopchuan/ErrorCounter", "backgroundBlockErrors", "()J"⟩ : MethodName)) (z := (⟨"com/example/hopchuan/hopchuan/ErrorCounter", "backgroundBlockErrors", "()J"⟩ : MethodName)) hown (mvT hZ (hw _ (List.mem_of_getElem? (i := 76) rfl))) (mvT hZ (hw _ (List.mem_of_getElem? (i := 77) rfl))) (notFace_of_selects (args := #[]) (mvT hZ (hw _ (List.mem_of_getElem? (i := 79) rfl)))) (mvT hZ (hw _ (List.mem_of_getElem? (i := 79) rfl))) (mvT hZ (hw _ (List.mem_of_getElem? (i := 78) rfl))) (by decide) (backOf (W := 0) (rm14 l Z aw hw [] (b21) (u28_backgroundBlockErrors) (T30.heap) n0 z54 po30_4) hZ (hw _ (List.mem_of_getElem? (i := 80) rfl)) (hw _ (List.mem_of_getElem? (i := 7) rfl)) (by decide) (by decide)) q70a q70c (g := (mkF m 298 #[.val (.long q0), .second, .val (.long q1), .second, .val (.long q2), .second, .val (.long q3), .second, .val (.long q4), .second, .val (.int p5), .val (.long x11_11), .second, .val (.long x13_19), .second, .val (.long x15_27), .second, .val (.long x17_35), .second, .val (.int m47_s0), .val (.int m61_s0), .val (.int m75_s0), .val (.ref b21), .val (.int m139_s0), .val (.int m159_s0), .val (.int m179_s0), .val (.long x26_206), .second, .val (.long x28_225), .second, .val (.long x30_250), .second] [(.ref b21)])) rfl (by rw [hml]; rfl) (Steps.refl _) (argsL := []) (rest := []) (lenOf pd_6 rfl) rfl (by show 2 * 0 + _ ≤ _; exact Nat.le_of_eq rfl) (hb hby at_298) (fun _ _ => ⟨rfl, eq69, (by decide : 1 + 0 ≤ _), (by decide : 13 + 0 ≤ _)⟩)
  dsimp only [Pt.U, Pt.locs, Pt.cells, Pt.slots] at X70 l70 y70 z70 st70 hQ70
  subst l70 y70 z70
  obtain ⟨rfl, Nq70, eq70⟩ := hQ70
  have N70 := Fr.app N69 Nq70
  have hc304 : (u28_backgroundBlockErrors = x30_250) := by rw [hx30_250]; subst hu30_severelyErroredSeconds hu30_erroredSeconds hu28_backgroundBlockErrors hu28_severelyErroredSeconds hu28_erroredSeconds hu28_pending hu28_seconds hu26_backgroundBlockErrors hu26_severelyErroredSeconds hu26_erroredSeconds hu26_pending hu26_seconds hu24_backgroundBlockErrors hu24_severelyErroredSeconds hu24_erroredSeconds hu24_pending hu24_seconds; exact own_bbs _ _ _ _ _ _ _ _ _ _ hm139_s0.symm hm159_s0.symm hm179_s0.symm (by rw [hx13_19]; exact own_nn _) (by rw [hx15_27]; exact own_nn _) (by rw [hx17_35]; exact own_nn _)
  obtain ⟨fs, hr, hrun, hended, hW, hsame⟩ := X70.leave (v := some (.int (1 : Int32))) (fun h => by rw [Bd.returns] at h; cases h)
  refine ⟨_, _, pre65 _ ?_, hrun, hended, _, _, rfl, ?_, ⟨_, rfl⟩, hW, hsame.mono (by decide) (by decide)⟩
  · show Steps p.tables e below (T64.setTop (mkF m 250 #[.val (.long q0), .second, .val (.long q1), .second, .val (.long q2), .second, .val (.long q3), .second, .val (.long q4), .second, .val (.int p5), .val (.long x11_11), .second, .val (.long x13_19), .second, .val (.long x15_27), .second, .val (.long x17_35), .second, .val (.int m47_s0), .val (.int m61_s0), .val (.int m75_s0), .val (.ref b21), .val (.int m139_s0), .val (.int m159_s0), .val (.int m179_s0), .val (.long x26_206), .second, .val (.long x28_225), .second, .val (.long x30_250), .second] [])) _
    refine XS.aload X64.here hx rfl (hb hby at_250) rfl rfl ?_
    show Steps p.tables e below (T64.setTop (mkF m 252 #[.val (.long q0), .second, .val (.long q1), .second, .val (.long q2), .second, .val (.long q3), .second, .val (.long q4), .second, .val (.int p5), .val (.long x11_11), .second, .val (.long x13_19), .second, .val (.long x15_27), .second, .val (.long x17_35), .second, .val (.int m47_s0), .val (.int m61_s0), .val (.int m75_s0), .val (.ref b21), .val (.int m139_s0), .val (.int m159_s0), .val (.int m179_s0), .val (.long x26_206), .second, .val (.long x28_225), .second, .val (.long x30_250), .second] [(.ref b21)])) _
    refine st66.trans ?_
    show Steps p.tables e below (T66.setTop (mkF m 255 #[.val (.long q0), .second, .val (.long q1), .second, .val (.long q2), .second, .val (.long q3), .second, .val (.long q4), .second, .val (.int p5), .val (.long x11_11), .second, .val (.long x13_19), .second, .val (.long x15_27), .second, .val (.long x17_35), .second, .val (.int m47_s0), .val (.int m61_s0), .val (.int m75_s0), .val (.ref b21), .val (.int m139_s0), .val (.int m159_s0), .val (.int m179_s0), .val (.long x26_206), .second, .val (.long x28_225), .second, .val (.long x30_250), .second] [(.long u28_seconds)])) _
    refine X66.ldc2Long hx hown (mvT hZ (hw _ (List.mem_of_getElem? (i := 58) rfl))) (g := (mkF m 255 #[.val (.long q0), .second, .val (.long q1), .second, .val (.long q2), .second, .val (.long q3), .second, .val (.long q4), .second, .val (.int p5), .val (.long x11_11), .second, .val (.long x13_19), .second, .val (.long x15_27), .second, .val (.long x17_35), .second, .val (.int m47_s0), .val (.int m61_s0), .val (.int m75_s0), .val (.ref b21), .val (.int m139_s0), .val (.int m159_s0), .val (.int m179_s0), .val (.long x26_206), .second, .val (.long x28_225), .second, .val (.long x30_250), .second] [(.long u28_seconds)])) rfl (hb hby at_255) _ ?_
    show Steps p.tables e below (T66.setTop (mkF m 258 #[.val (.long q0), .second, .val (.long q1), .second, .val (.long q2), .second, .val (.long q3), .second, .val (.long q4), .second, .val (.int p5), .val (.long x11_11), .second, .val (.long x13_19), .second, .val (.long x15_27), .second, .val (.long x17_35), .second, .val (.int m47_s0), .val (.int m61_s0), .val (.int m75_s0), .val (.ref b21), .val (.int m139_s0), .val (.int m159_s0), .val (.int m179_s0), .val (.long x26_206), .second, .val (.long x28_225), .second, .val (.long x30_250), .second] [(.long (3 : Int64)), (.long u28_seconds)])) _
    refine XS.lcmp X66.here hx rfl (hb hby at_258) rfl ?_
    show Steps p.tables e below (T66.setTop (mkF m 259 #[.val (.long q0), .second, .val (.long q1), .second, .val (.long q2), .second, .val (.long q3), .second, .val (.long q4), .second, .val (.int p5), .val (.long x11_11), .second, .val (.long x13_19), .second, .val (.long x15_27), .second, .val (.long x17_35), .second, .val (.int m47_s0), .val (.int m61_s0), .val (.int m75_s0), .val (.ref b21), .val (.int m139_s0), .val (.int m159_s0), .val (.int m179_s0), .val (.long x26_206), .second, .val (.long x28_225), .second, .val (.long x30_250), .second] [(.int (lcmpW u28_seconds (3 : Int64)))])) _
    refine XS.ifNo X66.here hx rfl (hb hby at_259) rfl ((if0 _ _).trans (teq ((lw_eq _ _).mpr hc259)).2) ?_
    show Steps p.tables e below (T66.setTop (mkF m 262 #[.val (.long q0), .second, .val (.long q1), .second, .val (.long q2), .second, .val (.long q3), .second, .val (.long q4), .second, .val (.int p5), .val (.long x11_11), .second, .val (.long x13_19), .second, .val (.long x15_27), .second, .val (.long x17_35), .second, .val (.int m47_s0), .val (.int m61_s0), .val (.int m75_s0), .val (.ref b21), .val (.int m139_s0), .val (.int m159_s0), .val (.int m179_s0), .val (.long x26_206), .second, .val (.long x28_225), .second, .val (.long x30_250), .second] [])) _
    refine XS.aload X66.here hx rfl (hb hby at_262) rfl rfl ?_
    show Steps p.tables e below (T66.setTop (mkF m 264 #[.val (.long q0), .second, .val (.long q1), .second, .val (.long q2), .second, .val (.long q3), .second, .val (.long q4), .second, .val (.int p5), .val (.long x11_11), .second, .val (.long x13_19), .second, .val (.long x15_27), .second, .val (.long x17_35), .second, .val (.int m47_s0), .val (.int m61_s0), .val (.int m75_s0), .val (.ref b21), .val (.int m139_s0), .val (.int m159_s0), .val (.int m179_s0), .val (.long x26_206), .second, .val (.long x28_225), .second, .val (.long x30_250), .second] [(.ref b21)])) _
    refine st67.trans ?_
    show Steps p.tables e below (T67.setTop (mkF m 267 #[.val (.long q0), .second, .val (.long q1), .second, .val (.long q2), .second, .val (.long q3), .second, .val (.long q4), .second, .val (.int p5), .val (.long x11_11), .second, .val (.long x13_19), .second, .val (.long x15_27), .second, .val (.long x17_35), .second, .val (.int m47_s0), .val (.int m61_s0), .val (.int m75_s0), .val (.ref b21), .val (.int m139_s0), .val (.int m159_s0), .val (.int m179_s0), .val (.long x26_206), .second, .val (.long x28_225), .second, .val (.long x30_250), .second] [(.long (u28_seconds - ((0 : Int64))))])) _
    refine X67.ldc2Long hx hown (mvT hZ (hw _ (List.mem_of_getElem? (i := 58) rfl))) (g := (mkF m 267 #[.val (.long q0), .second, .val (.long q1), .second, .val (.long q2), .second, .val (.long q3), .second, .val (.long q4), .second, .val (.int p5), .val (.long x11_11), .second, .val (.long x13_19), .second, .val (.long x15_27), .second, .val (.long x17_35), .second, .val (.int m47_s0), .val (.int m61_s0), .val (.int m75_s0), .val (.ref b21), .val (.int m139_s0), .val (.int m159_s0), .val (.int m179_s0), .val (.long x26_206), .second, .val (.long x28_225), .second, .val (.long x30_250), .second] [(.long (u28_seconds - ((0 : Int64))))])) rfl (hb hby at_267) _ ?_
    show Steps p.tables e below (T67.setTop (mkF m 270 #[.val (.long q0), .second, .val (.long q1), .second, .val (.long q2), .second, .val (.long q3), .second, .val (.long q4), .second, .val (.int p5), .val (.long x11_11), .second, .val (.long x13_19), .second, .val (.long x15_27), .second, .val (.long x17_35), .second, .val (.int m47_s0), .val (.int m61_s0), .val (.int m75_s0), .val (.ref b21), .val (.int m139_s0), .val (.int m159_s0), .val (.int m179_s0), .val (.long x26_206), .second, .val (.long x28_225), .second, .val (.long x30_250), .second] [(.long (3 : Int64)), (.long (u28_seconds - ((0 : Int64))))])) _
    refine XS.lcmp X67.here hx rfl (hb hby at_270) rfl ?_
    show Steps p.tables e below (T67.setTop (mkF m 271 #[.val (.long q0), .second, .val (.long q1), .second, .val (.long q2), .second, .val (.long q3), .second, .val (.long q4), .second, .val (.int p5), .val (.long x11_11), .second, .val (.long x13_19), .second, .val (.long x15_27), .second, .val (.long x17_35), .second, .val (.int m47_s0), .val (.int m61_s0), .val (.int m75_s0), .val (.ref b21), .val (.int m139_s0), .val (.int m159_s0), .val (.int m179_s0), .val (.long x26_206), .second, .val (.long x28_225), .second, .val (.long x30_250), .second] [(.int (lcmpW (u28_seconds - ((0 : Int64))) (3 : Int64)))])) _
    refine XS.ifNo X67.here hx rfl (hb hby at_271) rfl ((if0 _ _).trans (teq ((lw_eq _ _).mpr hc271)).2) ?_
    show Steps p.tables e below (T67.setTop (mkF m 274 #[.val (.long q0), .second, .val (.long q1), .second, .val (.long q2), .second, .val (.long q3), .second, .val (.long q4), .second, .val (.int p5), .val (.long x11_11), .second, .val (.long x13_19), .second, .val (.long x15_27), .second, .val (.long x17_35), .second, .val (.int m47_s0), .val (.int m61_s0), .val (.int m75_s0), .val (.ref b21), .val (.int m139_s0), .val (.int m159_s0), .val (.int m179_s0), .val (.long x26_206), .second, .val (.long x28_225), .second, .val (.long x30_250), .second] [])) _
    refine XS.aload X67.here hx rfl (hb hby at_274) rfl rfl ?_
    show Steps p.tables e below (T67.setTop (mkF m 276 #[.val (.long q0), .second, .val (.long q1), .second, .val (.long q2), .second, .val (.long q3), .second, .val (.long q4), .second, .val (.int p5), .val (.long x11_11), .second, .val (.long x13_19), .second, .val (.long x15_27), .second, .val (.long x17_35), .second, .val (.int m47_s0), .val (.int m61_s0), .val (.int m75_s0), .val (.ref b21), .val (.int m139_s0), .val (.int m159_s0), .val (.int m179_s0), .val (.long x26_206), .second, .val (.long x28_225), .second, .val (.long x30_250), .second] [(.ref b21)])) _
    refine st68.trans ?_
    show Steps p.tables e below (T68.setTop (mkF m 279 #[.val (.long q0), .second, .val (.long q1), .second, .val (.long q2), .second, .val (.long q3), .second, .val (.long q4), .second, .val (.int p5), .val (.long x11_11), .second, .val (.long x13_19), .second, .val (.long x15_27), .second, .val (.long x17_35), .second, .val (.int m47_s0), .val (.int m61_s0), .val (.int m75_s0), .val (.ref b21), .val (.int m139_s0), .val (.int m159_s0), .val (.int m179_s0), .val (.long x26_206), .second, .val (.long x28_225), .second, .val (.long x30_250), .second] [(.long u30_erroredSeconds)])) _
    refine XS.lload X68.here hx rfl (hb hby at_279) rfl ?_
    show Steps p.tables e below (T68.setTop (mkF m 281 #[.val (.long q0), .second, .val (.long q1), .second, .val (.long q2), .second, .val (.long q3), .second, .val (.long q4), .second, .val (.int p5), .val (.long x11_11), .second, .val (.long x13_19), .second, .val (.long x15_27), .second, .val (.long x17_35), .second, .val (.int m47_s0), .val (.int m61_s0), .val (.int m75_s0), .val (.ref b21), .val (.int m139_s0), .val (.int m159_s0), .val (.int m179_s0), .val (.long x26_206), .second, .val (.long x28_225), .second, .val (.long x30_250), .second] [(.long x26_206), (.long u30_erroredSeconds)])) _
    refine XS.lcmp X68.here hx rfl (hb hby at_281) rfl ?_
    show Steps p.tables e below (T68.setTop (mkF m 282 #[.val (.long q0), .second, .val (.long q1), .second, .val (.long q2), .second, .val (.long q3), .second, .val (.long q4), .second, .val (.int p5), .val (.long x11_11), .second, .val (.long x13_19), .second, .val (.long x15_27), .second, .val (.long x17_35), .second, .val (.int m47_s0), .val (.int m61_s0), .val (.int m75_s0), .val (.ref b21), .val (.int m139_s0), .val (.int m159_s0), .val (.int m179_s0), .val (.long x26_206), .second, .val (.long x28_225), .second, .val (.long x30_250), .second] [(.int (lcmpW u30_erroredSeconds x26_206))])) _
    refine XS.ifNo X68.here hx rfl (hb hby at_282) rfl ((if0 _ _).trans (teq ((lw_eq _ _).mpr hc282)).2) ?_
    show Steps p.tables e below (T68.setTop (mkF m 285 #[.val (.long q0), .second, .val (.long q1), .second, .val (.long q2), .second, .val (.long q3), .second, .val (.long q4), .second, .val (.int p5), .val (.long x11_11), .second, .val (.long x13_19), .second, .val (.long x15_27), .second, .val (.long x17_35), .second, .val (.int m47_s0), .val (.int m61_s0), .val (.int m75_s0), .val (.ref b21), .val (.int m139_s0), .val (.int m159_s0), .val (.int m179_s0), .val (.long x26_206), .second, .val (.long x28_225), .second, .val (.long x30_250), .second] [])) _
    refine XS.aload X68.here hx rfl (hb hby at_285) rfl rfl ?_
    show Steps p.tables e below (T68.setTop (mkF m 287 #[.val (.long q0), .second, .val (.long q1), .second, .val (.long q2), .second, .val (.long q3), .second, .val (.long q4), .second, .val (.int p5), .val (.long x11_11), .second, .val (.long x13_19), .second, .val (.long x15_27), .second, .val (.long x17_35), .second, .val (.int m47_s0), .val (.int m61_s0), .val (.int m75_s0), .val (.ref b21), .val (.int m139_s0), .val (.int m159_s0), .val (.int m179_s0), .val (.long x26_206), .second, .val (.long x28_225), .second, .val (.long x30_250), .second] [(.ref b21)])) _
    refine st69.trans ?_
    show Steps p.tables e below (T69.setTop (mkF m 290 #[.val (.long q0), .second, .val (.long q1), .second, .val (.long q2), .second, .val (.long q3), .second, .val (.long q4), .second, .val (.int p5), .val (.long x11_11), .second, .val (.long x13_19), .second, .val (.long x15_27), .second, .val (.long x17_35), .second, .val (.int m47_s0), .val (.int m61_s0), .val (.int m75_s0), .val (.ref b21), .val (.int m139_s0), .val (.int m159_s0), .val (.int m179_s0), .val (.long x26_206), .second, .val (.long x28_225), .second, .val (.long x30_250), .second] [(.long u30_severelyErroredSeconds)])) _
    refine XS.lload X69.here hx rfl (hb hby at_290) rfl ?_
    show Steps p.tables e below (T69.setTop (mkF m 292 #[.val (.long q0), .second, .val (.long q1), .second, .val (.long q2), .second, .val (.long q3), .second, .val (.long q4), .second, .val (.int p5), .val (.long x11_11), .second, .val (.long x13_19), .second, .val (.long x15_27), .second, .val (.long x17_35), .second, .val (.int m47_s0), .val (.int m61_s0), .val (.int m75_s0), .val (.ref b21), .val (.int m139_s0), .val (.int m159_s0), .val (.int m179_s0), .val (.long x26_206), .second, .val (.long x28_225), .second, .val (.long x30_250), .second] [(.long x28_225), (.long u30_severelyErroredSeconds)])) _
    refine XS.lcmp X69.here hx rfl (hb hby at_292) rfl ?_
    show Steps p.tables e below (T69.setTop (mkF m 293 #[.val (.long q0), .second, .val (.long q1), .second, .val (.long q2), .second, .val (.long q3), .second, .val (.long q4), .second, .val (.int p5), .val (.long x11_11), .second, .val (.long x13_19), .second, .val (.long x15_27), .second, .val (.long x17_35), .second, .val (.int m47_s0), .val (.int m61_s0), .val (.int m75_s0), .val (.ref b21), .val (.int m139_s0), .val (.int m159_s0), .val (.int m179_s0), .val (.long x26_206), .second, .val (.long x28_225), .second, .val (.long x30_250), .second] [(.int (lcmpW u30_severelyErroredSeconds x28_225))])) _
    refine XS.ifNo X69.here hx rfl (hb hby at_293) rfl ((if0 _ _).trans (teq ((lw_eq _ _).mpr hc293)).2) ?_
    show Steps p.tables e below (T69.setTop (mkF m 296 #[.val (.long q0), .second, .val (.long q1), .second, .val (.long q2), .second, .val (.long q3), .second, .val (.long q4), .second, .val (.int p5), .val (.long x11_11), .second, .val (.long x13_19), .second, .val (.long x15_27), .second, .val (.long x17_35), .second, .val (.int m47_s0), .val (.int m61_s0), .val (.int m75_s0), .val (.ref b21), .val (.int m139_s0), .val (.int m159_s0), .val (.int m179_s0), .val (.long x26_206), .second, .val (.long x28_225), .second, .val (.long x30_250), .second] [])) _
    refine XS.aload X69.here hx rfl (hb hby at_296) rfl rfl ?_
    show Steps p.tables e below (T69.setTop (mkF m 298 #[.val (.long q0), .second, .val (.long q1), .second, .val (.long q2), .second, .val (.long q3), .second, .val (.long q4), .second, .val (.int p5), .val (.long x11_11), .second, .val (.long x13_19), .second, .val (.long x15_27), .second, .val (.long x17_35), .second, .val (.int m47_s0), .val (.int m61_s0), .val (.int m75_s0), .val (.ref b21), .val (.int m139_s0), .val (.int m159_s0), .val (.int m179_s0), .val (.long x26_206), .second, .val (.long x28_225), .second, .val (.long x30_250), .second] [(.ref b21)])) _
    refine st70.trans ?_
    show Steps p.tables e below (T70.setTop (mkF m 301 #[.val (.long q0), .second, .val (.long q1), .second, .val (.long q2), .second, .val (.long q3), .second, .val (.long q4), .second, .val (.int p5), .val (.long x11_11), .second, .val (.long x13_19), .second, .val (.long x15_27), .second, .val (.long x17_35), .second, .val (.int m47_s0), .val (.int m61_s0), .val (.int m75_s0), .val (.ref b21), .val (.int m139_s0), .val (.int m159_s0), .val (.int m179_s0), .val (.long x26_206), .second, .val (.long x28_225), .second, .val (.long x30_250), .second] [(.long u28_backgroundBlockErrors)])) _
    refine XS.lload X70.here hx rfl (hb hby at_301) rfl ?_
    show Steps p.tables e below (T70.setTop (mkF m 303 #[.val (.long q0), .second, .val (.long q1), .second, .val (.long q2), .second, .val (.long q3), .second, .val (.long q4), .second, .val (.int p5), .val (.long x11_11), .second, .val (.long x13_19), .second, .val (.long x15_27), .second, .val (.long x17_35), .second, .val (.int m47_s0), .val (.int m61_s0), .val (.int m75_s0), .val (.ref b21), .val (.int m139_s0), .val (.int m159_s0), .val (.int m179_s0), .val (.long x26_206), .second, .val (.long x28_225), .second, .val (.long x30_250), .second] [(.long x30_250), (.long u28_backgroundBlockErrors)])) _
    refine XS.lcmp X70.here hx rfl (hb hby at_303) rfl ?_
    show Steps p.tables e below (T70.setTop (mkF m 304 #[.val (.long q0), .second, .val (.long q1), .second, .val (.long q2), .second, .val (.long q3), .second, .val (.long q4), .second, .val (.int p5), .val (.long x11_11), .second, .val (.long x13_19), .second, .val (.long x15_27), .second, .val (.long x17_35), .second, .val (.int m47_s0), .val (.int m61_s0), .val (.int m75_s0), .val (.ref b21), .val (.int m139_s0), .val (.int m159_s0), .val (.int m179_s0), .val (.long x26_206), .second, .val (.long x28_225), .second, .val (.long x30_250), .second] [(.int (lcmpW u28_backgroundBlockErrors x30_250))])) _
    refine XS.ifNo X70.here hx rfl (hb hby at_304) rfl ((if0 _ _).trans (teq ((lw_eq _ _).mpr hc304)).2) ?_
    show Steps p.tables e below (T70.setTop (mkF m 307 #[.val (.long q0), .second, .val (.long q1), .second, .val (.long q2), .second, .val (.long q3), .second, .val (.long q4), .second, .val (.int p5), .val (.long x11_11), .second, .val (.long x13_19), .second, .val (.long x15_27), .second, .val (.long x17_35), .second, .val (.int m47_s0), .val (.int m61_s0), .val (.int m75_s0), .val (.ref b21), .val (.int m139_s0), .val (.int m159_s0), .val (.int m179_s0), .val (.long x26_206), .second, .val (.long x28_225), .second, .val (.long x30_250), .second] [])) _
    refine XS.iconst X70.here hx rfl (hb hby at_307) ?_
    show Steps p.tables e below (T70.setTop (mkF m 308 #[.val (.long q0), .second, .val (.long q1), .second, .val (.long q2), .second, .val (.long q3), .second, .val (.long q4), .second, .val (.int p5), .val (.long x11_11), .second, .val (.long x13_19), .second, .val (.long x15_27), .second, .val (.long x17_35), .second, .val (.int m47_s0), .val (.int m61_s0), .val (.int m75_s0), .val (.ref b21), .val (.int m139_s0), .val (.int m159_s0), .val (.int m179_s0), .val (.long x26_206), .second, .val (.long x28_225), .second, .val (.long x30_250), .second] [(.int (1 : Int32))])) _
    refine XS.goto X70.here hx rfl (pc0 := 308) (pc' := 312) rfl (hb hby at_308) (by decide) (by decide) ?_
    show Steps p.tables e below (T70.setTop (mkF m 312 #[.val (.long q0), .second, .val (.long q1), .second, .val (.long q2), .second, .val (.long q3), .second, .val (.long q4), .second, .val (.int p5), .val (.long x11_11), .second, .val (.long x13_19), .second, .val (.long x15_27), .second, .val (.long x17_35), .second, .val (.int m47_s0), .val (.int m61_s0), .val (.int m75_s0), .val (.ref b21), .val (.int m139_s0), .val (.int m159_s0), .val (.int m179_s0), .val (.long x26_206), .second, .val (.long x28_225), .second, .val (.long x30_250), .second] [(.int (1 : Int32))])) _
    exact retN X70 hx (t := .boolean) Bd.returns (by simp) (hb hby at_312) hr
  · show Q0 Z q0 q1 q2 q3 q4 p5 h0 n0 _ T70.heap _
    rw [eq70]
    unfold Q0
    refine ⟨rfl, N70⟩
set_option maxRecDepth 65536 in
set_option maxHeartbeats 40000000 in
theorem comes_1 {Post : Tables → Env → Array Value → State → Outcome → State → Prop} (hpost : ∀ tb e args s v u, (limb_1_1.after args s (.returned v) u = true ∧ limb_1_2.after args s (.returned v) u = true ∧ True) → FrameEnd s (.returned v) u (Jvm.fieldLocs frame_1_writes args s ++ Jvm.arrayLocs frame_1_arrays args s ++ Jvm.staticLocs frame_1_statics s) 16 128 → Post tb e args s (.returned v) u) :
    ArmFor flags0 classFile x code maxLocals ret World_1 tables_1 room_1 Calls_1 rest_1 Pre_1 Post := by
  intro l hfl _ _ p e ha hc hk s m args below hf hA hF happ hP
  obtain ⟨hcalls, hrest, hpre⟩ := hP
  obtain ⟨-, -, -, hnamed, -, -, -, hat⟩ := (Spec.applies_iff hf).mp happ
  obtain ⟨hg, hn⟩ := and_e (Cond.before_iff.mp (show (Jvm.Cond.and given_1 narrow_1).before args s = true from hpre))
  obtain ⟨gv1, gv2⟩ := and_e hg
  obtain ⟨gv3, gv4⟩ := and_e gv2
  obtain ⟨gv5, gv6⟩ := and_e gv4
  obtain ⟨gv7, gv8⟩ := and_e gv6
  obtain ⟨gv9, gv10⟩ := and_e gv8
  obtain ⟨gv11, gv12⟩ := and_e gv10
  obtain ⟨w0, w1, w2, w3, w4, w5, rfl⟩ : ∃ w0 w1 w2 w3 w4 w5 : Value, args = #[w0, w1, w2, w3, w4, w5] := by
    have hs : args.size = 6 := by simpa [Cond.value, given_1] using gv1
    obtain ⟨L⟩ := args
    match L, hs with
    | [w0, w1, w2, w3, w4, w5], _ => exact ⟨w0, w1, w2, w3, w4, w5, rfl⟩
  have hw := fun d (hd : d ∈ tables_1) => atoms_spec (ws := Jvm.Cond.code x code maxLocals ret :: tables_1) hat d (List.mem_cons_of_mem _ hd)
  obtain ⟨i0, ei0⟩ := isL_v gv3
  obtain rfl : w0 = (.long i0) := Option.some.inj ei0
  obtain ⟨i1, ei1⟩ := isL_v gv5
  obtain rfl : w1 = (.long i1) := Option.some.inj ei1
  obtain ⟨i2, ei2⟩ := isL_v gv7
  obtain rfl : w2 = (.long i2) := Option.some.inj ei2
  obtain ⟨i3, ei3⟩ := isL_v gv9
  obtain rfl : w3 = (.long i3) := Option.some.inj ei3
  obtain ⟨i4, ei4⟩ := isL_v gv11
  obtain rfl : w4 = (.long i4) := Option.some.inj ei4
  obtain ⟨i5, ei5⟩ := is_v gv12
  obtain rfl : w5 = (.int i5) := Option.some.inj ei5
  obtain ⟨n, o, h1, h2, h3, _, L, rfl, ⟨rfl, N⟩, hq⟩ := rm0 l s _ hw tables_1 i0 i1 i2 i3 i4 i5 s.heap s.heap.size (Nat.le_refl _) p e ha hc hk s m _ below hf ((Spec.applies_iff_loose hf).mp happ).1 ⟨rfl, State.Warmed39.refl s, rfl⟩ trivial
  refine ⟨n, _, h1, h2, h3, hpost _ _ _ _ _ _ ⟨Cond.after_iff.mpr rfl, Cond.after_iff.mpr (eq_i res_at (Term.int_eval (1)) rfl), trivial⟩ ⟨hq.1, hq.2.1, (hq.2.2.sift fun y hy => Or.inr (N y hy)).mono (by decide) (by decide)⟩⟩
theorem main_1_1 : Claimed_1_1 := comes_1 fun _ _ _ _ _ _ h hF => ⟨h.1, hF⟩
theorem main_1_2 : Claimed_1_2 := comes_1 fun _ _ _ _ _ _ h hF => ⟨h.2.1, hF⟩
end Jvm.Pilot.@@N@@
namespace Jvm.Pilot.@@N@@
open Jvm Jvm.ClassFile Sem Op Lib Jvm.Free Jvm.Stand Jvm.Pilot.@@N@@.Jvm.D
/-! MADE BY PROGRAM (witnessworld.py) out of the Statement's table words and the real class files: 10 classes; the members and pool entries that the words name. The judged class is class 1, her method 1. -/
namespace start1
open Jvm.ClassFile
def u (s : String) : CpInfo := .utf8 (stringToUtf16 s)
/-- a pool by its gaps: so many unusable entries, then the entry; so many at the end -/
def gap : Nat → List CpInfo → List CpInfo
  | 0, r => r
  | n + 1, r => .unusable :: gap n r
def poolList (es : List (Nat × CpInfo)) (last : Nat) : List CpInfo := es.foldr (fun e r => gap e.1 (e.2 :: r)) (gap last [])
def pool (es : List (Nat × CpInfo)) (last : Nat) : Array CpInfo := ⟨poolList es last⟩
def fileOf (pool : Array CpInfo) (this : Nat) (attrs : Array Attribute := #[]) (ms : Array MethodInfo := #[]) (fl : Nat := 33) (sup : Nat := 0) (ifs : Array Nat := #[]) (fds : Array FieldInfo := #[]) : ClassFile where
  minorVersion := 0
  majorVersion := 65
  constantPool := pool
  accessFlags := fl
  thisClass := this
  superClass := sup
  interfaces := ifs
  fields := fds
  methods := ms
  attributes := attrs
def plain (name : String) (sup : Option ClassId) : Class where
  name := name
  kind := .ordinary
  loader := none
  accessFlags := 33
  super := sup
  interfaces := #[]
  cf := none
  fields := #[]
  methods := #[]
  instanceTypes := #[]
  staticTypes := #[]
  resolved := #[]
  callSites := []
  init := .initialized
  statics := none
  mirror := none

def pool0 : Array CpInfo := pool [(5, u "<init>"), (0, u "()V"), (1, .class_ 10), (1, u "java/lang/Object")] 113

def k0c0 : Code := { maxStack := 0, maxLocals := 1, code := object_method_1_code, exceptionTable := #[], attributes := #[] }
def k0m0 : Method := { name := "<init>", desc := "()V", sig := { parameters := [], returnType := none }, accessFlags := 1, code := some k0c0 }
/-- java/lang/Object -/
def k0 : Class := { plain "java/lang/Object" none with
  accessFlags := 33
  interfaces := #[]
  cf := some (fileOf pool0 8 #[] #[{ accessFlags := 1, nameIndex := 5, descriptorIndex := 6, attributes := #[] }] 33 0 #[] #[])
  fields := #[]
  methods := #[k0m0]
  instanceTypes := #[]
  staticTypes := #[]
  resolved := Array.replicate 124 none
  statics := none }

def pool1 : Array CpInfo := pool [(2, .class_ 4), (1, u "java/lang/Object"), (0, u "<init>"), (0, u "()V"), (2, .long 9223372036854775807), (1, .methodref 12 13), (0, .class_ 14), (0, .nameAndType 15 16), (0, u "java/lang/Math"), (0, u "max"), (0, u "(JJ)J"), (0, .class_ 18), (0, u "com/example/hopchuan/hopchuan/ErrorCounter"), (0, .methodref 17 20), (0, .nameAndType 5 21), (0, u "(JJ)V"), (0, .methodref 17 23), (0, .nameAndType 24 25), (0, u "second"), (0, u "(JZ)V"), (0, .methodref 17 27), (0, .nameAndType 28 6), (0, u "end"), (0, .methodref 30 31), (0, .class_ 32), (0, .nameAndType 33 34), (0, u "com/example/hopchuan/hopchuan/ErrorCounterSecondPinLaw"), (0, u "es"), (0, u "(ZJ)J"), (0, .methodref 30 36), (0, .nameAndType 37 38), (0, u "ses"), (0, u "(Z)J"), (0, .methodref 30 40), (0, .nameAndType 41 34), (0, u "bbe"), (0, .methodref 17 43), (0, .nameAndType 44 45), (0, u "seconds"), (0, u "()J"), (0, .long 3), (1, .methodref 17 49), (0, .nameAndType 50 45), (0, u "availableSeconds"), (0, .methodref 17 52), (0, .nameAndType 53 45), (0, u "erroredSeconds"), (0, .methodref 17 55), (0, .nameAndType 56 45), (0, u "severelyErroredSeconds"), (0, .methodref 17 58), (0, .nameAndType 59 45), (0, u "backgroundBlockErrors"), (2, u "law"), (0, u "(JJJJJI)Z")] 3

def k1m0 : Method := { name := "<init>", desc := "()V", sig := { parameters := [], returnType := none }, accessFlags := 1, code := none }
def k1c1 : Code := { maxStack := 6, maxLocals := 32, code := code, exceptionTable := #[], attributes := #[] }
def k1m1 : Method := { name := "law", desc := "(JJJJJI)Z", sig := { parameters := [.long, .long, .long, .long, .long, .int], returnType := some .boolean }, accessFlags := 9, code := some k1c1 }
def k1c2 : Code := { maxStack := 4, maxLocals := 3, code := method_3_code, exceptionTable := #[], attributes := #[] }
def k1m2 : Method := { name := "es", desc := "(ZJ)J", sig := { parameters := [.boolean, .long], returnType := some .long }, accessFlags := 10, code := some k1c2 }
def k1c3 : Code := { maxStack := 2, maxLocals := 1, code := method_4_code, exceptionTable := #[], attributes := #[] }
def k1m3 : Method := { name := "ses", desc := "(Z)J", sig := { parameters := [.boolean], returnType := some .long }, accessFlags := 10, code := some k1c3 }
def k1c4 : Code := { maxStack := 2, maxLocals := 3, code := method_5_code, exceptionTable := #[], attributes := #[] }
def k1m4 : Method := { name := "bbe", desc := "(ZJ)J", sig := { parameters := [.boolean, .long], returnType := some .long }, accessFlags := 10, code := some k1c4 }
/-- com/example/hopchuan/hopchuan/ErrorCounterSecondPinLaw -/
def k1 : Class := { plain "com/example/hopchuan/hopchuan/ErrorCounterSecondPinLaw" (some 0) with
  accessFlags := 49
  interfaces := #[]
  cf := some (fileOf pool1 30 #[] #[{ accessFlags := 1, nameIndex := 5, descriptorIndex := 6, attributes := #[] }, { accessFlags := 9, nameIndex := 62, descriptorIndex := 63, attributes := #[] }, { accessFlags := 10, nameIndex := 33, descriptorIndex := 34, attributes := #[] }, { accessFlags := 10, nameIndex := 37, descriptorIndex := 38, attributes := #[] }, { accessFlags := 10, nameIndex := 41, descriptorIndex := 34, attributes := #[] }] 49 2 #[] #[])
  fields := #[]
  methods := #[k1m0, k1m1, k1m2, k1m3, k1m4]
  instanceTypes := #[]
  staticTypes := #[]
  resolved := Array.replicate 67 none
  statics := none }

def pool2 : Array CpInfo := pool [(1, .class_ 2), (0, u "java/lang/Math"), (1, .class_ 6), (1, u "java/lang/Object"), (0, u "<init>"), (0, u "()V"), (89, .class_ 100), (1, u "java/lang/Math$RandomNumberGeneratorHolder"), (20, u "(JJ)J"), (50, u "negativeZeroFloatBits"), (0, u "J"), (2, u "negativeZeroDoubleBits"), (21, u "max"), (46, u "$assertionsDisabled"), (0, u "Z"), (91, u "twoToTheDoubleScaleDown"), (0, u "D"), (4, u "twoToTheDoubleScaleUp"), (9, u "E"), (3, u "PI"), (2, u "TAU"), (2, u "DEGREES_TO_RADIANS"), (0, u "RADIANS_TO_DEGREES")] 94

def k2m0 : Method := { name := "<init>", desc := "()V", sig := { parameters := [], returnType := none }, accessFlags := 2, code := none }
def k2c1 : Code := { maxStack := 4, maxLocals := 4, code := jdk_29_method_66_code, exceptionTable := #[], attributes := #[] }
def k2m1 : Method := { name := "max", desc := "(JJ)J", sig := { parameters := [.long, .long], returnType := some .long }, accessFlags := 9, code := some k2c1 }
/-- java/lang/Math -/
def k2 : Class := { plain "java/lang/Math" (some 0) with
  accessFlags := 49
  interfaces := #[]
  cf := some (fileOf pool2 1 #[.nestMembers #[98]] #[{ accessFlags := 2, nameIndex := 7, descriptorIndex := 8, attributes := #[] }, { accessFlags := 9, nameIndex := 198, descriptorIndex := 121, attributes := #[] }] 49 4 #[] #[{ accessFlags := 25, nameIndex := 354, descriptorIndex := 339, attributes := #[] }, { accessFlags := 25, nameIndex := 358, descriptorIndex := 339, attributes := #[] }, { accessFlags := 25, nameIndex := 361, descriptorIndex := 339, attributes := #[] }, { accessFlags := 26, nameIndex := 364, descriptorIndex := 339, attributes := #[] }, { accessFlags := 26, nameIndex := 365, descriptorIndex := 339, attributes := #[] }, { accessFlags := 26, nameIndex := 172, descriptorIndex := 173, attributes := #[] }, { accessFlags := 26, nameIndex := 176, descriptorIndex := 173, attributes := #[] }, { accessFlags := 8, nameIndex := 344, descriptorIndex := 339, attributes := #[] }, { accessFlags := 8, nameIndex := 338, descriptorIndex := 339, attributes := #[] }, { accessFlags := 4120, nameIndex := 245, descriptorIndex := 246, attributes := #[] }])
  fields := #[{ name := "E", type := .double, accessFlags := 25, slot := 0, constantValue := 0 }, { name := "PI", type := .double, accessFlags := 25, slot := 1, constantValue := 0 }, { name := "TAU", type := .double, accessFlags := 25, slot := 2, constantValue := 0 }, { name := "DEGREES_TO_RADIANS", type := .double, accessFlags := 26, slot := 3, constantValue := 0 }, { name := "RADIANS_TO_DEGREES", type := .double, accessFlags := 26, slot := 4, constantValue := 0 }, { name := "negativeZeroFloatBits", type := .long, accessFlags := 26, slot := 5, constantValue := 0 }, { name := "negativeZeroDoubleBits", type := .long, accessFlags := 26, slot := 6, constantValue := 0 }, { name := "twoToTheDoubleScaleUp", type := .double, accessFlags := 8, slot := 7, constantValue := 0 }, { name := "twoToTheDoubleScaleDown", type := .double, accessFlags := 8, slot := 8, constantValue := 0 }, { name := "$assertionsDisabled", type := .boolean, accessFlags := 4120, slot := 9, constantValue := 0 }]
  methods := #[k2m0, k2m1]
  instanceTypes := #[]
  staticTypes := #[.double, .double, .double, .double, .double, .long, .long, .double, .double, .boolean]
  resolved := Array.replicate 460 none
  statics := none }

def pool3 : Array CpInfo := pool [(1, .methodref 2 3), (0, .class_ 4), (0, .nameAndType 5 6), (0, u "java/lang/Object"), (0, u "<init>"), (0, u "()V"), (0, .fieldref 8 9), (0, .class_ 10), (0, .nameAndType 11 12), (0, u "com/example/hopchuan/hopchuan/ErrorCounter"), (0, u "available"), (0, u "Z"), (0, .fieldref 8 14), (0, .nameAndType 15 16), (0, u "sesErroredBlocks"), (0, u "J"), (0, .fieldref 8 18), (0, .nameAndType 19 16), (0, u "extendingPeriodSeconds"), (0, .fieldref 8 21), (0, .nameAndType 22 16), (0, u "seconds"), (0, .fieldref 8 24), (0, .nameAndType 25 16), (0, u "pending"), (0, .long 10), (1, .fieldref 8 29), (0, .nameAndType 30 16), (0, u "period"), (0, .methodref 8 32), (0, .nameAndType 33 6), (0, u "settleAvailableRun"), (0, .fieldref 8 35), (0, .nameAndType 36 16), (0, u "erroredSeconds"), (0, .fieldref 8 38), (0, .nameAndType 39 16), (0, u "backgroundBlockErrors"), (3, .fieldref 8 44), (0, .nameAndType 45 16), (0, u "pendingErrored"), (0, .fieldref 8 47), (0, .nameAndType 48 16), (0, u "pendingBlocks"), (11, u "second"), (0, u "(JZ)V"), (0, .fieldref 8 63), (0, .nameAndType 64 16), (0, u "unavailableSeconds"), (2, u "extendingSeconds"), (0, .fieldref 8 69), (0, .nameAndType 70 16), (0, u "severelyErroredSeconds"), (0, u "RUN"), (0, u "I"), (2, u "(JJ)V"), (5, u "end"), (0, u "()J"), (0, u "availableSeconds")] 2

def k3c0 : Code := { maxStack := 3, maxLocals := 5, code := prog_5_method_1_code, exceptionTable := #[], attributes := #[] }
def k3m0 : Method := { name := "<init>", desc := "(JJ)V", sig := { parameters := [.long, .long], returnType := none }, accessFlags := 0, code := some k3c0 }
def k3c1 : Code := { maxStack := 7, maxLocals := 5, code := prog_5_method_2_code, exceptionTable := #[], attributes := #[] }
def k3m1 : Method := { name := "second", desc := "(JZ)V", sig := { parameters := [.long, .boolean], returnType := none }, accessFlags := 0, code := some k3c1 }
def k3c2 : Code := { maxStack := 5, maxLocals := 1, code := prog_5_method_4_code, exceptionTable := #[], attributes := #[] }
def k3m2 : Method := { name := "end", desc := "()V", sig := { parameters := [], returnType := none }, accessFlags := 0, code := some k3c2 }
def k3c3 : Code := { maxStack := 2, maxLocals := 1, code := prog_5_method_5_code, exceptionTable := #[], attributes := #[] }
def k3m3 : Method := { name := "seconds", desc := "()J", sig := { parameters := [], returnType := some .long }, accessFlags := 0, code := some k3c3 }
def k3c4 : Code := { maxStack := 4, maxLocals := 1, code := prog_5_method_7_code, exceptionTable := #[], attributes := #[] }
def k3m4 : Method := { name := "availableSeconds", desc := "()J", sig := { parameters := [], returnType := some .long }, accessFlags := 0, code := some k3c4 }
def k3c5 : Code := { maxStack := 2, maxLocals := 1, code := prog_5_method_9_code, exceptionTable := #[], attributes := #[] }
def k3m5 : Method := { name := "erroredSeconds", desc := "()J", sig := { parameters := [], returnType := some .long }, accessFlags := 0, code := some k3c5 }
def k3c6 : Code := { maxStack := 2, maxLocals := 1, code := prog_5_method_10_code, exceptionTable := #[], attributes := #[] }
def k3m6 : Method := { name := "severelyErroredSeconds", desc := "()J", sig := { parameters := [], returnType := some .long }, accessFlags := 0, code := some k3c6 }
def k3c7 : Code := { maxStack := 2, maxLocals := 1, code := prog_5_method_11_code, exceptionTable := #[], attributes := #[] }
def k3m7 : Method := { name := "backgroundBlockErrors", desc := "()J", sig := { parameters := [], returnType := some .long }, accessFlags := 0, code := some k3c7 }
def k3c8 : Code := { maxStack := 5, maxLocals := 1, code := prog_5_method_12_code, exceptionTable := #[], attributes := #[] }
def k3m8 : Method := { name := "settleAvailableRun", desc := "()V", sig := { parameters := [], returnType := none }, accessFlags := 2, code := some k3c8 }
/-- com/example/hopchuan/hopchuan/ErrorCounter -/
def k3 : Class := { plain "com/example/hopchuan/hopchuan/ErrorCounter" (some 0) with
  accessFlags := 32
  interfaces := #[]
  cf := some (fileOf pool3 8 #[] #[{ accessFlags := 0, nameIndex := 5, descriptorIndex := 75, attributes := #[] }, { accessFlags := 0, nameIndex := 60, descriptorIndex := 61, attributes := #[] }, { accessFlags := 0, nameIndex := 81, descriptorIndex := 6, attributes := #[] }, { accessFlags := 0, nameIndex := 22, descriptorIndex := 82, attributes := #[] }, { accessFlags := 0, nameIndex := 83, descriptorIndex := 82, attributes := #[] }, { accessFlags := 0, nameIndex := 36, descriptorIndex := 82, attributes := #[] }, { accessFlags := 0, nameIndex := 70, descriptorIndex := 82, attributes := #[] }, { accessFlags := 0, nameIndex := 39, descriptorIndex := 82, attributes := #[] }, { accessFlags := 2, nameIndex := 33, descriptorIndex := 6, attributes := #[] }] 32 2 #[] #[{ accessFlags := 24, nameIndex := 71, descriptorIndex := 72, attributes := #[] }, { accessFlags := 18, nameIndex := 15, descriptorIndex := 16, attributes := #[] }, { accessFlags := 18, nameIndex := 19, descriptorIndex := 16, attributes := #[] }, { accessFlags := 2, nameIndex := 22, descriptorIndex := 16, attributes := #[] }, { accessFlags := 2, nameIndex := 64, descriptorIndex := 16, attributes := #[] }, { accessFlags := 2, nameIndex := 67, descriptorIndex := 16, attributes := #[] }, { accessFlags := 2, nameIndex := 36, descriptorIndex := 16, attributes := #[] }, { accessFlags := 2, nameIndex := 70, descriptorIndex := 16, attributes := #[] }, { accessFlags := 2, nameIndex := 39, descriptorIndex := 16, attributes := #[] }, { accessFlags := 2, nameIndex := 11, descriptorIndex := 12, attributes := #[] }, { accessFlags := 2, nameIndex := 25, descriptorIndex := 16, attributes := #[] }, { accessFlags := 2, nameIndex := 45, descriptorIndex := 16, attributes := #[] }, { accessFlags := 2, nameIndex := 48, descriptorIndex := 16, attributes := #[] }, { accessFlags := 2, nameIndex := 30, descriptorIndex := 16, attributes := #[] }])
  fields := #[{ name := "RUN", type := .int, accessFlags := 24, slot := 0, constantValue := 0 }, { name := "sesErroredBlocks", type := .long, accessFlags := 18, slot := 0, constantValue := 0 }, { name := "extendingPeriodSeconds", type := .long, accessFlags := 18, slot := 1, constantValue := 0 }, { name := "seconds", type := .long, accessFlags := 2, slot := 2, constantValue := 0 }, { name := "unavailableSeconds", type := .long, accessFlags := 2, slot := 3, constantValue := 0 }, { name := "extendingSeconds", type := .long, accessFlags := 2, slot := 4, constantValue := 0 }, { name := "erroredSeconds", type := .long, accessFlags := 2, slot := 5, constantValue := 0 }, { name := "severelyErroredSeconds", type := .long, accessFlags := 2, slot := 6, constantValue := 0 }, { name := "backgroundBlockErrors", type := .long, accessFlags := 2, slot := 7, constantValue := 0 }, { name := "available", type := .boolean, accessFlags := 2, slot := 8, constantValue := 0 }, { name := "pending", type := .long, accessFlags := 2, slot := 9, constantValue := 0 }, { name := "pendingErrored", type := .long, accessFlags := 2, slot := 10, constantValue := 0 }, { name := "pendingBlocks", type := .long, accessFlags := 2, slot := 11, constantValue := 0 }, { name := "period", type := .long, accessFlags := 2, slot := 12, constantValue := 0 }]
  methods := #[k3m0, k3m1, k3m2, k3m3, k3m4, k3m5, k3m6, k3m7, k3m8]
  instanceTypes := #[.long, .long, .long, .long, .long, .long, .long, .long, .boolean, .long, .long, .long, .long]
  staticTypes := #[.int]
  resolved := Array.replicate 86 none
  statics := none }

def pool4 : Array CpInfo := pool [(1, u "java/lang/Cloneable"), (0, .class_ 1), (0, u "java/lang/Object"), (0, .class_ 3)] 3

/-- java/lang/Cloneable -/
def k4 : Class := { plain "java/lang/Cloneable" (some 0) with
  accessFlags := 1537
  interfaces := #[]
  cf := some (fileOf pool4 2 #[] #[] 1537 4 #[] #[])
  fields := #[]
  methods := #[]
  instanceTypes := #[]
  staticTypes := #[]
  resolved := Array.replicate 8 none
  statics := none }

def pool5 : Array CpInfo := pool [(1, u "java/io/Serializable"), (0, .class_ 1), (0, u "java/lang/Object"), (0, .class_ 3)] 3

/-- java/io/Serializable -/
def k5 : Class := { plain "java/io/Serializable" (some 0) with
  accessFlags := 1537
  interfaces := #[]
  cf := some (fileOf pool5 2 #[] #[] 1537 4 #[] #[])
  fields := #[]
  methods := #[]
  instanceTypes := #[]
  staticTypes := #[]
  resolved := Array.replicate 8 none
  statics := none }

/-- the primitive byte -/
def k6 : Class := { plain "byte" none with kind := .primitive 'B', accessFlags := 0x411 }
/-- [B -/
def k7 : Class := { plain "[B" (some 0) with kind := .array 6 .byte, interfaces := #[4, 5], accessFlags := 1041 }

/-- the primitive int -/
def k8 : Class := { plain "int" none with kind := .primitive 'I', accessFlags := 0x411 }
/-- [I -/
def k9 : Class := { plain "[I" (some 0) with kind := .array 8 .int, interfaces := #[4, 5], accessFlags := 1041 }

def heap : Heap := #[]
def classes : Array Class := #[k0, k1, k2, k3, k4, k5, k6, k7, k8, k9]
def interned : List (Array UInt16 × Addr) := []
def slotsUsed : Nat := 0
def theMethod : MethodId := ⟨1, 1⟩
def args0 : Array Value := #[.long 5, .long 6, .long 7, .long 8, .long 9, .int 3]
def aboutOver (below : List Frame) : State where
  vm := { classes := classes, interned := interned.toArray }
  heap := heap
  slotsUsed := slotsUsed
  threads := #[{ frames := .invoking theMethod args0 :: below }]
def below0 : List Frame := [.native { method := ⟨0, 0⟩, args := #[] }]
def about1 : State := aboutOver below0
def p0 : Program := .bare "" "" ""
def e0 : Env := launch0.env 0 0 0
theorem w_frames : about1.frames = Frame.invoking theMethod args0 :: below0 := rfl
set_option maxRecDepth 65536 in
theorem w_args : argsFit about1.vm theMethod args0 = true := by decide +kernel
set_option maxRecDepth 65536 in
theorem w_heap : heapFits about1 = true := by decide +kernel
set_option maxRecDepth 65536 in
theorem w_runnable : about1.curStatus? = some .runnable := by decide +kernel
set_option maxRecDepth 65536 in
theorem w_alone : about1.alone = true := by decide +kernel
set_option maxRecDepth 65536 in
theorem w_named : about1.methodNamed? x = some theMethod := by decide +kernel
set_option maxRecDepth 65536 in
theorem w_hears : about1.hears theMethod below0 = true := by decide +kernel
set_option maxRecDepth 65536 in
theorem w_ripe : about1.ripe theMethod args0 below0 = true := by decide +kernel
theorem w_running : about1.status = .running := rfl
set_option maxRecDepth 65536 in
theorem w_room : about1.hasRoom e0.platform room_1 = true :=
  launch0.hasRoom_least _ room_1 (by decide +kernel) (by decide +kernel) (by decide +kernel) (by decide +kernel) (by decide +kernel) (by decide +kernel)
theorem allAtoms_all (ts : List Jvm.Cond) (a : Array Jvm.Value) (st : Jvm.State) : (allAtoms ts).before a st = ts.all (fun c => c.before a st) := by
  induction ts with
  | nil => rfl
  | cons c t ih =>
    show (Jvm.Cond.and c (allAtoms t)).before a st = _
    rw [Jvm.Cond.before_and, ih, List.all_cons]
def words1 : List Jvm.Cond := Jvm.Cond.code x code maxLocals ret :: tables_1
/-- a 'code' word, met by the world's own term for the bytes: nothing is compared byte by byte -/
theorem code_word {y : MethodName} {bytes : ByteArray} {mx : Nat} {rt : Option FieldType} {a : Array Value} {s : State} {m : MethodId} {meth : Method} {c : Code} (h1 : s.methodNamed? y = some m) (h2 : s.vm.method? m = some meth) (h3 : meth.code = some c) (h4 : c.code = bytes)
    (h5 : (c.maxLocals == mx && c.exceptionTable.isEmpty && decide (c.maxStack ≤ mostOperands) && decide (meth.sig.returnType = rt) && !meth.locks && decide (parseMethodDescriptor y.desc = some meth.sig)) = true) : (Jvm.Cond.code y bytes mx rt).before a s = true := by
  simp only [Bool.and_eq_true, beq_iff_eq, Bool.not_eq_true', decide_eq_true_eq] at h5
  obtain ⟨⟨⟨⟨⟨g1, g2⟩, g3⟩, g4⟩, g5⟩, g6⟩ := h5
  simp [Cond.before, Cond.holds, Cond.value, h1, h2, h3, h4, g1, g2, g3, g4, g5, g6]
def isCode : Jvm.Cond → Bool
  | .code _ _ _ _ => true
  | _ => false
theorem all_split {L : List Jvm.Cond} {P : Jvm.Cond → Bool} (h1 : L.all (fun c => isCode c || P c) = true) (h2 : ∀ c ∈ L.filter isCode, P c = true) : L.all P = true := by
  refine List.all_eq_true.mpr fun c hc => ?_
  have h := List.all_eq_true.mp h1 c hc
  rcases Bool.eq_false_or_eq_true (isCode c) with hi | hi
  · exact h2 c (List.mem_filter.mpr ⟨hc, hi⟩)
  · simpa [hi] using h
set_option maxRecDepth 65536 in
theorem w_c0 : (Jvm.Cond.code x code maxLocals ret).before args0 about1 = true := code_word (m := ⟨1, 1⟩) (meth := k1m1) (c := k1c1) (by decide +kernel) rfl rfl rfl (by decide +kernel)
set_option maxRecDepth 65536 in
theorem w_c1 : (Jvm.Cond.code ({ cls := "java/lang/Math", name := "max", desc := "(JJ)J" } : Jvm.MethodName) jdk_29_method_66_code (4 : Nat) (Option.some Jvm.ClassFile.FieldType.long)).before args0 about1 = true := code_word (m := ⟨2, 1⟩) (meth := k2m1) (c := k2c1) (by decide +kernel) rfl rfl rfl (by decide +kernel)
set_option maxRecDepth 65536 in
theorem w_c2 : (Jvm.Cond.code ({ cls := "com/example/hopchuan/hopchuan/ErrorCounter", name := "<init>", desc := "(JJ)V" } : Jvm.MethodName) prog_5_method_1_code (5 : Nat) (Option.none : Option Jvm.ClassFile.FieldType)).before args0 about1 = true := code_word (m := ⟨3, 0⟩) (meth := k3m0) (c := k3c0) (by decide +kernel) rfl rfl rfl (by decide +kernel)
set_option maxRecDepth 65536 in
theorem w_c3 : (Jvm.Cond.code ({ cls := "java/lang/Object", name := "<init>", desc := "()V" } : Jvm.MethodName) object_method_1_code (1 : Nat) (Option.none : Option Jvm.ClassFile.FieldType)).before args0 about1 = true := code_word (m := ⟨0, 0⟩) (meth := k0m0) (c := k0c0) (by decide +kernel) rfl rfl rfl (by decide +kernel)
set_option maxRecDepth 65536 in
theorem w_c4 : (Jvm.Cond.code ({ cls := "com/example/hopchuan/hopchuan/ErrorCounter", name := "second", desc := "(JZ)V" } : Jvm.MethodName) prog_5_method_2_code (5 : Nat) (Option.none : Option Jvm.ClassFile.FieldType)).before args0 about1 = true := code_word (m := ⟨3, 1⟩) (meth := k3m1) (c := k3c1) (by decide +kernel) rfl rfl rfl (by decide +kernel)
set_option maxRecDepth 65536 in
theorem w_c5 : (Jvm.Cond.code ({ cls := "com/example/hopchuan/hopchuan/ErrorCounter", name := "settleAvailableRun", desc := "()V" } : Jvm.MethodName) prog_5_method_12_code (1 : Nat) (Option.none : Option Jvm.ClassFile.FieldType)).before args0 about1 = true := code_word (m := ⟨3, 8⟩) (meth := k3m8) (c := k3c8) (by decide +kernel) rfl rfl rfl (by decide +kernel)
set_option maxRecDepth 65536 in
theorem w_c6 : (Jvm.Cond.code ({ cls := "com/example/hopchuan/hopchuan/ErrorCounter", name := "end", desc := "()V" } : Jvm.MethodName) prog_5_method_4_code (1 : Nat) (Option.none : Option Jvm.ClassFile.FieldType)).before args0 about1 = true := code_word (m := ⟨3, 2⟩) (meth := k3m2) (c := k3c2) (by decide +kernel) rfl rfl rfl (by decide +kernel)
set_option maxRecDepth 65536 in
theorem w_c7 : (Jvm.Cond.code ({ cls := "com/example/hopchuan/hopchuan/ErrorCounterSecondPinLaw", name := "es", desc := "(ZJ)J" } : Jvm.MethodName) method_3_code (3 : Nat) (Option.some Jvm.ClassFile.FieldType.long)).before args0 about1 = true := code_word (m := ⟨1, 2⟩) (meth := k1m2) (c := k1c2) (by decide +kernel) rfl rfl rfl (by decide +kernel)
set_option maxRecDepth 65536 in
theorem w_c8 : (Jvm.Cond.code ({ cls := "com/example/hopchuan/hopchuan/ErrorCounterSecondPinLaw", name := "ses", desc := "(Z)J" } : Jvm.MethodName) method_4_code (1 : Nat) (Option.some Jvm.ClassFile.FieldType.long)).before args0 about1 = true := code_word (m := ⟨1, 3⟩) (meth := k1m3) (c := k1c3) (by decide +kernel) rfl rfl rfl (by decide +kernel)
set_option maxRecDepth 65536 in
theorem w_c9 : (Jvm.Cond.code ({ cls := "com/example/hopchuan/hopchuan/ErrorCounterSecondPinLaw", name := "bbe", desc := "(ZJ)J" } : Jvm.MethodName) method_5_code (3 : Nat) (Option.some Jvm.ClassFile.FieldType.long)).before args0 about1 = true := code_word (m := ⟨1, 4⟩) (meth := k1m4) (c := k1c4) (by decide +kernel) rfl rfl rfl (by decide +kernel)
set_option maxRecDepth 65536 in
theorem w_c10 : (Jvm.Cond.code ({ cls := "com/example/hopchuan/hopchuan/ErrorCounter", name := "seconds", desc := "()J" } : Jvm.MethodName) prog_5_method_5_code (1 : Nat) (Option.some Jvm.ClassFile.FieldType.long)).before args0 about1 = true := code_word (m := ⟨3, 3⟩) (meth := k3m3) (c := k3c3) (by decide +kernel) rfl rfl rfl (by decide +kernel)
set_option maxRecDepth 65536 in
theorem w_c11 : (Jvm.Cond.code ({ cls := "com/example/hopchuan/hopchuan/ErrorCounter", name := "availableSeconds", desc := "()J" } : Jvm.MethodName) prog_5_method_7_code (1 : Nat) (Option.some Jvm.ClassFile.FieldType.long)).before args0 about1 = true := code_word (m := ⟨3, 4⟩) (meth := k3m4) (c := k3c4) (by decide +kernel) rfl rfl rfl (by decide +kernel)
set_option maxRecDepth 65536 in
theorem w_c12 : (Jvm.Cond.code ({ cls := "com/example/hopchuan/hopchuan/ErrorCounter", name := "erroredSeconds", desc := "()J" } : Jvm.MethodName) prog_5_method_9_code (1 : Nat) (Option.some Jvm.ClassFile.FieldType.long)).before args0 about1 = true := code_word (m := ⟨3, 5⟩) (meth := k3m5) (c := k3c5) (by decide +kernel) rfl rfl rfl (by decide +kernel)
set_option maxRecDepth 65536 in
theorem w_c13 : (Jvm.Cond.code ({ cls := "com/example/hopchuan/hopchuan/ErrorCounter", name := "severelyErroredSeconds", desc := "()J" } : Jvm.MethodName) prog_5_method_10_code (1 : Nat) (Option.some Jvm.ClassFile.FieldType.long)).before args0 about1 = true := code_word (m := ⟨3, 6⟩) (meth := k3m6) (c := k3c6) (by decide +kernel) rfl rfl rfl (by decide +kernel)
set_option maxRecDepth 65536 in
theorem w_c14 : (Jvm.Cond.code ({ cls := "com/example/hopchuan/hopchuan/ErrorCounter", name := "backgroundBlockErrors", desc := "()J" } : Jvm.MethodName) prog_5_method_11_code (1 : Nat) (Option.some Jvm.ClassFile.FieldType.long)).before args0 about1 = true := code_word (m := ⟨3, 7⟩) (meth := k3m7) (c := k3c7) (by decide +kernel) rfl rfl rfl (by decide +kernel)
def codes1 : List Jvm.Cond := [Jvm.Cond.code x code maxLocals ret, Jvm.Cond.code ({ cls := "java/lang/Math", name := "max", desc := "(JJ)J" } : Jvm.MethodName) jdk_29_method_66_code (4 : Nat) (Option.some Jvm.ClassFile.FieldType.long), Jvm.Cond.code ({ cls := "com/example/hopchuan/hopchuan/ErrorCounter", name := "<init>", desc := "(JJ)V" } : Jvm.MethodName) prog_5_method_1_code (5 : Nat) (Option.none : Option Jvm.ClassFile.FieldType), Jvm.Cond.code ({ cls := "java/lang/Object", name := "<init>", desc := "()V" } : Jvm.MethodName) object_method_1_code (1 : Nat) (Option.none : Option Jvm.ClassFile.FieldType), Jvm.Cond.code ({ cls := "com/example/hopchuan/hopchuan/ErrorCounter", name := "second", desc := "(JZ)V" } : Jvm.MethodName) prog_5_method_2_code (5 : Nat) (Option.none : Option Jvm.ClassFile.FieldType), Jvm.Cond.code ({ cls := "com/example/hopchuan/hopchuan/ErrorCounter", name := "settleAvailableRun", desc := "()V" } : Jvm.MethodName) prog_5_method_12_code (1 : Nat) (Option.none : Option Jvm.ClassFile.FieldType), Jvm.Cond.code ({ cls := "com/example/hopchuan/hopchuan/ErrorCounter", name := "end", desc := "()V" } : Jvm.MethodName) prog_5_method_4_code (1 : Nat) (Option.none : Option Jvm.ClassFile.FieldType), Jvm.Cond.code ({ cls := "com/example/hopchuan/hopchuan/ErrorCounterSecondPinLaw", name := "es", desc := "(ZJ)J" } : Jvm.MethodName) method_3_code (3 : Nat) (Option.some Jvm.ClassFile.FieldType.long), Jvm.Cond.code ({ cls := "com/example/hopchuan/hopchuan/ErrorCounterSecondPinLaw", name := "ses", desc := "(Z)J" } : Jvm.MethodName) method_4_code (1 : Nat) (Option.some Jvm.ClassFile.FieldType.long), Jvm.Cond.code ({ cls := "com/example/hopchuan/hopchuan/ErrorCounterSecondPinLaw", name := "bbe", desc := "(ZJ)J" } : Jvm.MethodName) method_5_code (3 : Nat) (Option.some Jvm.ClassFile.FieldType.long), Jvm.Cond.code ({ cls := "com/example/hopchuan/hopchuan/ErrorCounter", name := "seconds", desc := "()J" } : Jvm.MethodName) prog_5_method_5_code (1 : Nat) (Option.some Jvm.ClassFile.FieldType.long), Jvm.Cond.code ({ cls := "com/example/hopchuan/hopchuan/ErrorCounter", name := "availableSeconds", desc := "()J" } : Jvm.MethodName) prog_5_method_7_code (1 : Nat) (Option.some Jvm.ClassFile.FieldType.long), Jvm.Cond.code ({ cls := "com/example/hopchuan/hopchuan/ErrorCounter", name := "erroredSeconds", desc := "()J" } : Jvm.MethodName) prog_5_method_9_code (1 : Nat) (Option.some Jvm.ClassFile.FieldType.long), Jvm.Cond.code ({ cls := "com/example/hopchuan/hopchuan/ErrorCounter", name := "severelyErroredSeconds", desc := "()J" } : Jvm.MethodName) prog_5_method_10_code (1 : Nat) (Option.some Jvm.ClassFile.FieldType.long), Jvm.Cond.code ({ cls := "com/example/hopchuan/hopchuan/ErrorCounter", name := "backgroundBlockErrors", desc := "()J" } : Jvm.MethodName) prog_5_method_11_code (1 : Nat) (Option.some Jvm.ClassFile.FieldType.long)]
set_option maxRecDepth 65536 in
theorem codes_eq : words1.filter isCode = codes1 := rfl
theorem w_codes : ∀ c ∈ words1.filter isCode, c.before args0 about1 = true := by
  rw [codes_eq]
  intro c hc
  simp only [codes1, List.mem_cons, List.not_mem_nil, or_false] at hc
  rcases hc with rfl | rfl | rfl | rfl | rfl | rfl | rfl | rfl | rfl | rfl | rfl | rfl | rfl | rfl | rfl
  · exact w_c0
  · exact w_c1
  · exact w_c2
  · exact w_c3
  · exact w_c4
  · exact w_c5
  · exact w_c6
  · exact w_c7
  · exact w_c8
  · exact w_c9
  · exact w_c10
  · exact w_c11
  · exact w_c12
  · exact w_c13
  · exact w_c14
set_option maxRecDepth 65536 in
theorem w_t1 : (words1.take 24).all (fun c => isCode c || c.before args0 about1) = true := by decide +kernel
set_option maxRecDepth 65536 in
theorem w_t2 : ((words1.drop 24).take 24).all (fun c => isCode c || c.before args0 about1) = true := by decide +kernel
set_option maxRecDepth 65536 in
theorem w_t3 : (((words1.drop 24).drop 24).take 24).all (fun c => isCode c || c.before args0 about1) = true := by decide +kernel
set_option maxRecDepth 65536 in
theorem w_t4 : (((words1.drop 24).drop 24).drop 24).all (fun c => isCode c || c.before args0 about1) = true := by decide +kernel
theorem w_tables : (allAtoms (Jvm.Cond.code x code maxLocals ret :: tables_1)).before args0 about1 = true := by
  rw [allAtoms_all]
  show words1.all (fun c => c.before args0 about1) = true
  refine all_split ?_ w_codes
  rw [← List.take_append_drop 24 words1, List.all_append, w_t1, ← List.take_append_drop 24 (words1.drop 24), List.all_append, w_t2, ← List.take_append_drop 24 ((words1.drop 24).drop 24), List.all_append, w_t3, w_t4]
  rfl
set_option maxRecDepth 65536 in
theorem w_case : (Jvm.Cond.and given_1 narrow_1).before args0 about1 = true := by decide +kernel
theorem w_applies : (headSpec (Jvm.Cond.code x code maxLocals ret :: tables_1) room_1).applies x e0.platform about1 = true :=
  (Spec.applies_iff w_frames).mpr ⟨w_running, w_runnable, w_alone, w_named, w_hears, w_ripe, w_room, w_tables⟩
theorem atStart : AtStart classFile x code maxLocals ret World_1 tables_1 room_1 Calls_1 rest_1 Pre_1 launch0 p0 e0 about1 theMethod args0 below0 :=
  ⟨lists_1, trivial, launch0.admits_env _ _ _, launch0.least_env, fairChoices_fair.cas, fairChoices_fair.clock, w_frames, w_args, w_heap, w_applies, trivial, trivial, w_case⟩
end start1
theorem witness_1 : WitnessClaimed_1 := ⟨start1.p0, start1.e0, start1.about1, start1.theMethod, start1.args0, start1.below0, start1.atStart⟩
end Jvm.Pilot.@@N@@
