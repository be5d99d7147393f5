import JvmDerived
import JvmDerived.Pilot.@@N@@Statement
import JvmDerived.Pilot.@@N@@Code
set_option linter.unusedVariables false
set_option linter.unusedSimpArgs false
namespace Jvm.RoadKit
open Sem ClassFile Op Lib Jvm.Stand Jvm.Free Jvm.LawKit
section New
variable {p : Program} {l : Launch} {e : Env} {R : Room} {s : State} {m : MethodId} {args : Array Value} {below : List Frame} {meth : Method} {c : Code} {T : State} {locs : List Loc} {cells slots : Nat}
theorem retI (X : Stand p l e R s m args below meth c T locs cells slots) (hx : p.tables.exec = Jvm.exec) {pc : Nat} {Ls : Array Slot} {z : Int32} {rest : List Value} (hret : meth.sig.returnType = some .int) (hd : decode c.code pc = .ok (.ireturn, 1)) {fs : List Frame}
    (hl : ∀ (f : JFrame) (acts : List Action), f.method = m → f.locked = none → f.entered = [] → (doReturn e (T.setTop f) acts (some (.int z))).1 = T.setFrames fs) : Steps p.tables e below (T.setTop (mkF m pc Ls (.int z :: rest))) (T.setFrames fs) := by
  have hm' : T.vm.method? m = some meth := X.method'
  have hn : narrow .int (.int z) = .int z := rfl
  show Steps p.tables e below (T.setTop { method := m, pc := pc, locals := Ls, stack := _ :: rest, locked := none }) _
  jvm_step X.here [X.here.top, hx, hd, hm', hret, hn]
  first | (intro acts; rw [hl _ acts rfl rfl rfl]) | rw [hl _ _ rfl rfl rfl]
  exact Steps.refl _
theorem retJ (X : Stand p l e R s m args below meth c T locs cells slots) (hx : p.tables.exec = Jvm.exec) {pc : Nat} {Ls : Array Slot} {z : Int64} {rest : List Value} (hret : meth.sig.returnType = some .long) (hd : decode c.code pc = .ok (.lreturn, 1)) {fs : List Frame}
    (hl : ∀ (f : JFrame) (acts : List Action), f.method = m → f.locked = none → f.entered = [] → (doReturn e (T.setTop f) acts (some (.long z))).1 = T.setFrames fs) : Steps p.tables e below (T.setTop (mkF m pc Ls (.long z :: rest))) (T.setFrames fs) := by
  have hm' : T.vm.method? m = some meth := X.method'
  have hn : narrow .long (.long z) = .long z := rfl
  show Steps p.tables e below (T.setTop { method := m, pc := pc, locals := Ls, stack := _ :: rest, locked := none }) _
  jvm_step X.here [X.here.top, hx, hd, hm', hret, hn]
  first | (intro acts; rw [hl _ acts rfl rfl rfl]) | rw [hl _ _ rfl rfl rfl]
  exact Steps.refl _
theorem retR (X : Stand p l e R s m args below meth c T locs cells slots) (hx : p.tables.exec = Jvm.exec) {pc : Nat} {Ls : Array Slot} {v : Value} {rest : List Value} (hv : v.isRef = true) {ty : FieldType} (hret : meth.sig.returnType = some ty) (ht : ty.isReference = true) (hd : decode c.code pc = .ok (.areturn, 1)) {fs : List Frame}
    (hl : ∀ (f : JFrame) (acts : List Action), f.method = m → f.locked = none → f.entered = [] → (doReturn e (T.setTop f) acts (some v)).1 = T.setFrames fs) : Steps p.tables e below (T.setTop (mkF m pc Ls (v :: rest))) (T.setFrames fs) := by
  have hm' : T.vm.method? m = some meth := X.method'
  show Steps p.tables e below (T.setTop { method := m, pc := pc, locals := Ls, stack := _ :: rest, locked := none }) _
  jvm_step X.here [X.here.top, hx, hd, hm', hret, hv, ht]
  first | (intro acts; rw [hl _ acts rfl rfl rfl]) | rw [hl _ _ rfl rfl rfl]
  exact Steps.refl _
end New
end Jvm.RoadKit
namespace Jvm.Pilot.@@N@@
open Jvm Jvm.ClassFile Sem Op Lib Jvm.Free Jvm.Stand Jvm.LawKit Jvm.RoadKit Bundle Jvm.Pilot.@@N@@.Jvm.D
/-- from the state 'cur' on is enough -/
def own_Pre (p : Program) (e : Env) (below : List Frame) (start cur : State) : Prop := ∀ t, Steps p.tables e below cur t → Steps p.tables e below start t
/-- an array of ints (bytes, chars, booleans): its length z, its components ws (at least so many) -/
def own_AI (Z : State) (h : Heap) (a : Addr) (k : ClassId) (ty : FieldType) (z : Int32) (ws : List Int32) : Prop := Arv Z h a k ty z (ws.map Value.int) (.int 0) ∧ z.toNatClampNeg ≤ ws.length
def own_AJ (Z : State) (h : Heap) (a : Addr) (k : ClassId) (ty : FieldType) (z : Int32) (ws : List Int64) : Prop := Arv Z h a k ty z (ws.map Value.long) (.long 0) ∧ z.toNatClampNeg ≤ ws.length
section OwnA
variable {Z : State} {h h' : Heap} {a b : Addr} {k : ClassId} {ty : FieldType} {z : Int32} {ws : List Int32} {wl : List Int64} {sl : Nat} {v : Value} {L : List Addr}
theorem own_AI.lt (F : own_AI Z h a k ty z ws) : a < h.size := Arv.lt F.1
theorem own_AI.ext (F : own_AI Z h a k ty z ws) (E : Ext h h') : own_AI Z h' a k ty z ws := ⟨Arv.ext F.1 E, F.2⟩
theorem own_AI.other (F : own_AI Z h b k ty z ws) (W : Wr h h' a sl v) (q : b ≠ a) : own_AI Z h' b k ty z ws := ⟨Arv.other F.1 W q, F.2⟩
theorem own_AI.keep (F : own_AI Z h a k ty z ws) (K : Keep h h' L) (q : a ∉ L) : own_AI Z h' a k ty z ws := ⟨Arv.keep F.1 K q, F.2⟩
theorem own_AJ.lt (F : own_AJ Z h a k ty z wl) : a < h.size := Arv.lt F.1
theorem own_AJ.ext (F : own_AJ Z h a k ty z wl) (E : Ext h h') : own_AJ Z h' a k ty z wl := ⟨Arv.ext F.1 E, F.2⟩
theorem own_AJ.other (F : own_AJ Z h b k ty z wl) (W : Wr h h' a sl v) (q : b ≠ a) : own_AJ Z h' b k ty z wl := ⟨Arv.other F.1 W q, F.2⟩
theorem own_AJ.keep (F : own_AJ Z h a k ty z wl) (K : Keep h h' L) (q : a ∉ L) : own_AJ Z h' a k ty z wl := ⟨Arv.keep F.1 K q, F.2⟩
theorem own_AI.new (n : Nat) (A : Arr Z h a (newA k ty z) ty) (q : ¬ z < 0) (hn : z.toNatClampNeg ≤ n) (hd : defaultValue ty = .int 0) : own_AI Z h a k ty z (List.replicate n (0 : Int32)) := by
  have := Arv.new A q
  rw [hd] at this
  have r := this.pad (pad_rep [] (.int 0) n)
  exact ⟨by simpa [List.map_replicate] using r, by simpa using hn⟩
theorem own_AJ.new (n : Nat) (A : Arr Z h a (newA k ty z) ty) (q : ¬ z < 0) (hn : z.toNatClampNeg ≤ n) (hd : defaultValue ty = .long 0) : own_AJ Z h a k ty z (List.replicate n (0 : Int64)) := by
  have := Arv.new A q
  rw [hd] at this
  have r := this.pad (pad_rep [] (.long 0) n)
  exact ⟨by simpa [List.map_replicate] using r, by simpa using hn⟩
theorem own_getI (ws : List Int32) (i : Nat) : (ws.map Value.int).getD i (.int 0) = .int (ws.getD i 0) := by
  simp only [List.getD_eq_getElem?_getD, List.getElem?_map]
  cases ws[i]? <;> rfl
theorem own_getJ (ws : List Int64) (i : Nat) : (ws.map Value.long).getD i (.long 0) = .long (ws.getD i 0) := by
  simp only [List.getD_eq_getElem?_getD, List.getElem?_map]
  cases ws[i]? <;> rfl
theorem own_AI.at (F : own_AI Z h a k ty z ws) {j : Int32} (q : ¬ j < 0 ∧ j < z) : ∃ cl : Cell, Arr Z h a cl ty ∧ ¬ (j < 0 ∨ cl.slots.size ≤ j.toNatClampNeg) ∧ cl.slots[j.toNatClampNeg]? = some (.int (ws.getD j.toNatClampNeg 0)) := by
  obtain ⟨⟨cl, A, -, S, -, H, -⟩, -⟩ := F
  have hin := inb_of S q
  exact ⟨cl, A, hin, H.at hin (own_getI _ _)⟩
theorem own_AJ.at (F : own_AJ Z h a k ty z wl) {j : Int32} (q : ¬ j < 0 ∧ j < z) : ∃ cl : Cell, Arr Z h a cl ty ∧ ¬ (j < 0 ∨ cl.slots.size ≤ j.toNatClampNeg) ∧ cl.slots[j.toNatClampNeg]? = some (.long (wl.getD j.toNatClampNeg 0)) := by
  obtain ⟨⟨cl, A, -, S, -, H, -⟩, -⟩ := F
  have hin := inb_of S q
  exact ⟨cl, A, hin, H.at hin (own_getJ _ _)⟩
theorem own_AI.arr (F : own_AI Z h a k ty z ws) {j : Int32} (q : ¬ j < 0 ∧ j < z) : ∃ cl : Cell, Arr Z h a cl ty ∧ ¬ (j < 0 ∨ cl.slots.size ≤ j.toNatClampNeg) ∧ ∀ (h' : Heap) (x : Int32), fits ty (.int x) = true → Wr h h' a j.toNatClampNeg (.int x) → own_AI Z h' a k ty z (ws.set j.toNatClampNeg x) := by
  obtain ⟨⟨cl, A, q1, S, q3, H, G⟩, ln⟩ := F
  have hin := inb_of S q
  refine ⟨cl, A, hin, fun h' x hv W => ?_⟩
  have hl : j.toNatClampNeg < ws.length := by
    rcases Nat.lt_or_ge j.toNatClampNeg ws.length with u | u
    · exact u
    · exact absurd (Or.inr (by omega)) hin
  have := Arv.set A q1 S q3 H G hv W _ rfl (by simpa using hl)
  rw [← List.map_set] at this
  exact ⟨this, by simpa using ln⟩
theorem own_AJ.arr (F : own_AJ Z h a k ty z wl) {j : Int32} (q : ¬ j < 0 ∧ j < z) : ∃ cl : Cell, Arr Z h a cl ty ∧ ¬ (j < 0 ∨ cl.slots.size ≤ j.toNatClampNeg) ∧ ∀ (h' : Heap) (x : Int64), fits ty (.long x) = true → Wr h h' a j.toNatClampNeg (.long x) → own_AJ Z h' a k ty z (wl.set j.toNatClampNeg x) := by
  obtain ⟨⟨cl, A, q1, S, q3, H, G⟩, ln⟩ := F
  have hin := inb_of S q
  refine ⟨cl, A, hin, fun h' x hv W => ?_⟩
  have hl : j.toNatClampNeg < wl.length := by
    rcases Nat.lt_or_ge j.toNatClampNeg wl.length with u | u
    · exact u
    · exact absurd (Or.inr (by omega)) hin
  have := Arv.set A q1 S q3 H G hv W _ rfl (by simpa using hl)
  rw [← List.map_set] at this
  exact ⟨this, by simpa using ln⟩
theorem own_AI.len (F : own_AI Z h a k ty z ws) : ∃ cl : Cell, Arr Z h a cl ty ∧ cl.slots.size = z.toNatClampNeg ∧ ¬ z < 0 := by
  obtain ⟨⟨cl, A, -, S, q3, -, -⟩, -⟩ := F
  exact ⟨cl, A, S, q3⟩
theorem own_AJ.len (F : own_AJ Z h a k ty z wl) : ∃ cl : Cell, Arr Z h a cl ty ∧ cl.slots.size = z.toNatClampNeg ∧ ¬ z < 0 := by
  obtain ⟨⟨cl, A, -, S, q3, -, -⟩, -⟩ := F
  exact ⟨cl, A, S, q3⟩
end OwnA
/-- a private method selects itself, where another method of its class is known to be no interface's -/
theorem own_selp {s : State} {args : Array Value} {y z : MethodName} (hz : (Cond.selects z.cls z z).before args s = true) (hc : z.cls = y.cls) (hpriv : s.PrivateAt y) (hinst : (Cond.instanceMethod y).before args s = true) (hy : y.cls ≠ "java/lang/invoke/MethodHandle" ∧ y.cls ≠ "java/lang/invoke/VarHandle") : (Cond.selects y.cls y y).before args s = true := by
  obtain ⟨c2, r2, m2, -, -, q3, -, kP, hkP, hkPi⟩ := Cond.selects_spec hz
  have hf := findClass_of_methodNamed q3
  rw [hc] at hf
  exact selects_self_of_private hf hkP hkPi hpriv hinst hy
/-- what holds of every byte -/
theorem own_bytes {P : Int32 → Prop} (H : ∀ i : Fin 256, P (Int32.ofInt ((i.1 : Int) - 128))) (x : Int32) : P x.toInt8.toInt32 := by
  obtain ⟨-, h1, h2⟩ := c_i2b x
  have e : x.toInt8.toInt32 = Int32.ofInt (((⟨(x.toInt8.toInt32.toInt + 128).toNat, by omega⟩ : Fin 256).1 : Int) - 128) := by
    apply Int32.toInt_inj.mp
    show _ = (Int32.ofInt (((x.toInt8.toInt32.toInt + 128).toNat : Int) - 128)).toInt
    rw [Int32.toInt_ofInt_of_le (by omega) (by omega)]
    omega
  rw [e]
  exact H _


theorem d1_0 : decode prog_20_method_4_code 0 = .ok (.getstatic 7, 3) := by decide +kernel
theorem d1_3 : decode prog_20_method_4_code 3 = .ok (.astore 6, 2) := by decide +kernel
theorem d1_5 : decode prog_20_method_4_code 5 = .ok (.lload_n 2, 1) := by decide +kernel
theorem d1_6 : decode prog_20_method_4_code 6 = .ok (.lload_n 0, 1) := by decide +kernel
theorem d1_7 : decode prog_20_method_4_code 7 = .ok (.lsub, 1) := by decide +kernel
theorem d1_8 : decode prog_20_method_4_code 8 = .ok (.lload 4, 2) := by decide +kernel
theorem d1_10 : decode prog_20_method_4_code 10 = .ok (.lcmp, 1) := by decide +kernel
theorem d1_11 : decode prog_20_method_4_code 11 = .ok (.ifCond .gt 8, 3) := by decide +kernel
theorem d1_14 : decode prog_20_method_4_code 14 = .ok (.getstatic 3, 3) := by decide +kernel
theorem d1_17 : decode prog_20_method_4_code 17 = .ok (.astore 6, 2) := by decide +kernel
theorem d1_19 : decode prog_20_method_4_code 19 = .ok (.aload 6, 2) := by decide +kernel
theorem d1_21 : decode prog_20_method_4_code 21 = .ok (.areturn, 1) := by decide +kernel
theorem pn_0 : plainName "com/example/offered_load/offeredload/Outcome" = true := by first | (simp [plainName, overriddenIn]; done) | decide +kernel
theorem ef_1 (m : MethodId) (q0 : Int64) (q1 : Int64) (q2 : Int64) : entryFrame m #[(.long q0), (.long q1), (.long q2)] 7 = mkF m 0 #[.val (.long q0), .second, .val (.long q1), .second, .val (.long q2), .second, .unset] [] := by first | (simp [entryFrame, mkF, argsToLocals, Value.category]; done) | rfl
def own_m1_19_l6 (v0 : Int64) (v1 : Int64) (v2 : Int64) (v3 : Addr) (v4 : Addr) : Addr := (if v0 < (v1 - v2) then v3 else v4)
def own_f1 (q0 : Int64) (q1 : Int64) (q2 : Int64) (cms : Addr) (cmt : Addr) : Addr := ((own_m1_19_l6 q2 q1 q0 cms cmt))
def Q1 (Z : State) (q0 : Int64) (q1 : Int64) (q2 : Int64) (cms : Addr) (cmt : Addr) (h0 : Heap) (n0 : Nat) (v : Option Value) (h : Heap) (L : List Loc) : Prop := v = some (.ref (own_f1 q0 q1 q2 cms cmt)) ∧ Fr n0 L ∧ h = h0
set_option maxRecDepth 65536 in
set_option maxHeartbeats 40000000 in
theorem rm1 (l : Launch) (Z : State) (aw : Array Value) (hw : ∀ d ∈ tables_1, d.before aw Z = true) (wq : List Jvm.Cond) (q0 : Int64) (q1 : Int64) (q2 : Int64) (cms : Addr) (cmt : Addr) (h0 : Heap) (n0 : Nat) (Z0 : n0 ≤ h0.size) (S_MISSED : Sta Z h0 "com/example/offered_load/offeredload/Outcome" "MISSED" "Lcom/example/offered_load/offeredload/Outcome;" (.ref cms)) (S_MET : Sta Z h0 "com/example/offered_load/offeredload/Outcome" "MET" "Lcom/example/offered_load/offeredload/Outcome;" (.ref cmt)) :
    MetFree l (⟨"com/example/offered_load/offeredload/Outcome", "ofRun", "(JJJ)Lcom/example/offered_load/offeredload/Outcome;"⟩ : MethodName) (head1 (Jvm.Cond.code (⟨"com/example/offered_load/offeredload/Outcome", "ofRun", "(JJJ)Lcom/example/offered_load/offeredload/Outcome;"⟩ : MethodName) prog_20_method_4_code 7 (some (.object "com/example/offered_load/offeredload/Outcome")) :: wq) ({ frames := 0, cells := 0, slots := 0, locals := 0 } : Room)) (fun a U => a = #[(.long q0), (.long q1), (.long q2)] ∧ Z.Warmed39 U.vm ∧ U.heap = h0) (fun _ _ _ _ _ => True) (fun _ U o U' => ∃ v L, o = .returned v ∧ Q1 Z q0 q1 q2 cms cmt h0 n0 v U'.heap L ∧ FrameEnd U o U' L ({ frames := 0, cells := 0, slots := 0, locals := 0 } : Room).cells ({ frames := 0, cells := 0, slots := 0, locals := 0 } : Room).slots) := by
  refine MetFree.of_bodySF (plainFor_of_name pn_0) hisR ?_
  intro p e s m args below meth c s₁ Bd hml0 hP hK
  obtain ⟨rfl, hZ, hh⟩ := hP
  have hx := Bd.exec
  have hby := Bd.bytes
  have hml : c.maxLocals = 7 := hml0
  have hown : s.vm.findClass "com/example/offered_load/offeredload/Outcome" = some m.cls := findClass_of_methodNamed Bd.named
  have hnm := (name_of_methodNamed Bd.named Bd.method).1
  have X0 : Stand p l e ({ frames := 0, cells := 0, slots := 0, locals := 0 } : Room) s m #[(.long q0), (.long q1), (.long q2)] below meth c s₁ [] 0 0 := Stand.of_body Bd
  have e0 : s₁.heap = h0 := by rw [← hh, Bd.state]; rfl
  have N0 := Fr.nil n0
  have pre0 : own_Pre p e below (s₁.setTop (entryFrame m #[(.long q0), (.long q1), (.long q2)] 7)) (s₁.setTop (mkF m 0 #[.val (.long q0), .second, .val (.long q1), .second, .val (.long q2), .second, .unset] [])) := fun t k => castTop (ef_1 m q0 q1 q2) k
  obtain ⟨T1, X1, e1, st1⟩ := getS2 X0 hx hZ hown (host := "") (Or.inl (hw _ (List.mem_of_getElem? (i := 6) rfl))) Via.refl e0 S_MISSED (g := (mkF m 0 #[.val (.long q0), .second, .val (.long q1), .second, .val (.long q2), .second, .unset] [])) rfl (hb hby d1_0)
  have pre4 : own_Pre p e below (s₁.setTop (entryFrame m #[(.long q0), (.long q1), (.long q2)] 7)) (T1.setTop (mkF m 11 #[.val (.long q0), .second, .val (.long q1), .second, .val (.long q2), .second, .val (.ref cms)] [(.int (lcmpW (q1 - q0) q2))])) := fun t k => pre0 t (by
      show Steps p.tables e below (s₁.setTop (mkF m 0 #[.val (.long q0), .second, .val (.long q1), .second, .val (.long q2), .second, .unset] [])) _
      refine st1 _ ?_
      show Steps p.tables e below (T1.setTop (mkF m 3 #[.val (.long q0), .second, .val (.long q1), .second, .val (.long q2), .second, .unset] [(.ref cms)])) _
      refine XS.astore X1.here hx rfl (hb hby d1_3) rfl rfl (l' := #[.val (.long q0), .second, .val (.long q1), .second, .val (.long q2), .second, .val (.ref cms)]) rfl ?_
      show Steps p.tables e below (T1.setTop (mkF m 5 #[.val (.long q0), .second, .val (.long q1), .second, .val (.long q2), .second, .val (.ref cms)] [])) _
      refine XS.lloadN X1.here hx rfl (hb hby d1_5) rfl ?_
      show Steps p.tables e below (T1.setTop (mkF m 6 #[.val (.long q0), .second, .val (.long q1), .second, .val (.long q2), .second, .val (.ref cms)] [(.long q1)])) _
      refine XS.lloadN X1.here hx rfl (hb hby d1_6) rfl ?_
      show Steps p.tables e below (T1.setTop (mkF m 7 #[.val (.long q0), .second, .val (.long q1), .second, .val (.long q2), .second, .val (.ref cms)] [(.long q0), (.long q1)])) _
      refine XS.lsub X1.here hx rfl (hb hby d1_7) rfl ?_
      show Steps p.tables e below (T1.setTop (mkF m 8 #[.val (.long q0), .second, .val (.long q1), .second, .val (.long q2), .second, .val (.ref cms)] [(.long (q1 - q0))])) _
      refine XS.lload X1.here hx rfl (hb hby d1_8) rfl ?_
      show Steps p.tables e below (T1.setTop (mkF m 10 #[.val (.long q0), .second, .val (.long q1), .second, .val (.long q2), .second, .val (.ref cms)] [(.long q2), (.long (q1 - q0))])) _
      refine XS.lcmp X1.here hx rfl (hb hby d1_10) rfl ?_
      exact k)
  obtain ⟨m19_l6, T2, L2, X2, N2, e2, hm19_l6, pre3⟩ : ∃ (m19_l6 : Addr) (T2 : State) (L2 : List Loc), Stand p l e ({ frames := 0, cells := 0, slots := 0, locals := 0 } : Room) s m #[(.long q0), (.long q1), (.long q2)] below meth c T2 L2 0 0 ∧ Fr n0 L2 ∧ T2.heap = h0 ∧ m19_l6 = (own_m1_19_l6 q2 q1 q0 cms cmt) ∧ own_Pre p e below (s₁.setTop (entryFrame m #[(.long q0), (.long q1), (.long q2)] 7)) (T2.setTop (mkF m 19 #[.val (.long q0), .second, .val (.long q1), .second, .val (.long q2), .second, .val (.ref m19_l6)] [])) := by
    by_cases hc11 : q2 < (q1 - q0)
    · have pre5 : own_Pre p e below (s₁.setTop (entryFrame m #[(.long q0), (.long q1), (.long q2)] 7)) (T1.setTop (mkF m 19 #[.val (.long q0), .second, .val (.long q1), .second, .val (.long q2), .second, .val (.ref cms)] [])) := fun t k => pre4 t (by
          show Steps p.tables e below (T1.setTop (mkF m 11 #[.val (.long q0), .second, .val (.long q1), .second, .val (.long q2), .second, .val (.ref cms)] [(.int (lcmpW (q1 - q0) q2))])) _
          refine XS.ifYes X1.here hx rfl (pc0 := 11) (pc' := 19) rfl (hb hby d1_11) rfl ((if0 _ _).trans (tlt ((lw_gt _ _).mpr hc11)).2.2.1) (by decide) (by decide) ?_
          exact k)
      refine ⟨_, _, _, X1, N0, e1, ?_, pre5⟩
      all_goals (first | (simp only [own_m1_19_l6, if_pos hc11]; done) | (simp [own_m1_19_l6, if_pos hc11]; done))
    · obtain ⟨T6, X6, e6, st6⟩ := getS2 X1 hx hZ hown (host := "") (Or.inl (hw _ (List.mem_of_getElem? (i := 9) rfl))) Via.refl e1 S_MET (g := (mkF m 14 #[.val (.long q0), .second, .val (.long q1), .second, .val (.long q2), .second, .val (.ref cms)] [])) rfl (hb hby d1_14)
      have pre7 : own_Pre p e below (s₁.setTop (entryFrame m #[(.long q0), (.long q1), (.long q2)] 7)) (T6.setTop (mkF m 19 #[.val (.long q0), .second, .val (.long q1), .second, .val (.long q2), .second, .val (.ref cmt)] [])) := fun t k => pre4 t (by
          show Steps p.tables e below (T1.setTop (mkF m 11 #[.val (.long q0), .second, .val (.long q1), .second, .val (.long q2), .second, .val (.ref cms)] [(.int (lcmpW (q1 - q0) q2))])) _
          refine XS.ifNo X1.here hx rfl (hb hby d1_11) rfl ((if0 _ _).trans (flt (mt (lw_gt _ _).mp hc11)).2.2.1) ?_
          show Steps p.tables e below (T1.setTop (mkF m 14 #[.val (.long q0), .second, .val (.long q1), .second, .val (.long q2), .second, .val (.ref cms)] [])) _
          refine st6 _ ?_
          show Steps p.tables e below (T6.setTop (mkF m 17 #[.val (.long q0), .second, .val (.long q1), .second, .val (.long q2), .second, .val (.ref cms)] [(.ref cmt)])) _
          refine XS.astore X6.here hx rfl (hb hby d1_17) rfl rfl (l' := #[.val (.long q0), .second, .val (.long q1), .second, .val (.long q2), .second, .val (.ref cmt)]) rfl ?_
          exact k)
      refine ⟨_, _, _, X6, N0, e6, ?_, pre7⟩
      all_goals (first | (simp only [own_m1_19_l6, if_neg hc11]; done) | (simp [own_m1_19_l6, if_neg hc11]; done))
  obtain ⟨fs, hr, hrun, hended, hW, hsame⟩ := X2.leave (v := some (.ref m19_l6)) (fun h => by rw [Bd.returns] at h; cases h)
  refine ⟨_, _, pre3 _ ?_, hrun, hended, _, _, rfl, ?_, ⟨_, rfl⟩, hW, hsame.mono (by decide) (by decide)⟩
  · show Steps p.tables e below (T2.setTop (mkF m 19 #[.val (.long q0), .second, .val (.long q1), .second, .val (.long q2), .second, .val (.ref m19_l6)] [])) _
    refine XS.aload X2.here hx rfl (hb hby d1_19) rfl rfl ?_
    show Steps p.tables e below (T2.setTop (mkF m 21 #[.val (.long q0), .second, .val (.long q1), .second, .val (.long q2), .second, .val (.ref m19_l6)] [(.ref m19_l6)])) _
    exact retR X2 hx (v := (.ref m19_l6)) rfl Bd.returns rfl (hb hby d1_21) hr
  · show Q1 Z q0 q1 q2 cms cmt h0 n0 _ T2.heap _
    rw [e2]
    unfold Q1
    refine ⟨?_, N2, rfl⟩
    · subst hm19_l6; simp only [own_f1]
theorem pd_0 : parseMethodDescriptor "(JJJ)Lcom/example/offered_load/offeredload/Outcome;" = some ⟨[.long, .long, .long], some (.object "com/example/offered_load/offeredload/Outcome")⟩ := by decide +kernel
theorem pn_1 : plainName "com/example/offered_load/offeredload/OutcomeOfRunPinLaw" = true := by first | (simp [plainName, overriddenIn]; done) | decide +kernel
theorem ef_0 (m : MethodId) (q0 : Int64) (q1 : Int64) (q2 : Int64) (p3 : Int32) : entryFrame m #[(.long q0), (.long q1), (.long q2), (.int p3)] maxLocals = mkF m 0 #[.val (.long q0), .second, .val (.long q1), .second, .val (.long q2), .second, .val (.int p3), .unset, .unset, .unset, .unset, .unset, .unset, .unset, .unset, .unset, .unset] [] := by first | (simp [entryFrame, mkF, argsToLocals, Value.category, maxLocals]; done) | rfl
def own_m0_45_l13 (v0 : Int32) (v1 : Int64) (v2 : Int64) : Int64 := (if (v0 &&& (1 : Int32)) = (0 : Int32) then v1 else (((v2 + ((((v0).toUInt32 >>> ((1 : Int32) &&& 31).toUInt32).toInt32 % (3 : Int32))).toInt64) - (1 : Int64))))
def own_m0_66_l15 (v0 : Int64) (v1 : Int64) (v2 : Addr) (v3 : Addr) : Addr := (if v0 < v1 then v2 else v3)
theorem own_sub (a d : Int64) : (a + d) - a = d := by
  rw [Int64.add_comm]; exact Int64.add_sub_cancel _ _
theorem own_plain (a d m : Int64) (ms mt : Addr) : own_f1 a (a + d) m ms mt = own_m0_66_l15 m d ms mt := by
  unfold own_f1 own_m1_19_l6 own_m0_66_l15
  rw [own_sub]

def Q0 (Z : State) (q0 : Int64) (q1 : Int64) (q2 : Int64) (p3 : Int32) (cms : Addr) (cmt : Addr) (h0 : Heap) (n0 : Nat) (v : Option Value) (h : Heap) (L : List Loc) : Prop := v = some (.int (1 : Int32)) ∧ Fr n0 L
set_option maxRecDepth 65536 in
set_option maxHeartbeats 40000000 in
theorem rm0 (l : Launch) (Z : State) (aw : Array Value) (hw : ∀ d ∈ tables_1, d.before aw Z = true) (wq : List Jvm.Cond) (q0 : Int64) (q1 : Int64) (q2 : Int64) (p3 : Int32) (cms : Addr) (cmt : Addr) (h0 : Heap) (n0 : Nat) (Z0 : n0 ≤ h0.size) (S_MISSED : Sta Z h0 "com/example/offered_load/offeredload/Outcome" "MISSED" "Lcom/example/offered_load/offeredload/Outcome;" (.ref cms)) (S_MET : Sta Z h0 "com/example/offered_load/offeredload/Outcome" "MET" "Lcom/example/offered_load/offeredload/Outcome;" (.ref cmt)) :
    MetFree l x (head1 (Jvm.Cond.code x code maxLocals ret :: wq) room_1) (fun a U => a = #[(.long q0), (.long q1), (.long q2), (.int p3)] ∧ Z.Warmed39 U.vm ∧ U.heap = h0) (fun _ _ _ _ _ => True) (fun _ U o U' => ∃ v L, o = .returned v ∧ Q0 Z q0 q1 q2 p3 cms cmt h0 n0 v U'.heap L ∧ FrameEnd U o U' L 0 0) := by
  refine MetFree.of_bodySF (plainFor_of_name pn_1) hisR ?_
  intro p e s m args below meth c s₁ Bd hml0 hP hK
  obtain ⟨rfl, hZ, hh⟩ := hP
  have hx := Bd.exec
  have hby := Bd.bytes
  have hml : c.maxLocals = 17 := hml0
  have hown : s.vm.findClass "com/example/offered_load/offeredload/OutcomeOfRunPinLaw" = some m.cls := findClass_of_methodNamed Bd.named
  have hnm := (name_of_methodNamed Bd.named Bd.method).1
  have X0 : Stand p l e room_1 s m #[(.long q0), (.long q1), (.long q2), (.int p3)] below meth c s₁ [] 0 0 := Stand.of_body Bd
  have e0 : s₁.heap = h0 := by rw [← hh, Bd.state]; rfl
  have N0 := Fr.nil n0
  have pre0 : own_Pre p e below (s₁.setTop (entryFrame m #[(.long q0), (.long q1), (.long q2), (.int p3)] maxLocals)) (s₁.setTop (mkF m 0 #[.val (.long q0), .second, .val (.long q1), .second, .val (.long q2), .second, .val (.int p3), .unset, .unset, .unset, .unset, .unset, .unset, .unset, .unset, .unset, .unset] [])) := fun t k => castTop (ef_0 m q0 q1 q2 p3) k
  obtain ⟨x7_5, hx7_5, pre1⟩ : ∃ z : Int64, z = (q0 >>> ((2 : Int32) &&& 0x3f).toInt64) ∧ own_Pre p e below (s₁.setTop (entryFrame m #[(.long q0), (.long q1), (.long q2), (.int p3)] maxLocals)) (s₁.setTop (mkF m 5 #[.val (.long q0), .second, .val (.long q1), .second, .val (.long q2), .second, .val (.int p3), .val (.long z), .second, .unset, .unset, .unset, .unset, .unset, .unset, .unset, .unset] [])) := ⟨_, rfl, fun t k => pre0 t (by
      show Steps p.tables e below (s₁.setTop (mkF m 0 #[.val (.long q0), .second, .val (.long q1), .second, .val (.long q2), .second, .val (.int p3), .unset, .unset, .unset, .unset, .unset, .unset, .unset, .unset, .unset, .unset] [])) _
      refine XS.lloadN X0.here hx rfl (hb hby at_0) rfl ?_
      show Steps p.tables e below (s₁.setTop (mkF m 1 #[.val (.long q0), .second, .val (.long q1), .second, .val (.long q2), .second, .val (.int p3), .unset, .unset, .unset, .unset, .unset, .unset, .unset, .unset, .unset, .unset] [(.long q0)])) _
      refine XS.iconst X0.here hx rfl (hb hby at_1) ?_
      show Steps p.tables e below (s₁.setTop (mkF m 2 #[.val (.long q0), .second, .val (.long q1), .second, .val (.long q2), .second, .val (.int p3), .unset, .unset, .unset, .unset, .unset, .unset, .unset, .unset, .unset, .unset] [(.int (2 : Int32)), (.long q0)])) _
      refine XS.lshr X0.here hx rfl (hb hby at_2) rfl ?_
      show Steps p.tables e below (s₁.setTop (mkF m 3 #[.val (.long q0), .second, .val (.long q1), .second, .val (.long q2), .second, .val (.int p3), .unset, .unset, .unset, .unset, .unset, .unset, .unset, .unset, .unset, .unset] [(.long (q0 >>> ((2 : Int32) &&& 0x3f).toInt64))])) _
      refine XS.lstore X0.here hx rfl (hb hby at_3) rfl (l' := #[.val (.long q0), .second, .val (.long q1), .second, .val (.long q2), .second, .val (.int p3), .val (.long (q0 >>> ((2 : Int32) &&& 0x3f).toInt64)), .second, .unset, .unset, .unset, .unset, .unset, .unset, .unset, .unset]) rfl ?_
      exact k)⟩
  obtain ⟨x9_10, hx9_10, pre2⟩ : ∃ z : Int64, z = (q1 >>> ((2 : Int32) &&& 0x3f).toInt64) ∧ own_Pre p e below (s₁.setTop (entryFrame m #[(.long q0), (.long q1), (.long q2), (.int p3)] maxLocals)) (s₁.setTop (mkF m 10 #[.val (.long q0), .second, .val (.long q1), .second, .val (.long q2), .second, .val (.int p3), .val (.long x7_5), .second, .val (.long z), .second, .unset, .unset, .unset, .unset, .unset, .unset] [])) := ⟨_, rfl, fun t k => pre1 t (by
      show Steps p.tables e below (s₁.setTop (mkF m 5 #[.val (.long q0), .second, .val (.long q1), .second, .val (.long q2), .second, .val (.int p3), .val (.long x7_5), .second, .unset, .unset, .unset, .unset, .unset, .unset, .unset, .unset] [])) _
      refine XS.lloadN X0.here hx rfl (hb hby at_5) rfl ?_
      show Steps p.tables e below (s₁.setTop (mkF m 6 #[.val (.long q0), .second, .val (.long q1), .second, .val (.long q2), .second, .val (.int p3), .val (.long x7_5), .second, .unset, .unset, .unset, .unset, .unset, .unset, .unset, .unset] [(.long q1)])) _
      refine XS.iconst X0.here hx rfl (hb hby at_6) ?_
      show Steps p.tables e below (s₁.setTop (mkF m 7 #[.val (.long q0), .second, .val (.long q1), .second, .val (.long q2), .second, .val (.int p3), .val (.long x7_5), .second, .unset, .unset, .unset, .unset, .unset, .unset, .unset, .unset] [(.int (2 : Int32)), (.long q1)])) _
      refine XS.lshr X0.here hx rfl (hb hby at_7) rfl ?_
      show Steps p.tables e below (s₁.setTop (mkF m 8 #[.val (.long q0), .second, .val (.long q1), .second, .val (.long q2), .second, .val (.int p3), .val (.long x7_5), .second, .unset, .unset, .unset, .unset, .unset, .unset, .unset, .unset] [(.long (q1 >>> ((2 : Int32) &&& 0x3f).toInt64))])) _
      refine XS.lstore X0.here hx rfl (hb hby at_8) rfl (l' := #[.val (.long q0), .second, .val (.long q1), .second, .val (.long q2), .second, .val (.int p3), .val (.long x7_5), .second, .val (.long (q1 >>> ((2 : Int32) &&& 0x3f).toInt64)), .second, .unset, .unset, .unset, .unset, .unset, .unset]) rfl ?_
      exact k)⟩
  obtain ⟨x11_17, hx11_17, pre3⟩ : ∃ z : Int64, z = (x7_5 + x9_10) ∧ own_Pre p e below (s₁.setTop (entryFrame m #[(.long q0), (.long q1), (.long q2), (.int p3)] maxLocals)) (s₁.setTop (mkF m 17 #[.val (.long q0), .second, .val (.long q1), .second, .val (.long q2), .second, .val (.int p3), .val (.long x7_5), .second, .val (.long x9_10), .second, .val (.long z), .second, .unset, .unset, .unset, .unset] [])) := ⟨_, rfl, fun t k => pre2 t (by
      show Steps p.tables e below (s₁.setTop (mkF m 10 #[.val (.long q0), .second, .val (.long q1), .second, .val (.long q2), .second, .val (.int p3), .val (.long x7_5), .second, .val (.long x9_10), .second, .unset, .unset, .unset, .unset, .unset, .unset] [])) _
      refine XS.lload X0.here hx rfl (hb hby at_10) rfl ?_
      show Steps p.tables e below (s₁.setTop (mkF m 12 #[.val (.long q0), .second, .val (.long q1), .second, .val (.long q2), .second, .val (.int p3), .val (.long x7_5), .second, .val (.long x9_10), .second, .unset, .unset, .unset, .unset, .unset, .unset] [(.long x7_5)])) _
      refine XS.lload X0.here hx rfl (hb hby at_12) rfl ?_
      show Steps p.tables e below (s₁.setTop (mkF m 14 #[.val (.long q0), .second, .val (.long q1), .second, .val (.long q2), .second, .val (.int p3), .val (.long x7_5), .second, .val (.long x9_10), .second, .unset, .unset, .unset, .unset, .unset, .unset] [(.long x9_10), (.long x7_5)])) _
      refine XS.ladd X0.here hx rfl (hb hby at_14) rfl ?_
      show Steps p.tables e below (s₁.setTop (mkF m 15 #[.val (.long q0), .second, .val (.long q1), .second, .val (.long q2), .second, .val (.int p3), .val (.long x7_5), .second, .val (.long x9_10), .second, .unset, .unset, .unset, .unset, .unset, .unset] [(.long (x7_5 + x9_10))])) _
      refine XS.lstore X0.here hx rfl (hb hby at_15) rfl (l' := #[.val (.long q0), .second, .val (.long q1), .second, .val (.long q2), .second, .val (.int p3), .val (.long x7_5), .second, .val (.long x9_10), .second, .val (.long (x7_5 + x9_10)), .second, .unset, .unset, .unset, .unset]) rfl ?_
      exact k)⟩
  have pre6 : own_Pre p e below (s₁.setTop (entryFrame m #[(.long q0), (.long q1), (.long q2), (.int p3)] maxLocals)) (s₁.setTop (mkF m 21 #[.val (.long q0), .second, .val (.long q1), .second, .val (.long q2), .second, .val (.int p3), .val (.long x7_5), .second, .val (.long x9_10), .second, .val (.long x11_17), .second, .unset, .unset, .unset, .unset] [(.int (p3 &&& (1 : Int32)))])) := fun t k => pre3 t (by
      show Steps p.tables e below (s₁.setTop (mkF m 17 #[.val (.long q0), .second, .val (.long q1), .second, .val (.long q2), .second, .val (.int p3), .val (.long x7_5), .second, .val (.long x9_10), .second, .val (.long x11_17), .second, .unset, .unset, .unset, .unset] [])) _
      refine XS.iload X0.here hx rfl (hb hby at_17) rfl ?_
      show Steps p.tables e below (s₁.setTop (mkF m 19 #[.val (.long q0), .second, .val (.long q1), .second, .val (.long q2), .second, .val (.int p3), .val (.long x7_5), .second, .val (.long x9_10), .second, .val (.long x11_17), .second, .unset, .unset, .unset, .unset] [(.int p3)])) _
      refine XS.iconst X0.here hx rfl (hb hby at_19) ?_
      show Steps p.tables e below (s₁.setTop (mkF m 20 #[.val (.long q0), .second, .val (.long q1), .second, .val (.long q2), .second, .val (.int p3), .val (.long x7_5), .second, .val (.long x9_10), .second, .val (.long x11_17), .second, .unset, .unset, .unset, .unset] [(.int (1 : Int32)), (.int p3)])) _
      refine XS.iand X0.here hx rfl (hb hby at_20) rfl ?_
      exact k)
  obtain ⟨m45_l13, hm45_l13, pre5⟩ : ∃ (m45_l13 : Int64), m45_l13 = (own_m0_45_l13 p3 q2 x9_10) ∧ own_Pre p e below (s₁.setTop (entryFrame m #[(.long q0), (.long q1), (.long q2), (.int p3)] maxLocals)) (s₁.setTop (mkF m 45 #[.val (.long q0), .second, .val (.long q1), .second, .val (.long q2), .second, .val (.int p3), .val (.long x7_5), .second, .val (.long x9_10), .second, .val (.long x11_17), .second, .val (.long m45_l13), .second, .unset, .unset] [])) := by
    by_cases hc21 : (p3 &&& (1 : Int32)) = (0 : Int32)
    · have pre7 : own_Pre p e below (s₁.setTop (entryFrame m #[(.long q0), (.long q1), (.long q2), (.int p3)] maxLocals)) (s₁.setTop (mkF m 45 #[.val (.long q0), .second, .val (.long q1), .second, .val (.long q2), .second, .val (.int p3), .val (.long x7_5), .second, .val (.long x9_10), .second, .val (.long x11_17), .second, .val (.long q2), .second, .unset, .unset] [])) := fun t k => pre6 t (by
          show Steps p.tables e below (s₁.setTop (mkF m 21 #[.val (.long q0), .second, .val (.long q1), .second, .val (.long q2), .second, .val (.int p3), .val (.long x7_5), .second, .val (.long x9_10), .second, .val (.long x11_17), .second, .unset, .unset, .unset, .unset] [(.int (p3 &&& (1 : Int32)))])) _
          refine XS.ifYes X0.here hx rfl (pc0 := 21) (pc' := 41) rfl (hb hby at_21) rfl ((if0 _ _).trans (teq hc21).1) (by decide) (by decide) ?_
          show Steps p.tables e below (s₁.setTop (mkF m 41 #[.val (.long q0), .second, .val (.long q1), .second, .val (.long q2), .second, .val (.int p3), .val (.long x7_5), .second, .val (.long x9_10), .second, .val (.long x11_17), .second, .unset, .unset, .unset, .unset] [])) _
          refine XS.lload X0.here hx rfl (hb hby at_41) rfl ?_
          show Steps p.tables e below (s₁.setTop (mkF m 43 #[.val (.long q0), .second, .val (.long q1), .second, .val (.long q2), .second, .val (.int p3), .val (.long x7_5), .second, .val (.long x9_10), .second, .val (.long x11_17), .second, .unset, .unset, .unset, .unset] [(.long q2)])) _
          refine XS.lstore X0.here hx rfl (hb hby at_43) rfl (l' := #[.val (.long q0), .second, .val (.long q1), .second, .val (.long q2), .second, .val (.int p3), .val (.long x7_5), .second, .val (.long x9_10), .second, .val (.long x11_17), .second, .val (.long q2), .second, .unset, .unset]) rfl ?_
          exact k)
      refine ⟨_, ?_, pre7⟩
      all_goals (first | (simp only [own_m0_45_l13, if_pos hc21]; done) | (simp [own_m0_45_l13, if_pos hc21]; done))
    · obtain ⟨x13_38, hx13_38, pre8⟩ : ∃ z : Int64, z = ((x9_10 + ((((p3).toUInt32 >>> ((1 : Int32) &&& 31).toUInt32).toInt32 % (3 : Int32))).toInt64) - (1 : Int64)) ∧ own_Pre p e below (s₁.setTop (entryFrame m #[(.long q0), (.long q1), (.long q2), (.int p3)] maxLocals)) (s₁.setTop (mkF m 38 #[.val (.long q0), .second, .val (.long q1), .second, .val (.long q2), .second, .val (.int p3), .val (.long x7_5), .second, .val (.long x9_10), .second, .val (.long x11_17), .second, .val (.long z), .second, .unset, .unset] [])) := ⟨_, rfl, fun t k => pre6 t (by
          show Steps p.tables e below (s₁.setTop (mkF m 21 #[.val (.long q0), .second, .val (.long q1), .second, .val (.long q2), .second, .val (.int p3), .val (.long x7_5), .second, .val (.long x9_10), .second, .val (.long x11_17), .second, .unset, .unset, .unset, .unset] [(.int (p3 &&& (1 : Int32)))])) _
          refine XS.ifNo X0.here hx rfl (hb hby at_21) rfl ((if0 _ _).trans (feq hc21).1) ?_
          show Steps p.tables e below (s₁.setTop (mkF m 24 #[.val (.long q0), .second, .val (.long q1), .second, .val (.long q2), .second, .val (.int p3), .val (.long x7_5), .second, .val (.long x9_10), .second, .val (.long x11_17), .second, .unset, .unset, .unset, .unset] [])) _
          refine XS.lload X0.here hx rfl (hb hby at_24) rfl ?_
          show Steps p.tables e below (s₁.setTop (mkF m 26 #[.val (.long q0), .second, .val (.long q1), .second, .val (.long q2), .second, .val (.int p3), .val (.long x7_5), .second, .val (.long x9_10), .second, .val (.long x11_17), .second, .unset, .unset, .unset, .unset] [(.long x9_10)])) _
          refine XS.iload X0.here hx rfl (hb hby at_26) rfl ?_
          show Steps p.tables e below (s₁.setTop (mkF m 28 #[.val (.long q0), .second, .val (.long q1), .second, .val (.long q2), .second, .val (.int p3), .val (.long x7_5), .second, .val (.long x9_10), .second, .val (.long x11_17), .second, .unset, .unset, .unset, .unset] [(.int p3), (.long x9_10)])) _
          refine XS.iconst X0.here hx rfl (hb hby at_28) ?_
          show Steps p.tables e below (s₁.setTop (mkF m 29 #[.val (.long q0), .second, .val (.long q1), .second, .val (.long q2), .second, .val (.int p3), .val (.long x7_5), .second, .val (.long x9_10), .second, .val (.long x11_17), .second, .unset, .unset, .unset, .unset] [(.int (1 : Int32)), (.int p3), (.long x9_10)])) _
          refine XS.iushr X0.here hx rfl (hb hby at_29) rfl ?_
          show Steps p.tables e below (s₁.setTop (mkF m 30 #[.val (.long q0), .second, .val (.long q1), .second, .val (.long q2), .second, .val (.int p3), .val (.long x7_5), .second, .val (.long x9_10), .second, .val (.long x11_17), .second, .unset, .unset, .unset, .unset] [(.int ((p3).toUInt32 >>> ((1 : Int32) &&& 31).toUInt32).toInt32), (.long x9_10)])) _
          refine XS.iconst X0.here hx rfl (hb hby at_30) ?_
          show Steps p.tables e below (s₁.setTop (mkF m 31 #[.val (.long q0), .second, .val (.long q1), .second, .val (.long q2), .second, .val (.int p3), .val (.long x7_5), .second, .val (.long x9_10), .second, .val (.long x11_17), .second, .unset, .unset, .unset, .unset] [(.int (3 : Int32)), (.int ((p3).toUInt32 >>> ((1 : Int32) &&& 31).toUInt32).toInt32), (.long x9_10)])) _
          refine iremM X0 hx rfl (hb hby at_31) rfl (by decide) ?_
          show Steps p.tables e below (s₁.setTop (mkF m 32 #[.val (.long q0), .second, .val (.long q1), .second, .val (.long q2), .second, .val (.int p3), .val (.long x7_5), .second, .val (.long x9_10), .second, .val (.long x11_17), .second, .unset, .unset, .unset, .unset] [(.int (((p3).toUInt32 >>> ((1 : Int32) &&& 31).toUInt32).toInt32 % (3 : Int32))), (.long x9_10)])) _
          refine XS.i2l X0.here hx rfl (hb hby at_32) rfl ?_
          show Steps p.tables e below (s₁.setTop (mkF m 33 #[.val (.long q0), .second, .val (.long q1), .second, .val (.long q2), .second, .val (.int p3), .val (.long x7_5), .second, .val (.long x9_10), .second, .val (.long x11_17), .second, .unset, .unset, .unset, .unset] [(.long ((((p3).toUInt32 >>> ((1 : Int32) &&& 31).toUInt32).toInt32 % (3 : Int32))).toInt64), (.long x9_10)])) _
          refine XS.ladd X0.here hx rfl (hb hby at_33) rfl ?_
          show Steps p.tables e below (s₁.setTop (mkF m 34 #[.val (.long q0), .second, .val (.long q1), .second, .val (.long q2), .second, .val (.int p3), .val (.long x7_5), .second, .val (.long x9_10), .second, .val (.long x11_17), .second, .unset, .unset, .unset, .unset] [(.long (x9_10 + ((((p3).toUInt32 >>> ((1 : Int32) &&& 31).toUInt32).toInt32 % (3 : Int32))).toInt64))])) _
          refine XS.lconst X0.here hx rfl (hb hby at_34) ?_
          show Steps p.tables e below (s₁.setTop (mkF m 35 #[.val (.long q0), .second, .val (.long q1), .second, .val (.long q2), .second, .val (.int p3), .val (.long x7_5), .second, .val (.long x9_10), .second, .val (.long x11_17), .second, .unset, .unset, .unset, .unset] [(.long (1 : Int64)), (.long (x9_10 + ((((p3).toUInt32 >>> ((1 : Int32) &&& 31).toUInt32).toInt32 % (3 : Int32))).toInt64))])) _
          refine XS.lsub X0.here hx rfl (hb hby at_35) rfl ?_
          show Steps p.tables e below (s₁.setTop (mkF m 36 #[.val (.long q0), .second, .val (.long q1), .second, .val (.long q2), .second, .val (.int p3), .val (.long x7_5), .second, .val (.long x9_10), .second, .val (.long x11_17), .second, .unset, .unset, .unset, .unset] [(.long ((x9_10 + ((((p3).toUInt32 >>> ((1 : Int32) &&& 31).toUInt32).toInt32 % (3 : Int32))).toInt64) - (1 : Int64)))])) _
          refine XS.lstore X0.here hx rfl (hb hby at_36) rfl (l' := #[.val (.long q0), .second, .val (.long q1), .second, .val (.long q2), .second, .val (.int p3), .val (.long x7_5), .second, .val (.long x9_10), .second, .val (.long x11_17), .second, .val (.long ((x9_10 + ((((p3).toUInt32 >>> ((1 : Int32) &&& 31).toUInt32).toInt32 % (3 : Int32))).toInt64) - (1 : Int64))), .second, .unset, .unset]) rfl ?_
          exact k)⟩
      have pre9 : own_Pre p e below (s₁.setTop (entryFrame m #[(.long q0), (.long q1), (.long q2), (.int p3)] maxLocals)) (s₁.setTop (mkF m 45 #[.val (.long q0), .second, .val (.long q1), .second, .val (.long q2), .second, .val (.int p3), .val (.long x7_5), .second, .val (.long x9_10), .second, .val (.long x11_17), .second, .val (.long x13_38), .second, .unset, .unset] [])) := fun t k => pre8 t (by
          show Steps p.tables e below (s₁.setTop (mkF m 38 #[.val (.long q0), .second, .val (.long q1), .second, .val (.long q2), .second, .val (.int p3), .val (.long x7_5), .second, .val (.long x9_10), .second, .val (.long x11_17), .second, .val (.long x13_38), .second, .unset, .unset] [])) _
          refine XS.goto X0.here hx rfl (pc0 := 38) (pc' := 45) rfl (hb hby at_38) (by decide) (by decide) ?_
          exact k)
      refine ⟨_, ?_, pre9⟩
      all_goals (subst hx13_38; first | (simp only [own_m0_45_l13, if_neg hc21]; done) | (simp [own_m0_45_l13, if_neg hc21]; done))
  have pre12 : own_Pre p e below (s₁.setTop (entryFrame m #[(.long q0), (.long q1), (.long q2), (.int p3)] maxLocals)) (s₁.setTop (mkF m 50 #[.val (.long q0), .second, .val (.long q1), .second, .val (.long q2), .second, .val (.int p3), .val (.long x7_5), .second, .val (.long x9_10), .second, .val (.long x11_17), .second, .val (.long m45_l13), .second, .unset, .unset] [(.int (lcmpW x9_10 m45_l13))])) := fun t k => pre5 t (by
      show Steps p.tables e below (s₁.setTop (mkF m 45 #[.val (.long q0), .second, .val (.long q1), .second, .val (.long q2), .second, .val (.int p3), .val (.long x7_5), .second, .val (.long x9_10), .second, .val (.long x11_17), .second, .val (.long m45_l13), .second, .unset, .unset] [])) _
      refine XS.lload X0.here hx rfl (hb hby at_45) rfl ?_
      show Steps p.tables e below (s₁.setTop (mkF m 47 #[.val (.long q0), .second, .val (.long q1), .second, .val (.long q2), .second, .val (.int p3), .val (.long x7_5), .second, .val (.long x9_10), .second, .val (.long x11_17), .second, .val (.long m45_l13), .second, .unset, .unset] [(.long x9_10)])) _
      refine XS.lload X0.here hx rfl (hb hby at_47) rfl ?_
      show Steps p.tables e below (s₁.setTop (mkF m 49 #[.val (.long q0), .second, .val (.long q1), .second, .val (.long q2), .second, .val (.int p3), .val (.long x7_5), .second, .val (.long x9_10), .second, .val (.long x11_17), .second, .val (.long m45_l13), .second, .unset, .unset] [(.long m45_l13), (.long x9_10)])) _
      refine XS.lcmp X0.here hx rfl (hb hby at_49) rfl ?_
      exact k)
  obtain ⟨m66_l15, T10, L10, X10, N10, e10, hm66_l15, pre11⟩ : ∃ (m66_l15 : Addr) (T10 : State) (L10 : List Loc), Stand p l e room_1 s m #[(.long q0), (.long q1), (.long q2), (.int p3)] below meth c T10 L10 0 0 ∧ Fr n0 L10 ∧ T10.heap = h0 ∧ m66_l15 = (own_m0_66_l15 m45_l13 x9_10 cms cmt) ∧ own_Pre p e below (s₁.setTop (entryFrame m #[(.long q0), (.long q1), (.long q2), (.int p3)] maxLocals)) (T10.setTop (mkF m 66 #[.val (.long q0), .second, .val (.long q1), .second, .val (.long q2), .second, .val (.int p3), .val (.long x7_5), .second, .val (.long x9_10), .second, .val (.long x11_17), .second, .val (.long m45_l13), .second, .val (.ref m66_l15), .unset] [])) := by
    by_cases hc50 : m45_l13 < x9_10
    · obtain ⟨T13, X13, e13, st13⟩ := getS2 X0 hx hZ hown (host := "") (Or.inl (hw _ (List.mem_of_getElem? (i := 0) rfl))) Via.refl e0 S_MISSED (g := (mkF m 61 #[.val (.long q0), .second, .val (.long q1), .second, .val (.long q2), .second, .val (.int p3), .val (.long x7_5), .second, .val (.long x9_10), .second, .val (.long x11_17), .second, .val (.long m45_l13), .second, .unset, .unset] [])) rfl (hb hby at_61)
      have pre14 : own_Pre p e below (s₁.setTop (entryFrame m #[(.long q0), (.long q1), (.long q2), (.int p3)] maxLocals)) (T13.setTop (mkF m 66 #[.val (.long q0), .second, .val (.long q1), .second, .val (.long q2), .second, .val (.int p3), .val (.long x7_5), .second, .val (.long x9_10), .second, .val (.long x11_17), .second, .val (.long m45_l13), .second, .val (.ref cms), .unset] [])) := fun t k => pre12 t (by
          show Steps p.tables e below (s₁.setTop (mkF m 50 #[.val (.long q0), .second, .val (.long q1), .second, .val (.long q2), .second, .val (.int p3), .val (.long x7_5), .second, .val (.long x9_10), .second, .val (.long x11_17), .second, .val (.long m45_l13), .second, .unset, .unset] [(.int (lcmpW x9_10 m45_l13))])) _
          refine XS.ifYes X0.here hx rfl (pc0 := 50) (pc' := 61) rfl (hb hby at_50) rfl ((if0 _ _).trans (tlt ((lw_gt _ _).mpr hc50)).2.2.1) (by decide) (by decide) ?_
          show Steps p.tables e below (s₁.setTop (mkF m 61 #[.val (.long q0), .second, .val (.long q1), .second, .val (.long q2), .second, .val (.int p3), .val (.long x7_5), .second, .val (.long x9_10), .second, .val (.long x11_17), .second, .val (.long m45_l13), .second, .unset, .unset] [])) _
          refine st13 _ ?_
          show Steps p.tables e below (T13.setTop (mkF m 64 #[.val (.long q0), .second, .val (.long q1), .second, .val (.long q2), .second, .val (.int p3), .val (.long x7_5), .second, .val (.long x9_10), .second, .val (.long x11_17), .second, .val (.long m45_l13), .second, .unset, .unset] [(.ref cms)])) _
          refine XS.astore X13.here hx rfl (hb hby at_64) rfl rfl (l' := #[.val (.long q0), .second, .val (.long q1), .second, .val (.long q2), .second, .val (.int p3), .val (.long x7_5), .second, .val (.long x9_10), .second, .val (.long x11_17), .second, .val (.long m45_l13), .second, .val (.ref cms), .unset]) rfl ?_
          exact k)
      refine ⟨_, _, _, X13, N0, e13, ?_, pre14⟩
      all_goals (first | (simp only [own_m0_66_l15, if_pos hc50]; done) | (simp [own_m0_66_l15, if_pos hc50]; done))
    · obtain ⟨T15, X15, e15, st15⟩ := getS2 X0 hx hZ hown (host := "") (Or.inl (hw _ (List.mem_of_getElem? (i := 7) rfl))) Via.refl e0 S_MET (g := (mkF m 53 #[.val (.long q0), .second, .val (.long q1), .second, .val (.long q2), .second, .val (.int p3), .val (.long x7_5), .second, .val (.long x9_10), .second, .val (.long x11_17), .second, .val (.long m45_l13), .second, .unset, .unset] [])) rfl (hb hby at_53)
      have pre16 : own_Pre p e below (s₁.setTop (entryFrame m #[(.long q0), (.long q1), (.long q2), (.int p3)] maxLocals)) (T15.setTop (mkF m 66 #[.val (.long q0), .second, .val (.long q1), .second, .val (.long q2), .second, .val (.int p3), .val (.long x7_5), .second, .val (.long x9_10), .second, .val (.long x11_17), .second, .val (.long m45_l13), .second, .val (.ref cmt), .unset] [])) := fun t k => pre12 t (by
          show Steps p.tables e below (s₁.setTop (mkF m 50 #[.val (.long q0), .second, .val (.long q1), .second, .val (.long q2), .second, .val (.int p3), .val (.long x7_5), .second, .val (.long x9_10), .second, .val (.long x11_17), .second, .val (.long m45_l13), .second, .unset, .unset] [(.int (lcmpW x9_10 m45_l13))])) _
          refine XS.ifNo X0.here hx rfl (hb hby at_50) rfl ((if0 _ _).trans (flt (mt (lw_gt _ _).mp hc50)).2.2.1) ?_
          show Steps p.tables e below (s₁.setTop (mkF m 53 #[.val (.long q0), .second, .val (.long q1), .second, .val (.long q2), .second, .val (.int p3), .val (.long x7_5), .second, .val (.long x9_10), .second, .val (.long x11_17), .second, .val (.long m45_l13), .second, .unset, .unset] [])) _
          refine st15 _ ?_
          show Steps p.tables e below (T15.setTop (mkF m 56 #[.val (.long q0), .second, .val (.long q1), .second, .val (.long q2), .second, .val (.int p3), .val (.long x7_5), .second, .val (.long x9_10), .second, .val (.long x11_17), .second, .val (.long m45_l13), .second, .unset, .unset] [(.ref cmt)])) _
          refine XS.astore X15.here hx rfl (hb hby at_56) rfl rfl (l' := #[.val (.long q0), .second, .val (.long q1), .second, .val (.long q2), .second, .val (.int p3), .val (.long x7_5), .second, .val (.long x9_10), .second, .val (.long x11_17), .second, .val (.long m45_l13), .second, .val (.ref cmt), .unset]) rfl ?_
          show Steps p.tables e below (T15.setTop (mkF m 58 #[.val (.long q0), .second, .val (.long q1), .second, .val (.long q2), .second, .val (.int p3), .val (.long x7_5), .second, .val (.long x9_10), .second, .val (.long x11_17), .second, .val (.long m45_l13), .second, .val (.ref cmt), .unset] [])) _
          refine XS.goto X15.here hx rfl (pc0 := 58) (pc' := 66) rfl (hb hby at_58) (by decide) (by decide) ?_
          exact k)
      refine ⟨_, _, _, X15, N0, e15, ?_, pre16⟩
      all_goals (first | (simp only [own_m0_66_l15, if_neg hc50]; done) | (simp [own_m0_66_l15, if_neg hc50]; done))
  obtain ⟨_, _, ⟨T17, L17, k17, n17⟩, -, X17, ⟨Lc17, hQ17, l17, y17, z17⟩, st17⟩ := Jvm.LawKit.callS X10 hx (y := (⟨"com/example/offered_load/offeredload/Outcome", "ofRun", "(JJJ)Lcom/example/offered_load/offeredload/Outcome;"⟩ : MethodName)) hown (mvT hZ (hw _ (List.mem_of_getElem? (i := 3) rfl))) (mvT hZ (hw _ (List.mem_of_getElem? (i := 4) rfl))) (mvT hZ (hw _ (List.mem_of_getElem? (i := 1) rfl))) (mvT hZ (hw _ (List.mem_of_getElem? (i := 5) rfl))) (by decide) (backOf (W := 0) (rm1 l Z aw hw [] (x7_5) (x11_17) (m45_l13) (cms) (cmt) (h0) n0 Z0 S_MISSED S_MET) hZ (hw _ (List.mem_of_getElem? (i := 5) rfl)) (hw _ (List.mem_of_getElem? (i := 1) rfl)) (by decide) (by decide)) (g := (mkF m 72 #[.val (.long q0), .second, .val (.long q1), .second, .val (.long q2), .second, .val (.int p3), .val (.long x7_5), .second, .val (.long x9_10), .second, .val (.long x11_17), .second, .val (.long m45_l13), .second, .val (.ref m66_l15), .unset] [(.long m45_l13), (.long x11_17), (.long x7_5)])) rfl (by rw [hml]; rfl) (argsL := [(.long x7_5), (.long x11_17), (.long m45_l13)]) (rest := []) (lenOf pd_0 rfl) rfl (by show 2 * 0 + _ ≤ _; exact Nat.le_of_eq rfl) (hb hby at_72) (fun _ _ => ⟨rfl, e10, (by decide : 0 + 0 ≤ _), (by decide : 0 + 0 ≤ _)⟩)
  dsimp only [Pt.U, Pt.locs, Pt.cells, Pt.slots] at X17 l17 y17 z17 st17 hQ17
  subst l17 y17 z17
  obtain ⟨rfl, Nq17, eq17⟩ := hQ17
  have N17 := Fr.app N10 Nq17
  obtain ⟨x16_77, hx16_77, pre18⟩ : ∃ z : Addr, z = (own_f1 x7_5 x11_17 m45_l13 cms cmt) ∧ own_Pre p e below (s₁.setTop (entryFrame m #[(.long q0), (.long q1), (.long q2), (.int p3)] maxLocals)) (T17.setTop (mkF m 77 #[.val (.long q0), .second, .val (.long q1), .second, .val (.long q2), .second, .val (.int p3), .val (.long x7_5), .second, .val (.long x9_10), .second, .val (.long x11_17), .second, .val (.long m45_l13), .second, .val (.ref m66_l15), .val (.ref z)] [])) := ⟨_, rfl, fun t k => pre11 t (by
      show Steps p.tables e below (T10.setTop (mkF m 66 #[.val (.long q0), .second, .val (.long q1), .second, .val (.long q2), .second, .val (.int p3), .val (.long x7_5), .second, .val (.long x9_10), .second, .val (.long x11_17), .second, .val (.long m45_l13), .second, .val (.ref m66_l15), .unset] [])) _
      refine XS.lload X10.here hx rfl (hb hby at_66) rfl ?_
      show Steps p.tables e below (T10.setTop (mkF m 68 #[.val (.long q0), .second, .val (.long q1), .second, .val (.long q2), .second, .val (.int p3), .val (.long x7_5), .second, .val (.long x9_10), .second, .val (.long x11_17), .second, .val (.long m45_l13), .second, .val (.ref m66_l15), .unset] [(.long x7_5)])) _
      refine XS.lload X10.here hx rfl (hb hby at_68) rfl ?_
      show Steps p.tables e below (T10.setTop (mkF m 70 #[.val (.long q0), .second, .val (.long q1), .second, .val (.long q2), .second, .val (.int p3), .val (.long x7_5), .second, .val (.long x9_10), .second, .val (.long x11_17), .second, .val (.long m45_l13), .second, .val (.ref m66_l15), .unset] [(.long x11_17), (.long x7_5)])) _
      refine XS.lload X10.here hx rfl (hb hby at_70) rfl ?_
      show Steps p.tables e below (T10.setTop (mkF m 72 #[.val (.long q0), .second, .val (.long q1), .second, .val (.long q2), .second, .val (.int p3), .val (.long x7_5), .second, .val (.long x9_10), .second, .val (.long x11_17), .second, .val (.long m45_l13), .second, .val (.ref m66_l15), .unset] [(.long m45_l13), (.long x11_17), (.long x7_5)])) _
      refine st17 _ ?_
      show Steps p.tables e below (T17.setTop (mkF m 75 #[.val (.long q0), .second, .val (.long q1), .second, .val (.long q2), .second, .val (.int p3), .val (.long x7_5), .second, .val (.long x9_10), .second, .val (.long x11_17), .second, .val (.long m45_l13), .second, .val (.ref m66_l15), .unset] [(.ref (own_f1 x7_5 x11_17 m45_l13 cms cmt))])) _
      refine XS.astore X17.here hx rfl (hb hby at_75) rfl rfl (l' := #[.val (.long q0), .second, .val (.long q1), .second, .val (.long q2), .second, .val (.int p3), .val (.long x7_5), .second, .val (.long x9_10), .second, .val (.long x11_17), .second, .val (.long m45_l13), .second, .val (.ref m66_l15), .val (.ref (own_f1 x7_5 x11_17 m45_l13 cms cmt))]) rfl ?_
      exact k)⟩
  have hc81 : (x16_77 = m66_l15) := by rw [hx16_77, hm66_l15, hx11_17]; exact own_plain _ _ _ _ _
  obtain ⟨fs, hr, hrun, hended, hW, hsame⟩ := X17.leave (v := some (.int (1 : Int32))) (fun h => by rw [Bd.returns] at h; cases h)
  refine ⟨_, _, pre18 _ ?_, hrun, hended, _, _, rfl, ?_, ⟨_, rfl⟩, hW, hsame.mono (by decide) (by decide)⟩
  · show Steps p.tables e below (T17.setTop (mkF m 77 #[.val (.long q0), .second, .val (.long q1), .second, .val (.long q2), .second, .val (.int p3), .val (.long x7_5), .second, .val (.long x9_10), .second, .val (.long x11_17), .second, .val (.long m45_l13), .second, .val (.ref m66_l15), .val (.ref x16_77)] [])) _
    refine XS.aload X17.here hx rfl (hb hby at_77) rfl rfl ?_
    show Steps p.tables e below (T17.setTop (mkF m 79 #[.val (.long q0), .second, .val (.long q1), .second, .val (.long q2), .second, .val (.int p3), .val (.long x7_5), .second, .val (.long x9_10), .second, .val (.long x11_17), .second, .val (.long m45_l13), .second, .val (.ref m66_l15), .val (.ref x16_77)] [(.ref x16_77)])) _
    refine XS.aload X17.here hx rfl (hb hby at_79) rfl rfl ?_
    show Steps p.tables e below (T17.setTop (mkF m 81 #[.val (.long q0), .second, .val (.long q1), .second, .val (.long q2), .second, .val (.int p3), .val (.long x7_5), .second, .val (.long x9_10), .second, .val (.long x11_17), .second, .val (.long m45_l13), .second, .val (.ref m66_l15), .val (.ref x16_77)] [(.ref m66_l15), (.ref x16_77)])) _
    refine Jvm.RoadKit.acmp (g := (mkF m 81 #[.val (.long q0), .second, .val (.long q1), .second, .val (.long q2), .second, .val (.int p3), .val (.long x7_5), .second, .val (.long x9_10), .second, .val (.long x11_17), .second, .val (.long m45_l13), .second, .val (.ref m66_l15), .val (.ref x16_77)] [(.ref m66_l15), (.ref x16_77)])) X17 hx rfl rfl rfl (pc0 := 81) (pc' := 84) (same := true) rfl (hb hby at_81) rfl (decide_eq_true (congrArg Value.ref hc81)) (by decide) (by decide) ?_
    show Steps p.tables e below (T17.setTop (mkF m 84 #[.val (.long q0), .second, .val (.long q1), .second, .val (.long q2), .second, .val (.int p3), .val (.long x7_5), .second, .val (.long x9_10), .second, .val (.long x11_17), .second, .val (.long m45_l13), .second, .val (.ref m66_l15), .val (.ref x16_77)] [])) _
    refine XS.iconst X17.here hx rfl (hb hby at_84) ?_
    show Steps p.tables e below (T17.setTop (mkF m 85 #[.val (.long q0), .second, .val (.long q1), .second, .val (.long q2), .second, .val (.int p3), .val (.long x7_5), .second, .val (.long x9_10), .second, .val (.long x11_17), .second, .val (.long m45_l13), .second, .val (.ref m66_l15), .val (.ref x16_77)] [(.int (1 : Int32))])) _
    refine XS.goto X17.here hx rfl (pc0 := 85) (pc' := 89) rfl (hb hby at_85) (by decide) (by decide) ?_
    show Steps p.tables e below (T17.setTop (mkF m 89 #[.val (.long q0), .second, .val (.long q1), .second, .val (.long q2), .second, .val (.int p3), .val (.long x7_5), .second, .val (.long x9_10), .second, .val (.long x11_17), .second, .val (.long m45_l13), .second, .val (.ref m66_l15), .val (.ref x16_77)] [(.int (1 : Int32))])) _
    exact retN X17 hx (t := .boolean) Bd.returns (by simp) (hb hby at_89) hr
  · show Q0 Z q0 q1 q2 p3 cms cmt h0 n0 _ T17.heap _
    rw [eq17]
    unfold Q0
    refine ⟨rfl, N17⟩
set_option maxRecDepth 65536 in
set_option maxHeartbeats 40000000 in
theorem comes_1 {Post : Tables → Env → Array Value → State → Outcome → State → Prop} (hpost : ∀ tb e args s v u, (limb_1_1.after args s (.returned v) u = true ∧ limb_1_2.after args s (.returned v) u = true ∧ True) → FrameEnd s (.returned v) u (Jvm.fieldLocs frame_1_writes args s ++ Jvm.arrayLocs frame_1_arrays args s ++ Jvm.staticLocs frame_1_statics s) 0 0 → Post tb e args s (.returned v) u) :
    ArmFor flags0 classFile x code maxLocals ret World_1 tables_1 room_1 Calls_1 rest_1 Pre_1 Post := by
  intro l hfl _ _ p e ha hc hk s m args below hf hA hF happ hP
  obtain ⟨hcalls, hrest, hpre⟩ := hP
  obtain ⟨-, -, -, hnamed, -, -, -, hat⟩ := (Spec.applies_iff hf).mp happ
  obtain ⟨hg, hn⟩ := and_e (Cond.before_iff.mp (show (Jvm.Cond.and given_1 narrow_1).before args s = true from hpre))
  obtain ⟨gv1, gv2⟩ := and_e hg
  obtain ⟨gv3, gv4⟩ := and_e gv2
  obtain ⟨gv5, gv6⟩ := and_e gv4
  obtain ⟨gv7, gv8⟩ := and_e gv6
  obtain ⟨w0, w1, w2, w3, rfl⟩ : ∃ w0 w1 w2 w3 : Value, args = #[w0, w1, w2, w3] := by
    have hs : args.size = 4 := by simpa [Cond.value, given_1] using gv1
    obtain ⟨L⟩ := args
    match L, hs with
    | [w0, w1, w2, w3], _ => exact ⟨w0, w1, w2, w3, rfl⟩
  have hw := fun d (hd : d ∈ tables_1) => atoms_spec (ws := Jvm.Cond.code x code maxLocals ret :: tables_1) hat d (List.mem_cons_of_mem _ hd)
  obtain ⟨i0, ei0⟩ := isL_v gv3
  obtain rfl : w0 = (.long i0) := Option.some.inj ei0
  obtain ⟨i1, ei1⟩ := isL_v gv5
  obtain rfl : w1 = (.long i1) := Option.some.inj ei1
  obtain ⟨i2, ei2⟩ := isL_v gv7
  obtain rfl : w2 = (.long i2) := Option.some.inj ei2
  obtain ⟨i3, ei3⟩ := is_v gv8
  obtain rfl : w3 = (.int i3) := Option.some.inj ei3
  have hn' : (Jvm.Cond.and (Jvm.Cond.exactly (Jvm.Term.static "com/example/offered_load/offeredload/Outcome" "MISSED" "Lcom/example/offered_load/offeredload/Outcome;") "com/example/offered_load/offeredload/Outcome") (Jvm.Cond.exactly (Jvm.Term.static "com/example/offered_load/offeredload/Outcome" "MET" "Lcom/example/offered_load/offeredload/Outcome;") "com/example/offered_load/offeredload/Outcome")).value _ s none s [] = some true := hn
  obtain ⟨hn1, hn2⟩ := and_e hn'
  obtain ⟨cms, ecms⟩ := exa_v hn1
  obtain ⟨cmt, ecmt⟩ := exa_v hn2
  have S_MISSED : Sta s s.heap "com/example/offered_load/offeredload/Outcome" "MISSED" "Lcom/example/offered_load/offeredload/Outcome;" (.ref cms) := Sta.start ecms (Or.inr ⟨(hw _ (List.mem_of_getElem? (i := 1) rfl)), (hw _ (List.mem_of_getElem? (i := 2) rfl))⟩)
  have S_MET : Sta s s.heap "com/example/offered_load/offeredload/Outcome" "MET" "Lcom/example/offered_load/offeredload/Outcome;" (.ref cmt) := Sta.start ecmt (Or.inr ⟨(hw _ (List.mem_of_getElem? (i := 1) rfl)), (hw _ (List.mem_of_getElem? (i := 8) rfl))⟩)
  obtain ⟨n, o, h1, h2, h3, _, L, rfl, ⟨rfl, N⟩, hq⟩ := rm0 l s _ hw tables_1 i0 i1 i2 i3 cms cmt s.heap s.heap.size (Nat.le_refl _) S_MISSED S_MET p e ha hc hk s m _ below hf ((Spec.applies_iff_loose hf).mp happ).1 ⟨rfl, State.Warmed39.refl s, rfl⟩ trivial
  refine ⟨n, _, h1, h2, h3, hpost _ _ _ _ _ _ ⟨Cond.after_iff.mpr rfl, Cond.after_iff.mpr (eq_i res_at (Term.int_eval (1)) rfl), trivial⟩ ⟨hq.1, hq.2.1, (hq.2.2.sift fun y hy => Or.inr (N y hy)).mono (by decide) (by decide)⟩⟩
theorem main_1_1 : Claimed_1_1 := comes_1 fun _ _ _ _ _ _ h hF => ⟨h.1, hF⟩
theorem main_1_2 : Claimed_1_2 := comes_1 fun _ _ _ _ _ _ h hF => ⟨h.2.1, hF⟩
end Jvm.Pilot.@@N@@
namespace Jvm.Pilot.@@N@@
open Jvm Jvm.ClassFile Sem Op Lib Jvm.Free Jvm.Stand Jvm.Pilot.@@N@@.Jvm.D
/-! MADE BY PROGRAM (witnessworld.py) out of the Statement's table words and the real class files: 12 classes; the members and pool entries that the words name. The judged class is class 1, her method 1. -/
namespace start1
open Jvm.ClassFile
def u (s : String) : CpInfo := .utf8 (stringToUtf16 s)
/-- a pool by its gaps: so many unusable entries, then the entry; so many at the end -/
def gap : Nat → List CpInfo → List CpInfo
  | 0, r => r
  | n + 1, r => .unusable :: gap n r
def poolList (es : List (Nat × CpInfo)) (last : Nat) : List CpInfo := es.foldr (fun e r => gap e.1 (e.2 :: r)) (gap last [])
def pool (es : List (Nat × CpInfo)) (last : Nat) : Array CpInfo := ⟨poolList es last⟩
def fileOf (pool : Array CpInfo) (this : Nat) (attrs : Array Attribute := #[]) (ms : Array MethodInfo := #[]) (fl : Nat := 33) (sup : Nat := 0) (ifs : Array Nat := #[]) (fds : Array FieldInfo := #[]) : ClassFile where
  minorVersion := 0
  majorVersion := 65
  constantPool := pool
  accessFlags := fl
  thisClass := this
  superClass := sup
  interfaces := ifs
  fields := fds
  methods := ms
  attributes := attrs
def plain (name : String) (sup : Option ClassId) : Class where
  name := name
  kind := .ordinary
  loader := none
  accessFlags := 33
  super := sup
  interfaces := #[]
  cf := none
  fields := #[]
  methods := #[]
  instanceTypes := #[]
  staticTypes := #[]
  resolved := #[]
  callSites := []
  init := .initialized
  statics := none
  mirror := none

def pool0 : Array CpInfo := pool [(5, u "<init>"), (0, u "()V"), (1, .class_ 10), (1, u "java/lang/Object")] 113

def k0m0 : Method := { name := "<init>", desc := "()V", sig := { parameters := [], returnType := none }, accessFlags := 1, code := none }
/-- java/lang/Object -/
def k0 : Class := { plain "java/lang/Object" none with
  accessFlags := 33
  interfaces := #[]
  cf := some (fileOf pool0 8 #[] #[{ accessFlags := 1, nameIndex := 5, descriptorIndex := 6, attributes := #[] }] 33 0 #[] #[])
  fields := #[]
  methods := #[k0m0]
  instanceTypes := #[]
  staticTypes := #[]
  resolved := Array.replicate 124 none
  statics := none }

def pool1 : Array CpInfo := pool [(2, .class_ 4), (1, u "java/lang/Object"), (0, u "<init>"), (0, u "()V"), (0, .fieldref 8 9), (0, .class_ 10), (0, .nameAndType 11 12), (0, u "com/example/offered_load/offeredload/Outcome"), (0, u "MET"), (0, u "Lcom/example/offered_load/offeredload/Outcome;"), (0, .fieldref 8 14), (0, .nameAndType 15 12), (0, u "MISSED"), (0, .methodref 8 17), (0, .nameAndType 18 19), (0, u "ofRun"), (0, u "(JJJ)Lcom/example/offered_load/offeredload/Outcome;"), (0, .class_ 21), (0, u "com/example/offered_load/offeredload/OutcomeOfRunPinLaw"), (2, u "law"), (0, u "(JJJI)Z")] 3

def k1m0 : Method := { name := "<init>", desc := "()V", sig := { parameters := [], returnType := none }, accessFlags := 1, code := none }
def k1c1 : Code := { maxStack := 6, maxLocals := 17, code := code, exceptionTable := #[], attributes := #[] }
def k1m1 : Method := { name := "law", desc := "(JJJI)Z", sig := { parameters := [.long, .long, .long, .int], returnType := some .boolean }, accessFlags := 9, code := some k1c1 }
/-- com/example/offered_load/offeredload/OutcomeOfRunPinLaw -/
def k1 : Class := { plain "com/example/offered_load/offeredload/OutcomeOfRunPinLaw" (some 0) with
  accessFlags := 49
  interfaces := #[]
  cf := some (fileOf pool1 20 #[] #[{ accessFlags := 1, nameIndex := 5, descriptorIndex := 6, attributes := #[] }, { accessFlags := 9, nameIndex := 24, descriptorIndex := 25, attributes := #[] }] 49 2 #[] #[])
  fields := #[]
  methods := #[k1m0, k1m1]
  instanceTypes := #[]
  staticTypes := #[]
  resolved := Array.replicate 29 none
  statics := none }

def pool2 : Array CpInfo := pool [(1, .class_ 2), (0, u "java/lang/constant/Constable"), (0, .class_ 4), (0, u "java/lang/Object")] 6

/-- java/lang/constant/Constable -/
def k2 : Class := { plain "java/lang/constant/Constable" (some 0) with
  accessFlags := 1537
  interfaces := #[]
  cf := some (fileOf pool2 1 #[] #[] 1537 3 #[] #[])
  fields := #[]
  methods := #[]
  instanceTypes := #[]
  staticTypes := #[]
  resolved := Array.replicate 11 none
  statics := none }

def pool3 : Array CpInfo := pool [(1, .class_ 2), (0, u "java/lang/Comparable"), (0, .class_ 4), (0, u "java/lang/Object")] 7

/-- java/lang/Comparable -/
def k3 : Class := { plain "java/lang/Comparable" (some 0) with
  accessFlags := 1537
  interfaces := #[]
  cf := some (fileOf pool3 1 #[] #[] 1537 3 #[] #[])
  fields := #[]
  methods := #[]
  instanceTypes := #[]
  staticTypes := #[]
  resolved := Array.replicate 12 none
  statics := none }

def pool4 : Array CpInfo := pool [(1, .class_ 2), (0, u "java/io/Serializable"), (0, .class_ 4), (0, u "java/lang/Object")] 2

/-- java/io/Serializable -/
def k4 : Class := { plain "java/io/Serializable" (some 0) with
  accessFlags := 1537
  interfaces := #[]
  cf := some (fileOf pool4 1 #[] #[] 1537 3 #[] #[])
  fields := #[]
  methods := #[]
  instanceTypes := #[]
  staticTypes := #[]
  resolved := Array.replicate 7 none
  statics := none }

def pool5 : Array CpInfo := pool [(2, .class_ 4), (1, u "java/lang/Enum"), (0, u "name"), (0, u "Ljava/lang/String;"), (2, u "ordinal"), (0, u "I"), (1, .class_ 14), (1, u "java/lang/Object"), (4, u "hash"), (86, .class_ 108), (1, u "java/lang/Enum$EnumDesc"), (2, .class_ 112), (0, u "java/lang/constant/Constable"), (0, .class_ 114), (0, u "java/lang/Comparable"), (0, .class_ 116), (0, u "java/io/Serializable")] 87

/-- java/lang/Enum -/
def k5 : Class := { plain "java/lang/Enum" (some 0) with
  accessFlags := 1057
  interfaces := #[2, 3, 4]
  cf := some (fileOf pool5 2 #[.nestMembers #[106]] #[] 1057 12 #[111, 113, 115] #[{ accessFlags := 18, nameIndex := 5, descriptorIndex := 6, attributes := #[] }, { accessFlags := 18, nameIndex := 9, descriptorIndex := 10, attributes := #[] }, { accessFlags := 2, nameIndex := 19, descriptorIndex := 10, attributes := #[] }])
  fields := #[{ name := "name", type := (.object "java/lang/String"), accessFlags := 18, slot := 0, constantValue := 0 }, { name := "ordinal", type := .int, accessFlags := 18, slot := 1, constantValue := 0 }, { name := "hash", type := .int, accessFlags := 2, slot := 2, constantValue := 0 }]
  methods := #[]
  instanceTypes := #[(.object "java/lang/String"), .int, .int]
  staticTypes := #[]
  resolved := Array.replicate 204 none
  statics := none }

def pool6 : Array CpInfo := pool [(1, .class_ 2), (0, u "com/example/offered_load/offeredload/Outcome"), (0, .fieldref 1 4), (0, .nameAndType 5 6), (0, u "MET"), (0, u "Lcom/example/offered_load/offeredload/Outcome;"), (0, .fieldref 1 8), (0, .nameAndType 9 6), (0, u "MISSED"), (2, u "DISMISSED"), (2, u "$VALUES"), (0, u "[Lcom/example/offered_load/offeredload/Outcome;"), (6, .class_ 25), (1, u "java/lang/Enum"), (8, u "label"), (0, u "Ljava/lang/String;"), (2, u "started"), (0, u "Z"), (23, u "ofRun"), (0, u "(JJJ)Lcom/example/offered_load/offeredload/Outcome;")] 8

def k6c0 : Code := { maxStack := 4, maxLocals := 7, code := prog_20_method_4_code, exceptionTable := #[], attributes := #[] }
def k6m0 : Method := { name := "ofRun", desc := "(JJJ)Lcom/example/offered_load/offeredload/Outcome;", sig := { parameters := [.long, .long, .long], returnType := some (.object "com/example/offered_load/offeredload/Outcome") }, accessFlags := 8, code := some k6c0 }
/-- com/example/offered_load/offeredload/Outcome -/
def k6 : Class := { plain "com/example/offered_load/offeredload/Outcome" (some 5) with
  accessFlags := 16433
  interfaces := #[]
  cf := some (fileOf pool6 1 #[] #[{ accessFlags := 8, nameIndex := 63, descriptorIndex := 64, attributes := #[] }] 16433 23 #[] #[{ accessFlags := 16409, nameIndex := 5, descriptorIndex := 6, attributes := #[] }, { accessFlags := 16409, nameIndex := 9, descriptorIndex := 6, attributes := #[] }, { accessFlags := 16409, nameIndex := 12, descriptorIndex := 6, attributes := #[] }, { accessFlags := 18, nameIndex := 34, descriptorIndex := 35, attributes := #[] }, { accessFlags := 18, nameIndex := 38, descriptorIndex := 39, attributes := #[] }, { accessFlags := 4122, nameIndex := 15, descriptorIndex := 16, attributes := #[] }])
  fields := #[{ name := "MET", type := (.object "com/example/offered_load/offeredload/Outcome"), accessFlags := 16409, slot := 0, constantValue := 0 }, { name := "MISSED", type := (.object "com/example/offered_load/offeredload/Outcome"), accessFlags := 16409, slot := 1, constantValue := 0 }, { name := "DISMISSED", type := (.object "com/example/offered_load/offeredload/Outcome"), accessFlags := 16409, slot := 2, constantValue := 0 }, { name := "label", type := (.object "java/lang/String"), accessFlags := 18, slot := 3, constantValue := 0 }, { name := "started", type := .boolean, accessFlags := 18, slot := 4, constantValue := 0 }, { name := "$VALUES", type := (.array (.object "com/example/offered_load/offeredload/Outcome")), accessFlags := 4122, slot := 3, constantValue := 0 }]
  methods := #[k6m0]
  instanceTypes := #[(.object "java/lang/String"), .int, .int, (.object "java/lang/String"), .boolean]
  staticTypes := #[(.object "com/example/offered_load/offeredload/Outcome"), (.object "com/example/offered_load/offeredload/Outcome"), (.object "com/example/offered_load/offeredload/Outcome"), (.array (.object "com/example/offered_load/offeredload/Outcome"))]
  resolved := Array.replicate 73 none
  statics := some 0 }

def pool7 : Array CpInfo := pool [(1, u "java/lang/Cloneable"), (0, .class_ 1), (0, u "java/lang/Object"), (0, .class_ 3)] 3

/-- java/lang/Cloneable -/
def k7 : Class := { plain "java/lang/Cloneable" (some 0) with
  accessFlags := 1537
  interfaces := #[]
  cf := some (fileOf pool7 2 #[] #[] 1537 4 #[] #[])
  fields := #[]
  methods := #[]
  instanceTypes := #[]
  staticTypes := #[]
  resolved := Array.replicate 8 none
  statics := none }

/-- the primitive byte -/
def k8 : Class := { plain "byte" none with kind := .primitive 'B', accessFlags := 0x411 }
/-- [B -/
def k9 : Class := { plain "[B" (some 0) with kind := .array 8 .byte, interfaces := #[7, 4], accessFlags := 1041 }

/-- the primitive int -/
def k10 : Class := { plain "int" none with kind := .primitive 'I', accessFlags := 0x411 }
/-- [I -/
def k11 : Class := { plain "[I" (some 0) with kind := .array 10 .int, interfaces := #[7, 4], accessFlags := 1041 }

def heap : Heap := #[{ cls := 6, slots := #[.ref 1, .ref 2, .null, .null], vm := .statics 6 },
  { cls := 6, slots := #[.null, .int 0, .int 0, .null, .int 1], vm := .none },
  { cls := 6, slots := #[.null, .int 1, .int 0, .null, .int 1], vm := .none }]
def classes : Array Class := #[k0, k1, k2, k3, k4, k5, k6, k7, k8, k9, k10, k11]
def interned : List (Array UInt16 × Addr) := []
def slotsUsed : Nat := 14
def theMethod : MethodId := ⟨1, 1⟩
def args0 : Array Value := #[.long 5, .long 6, .long 7, .int 3]
def aboutOver (below : List Frame) : State where
  vm := { classes := classes, interned := interned.toArray }
  heap := heap
  slotsUsed := slotsUsed
  threads := #[{ frames := .invoking theMethod args0 :: below }]
def below0 : List Frame := [.native { method := ⟨0, 0⟩, args := #[] }]
def about1 : State := aboutOver below0
def p0 : Program := .bare "" "" ""
def e0 : Env := launch0.env 0 0 0
theorem w_frames : about1.frames = Frame.invoking theMethod args0 :: below0 := rfl
set_option maxRecDepth 65536 in
theorem w_args : argsFit about1.vm theMethod args0 = true := by decide +kernel
set_option maxRecDepth 65536 in
theorem w_heap : heapFits about1 = true := by decide +kernel
set_option maxRecDepth 65536 in
theorem w_runnable : about1.curStatus? = some .runnable := by decide +kernel
set_option maxRecDepth 65536 in
theorem w_alone : about1.alone = true := by decide +kernel
set_option maxRecDepth 65536 in
theorem w_named : about1.methodNamed? x = some theMethod := by decide +kernel
set_option maxRecDepth 65536 in
theorem w_hears : about1.hears theMethod below0 = true := by decide +kernel
set_option maxRecDepth 65536 in
theorem w_ripe : about1.ripe theMethod args0 below0 = true := by decide +kernel
theorem w_running : about1.status = .running := rfl
set_option maxRecDepth 65536 in
theorem w_room : about1.hasRoom e0.platform room_1 = true :=
  launch0.hasRoom_least _ room_1 (by decide +kernel) (by decide +kernel) (by decide +kernel) (by decide +kernel) (by decide +kernel) (by decide +kernel)
theorem allAtoms_all (ts : List Jvm.Cond) (a : Array Jvm.Value) (st : Jvm.State) : (allAtoms ts).before a st = ts.all (fun c => c.before a st) := by
  induction ts with
  | nil => rfl
  | cons c t ih =>
    show (Jvm.Cond.and c (allAtoms t)).before a st = _
    rw [Jvm.Cond.before_and, ih, List.all_cons]
def words1 : List Jvm.Cond := Jvm.Cond.code x code maxLocals ret :: tables_1
/-- a 'code' word, met by the world's own term for the bytes: nothing is compared byte by byte -/
theorem code_word {y : MethodName} {bytes : ByteArray} {mx : Nat} {rt : Option FieldType} {a : Array Value} {s : State} {m : MethodId} {meth : Method} {c : Code} (h1 : s.methodNamed? y = some m) (h2 : s.vm.method? m = some meth) (h3 : meth.code = some c) (h4 : c.code = bytes)
    (h5 : (c.maxLocals == mx && c.exceptionTable.isEmpty && decide (c.maxStack ≤ mostOperands) && decide (meth.sig.returnType = rt) && !meth.locks && decide (parseMethodDescriptor y.desc = some meth.sig)) = true) : (Jvm.Cond.code y bytes mx rt).before a s = true := by
  simp only [Bool.and_eq_true, beq_iff_eq, Bool.not_eq_true', decide_eq_true_eq] at h5
  obtain ⟨⟨⟨⟨⟨g1, g2⟩, g3⟩, g4⟩, g5⟩, g6⟩ := h5
  simp [Cond.before, Cond.holds, Cond.value, h1, h2, h3, h4, g1, g2, g3, g4, g5, g6]
def isCode : Jvm.Cond → Bool
  | .code _ _ _ _ => true
  | _ => false
theorem all_split {L : List Jvm.Cond} {P : Jvm.Cond → Bool} (h1 : L.all (fun c => isCode c || P c) = true) (h2 : ∀ c ∈ L.filter isCode, P c = true) : L.all P = true := by
  refine List.all_eq_true.mpr fun c hc => ?_
  have h := List.all_eq_true.mp h1 c hc
  rcases Bool.eq_false_or_eq_true (isCode c) with hi | hi
  · exact h2 c (List.mem_filter.mpr ⟨hc, hi⟩)
  · simpa [hi] using h
set_option maxRecDepth 65536 in
theorem w_c0 : (Jvm.Cond.code x code maxLocals ret).before args0 about1 = true := code_word (m := ⟨1, 1⟩) (meth := k1m1) (c := k1c1) (by decide +kernel) rfl rfl rfl (by decide +kernel)
set_option maxRecDepth 65536 in
theorem w_c1 : (Jvm.Cond.code ({ cls := "com/example/offered_load/offeredload/Outcome", name := "ofRun", desc := "(JJJ)Lcom/example/offered_load/offeredload/Outcome;" } : Jvm.MethodName) prog_20_method_4_code (7 : Nat) (Option.some (Jvm.ClassFile.FieldType.object "com/example/offered_load/offeredload/Outcome"))).before args0 about1 = true := code_word (m := ⟨6, 0⟩) (meth := k6m0) (c := k6c0) (by decide +kernel) rfl rfl rfl (by decide +kernel)
def codes1 : List Jvm.Cond := [Jvm.Cond.code x code maxLocals ret, Jvm.Cond.code ({ cls := "com/example/offered_load/offeredload/Outcome", name := "ofRun", desc := "(JJJ)Lcom/example/offered_load/offeredload/Outcome;" } : Jvm.MethodName) prog_20_method_4_code (7 : Nat) (Option.some (Jvm.ClassFile.FieldType.object "com/example/offered_load/offeredload/Outcome"))]
set_option maxRecDepth 65536 in
theorem codes_eq : words1.filter isCode = codes1 := rfl
theorem w_codes : ∀ c ∈ words1.filter isCode, c.before args0 about1 = true := by
  rw [codes_eq]
  intro c hc
  simp only [codes1, List.mem_cons, List.not_mem_nil, or_false] at hc
  rcases hc with rfl | rfl
  · exact w_c0
  · exact w_c1
set_option maxRecDepth 65536 in
theorem w_t1 : words1.all (fun c => isCode c || c.before args0 about1) = true := by decide +kernel
theorem w_tables : (allAtoms (Jvm.Cond.code x code maxLocals ret :: tables_1)).before args0 about1 = true := by
  rw [allAtoms_all]
  show words1.all (fun c => c.before args0 about1) = true
  refine all_split ?_ w_codes
  rw [w_t1]
set_option maxRecDepth 65536 in
theorem w_case : (Jvm.Cond.and given_1 narrow_1).before args0 about1 = true := by decide +kernel
theorem w_applies : (headSpec (Jvm.Cond.code x code maxLocals ret :: tables_1) room_1).applies x e0.platform about1 = true :=
  (Spec.applies_iff w_frames).mpr ⟨w_running, w_runnable, w_alone, w_named, w_hears, w_ripe, w_room, w_tables⟩
theorem atStart : AtStart classFile x code maxLocals ret World_1 tables_1 room_1 Calls_1 rest_1 Pre_1 launch0 p0 e0 about1 theMethod args0 below0 :=
  ⟨lists_1, trivial, launch0.admits_env _ _ _, launch0.least_env, fairChoices_fair.cas, fairChoices_fair.clock, w_frames, w_args, w_heap, w_applies, trivial, trivial, w_case⟩
end start1
theorem witness_1 : WitnessClaimed_1 := ⟨start1.p0, start1.e0, start1.about1, start1.theMethod, start1.args0, start1.below0, start1.atStart⟩
end Jvm.Pilot.@@N@@
