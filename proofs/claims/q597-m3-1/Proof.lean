import JvmDerived
import JvmDerived.Pilot.@@N@@Statement
import JvmDerived.Pilot.@@N@@Code
set_option linter.unusedVariables false
set_option linter.unusedSimpArgs false
namespace Jvm.RoadKit
open Sem ClassFile Op Lib Jvm.Stand Jvm.Free Jvm.LawKit
section New
variable {p : Program} {l : Launch} {e : Env} {R : Room} {s : State} {m : MethodId} {args : Array Value} {below : List Frame} {meth : Method} {c : Code} {T : State} {locs : List Loc} {cells slots : Nat}
theorem retI (X : Stand p l e R s m args below meth c T locs cells slots) (hx : p.tables.exec = Jvm.exec) {pc : Nat} {Ls : Array Slot} {z : Int32} {rest : List Value} (hret : meth.sig.returnType = some .int) (hd : decode c.code pc = .ok (.ireturn, 1)) {fs : List Frame}
    (hl : ∀ (f : JFrame) (acts : List Action), f.method = m → f.locked = none → f.entered = [] → (doReturn e (T.setTop f) acts (some (.int z))).1 = T.setFrames fs) : Steps p.tables e below (T.setTop (mkF m pc Ls (.int z :: rest))) (T.setFrames fs) := by
  have hm' : T.vm.method? m = some meth := X.method'
  have hn : narrow .int (.int z) = .int z := rfl
  show Steps p.tables e below (T.setTop { method := m, pc := pc, locals := Ls, stack := _ :: rest, locked := none }) _
  jvm_step X.here [X.here.top, hx, hd, hm', hret, hn]
  first | (intro acts; rw [hl _ acts rfl rfl rfl]) | rw [hl _ _ rfl rfl rfl]
  exact Steps.refl _
theorem retJ (X : Stand p l e R s m args below meth c T locs cells slots) (hx : p.tables.exec = Jvm.exec) {pc : Nat} {Ls : Array Slot} {z : Int64} {rest : List Value} (hret : meth.sig.returnType = some .long) (hd : decode c.code pc = .ok (.lreturn, 1)) {fs : List Frame}
    (hl : ∀ (f : JFrame) (acts : List Action), f.method = m → f.locked = none → f.entered = [] → (doReturn e (T.setTop f) acts (some (.long z))).1 = T.setFrames fs) : Steps p.tables e below (T.setTop (mkF m pc Ls (.long z :: rest))) (T.setFrames fs) := by
  have hm' : T.vm.method? m = some meth := X.method'
  have hn : narrow .long (.long z) = .long z := rfl
  show Steps p.tables e below (T.setTop { method := m, pc := pc, locals := Ls, stack := _ :: rest, locked := none }) _
  jvm_step X.here [X.here.top, hx, hd, hm', hret, hn]
  first | (intro acts; rw [hl _ acts rfl rfl rfl]) | rw [hl _ _ rfl rfl rfl]
  exact Steps.refl _
theorem retR (X : Stand p l e R s m args below meth c T locs cells slots) (hx : p.tables.exec = Jvm.exec) {pc : Nat} {Ls : Array Slot} {v : Value} {rest : List Value} (hv : v.isRef = true) {ty : FieldType} (hret : meth.sig.returnType = some ty) (ht : ty.isReference = true) (hd : decode c.code pc = .ok (.areturn, 1)) {fs : List Frame}
    (hl : ∀ (f : JFrame) (acts : List Action), f.method = m → f.locked = none → f.entered = [] → (doReturn e (T.setTop f) acts (some v)).1 = T.setFrames fs) : Steps p.tables e below (T.setTop (mkF m pc Ls (v :: rest))) (T.setFrames fs) := by
  have hm' : T.vm.method? m = some meth := X.method'
  show Steps p.tables e below (T.setTop { method := m, pc := pc, locals := Ls, stack := _ :: rest, locked := none }) _
  jvm_step X.here [X.here.top, hx, hd, hm', hret, hv, ht]
  first | (intro acts; rw [hl _ acts rfl rfl rfl]) | rw [hl _ _ rfl rfl rfl]
  exact Steps.refl _
end New
end Jvm.RoadKit
namespace Jvm.Pilot.@@N@@
open Jvm Jvm.ClassFile Sem Op Lib Jvm.Free Jvm.Stand Jvm.LawKit Jvm.RoadKit Bundle Jvm.Pilot.@@N@@.Jvm.D
/-- from the state 'cur' on is enough -/
def own_Pre (p : Program) (e : Env) (below : List Frame) (start cur : State) : Prop := ∀ t, Steps p.tables e below cur t → Steps p.tables e below start t
/-- an array of ints (bytes, chars, booleans): its length z, its components ws (at least so many) -/
def own_AI (Z : State) (h : Heap) (a : Addr) (k : ClassId) (ty : FieldType) (z : Int32) (ws : List Int32) : Prop := Arv Z h a k ty z (ws.map Value.int) (.int 0) ∧ z.toNatClampNeg ≤ ws.length
def own_AJ (Z : State) (h : Heap) (a : Addr) (k : ClassId) (ty : FieldType) (z : Int32) (ws : List Int64) : Prop := Arv Z h a k ty z (ws.map Value.long) (.long 0) ∧ z.toNatClampNeg ≤ ws.length
section OwnA
variable {Z : State} {h h' : Heap} {a b : Addr} {k : ClassId} {ty : FieldType} {z : Int32} {ws : List Int32} {wl : List Int64} {sl : Nat} {v : Value} {L : List Addr}
theorem own_AI.lt (F : own_AI Z h a k ty z ws) : a < h.size := Arv.lt F.1
theorem own_AI.ext (F : own_AI Z h a k ty z ws) (E : Ext h h') : own_AI Z h' a k ty z ws := ⟨Arv.ext F.1 E, F.2⟩
theorem own_AI.other (F : own_AI Z h b k ty z ws) (W : Wr h h' a sl v) (q : b ≠ a) : own_AI Z h' b k ty z ws := ⟨Arv.other F.1 W q, F.2⟩
theorem own_AI.keep (F : own_AI Z h a k ty z ws) (K : Keep h h' L) (q : a ∉ L) : own_AI Z h' a k ty z ws := ⟨Arv.keep F.1 K q, F.2⟩
theorem own_AJ.lt (F : own_AJ Z h a k ty z wl) : a < h.size := Arv.lt F.1
theorem own_AJ.ext (F : own_AJ Z h a k ty z wl) (E : Ext h h') : own_AJ Z h' a k ty z wl := ⟨Arv.ext F.1 E, F.2⟩
theorem own_AJ.other (F : own_AJ Z h b k ty z wl) (W : Wr h h' a sl v) (q : b ≠ a) : own_AJ Z h' b k ty z wl := ⟨Arv.other F.1 W q, F.2⟩
theorem own_AJ.keep (F : own_AJ Z h a k ty z wl) (K : Keep h h' L) (q : a ∉ L) : own_AJ Z h' a k ty z wl := ⟨Arv.keep F.1 K q, F.2⟩
theorem own_AI.new (n : Nat) (A : Arr Z h a (newA k ty z) ty) (q : ¬ z < 0) (hn : z.toNatClampNeg ≤ n) (hd : defaultValue ty = .int 0) : own_AI Z h a k ty z (List.replicate n (0 : Int32)) := by
  have := Arv.new A q
  rw [hd] at this
  have r := this.pad (pad_rep [] (.int 0) n)
  exact ⟨by simpa [List.map_replicate] using r, by simpa using hn⟩
theorem own_AJ.new (n : Nat) (A : Arr Z h a (newA k ty z) ty) (q : ¬ z < 0) (hn : z.toNatClampNeg ≤ n) (hd : defaultValue ty = .long 0) : own_AJ Z h a k ty z (List.replicate n (0 : Int64)) := by
  have := Arv.new A q
  rw [hd] at this
  have r := this.pad (pad_rep [] (.long 0) n)
  exact ⟨by simpa [List.map_replicate] using r, by simpa using hn⟩
theorem own_getI (ws : List Int32) (i : Nat) : (ws.map Value.int).getD i (.int 0) = .int (ws.getD i 0) := by
  simp only [List.getD_eq_getElem?_getD, List.getElem?_map]
  cases ws[i]? <;> rfl
theorem own_getJ (ws : List Int64) (i : Nat) : (ws.map Value.long).getD i (.long 0) = .long (ws.getD i 0) := by
  simp only [List.getD_eq_getElem?_getD, List.getElem?_map]
  cases ws[i]? <;> rfl
theorem own_AI.at (F : own_AI Z h a k ty z ws) {j : Int32} (q : ¬ j < 0 ∧ j < z) : ∃ cl : Cell, Arr Z h a cl ty ∧ ¬ (j < 0 ∨ cl.slots.size ≤ j.toNatClampNeg) ∧ cl.slots[j.toNatClampNeg]? = some (.int (ws.getD j.toNatClampNeg 0)) := by
  obtain ⟨⟨cl, A, -, S, -, H, -⟩, -⟩ := F
  have hin := inb_of S q
  exact ⟨cl, A, hin, H.at hin (own_getI _ _)⟩
theorem own_AJ.at (F : own_AJ Z h a k ty z wl) {j : Int32} (q : ¬ j < 0 ∧ j < z) : ∃ cl : Cell, Arr Z h a cl ty ∧ ¬ (j < 0 ∨ cl.slots.size ≤ j.toNatClampNeg) ∧ cl.slots[j.toNatClampNeg]? = some (.long (wl.getD j.toNatClampNeg 0)) := by
  obtain ⟨⟨cl, A, -, S, -, H, -⟩, -⟩ := F
  have hin := inb_of S q
  exact ⟨cl, A, hin, H.at hin (own_getJ _ _)⟩
theorem own_AI.arr (F : own_AI Z h a k ty z ws) {j : Int32} (q : ¬ j < 0 ∧ j < z) : ∃ cl : Cell, Arr Z h a cl ty ∧ ¬ (j < 0 ∨ cl.slots.size ≤ j.toNatClampNeg) ∧ ∀ (h' : Heap) (x : Int32), fits ty (.int x) = true → Wr h h' a j.toNatClampNeg (.int x) → own_AI Z h' a k ty z (ws.set j.toNatClampNeg x) := by
  obtain ⟨⟨cl, A, q1, S, q3, H, G⟩, ln⟩ := F
  have hin := inb_of S q
  refine ⟨cl, A, hin, fun h' x hv W => ?_⟩
  have hl : j.toNatClampNeg < ws.length := by
    rcases Nat.lt_or_ge j.toNatClampNeg ws.length with u | u
    · exact u
    · exact absurd (Or.inr (by omega)) hin
  have := Arv.set A q1 S q3 H G hv W _ rfl (by simpa using hl)
  rw [← List.map_set] at this
  exact ⟨this, by simpa using ln⟩
theorem own_AJ.arr (F : own_AJ Z h a k ty z wl) {j : Int32} (q : ¬ j < 0 ∧ j < z) : ∃ cl : Cell, Arr Z h a cl ty ∧ ¬ (j < 0 ∨ cl.slots.size ≤ j.toNatClampNeg) ∧ ∀ (h' : Heap) (x : Int64), fits ty (.long x) = true → Wr h h' a j.toNatClampNeg (.long x) → own_AJ Z h' a k ty z (wl.set j.toNatClampNeg x) := by
  obtain ⟨⟨cl, A, q1, S, q3, H, G⟩, ln⟩ := F
  have hin := inb_of S q
  refine ⟨cl, A, hin, fun h' x hv W => ?_⟩
  have hl : j.toNatClampNeg < wl.length := by
    rcases Nat.lt_or_ge j.toNatClampNeg wl.length with u | u
    · exact u
    · exact absurd (Or.inr (by omega)) hin
  have := Arv.set A q1 S q3 H G hv W _ rfl (by simpa using hl)
  rw [← List.map_set] at this
  exact ⟨this, by simpa using ln⟩
theorem own_AI.len (F : own_AI Z h a k ty z ws) : ∃ cl : Cell, Arr Z h a cl ty ∧ cl.slots.size = z.toNatClampNeg ∧ ¬ z < 0 := by
  obtain ⟨⟨cl, A, -, S, q3, -, -⟩, -⟩ := F
  exact ⟨cl, A, S, q3⟩
theorem own_AJ.len (F : own_AJ Z h a k ty z wl) : ∃ cl : Cell, Arr Z h a cl ty ∧ cl.slots.size = z.toNatClampNeg ∧ ¬ z < 0 := by
  obtain ⟨⟨cl, A, -, S, q3, -, -⟩, -⟩ := F
  exact ⟨cl, A, S, q3⟩
end OwnA
/-- a private method selects itself, where another method of its class is known to be no interface's -/
theorem own_selp {s : State} {args : Array Value} {y z : MethodName} (hz : (Cond.selects z.cls z z).before args s = true) (hc : z.cls = y.cls) (hpriv : s.PrivateAt y) (hinst : (Cond.instanceMethod y).before args s = true) (hy : y.cls ≠ "java/lang/invoke/MethodHandle" ∧ y.cls ≠ "java/lang/invoke/VarHandle") : (Cond.selects y.cls y y).before args s = true := by
  obtain ⟨c2, r2, m2, -, -, q3, -, kP, hkP, hkPi⟩ := Cond.selects_spec hz
  have hf := findClass_of_methodNamed q3
  rw [hc] at hf
  exact selects_self_of_private hf hkP hkPi hpriv hinst hy
/-- what holds of every byte -/
theorem own_bytes {P : Int32 → Prop} (H : ∀ i : Fin 256, P (Int32.ofInt ((i.1 : Int) - 128))) (x : Int32) : P x.toInt8.toInt32 := by
  obtain ⟨-, h1, h2⟩ := c_i2b x
  have e : x.toInt8.toInt32 = Int32.ofInt (((⟨(x.toInt8.toInt32.toInt + 128).toNat, by omega⟩ : Fin 256).1 : Int) - 128) := by
    apply Int32.toInt_inj.mp
    show _ = (Int32.ofInt (((x.toInt8.toInt32.toInt + 128).toNat : Int) - 128)).toInt
    rw [Int32.toInt_ofInt_of_le (by omega) (by omega)]
    omega
  rw [e]
  exact H _

theorem own_w {α : Type} {l : List α} {a : α} (i : Nat) (h : l[i]? = some a) : a ∈ l := List.mem_of_getElem? h

theorem d1_0 : decode jdk_29_method_69_code 0 = .ok (.iload_n 0, 1) := by decide +kernel
theorem d1_1 : decode jdk_29_method_69_code 1 = .ok (.iload_n 1, 1) := by decide +kernel
theorem d1_2 : decode jdk_29_method_69_code 2 = .ok (.if_icmp .gt 7, 3) := by decide +kernel
theorem d1_5 : decode jdk_29_method_69_code 5 = .ok (.iload_n 0, 1) := by decide +kernel
theorem d1_6 : decode jdk_29_method_69_code 6 = .ok (.goto 4, 3) := by decide +kernel
theorem d1_9 : decode jdk_29_method_69_code 9 = .ok (.iload_n 1, 1) := by decide +kernel
theorem d1_10 : decode jdk_29_method_69_code 10 = .ok (.ireturn, 1) := by decide +kernel
theorem ef_1 (m : MethodId) (p0 : Int32) (p1 : Int32) : entryFrame m #[(.int p0), (.int p1)] 2 = mkF m 0 #[.val (.int p0), .val (.int p1)] [] := by first | (simp [entryFrame, mkF, argsToLocals, Value.category]; done) | rfl
def own_f1 (p0 : Int32) (p1 : Int32) : Int32 := (if p1 < p0 then p1 else p0)
def Q1 (Z : State) (p0 : Int32) (p1 : Int32) (h0 : Heap) (n0 : Nat) (v : Option Value) (h : Heap) (L : List Loc) : Prop := v = some (.int (own_f1 p0 p1)) ∧ Fr n0 L ∧ h = h0
set_option maxRecDepth 65536 in
set_option maxHeartbeats 40000000 in
theorem rm1 (l : Launch) (Z : State) (aw : Array Value) (hw : ∀ d ∈ tables_1, d.before aw Z = true) (wq : List Jvm.Cond) (p0 : Int32) (p1 : Int32) (h0 : Heap) (n0 : Nat) (Z0 : n0 ≤ h0.size) :
    MetFree l (⟨"java/lang/Math", "min", "(II)I"⟩ : MethodName) (head1 (Jvm.Cond.code (⟨"java/lang/Math", "min", "(II)I"⟩ : MethodName) jdk_29_method_69_code 2 (some .int) :: wq) ({ frames := 0, cells := 0, slots := 0, locals := 0 } : Room)) (fun a U => a = #[(.int p0), (.int p1)] ∧ Z.Warmed39 U.vm ∧ U.heap = h0) (fun _ _ _ _ _ => True) (fun _ U o U' => ∃ v L, o = .returned v ∧ Q1 Z p0 p1 h0 n0 v U'.heap L ∧ FrameEnd U o U' L ({ frames := 0, cells := 0, slots := 0, locals := 0 } : Room).cells ({ frames := 0, cells := 0, slots := 0, locals := 0 } : Room).slots) := by
  refine MetFree.of_bodySF (Jvm.Free.JP.mathPlain rfl (by decide +kernel)) hisR ?_
  intro p e s m args below meth c s₁ Bd hml0 hP hK
  obtain ⟨rfl, hZ, hh⟩ := hP
  have hx := Bd.exec
  have hby := Bd.bytes
  have hml : c.maxLocals = 2 := hml0
  have hown : s.vm.findClass "java/lang/Math" = some m.cls := findClass_of_methodNamed Bd.named
  have hnm := (name_of_methodNamed Bd.named Bd.method).1
  have X0 : Stand p l e ({ frames := 0, cells := 0, slots := 0, locals := 0 } : Room) s m #[(.int p0), (.int p1)] below meth c s₁ [] 0 0 := Stand.of_body Bd
  have e0 : s₁.heap = h0 := by rw [← hh, Bd.state]; rfl
  have N0 := Fr.nil n0
  have pre0 : own_Pre p e below (s₁.setTop (entryFrame m #[(.int p0), (.int p1)] 2)) (s₁.setTop (mkF m 0 #[.val (.int p0), .val (.int p1)] [])) := fun t k => castTop (ef_1 m p0 p1) k
  have pre1 : own_Pre p e below (s₁.setTop (entryFrame m #[(.int p0), (.int p1)] 2)) (s₁.setTop (mkF m 2 #[.val (.int p0), .val (.int p1)] [(.int p1), (.int p0)])) := fun t k => pre0 t (by
      show Steps p.tables e below (s₁.setTop (mkF m 0 #[.val (.int p0), .val (.int p1)] [])) _
      refine XS.iloadN X0.here hx rfl (hb hby d1_0) rfl ?_
      refine XS.iloadN X0.here hx rfl (hb hby d1_1) rfl ?_
      exact k)
  by_cases hc2 : p1 < p0
  · obtain ⟨fs, hr, hrun, hended, hW, hsame⟩ := X0.leave (v := some (.int p1)) (fun h => by rw [Bd.returns] at h; cases h)
    refine ⟨_, _, pre1 _ ?_, hrun, hended, _, _, rfl, ?_, ⟨_, rfl⟩, hW, hsame.mono (by decide) (by decide)⟩
    · show Steps p.tables e below (s₁.setTop (mkF m 2 #[.val (.int p0), .val (.int p1)] [(.int p1), (.int p0)])) _
      refine XS.icmpYes X0.here hx rfl (pc0 := 2) (pc' := 9) rfl (hb hby d1_2) rfl (tlt hc2).2.2.1 (by decide) (by decide) ?_
      refine XS.iloadN X0.here hx rfl (hb hby d1_9) rfl ?_
      show Steps p.tables e below (s₁.setTop (mkF m 10 #[.val (.int p0), .val (.int p1)] [(.int p1)])) _
      exact retI X0 hx Bd.returns (hb hby d1_10) hr
    · show Q1 Z p0 p1 h0 n0 _ s₁.heap _
      rw [e0]
      unfold Q1
      refine ⟨?_, N0, rfl⟩
      · simp only [own_f1, if_pos hc2]
  · obtain ⟨fs, hr, hrun, hended, hW, hsame⟩ := X0.leave (v := some (.int p0)) (fun h => by rw [Bd.returns] at h; cases h)
    refine ⟨_, _, pre1 _ ?_, hrun, hended, _, _, rfl, ?_, ⟨_, rfl⟩, hW, hsame.mono (by decide) (by decide)⟩
    · show Steps p.tables e below (s₁.setTop (mkF m 2 #[.val (.int p0), .val (.int p1)] [(.int p1), (.int p0)])) _
      refine XS.icmpNo X0.here hx rfl (hb hby d1_2) rfl (flt hc2).2.2.1 ?_
      refine XS.iloadN X0.here hx rfl (hb hby d1_5) rfl ?_
      refine XS.goto X0.here hx rfl (pc0 := 6) (pc' := 10) rfl (hb hby d1_6) (by decide) (by decide) ?_
      show Steps p.tables e below (s₁.setTop (mkF m 10 #[.val (.int p0), .val (.int p1)] [(.int p0)])) _
      exact retI X0 hx Bd.returns (hb hby d1_10) hr
    · show Q1 Z p0 p1 h0 n0 _ s₁.heap _
      rw [e0]
      unfold Q1
      refine ⟨?_, N0, rfl⟩
      · simp only [own_f1, if_neg hc2]
theorem own_ne {x b c : Addr} {n : Nat} (h : b = c ∨ n ≤ b) (hc : x ≠ c) (hl : x < n) : x ≠ b := by
  rcases h with h | h
  · rw [h]; exact hc
  · exact Nat.ne_of_lt (Nat.lt_of_lt_of_le hl h)
theorem own_AI.clone {Z : State} {h : Heap} {a : Addr} {k : ClassId} {z : Int32} {ws : List Int32} (F : own_AI Z h a k .int z ws) : ∃ cl : Cell, Arr Z h a cl .int ∧ FitC Z cl ∧ cl.slots.size = z.toNatClampNeg ∧ ∀ (h' : Heap) (b : Addr), Arr Z h' b (cloneOf cl) .int → own_AI Z h' b k .int z ws := by
  obtain ⟨⟨c, A, q1, S, q3, H, G⟩, L⟩ := F
  refine ⟨c, A, fun i v hv => ?_, S, fun h' b B => ⟨⟨cloneOf c, B, q1, S, q3, H, G⟩, L⟩⟩
  have hi := (Array.getElem?_eq_some_iff.mp hv).1
  have e := H i hi
  rw [hv, own_getI] at e
  cases e
  obtain ⟨hs, kk, hk, comp, hkind⟩ := A.2.1
  simp [State.fitsSlot, State.slotType?, hk, hkind, fits]
theorem own_AI.nn {Z : State} {h : Heap} {a : Addr} {k : ClassId} {ty : FieldType} {z : Int32} {ws : List Int32} (F : own_AI Z h a k ty z ws) : ¬ z < 0 := by obtain ⟨⟨_, _, _, _, q, _⟩, _⟩ := F; exact q
/-- what Arrays.copyOf lays -/
def own_cp (ws : List Int32) (z n : Int32) : List Int32 := (List.range n.toNatClampNeg).map fun i => if i < z.toNatClampNeg then ws.getD i 0 else 0
theorem own_cp_len (ws : List Int32) (z n : Int32) : (own_cp ws z n).length = n.toNatClampNeg := by simp [own_cp]
theorem own_cp_get (ws : List Int32) (z n : Int32) (i : Nat) : (own_cp ws z n).getD i 0 = if i < n.toNatClampNeg ∧ i < z.toNatClampNeg then ws.getD i 0 else 0 := by
  rw [List.getD_eq_getElem?_getD, own_cp, List.getElem?_map]
  by_cases h : i < n.toNatClampNeg
  · rw [List.getElem?_range h]
    by_cases h2 : i < z.toNatClampNeg
    · simp [h, h2]
    · simp [h2]
  · rw [List.getElem?_eq_none (by simpa using h)]
    simp [h]
theorem own_cpV {Z : State} {h : Heap} {b : Addr} {k : ClassId} {z p mn : Int32} {ws : List Int32} {n : Nat} (V : Arv Z h b k .int p (((List.replicate n (0 : Int32)).map Value.int).take (0 : Int32).toNatClampNeg ++ ((List.range mn.toNatClampNeg).map fun i => (ws.map Value.int).getD ((0 : Int32).toNatClampNeg + i) (.int 0)) ++ ((List.replicate n (0 : Int32)).map Value.int).drop ((0 : Int32).toNatClampNeg + mn.toNatClampNeg)) (.int 0))
    (hm : mn.toNatClampNeg = min z.toNatClampNeg p.toNatClampNeg) : own_AI Z h b k .int p (own_cp ws z p) := by
  refine ⟨V.pad fun i => ?_, by rw [own_cp_len]; exact Nat.le_refl _⟩
  have h0 : (0 : Int32).toNatClampNeg = 0 := by decide
  rw [own_getI, own_cp_get, h0, List.take_zero, List.nil_append, Nat.zero_add]
  by_cases hi : i < mn.toNatClampNeg
  · rw [if_pos (by omega)]
    conv => rhs; rw [List.getD_eq_getElem?_getD, List.getElem?_append_left (by simpa using hi), List.getElem?_map, List.getElem?_range hi]
    simp only [Option.map_some, Option.getD_some]
    rw [Nat.zero_add, own_getI]
  · rw [if_neg (by omega)]
    conv => rhs; rw [List.getD_eq_getElem?_getD, List.getElem?_append_right (by simpa using Nat.le_of_not_lt hi), List.getElem?_drop, List.getElem?_map, List.getElem?_replicate]
    split <;> rfl
theorem own_cpE {Z : State} {h : Heap} {a : Addr} {k : ClassId} {z p : Int32} {ws : List Int32} (F : own_AI Z h a k .int z ws) (e : p = z) : own_AI Z h a k .int p (own_cp ws z p) := by
  subst e
  obtain ⟨⟨c, A, q1, S, q3, H, G⟩, L⟩ := F
  have key : ∀ i, i < c.slots.size → ((own_cp ws p p).map Value.int).getD i (.int 0) = (ws.map Value.int).getD i (.int 0) := fun i hi => by
    rw [own_getI, own_getI, own_cp_get, if_pos (by omega)]
  exact ⟨⟨c, A, q1, S, q3, fun i hi => by rw [key i hi]; exact H i hi, fun i hi => by rw [key i hi]; exact G i hi⟩, by rw [own_cp_len]; exact Nat.le_refl _⟩
theorem own_tn {x : Int32} (h : ¬ x < (0 : Int32)) : (x.toNatClampNeg : Int) = x.toInt := by
  rw [Int32.lt_iff_toInt_lt] at h; have : (0 : Int32).toInt = 0 := rfl
  simp only [Int32.toNatClampNeg]; omega
theorem own_le9 {p : Int32} (hn : ¬ p < (0 : Int32) ∧ p < (10 : Int32)) : p.toNatClampNeg ≤ 9 := by
  have a := own_tn hn.1; have b := hn.2
  rw [Int32.lt_iff_toInt_lt] at b; have : (10 : Int32).toInt = 10 := rfl
  omega
theorem own_cap {z p : Int32} (e : p = z) (hn : ¬ p < (0 : Int32) ∧ p < (10 : Int32)) : z.toNatClampNeg ≤ 9 := by subst e; exact own_le9 hn
theorem own_mn {Z : State} {h : Heap} {a : Addr} {k : ClassId} {z p : Int32} {ws : List Int32} (F : own_AI Z h a k .int z ws) (hn : ¬ p < (0 : Int32) ∧ p < (10 : Int32)) :
    ¬ own_f1 z p < 0 ∧ (0 : Int32).toNatClampNeg + (own_f1 z p).toNatClampNeg ≤ z.toNatClampNeg ∧ (0 : Int32).toNatClampNeg + (own_f1 z p).toNatClampNeg ≤ p.toNatClampNeg ∧ (0 : Int32).toNatClampNeg + (own_f1 z p).toNatClampNeg ≤ ((List.replicate 9 (0 : Int32)).map Value.int).length ∧ (own_f1 z p).toNatClampNeg = min z.toNatClampNeg p.toNatClampNeg := by
  have hz := F.nn
  have a := own_tn hz
  have b := own_tn hn.1
  have c := own_le9 hn
  have h0 : (0 : Int32).toNatClampNeg = 0 := by decide
  rw [h0, List.length_map, List.length_replicate]
  unfold own_f1
  by_cases k : p < z
  · rw [if_pos k]; rw [Int32.lt_iff_toInt_lt] at k; exact ⟨hn.1, by omega, by omega, by omega, by omega⟩
  · rw [if_neg k]; rw [Int32.lt_iff_toInt_lt] at k; exact ⟨hz, by omega, by omega, by omega, by omega⟩
/-- the builder ahead of an add -/
def own_I (sz zd zs zp : Int32) (ld ls lp : List Int32) : Prop := 0 ≤ sz.toInt ∧ sz.toInt ≤ 4 ∧ (zd.toInt = 2 ∨ zd.toInt = 4 ∨ zd.toInt = 8) ∧ zs.toInt = zd.toInt + 1 ∧ sz.toInt ≤ zd.toInt ∧ (zp.toInt = 4 ∨ zp.toInt = 8) ∧ 0 ≤ (ls.getD sz.toNatClampNeg 0).toInt ∧ (ls.getD sz.toNatClampNeg 0).toInt ≤ 4 ∧ zd.toNatClampNeg ≤ ld.length ∧ zs.toNatClampNeg ≤ ls.length ∧ zp.toNatClampNeg ≤ lp.length
theorem own_ty (x y : Int32) : (x < y ↔ x.toInt < y.toInt) ∧ (x = y ↔ x.toInt = y.toInt) := ⟨Int32.lt_iff_toInt_lt, Int32.toInt_inj.symm⟩
section
variable {sz zd zs zp d x : Int32} {ld ls lp : List Int32}
theorem own_arith (hI : own_I sz zd zs zp ld ls lp) : (sz - 1).toInt = sz.toInt - 1 ∧ (sz + 1).toInt = sz.toInt + 1 ∧ (sz * 2).toInt = sz.toInt * 2 ∧ (sz * 2 + 1).toInt = sz.toInt * 2 + 1 ∧ (0 : Int32).toInt = 0 ∧ (10 : Int32).toInt = 10 ∧ (2 : Int32).toInt = 2 ∧ (1 : Int32).toInt = 1 := by
  obtain ⟨i1, i2, -⟩ := hI
  have e1 : (1 : Int32).toInt = 1 := rfl
  have e2 : (2 : Int32).toInt = 2 := rfl
  have a := c_isub sz 1; have a' := rng32 (sz - 1)
  have b := c_iadd sz 1; have b' := rng32 (sz + 1)
  have c := c_imul sz 2; have c' := rng32 (sz * 2)
  have d := c_iadd (sz * 2) 1; have d' := rng32 (sz * 2 + 1)
  rw [e2] at c
  refine ⟨by omega, by omega, by omega, by omega, rfl, rfl, rfl, rfl⟩
theorem own_i17 (hI : own_I sz zd zs zp ld ls lp) (h : ¬ sz = (0 : Int32)) : ¬ (sz - 1) < (0 : Int32) ∧ (sz - 1) < zd := by
  obtain ⟨a1, a2, a3, a4, a5, -⟩ := own_arith hI; obtain ⟨i1, i2, i3, i4, i5, -⟩ := hI
  rw [(own_ty _ _).2] at h; rw [(own_ty _ _).1, (own_ty _ _).1]; omega
theorem own_i33 (hI : own_I sz zd zs zp ld ls lp) (h : sz = (0 : Int32)) : ¬ (sz + 1) = zs := by
  obtain ⟨a1, a2, a3, a4, a5, -⟩ := own_arith hI; obtain ⟨i1, i2, i3, i4, i5, -⟩ := hI
  rw [(own_ty _ _).2] at h; rw [(own_ty _ _).2]; omega
theorem own_i81 (hI : own_I sz zd zs zp ld ls lp) (h : ¬ (sz + 1) = zs) : ¬ sz < (0 : Int32) ∧ sz < zd := by
  obtain ⟨a1, a2, a3, a4, a5, -⟩ := own_arith hI; obtain ⟨i1, i2, i3, i4, i5, -⟩ := hI
  rw [(own_ty _ _).2] at h; rw [(own_ty _ _).1, (own_ty _ _).1]; omega
theorem own_i100 (hI : own_I sz zd zs zp ld ls lp) : ¬ sz < (0 : Int32) ∧ sz < zs := by
  obtain ⟨a1, a2, a3, a4, a5, -⟩ := own_arith hI; obtain ⟨i1, i2, i3, i4, i5, -⟩ := hI
  rw [(own_ty _ _).1, (own_ty _ _).1]; omega
theorem own_i101 (hI : own_I sz zd zs zp ld ls lp) (h : ¬ (sz + 1) = zs) : ¬ (sz + 1) < (0 : Int32) ∧ (sz + 1) < zs := by
  obtain ⟨a1, a2, a3, a4, a5, -⟩ := own_arith hI; obtain ⟨i1, i2, i3, i4, i5, -⟩ := hI
  rw [(own_ty _ _).2] at h; rw [(own_ty _ _).1, (own_ty _ _).1]; omega
theorem own_g (hI : own_I sz zd zs zp ld ls lp) (h : (sz + 1) = zs) : (¬ (sz * 2) < (0 : Int32) ∧ (sz * 2) < (10 : Int32)) ∧ (¬ (sz * 2 + 1) < (0 : Int32) ∧ (sz * 2 + 1) < (10 : Int32)) ∧ (¬ sz < (0 : Int32) ∧ sz < (sz * 2)) ∧ (¬ sz < (0 : Int32) ∧ sz < (sz * 2 + 1)) ∧ (¬ (sz + 1) < (0 : Int32) ∧ (sz + 1) < (sz * 2 + 1)) := by
  obtain ⟨a1, a2, a3, a4, a5, a6, a7, a8⟩ := own_arith hI; obtain ⟨i1, i2, i3, i4, i5, -⟩ := hI
  rw [(own_ty _ _).2] at h; simp only [(own_ty _ _).1]; omega
theorem own_sets (l : List Int32) (i : Nat) (v : Int32) (h : i < l.length) : (l.set i v).getD i 0 = v := by
  rw [List.getD_eq_getElem?_getD, List.getElem?_set_self h]; rfl
theorem own_seto (l : List Int32) (i j : Nat) (v : Int32) (h : i ≠ j) : (l.set i v).getD j 0 = l.getD j 0 := by
  rw [List.getD_eq_getElem?_getD, List.getElem?_set_ne h, List.getD_eq_getElem?_getD]
theorem own_tn2 {y : Int32} (h : 0 ≤ y.toInt) : (y.toNatClampNeg : Int) = y.toInt := by simp only [Int32.toNatClampNeg]; omega
theorem own_xN (hI : own_I sz zd zs zp ld ls lp) (h : ¬ (sz + 1) = zs) : (ls.set (sz + 1).toNatClampNeg (ls.getD sz.toNatClampNeg 0)).getD (sz + 1).toNatClampNeg 0 = ls.getD sz.toNatClampNeg 0 := by
  apply own_sets
  have b := own_i101 hI h
  obtain ⟨a1, a2, a3, a4, a5, -⟩ := own_arith hI; obtain ⟨i1, i2, i3, i4, i5, i6, i7, i8, i9, i10, i11⟩ := hI
  rw [(own_ty _ _).1, (own_ty _ _).1] at b
  have t1 := own_tn2 (y := sz + 1) (by omega); have t2 := own_tn2 (y := zs) (by omega)
  omega
theorem own_xG (hI : own_I sz zd zs zp ld ls lp) (h : (sz + 1) = zs) : ((own_cp ls zs (sz * 2 + 1)).set (sz + 1).toNatClampNeg ((own_cp ls zs (sz * 2 + 1)).getD sz.toNatClampNeg 0)).getD (sz + 1).toNatClampNeg 0 = ls.getD sz.toNatClampNeg 0 := by
  have b := (own_g hI h).2.2.2
  obtain ⟨a1, a2, a3, a4, a5, a6, a7, a8⟩ := own_arith hI; obtain ⟨i1, i2, i3, i4, i5, i6, i7, i8, i9, i10, i11⟩ := hI
  simp only [(own_ty _ _).1] at b; rw [(own_ty _ _).2] at h
  have t1 := own_tn2 (y := sz + 1) (by omega); have t2 := own_tn2 (y := zs) (by omega); have t3 := own_tn2 (y := sz) (by omega); have t4 := own_tn2 (y := sz * 2 + 1) (by omega)
  rw [own_sets _ _ _ (by rw [own_cp_len]; omega), own_cp_get, if_pos (by omega)]
theorem own_eb (hI : own_I sz zd zs zp ld ls lp) (h : x = ls.getD sz.toNatClampNeg 0) : 0 ≤ x.toInt ∧ x.toInt ≤ 4 := by
  obtain ⟨i1, i2, i3, i4, i5, i6, i7, i8, -⟩ := hI
  rw [h]; exact ⟨i7, i8⟩
theorem own_x2 (h : 0 ≤ x.toInt ∧ x.toInt ≤ 4) : (x * 2).toInt = x.toInt * 2 ∧ (x + 1).toInt = x.toInt + 1 := by
  have e1 : (1 : Int32).toInt = 1 := rfl
  have e2 : (2 : Int32).toInt = 2 := rfl
  have c := c_imul x 2; have c' := rng32 (x * 2); rw [e2] at c
  have b := c_iadd x 1; have b' := rng32 (x + 1)
  omega
theorem own_i139 (h : 0 ≤ x.toInt ∧ x.toInt ≤ 4) : ¬ (x * 2) < (0 : Int32) ∧ (x * 2) < (10 : Int32) := by
  have a := own_x2 h
  rw [(own_ty _ _).1, (own_ty _ _).1]; have : (10 : Int32).toInt = 10 := rfl; have : (0 : Int32).toInt = 0 := rfl; omega
theorem own_i151 (hI : own_I sz zd zs zp ld ls lp) (h : 0 ≤ x.toInt ∧ x.toInt ≤ 4) (n : ¬ x = zp) : ¬ x < (0 : Int32) ∧ x < zp := by
  obtain ⟨i1, i2, i3, i4, i5, i6, -⟩ := hI
  rw [(own_ty _ _).2] at n; rw [(own_ty _ _).1, (own_ty _ _).1]; have : (0 : Int32).toInt = 0 := rfl; omega
theorem own_i151g (hI : own_I sz zd zs zp ld ls lp) (h : 0 ≤ x.toInt ∧ x.toInt ≤ 4) (n : x = zp) : ¬ x < (0 : Int32) ∧ x < (x * 2) := by
  obtain ⟨i1, i2, i3, i4, i5, i6, -⟩ := hI
  have a := own_x2 h
  rw [(own_ty _ _).2] at n; rw [(own_ty _ _).1, (own_ty _ _).1]; have : (0 : Int32).toInt = 0 := rfl; omega
end
/-- the turn of a step -/
def own_T (p : Int32) : Prop := 1 ≤ p.toInt ∧ p.toInt ≤ 4
theorem own_T1 : own_T 1 := by unfold own_T; decide
theorem own_T2 : own_T 2 := by unfold own_T; decide
theorem own_T3 : own_T 3 := by unfold own_T; decide
theorem own_T4 : own_T 4 := by unfold own_T; decide
theorem own_t {p : Int32} (h : own_T p) : (¬ p < (0 : Int32) ∧ p < (5 : Int32)) ∧ (¬ (p - 1) < (0 : Int32) ∧ (p - 1) < (5 : Int32)) := by
  obtain ⟨h1, h2⟩ := h
  have e1 : (1 : Int32).toInt = 1 := rfl
  have e0 : (0 : Int32).toInt = 0 := rfl
  have e5 : (5 : Int32).toInt = 5 := rfl
  have a := c_isub p 1; have a' := rng32 (p - 1)
  simp only [(own_ty _ _).1]; omega
/-- the builder ahead of build -/
def own_J (sz zd zs zp : Int32) (ld ls lp : List Int32) : Prop := 0 ≤ sz.toInt ∧ sz.toInt ≤ 5 ∧ zs.toInt = zd.toInt + 1 ∧ sz.toInt ≤ zd.toInt ∧ zd.toInt ≤ 8 ∧ (ls.getD sz.toNatClampNeg 0).toInt = 5
theorem own_j {sz zd zs zp : Int32} {ld ls lp : List Int32} (h : own_J sz zd zs zp ld ls lp) : (¬ sz < (0 : Int32) ∧ sz < zs) ∧ (¬ sz < (0 : Int32) ∧ sz < (10 : Int32)) ∧ (¬ (sz + 1) < (0 : Int32) ∧ (sz + 1) < (10 : Int32)) ∧ (¬ (ls.getD (sz).toNatClampNeg (0 : Int32)) < (0 : Int32) ∧ (ls.getD (sz).toNatClampNeg (0 : Int32)) < (10 : Int32)) := by
  obtain ⟨h1, h2, h3, h4, h5, h6⟩ := h
  have e1 : (1 : Int32).toInt = 1 := rfl
  have e0 : (0 : Int32).toInt = 0 := rfl
  have e10 : (10 : Int32).toInt = 10 := rfl
  have a := c_iadd sz 1; have a' := rng32 (sz + 1)
  simp only [(own_ty _ _).1]; omega
theorem d6_0 : decode jdk_65_method_123_code 0 = .ok (.iload_n 1, 1) := by decide +kernel
theorem d6_1 : decode jdk_65_method_123_code 1 = .ok (.aload_n 0, 1) := by decide +kernel
theorem d6_2 : decode jdk_65_method_123_code 2 = .ok (.arraylength, 1) := by decide +kernel
theorem d6_3 : decode jdk_65_method_123_code 3 = .ok (.if_icmp .ne 11, 3) := by decide +kernel
theorem d6_6 : decode jdk_65_method_123_code 6 = .ok (.aload_n 0, 1) := by decide +kernel
theorem d6_7 : decode jdk_65_method_123_code 7 = .ok (.invokevirtual 316, 3) := by decide +kernel
theorem d6_10 : decode jdk_65_method_123_code 10 = .ok (.checkcast 317, 3) := by decide +kernel
theorem d6_13 : decode jdk_65_method_123_code 13 = .ok (.areturn, 1) := by decide +kernel
theorem d6_14 : decode jdk_65_method_123_code 14 = .ok (.iload_n 1, 1) := by decide +kernel
theorem d6_15 : decode jdk_65_method_123_code 15 = .ok (.newarray .int, 2) := by decide +kernel
theorem d6_17 : decode jdk_65_method_123_code 17 = .ok (.astore_n 2, 1) := by decide +kernel
theorem d6_18 : decode jdk_65_method_123_code 18 = .ok (.aload_n 0, 1) := by decide +kernel
theorem d6_19 : decode jdk_65_method_123_code 19 = .ok (.iconst 0, 1) := by decide +kernel
theorem d6_20 : decode jdk_65_method_123_code 20 = .ok (.aload_n 2, 1) := by decide +kernel
theorem d6_21 : decode jdk_65_method_123_code 21 = .ok (.iconst 0, 1) := by decide +kernel
theorem d6_22 : decode jdk_65_method_123_code 22 = .ok (.aload_n 0, 1) := by decide +kernel
theorem d6_23 : decode jdk_65_method_123_code 23 = .ok (.arraylength, 1) := by decide +kernel
theorem d6_24 : decode jdk_65_method_123_code 24 = .ok (.iload_n 1, 1) := by decide +kernel
theorem d6_25 : decode jdk_65_method_123_code 25 = .ok (.invokestatic 304, 3) := by decide +kernel
theorem d6_28 : decode jdk_65_method_123_code 28 = .ok (.invokestatic 150, 3) := by decide +kernel
theorem d6_31 : decode jdk_65_method_123_code 31 = .ok (.aload_n 2, 1) := by decide +kernel
theorem d6_32 : decode jdk_65_method_123_code 32 = .ok (.areturn, 1) := by decide +kernel
theorem pd_0 : parseMethodDescriptor "(II)I" = some ⟨[.int, .int], some .int⟩ := by decide +kernel
theorem pn_0 : plainName "java/util/Arrays" = true := by first | (simp [plainName, overriddenIn]; done) | decide +kernel
theorem ef_6 (m : MethodId) (a0 : Addr) (p1 : Int32) : entryFrame m #[(.ref a0), (.int p1)] 3 = mkF m 0 #[.val (.ref a0), .val (.int p1), .unset] [] := by first | (simp [entryFrame, mkF, argsToLocals, Value.category]; done) | rfl
def Q6 (Z : State) (a0 : Addr) (p1 : Int32) (kk : ClassId) (zz : Int32) (ww : List Int32) (h0 : Heap) (n0 : Nat) (v : Option Value) (h : Heap) (L : List Loc) : Prop := ∃ (rb : Addr) (kb : ClassId), v = some (.ref rb) ∧ Fr n0 L ∧ Keep h0 h [] ∧ h0.size ≤ rb ∧ Exa Z h rb "[I" ∧ own_AI Z h rb kb .int p1 (own_cp ww zz p1)
set_option maxRecDepth 65536 in
set_option maxHeartbeats 40000000 in
theorem rm6 (l : Launch) (Z : State) (aw : Array Value) (hw : ∀ d ∈ tables_1, d.before aw Z = true) (wq : List Jvm.Cond) (a0 : Addr) (p1 : Int32) (kk : ClassId) (zz : Int32) (ww : List Int32) (h0 : Heap) (n0 : Nat) (Z0 : n0 ≤ h0.size) (E_a0 : Exa Z h0 a0 "[I") (V_a0 : own_AI Z h0 a0 kk .int zz ww) (hn : ¬ p1 < (0 : Int32) ∧ p1 < (10 : Int32)) :
    MetFree l (⟨"java/util/Arrays", "copyOf", "([II)[I"⟩ : MethodName) (head1 (Jvm.Cond.code (⟨"java/util/Arrays", "copyOf", "([II)[I"⟩ : MethodName) jdk_65_method_123_code 3 (some (.array .int)) :: wq) ({ frames := 1, cells := 1, slots := 9, locals := 40 } : Room)) (fun a U => a = #[(.ref a0), (.int p1)] ∧ Z.Warmed39 U.vm ∧ U.heap = h0) (fun _ _ _ _ _ => True) (fun _ U o U' => ∃ v L, o = .returned v ∧ Q6 Z a0 p1 kk zz ww h0 n0 v U'.heap L ∧ FrameEnd U o U' L ({ frames := 1, cells := 1, slots := 9, locals := 40 } : Room).cells ({ frames := 1, cells := 1, slots := 9, locals := 40 } : Room).slots) := by
  refine MetFree.of_bodySF (plainFor_of_name pn_0) hisR ?_
  intro p e s m args below meth c s₁ Bd hml0 hP hK
  obtain ⟨rfl, hZ, hh⟩ := hP
  have hx := Bd.exec
  have hby := Bd.bytes
  have hml : c.maxLocals = 3 := hml0
  have hown : s.vm.findClass "java/util/Arrays" = some m.cls := findClass_of_methodNamed Bd.named
  have hnm := (name_of_methodNamed Bd.named Bd.method).1
  have X0 : Stand p l e ({ frames := 1, cells := 1, slots := 9, locals := 40 } : Room) s m #[(.ref a0), (.int p1)] below meth c s₁ [] 0 0 := Stand.of_body Bd
  have e0 : s₁.heap = h0 := by rw [← hh, Bd.state]; rfl
  have N0 := Fr.nil n0
  have pre0 : own_Pre p e below (s₁.setTop (entryFrame m #[(.ref a0), (.int p1)] 3)) (s₁.setTop (mkF m 0 #[.val (.ref a0), .val (.int p1), .unset] [])) := fun t k => castTop (ef_6 m a0 p1) k
  obtain ⟨cl1, Ar1, S1, M1⟩ := V_a0.len
  have pre2 : own_Pre p e below (s₁.setTop (entryFrame m #[(.ref a0), (.int p1)] 3)) (s₁.setTop (mkF m 3 #[.val (.ref a0), .val (.int p1), .unset] [(.int zz), (.int p1)])) := fun t k => pre0 t (by
      show Steps p.tables e below (s₁.setTop (mkF m 0 #[.val (.ref a0), .val (.int p1), .unset] [])) _
      refine XS.iloadN X0.here hx rfl (hb hby d6_0) rfl ?_
      refine XS.aloadN X0.here hx rfl (hb hby d6_1) rfl rfl ?_
      refine X0.arraylength hx (by rw [e0]; exact Ar1.1) (State.isArrayOf_alike hZ.alike Ar1.2.1) (g := (mkF m 2 #[.val (.ref a0), .val (.int p1), .unset] [(.ref a0), (.int p1)])) rfl rfl (hb hby d6_2) _ ?_
      rw [len_of S1 M1]
      exact k)
  by_cases hc3 : p1 = zz
  · obtain ⟨cl3, Ar3, Fc3, Sz3, Bk3⟩ := own_AI.clone V_a0
    obtain ⟨T3, h3, X3, e3, E3, A3, Ex3, st3⟩ := cloneA X0 hx hZ hown (hw _ (own_w 83 rfl)) (hw _ (own_w 84 rfl)) (hw _ (own_w 88 rfl)) (hw _ (own_w 86 rfl)) (hw _ (own_w 87 rfl)) (hw _ (own_w 89 rfl)) e0 Ar3 E_a0 Fc3 (g := (mkF m 7 #[.val (.ref a0), .val (.int p1), .unset] [(.ref a0)])) rfl (by rw [hml]; rfl) rfl (hb hby d6_7) (by decide) (W := 0) (by show 2 * 0 + _ ≤ _; exact Nat.le_of_eq rfl) (by decide) (cap := 9) (by rw [Sz3]; exact (own_cap hc3 hn)) (by decide) (by decide)
    obtain ⟨rb, gq3⟩ : ∃ z, z = (h0).size := ⟨_, rfl⟩
    rw [← gq3] at A3 st3 Ex3
    have ne_a0_rb : a0 ≠ rb := Nat.ne_of_lt (Nat.lt_of_lt_of_le E_a0.lt (Nat.le_of_eq gq3.symm))
    have g_rb : n0 ≤ rb := Nat.le_trans Z0 (Nat.le_of_eq gq3.symm)
    have sz_rb : h0.size ≤ rb := Nat.le_trans (Keep.refl h0 []).1 (Nat.le_of_eq gq3.symm)
    have kp4 : Keep h0 h3 [] := (Keep.refl h0 []).ext E3
    have V3 : own_AI Z h3 rb kk .int zz ww := Bk3 _ _ A3
    obtain ⟨T5, X5, e5, st5⟩ := castY X3 hx hZ hown (hw _ (own_w 90 rfl)) e3 (Ins.self Ex3) (g := (mkF m 10 #[.val (.ref a0), .val (.int p1), .unset] [(.ref rb)])) rfl rfl (hb hby d6_10)
    obtain ⟨fs, hr, hrun, hended, hW, hsame⟩ := X5.leave (v := some (.ref rb)) (fun h => by rw [Bd.returns] at h; cases h)
    refine ⟨_, _, pre2 _ ?_, hrun, hended, _, _, rfl, ?_, ⟨_, rfl⟩, hW, hsame.mono (by decide) (by decide)⟩
    · show Steps p.tables e below (s₁.setTop (mkF m 3 #[.val (.ref a0), .val (.int p1), .unset] [(.int zz), (.int p1)])) _
      refine XS.icmpNo X0.here hx rfl (hb hby d6_3) rfl (teq hc3).2 ?_
      refine XS.aloadN X0.here hx rfl (hb hby d6_6) rfl rfl ?_
      refine st3 _ ?_
      refine st5 _ ?_
      show Steps p.tables e below (T5.setTop (mkF m 13 #[.val (.ref a0), .val (.int p1), .unset] [(.ref rb)])) _
      exact retR X5 hx (v := (.ref rb)) rfl Bd.returns rfl (hb hby d6_13) hr
    · show Q6 Z a0 p1 kk zz ww h0 n0 _ T5.heap _
      rw [e5]
      unfold Q6
      refine ⟨rb, kk, rfl, N0, kp4, sz_rb, Ex3, ?_⟩
      · exact own_cpE V3 hc3
  · obtain ⟨T6, h6, k6, X6, e6, E6, A6, Ex6, st6⟩ := newPE X0 hx hZ (hw _ (own_w 0 rfl)) e0 (g := (mkF m 15 #[.val (.ref a0), .val (.int p1), .unset] [(.int p1)])) rfl (hb hby d6_15) rfl hn.1 (cap := 9) (own_le9 hn) (by decide) (by decide) (by decide) (ad := "[I") (by decide)
    obtain ⟨rb, gq6⟩ : ∃ z, z = (h0).size := ⟨_, rfl⟩
    rw [← gq6] at A6 st6 Ex6
    have ne_a0_rb : a0 ≠ rb := Nat.ne_of_lt (Nat.lt_of_lt_of_le E_a0.lt (Nat.le_of_eq gq6.symm))
    have g_rb : n0 ≤ rb := Nat.le_trans Z0 (Nat.le_of_eq gq6.symm)
    have sz_rb : h0.size ≤ rb := Nat.le_trans (Keep.refl h0 []).1 (Nat.le_of_eq gq6.symm)
    have kp7 : Keep h0 h6 [] := (Keep.refl h0 []).ext E6
    have V_rb : own_AI Z h6 rb k6 .int p1 (List.replicate 9 (0 : Int32)) := own_AI.new 9 A6 hn.1 (own_le9 hn) rfl
    have f8 := (V_a0.ext E6)
    obtain ⟨cl9, Ar9, S9, M9⟩ := f8.len
    have z11 : n0 ≤ (h6).size := (Nat.le_trans Z0 E6.1)
    obtain ⟨_, _, ⟨T10, L10, k10, n10⟩, -, X10, ⟨Lc10, hQ10, l10, y10, z10⟩, st10⟩ := Jvm.LawKit.callS X6 hx (y := (⟨"java/lang/Math", "min", "(II)I"⟩ : MethodName)) hown (mvT hZ (hw _ (own_w 38 rfl))) (mvT hZ (hw _ (own_w 5 rfl))) (mvT hZ (hw _ (own_w 6 rfl))) (mvT hZ (hw _ (own_w 7 rfl))) (by decide) (backOf (W := 4) (rm1 l Z aw hw [] (zz) (p1) (h6) n0 z11) hZ (hw _ (own_w 7 rfl)) (hw _ (own_w 6 rfl)) (by decide) (by decide)) (g := (mkF m 25 #[.val (.ref a0), .val (.int p1), .val (.ref rb)] [(.int p1), (.int zz), (.int (0 : Int32)), (.ref rb), (.int (0 : Int32)), (.ref a0)])) rfl (by rw [hml]; rfl) (argsL := [(.int zz), (.int p1)]) (rest := [(.int (0 : Int32)), (.ref rb), (.int (0 : Int32)), (.ref a0)]) (lenOf pd_0 rfl) rfl (by show 2 * 0 + _ ≤ _; exact Nat.le_of_eq rfl) (hb hby d6_25) (fun _ _ => ⟨rfl, e6, (by decide : 1 + 0 ≤ _), (by decide : 9 + 0 ≤ _)⟩)
    dsimp only [Pt.U, Pt.locs, Pt.cells, Pt.slots] at X10 l10 y10 z10 st10 hQ10
    subst l10 y10 z10
    obtain ⟨rfl, Nq10, eq10⟩ := hQ10
    have N10 := Fr.app N0 Nq10
    obtain ⟨T12, h12, L12, X12, e12, N12, K12, Va12, st12⟩ := cpA X10 hx hZ hown (hw _ (own_w 39 rfl)) (hw _ (own_w 42 rfl)) (hw _ (own_w 40 rfl)) (hw _ (own_w 41 rfl)) eq10 f8.1 V_rb.1 (Or.inl ⟨rfl, rfl⟩) (sp := (0 : Int32)) (dp := (0 : Int32)) (by decide) (by decide) (own_mn V_a0 hn).1 (own_mn V_a0 hn).2.1 (own_mn V_a0 hn).2.2.1 rfl (own_mn V_a0 hn).2.2.2.1 N10 g_rb (g := (mkF m 28 #[.val (.ref a0), .val (.int p1), .val (.ref rb)] [(.int (own_f1 zz p1)), (.int (0 : Int32)), (.ref rb), (.int (0 : Int32)), (.ref a0)])) rfl (by rw [hml]; rfl) rfl (hb hby d6_28) (by decide) (W := 0) (by show 2 * 0 + _ ≤ _; exact Nat.le_of_eq rfl) (by decide)
    have kp13 : Keep h0 h12 [] := kp7.trans K12 (allS (Or.inr sz_rb) all0)
    have V12 : own_AI Z h12 rb k6 .int p1 (own_cp ww zz p1) := own_cpV Va12 (own_mn V_a0 hn).2.2.2.2
    obtain ⟨fs, hr, hrun, hended, hW, hsame⟩ := X12.leave (v := some (.ref rb)) (fun h => by rw [Bd.returns] at h; cases h)
    refine ⟨_, _, pre2 _ ?_, hrun, hended, _, _, rfl, ?_, ⟨_, rfl⟩, hW, hsame.mono (by decide) (by decide)⟩
    · show Steps p.tables e below (s₁.setTop (mkF m 3 #[.val (.ref a0), .val (.int p1), .unset] [(.int zz), (.int p1)])) _
      refine XS.icmpYes X0.here hx rfl (pc0 := 3) (pc' := 14) rfl (hb hby d6_3) rfl (feq hc3).2 (by decide) (by decide) ?_
      refine XS.iloadN X0.here hx rfl (hb hby d6_14) rfl ?_
      refine st6 _ ?_
      refine XS.astoreN X6.here hx rfl (hb hby d6_17) rfl rfl (l' := #[.val (.ref a0), .val (.int p1), .val (.ref rb)]) rfl ?_
      refine XS.aloadN X6.here hx rfl (hb hby d6_18) rfl rfl ?_
      show Steps p.tables e below (T6.setTop (mkF m 19 #[.val (.ref a0), .val (.int p1), .val (.ref rb)] [(.ref a0)])) _
      refine XS.iconst X6.here hx rfl (hb hby d6_19) ?_
      refine XS.aloadN X6.here hx rfl (hb hby d6_20) rfl rfl ?_
      refine XS.iconst X6.here hx rfl (hb hby d6_21) ?_
      refine XS.aloadN X6.here hx rfl (hb hby d6_22) rfl rfl ?_
      refine X6.arraylength hx (by rw [e6]; exact Ar9.1) (State.isArrayOf_alike hZ.alike Ar9.2.1) (g := (mkF m 23 #[.val (.ref a0), .val (.int p1), .val (.ref rb)] [(.ref a0), (.int (0 : Int32)), (.ref rb), (.int (0 : Int32)), (.ref a0)])) rfl rfl (hb hby d6_23) _ ?_
      rw [len_of S9 M9]
      show Steps p.tables e below (T6.setTop (mkF m 24 #[.val (.ref a0), .val (.int p1), .val (.ref rb)] [(.int zz), (.int (0 : Int32)), (.ref rb), (.int (0 : Int32)), (.ref a0)])) _
      refine XS.iloadN X6.here hx rfl (hb hby d6_24) rfl ?_
      refine st10 _ ?_
      refine st12 _ ?_
      refine XS.aloadN X12.here hx rfl (hb hby d6_31) rfl rfl ?_
      show Steps p.tables e below (T12.setTop (mkF m 32 #[.val (.ref a0), .val (.int p1), .val (.ref rb)] [(.ref rb)])) _
      exact retR X12 hx (v := (.ref rb)) rfl Bd.returns rfl (hb hby d6_32) hr
    · show Q6 Z a0 p1 kk zz ww h0 n0 _ T12.heap _
      rw [e12]
      unfold Q6
      have f14 := (Ex6.keep K12)
      refine ⟨rb, k6, rfl, N12, kp13, sz_rb, f14, ?_⟩
      · exact V12
theorem d3_0 : decode prog_40_method_1_code 0 = .ok (.aload_n 0, 1) := by decide +kernel
theorem d3_1 : decode prog_40_method_1_code 1 = .ok (.invokespecial 1, 3) := by decide +kernel
theorem d3_4 : decode prog_40_method_1_code 4 = .ok (.aload_n 0, 1) := by decide +kernel
theorem d3_5 : decode prog_40_method_1_code 5 = .ok (.iconst 2, 1) := by decide +kernel
theorem d3_6 : decode prog_40_method_1_code 6 = .ok (.newarray .int, 2) := by decide +kernel
theorem d3_8 : decode prog_40_method_1_code 8 = .ok (.putfield 7, 3) := by decide +kernel
theorem d3_11 : decode prog_40_method_1_code 11 = .ok (.aload_n 0, 1) := by decide +kernel
theorem d3_12 : decode prog_40_method_1_code 12 = .ok (.iconst 3, 1) := by decide +kernel
theorem d3_13 : decode prog_40_method_1_code 13 = .ok (.newarray .int, 2) := by decide +kernel
theorem d3_15 : decode prog_40_method_1_code 15 = .ok (.putfield 13, 3) := by decide +kernel
theorem d3_18 : decode prog_40_method_1_code 18 = .ok (.aload_n 0, 1) := by decide +kernel
theorem d3_19 : decode prog_40_method_1_code 19 = .ok (.iconst 4, 1) := by decide +kernel
theorem d3_20 : decode prog_40_method_1_code 20 = .ok (.newarray .int, 2) := by decide +kernel
theorem d3_22 : decode prog_40_method_1_code 22 = .ok (.putfield 16, 3) := by decide +kernel
theorem d3_25 : decode prog_40_method_1_code 25 = .ok (.return_, 1) := by decide +kernel
theorem pn_1 : plainName "com/example/whole_recall/wholerecall/index/PostingsBuilder" = true := by first | (simp [plainName, overriddenIn]; done) | decide +kernel
theorem ef_3 (m : MethodId) (a0 : Addr) : entryFrame m #[(.ref a0)] 1 = mkF m 0 #[.val (.ref a0)] [] := by first | (simp [entryFrame, mkF, argsToLocals, Value.category]; done) | rfl
def Q3 (Z : State) (a0 : Addr) (h0 : Heap) (n0 : Nat) (v : Option Value) (h : Heap) (L : List Loc) : Prop := ∃ (da : Addr) (sa : Addr) (pa : Addr) (kd : ClassId) (ks : ClassId) (kp : ClassId), v = none ∧ Fr n0 L ∧ Keep h0 h [a0] ∧ Exa Z h a0 "com/example/whole_recall/wholerecall/index/PostingsBuilder" ∧ h0.size ≤ da ∧ h0.size ≤ sa ∧ h0.size ≤ pa ∧ da ≠ sa ∧ da ≠ pa ∧ sa ≠ pa ∧ Fld Z h a0 "com/example/whole_recall/wholerecall/index/PostingsBuilder" "documents" "[I" (.ref da) ∧ Fld Z h a0 "com/example/whole_recall/wholerecall/index/PostingsBuilder" "starts" "[I" (.ref sa) ∧ Fld Z h a0 "com/example/whole_recall/wholerecall/index/PostingsBuilder" "positions" "[I" (.ref pa) ∧ Fld Z h a0 "com/example/whole_recall/wholerecall/index/PostingsBuilder" "size" "I" (.int (0 : Int32)) ∧ Exa Z h da "[I" ∧ Exa Z h sa "[I" ∧ Exa Z h pa "[I" ∧ own_AI Z h da kd .int (2 : Int32) (List.replicate 2 (0 : Int32)) ∧ own_AI Z h sa ks .int (3 : Int32) (List.replicate 3 (0 : Int32)) ∧ own_AI Z h pa kp .int (4 : Int32) (List.replicate 4 (0 : Int32))
set_option maxRecDepth 65536 in
set_option maxHeartbeats 40000000 in
theorem rm3 (l : Launch) (Z : State) (aw : Array Value) (hw : ∀ d ∈ tables_1, d.before aw Z = true) (wq : List Jvm.Cond) (a0 : Addr) (h0 : Heap) (n0 : Nat) (Z0 : n0 ≤ h0.size) (E_a0 : Exa Z h0 a0 "com/example/whole_recall/wholerecall/index/PostingsBuilder") (F_a0_documents : Fld Z h0 a0 "com/example/whole_recall/wholerecall/index/PostingsBuilder" "documents" "[I" .null) (F_a0_starts : Fld Z h0 a0 "com/example/whole_recall/wholerecall/index/PostingsBuilder" "starts" "[I" .null) (F_a0_positions : Fld Z h0 a0 "com/example/whole_recall/wholerecall/index/PostingsBuilder" "positions" "[I" .null) (F_a0_size : Fld Z h0 a0 "com/example/whole_recall/wholerecall/index/PostingsBuilder" "size" "I" (.int (0 : Int32))) (g_a0 : n0 ≤ a0) :
    MetFree l (⟨"com/example/whole_recall/wholerecall/index/PostingsBuilder", "<init>", "()V"⟩ : MethodName) (head1 (Jvm.Cond.code (⟨"com/example/whole_recall/wholerecall/index/PostingsBuilder", "<init>", "()V"⟩ : MethodName) prog_40_method_1_code 1 none :: wq) ({ frames := 1, cells := 3, slots := 9, locals := 12 } : Room)) (fun a U => a = #[(.ref a0)] ∧ Z.Warmed39 U.vm ∧ U.heap = h0) (fun _ _ _ _ _ => True) (fun _ U o U' => ∃ v L, o = .returned v ∧ Q3 Z a0 h0 n0 v U'.heap L ∧ FrameEnd U o U' L ({ frames := 1, cells := 3, slots := 9, locals := 12 } : Room).cells ({ frames := 1, cells := 3, slots := 9, locals := 12 } : Room).slots) := by
  refine MetFree.of_bodySF (plainFor_of_name pn_1) hisR ?_
  intro p e s m args below meth c s₁ Bd hml0 hP hK
  obtain ⟨rfl, hZ, hh⟩ := hP
  have hx := Bd.exec
  have hby := Bd.bytes
  have hml : c.maxLocals = 1 := hml0
  have hown : s.vm.findClass "com/example/whole_recall/wholerecall/index/PostingsBuilder" = some m.cls := findClass_of_methodNamed Bd.named
  have hnm := (name_of_methodNamed Bd.named Bd.method).1
  have X0 : Stand p l e ({ frames := 1, cells := 3, slots := 9, locals := 12 } : Room) s m #[(.ref a0)] below meth c s₁ [] 0 0 := Stand.of_body Bd
  have e0 : s₁.heap = h0 := by rw [← hh, Bd.state]; rfl
  have N0 := Fr.nil n0
  have pre0 : own_Pre p e below (s₁.setTop (entryFrame m #[(.ref a0)] 1)) (s₁.setTop (mkF m 0 #[.val (.ref a0)] [])) := fun t k => castTop (ef_3 m a0) k
  obtain ⟨T1, X1, e1, st1⟩ := initO X0 hx hZ hown (hw _ (own_w 18 rfl)) (hw _ (own_w 19 rfl)) (hw _ (own_w 20 rfl)) e0 (g := (mkF m 1 #[.val (.ref a0)] [(.ref a0)])) rfl (by rw [hml]; rfl) rfl (hb hby d3_1) (by decide) (W := 0) (by show 2 * 0 + _ ≤ _; exact Nat.le_of_eq rfl) (by decide)
  obtain ⟨T2, h2, k2, X2, e2, E2, A2, Ex2, st2⟩ := newPE X1 hx hZ (hw _ (own_w 0 rfl)) e1 (g := (mkF m 6 #[.val (.ref a0)] [(.int (2 : Int32)), (.ref a0)])) rfl (hb hby d3_6) rfl (by decide) (cap := 2) (by decide) (by decide) (by decide) (by decide) (ad := "[I") (by decide)
  obtain ⟨da, gq2⟩ : ∃ z, z = (h0).size := ⟨_, rfl⟩
  rw [← gq2] at A2 st2 Ex2
  have ne_a0_da : a0 ≠ da := Nat.ne_of_lt (Nat.lt_of_lt_of_le E_a0.lt (Nat.le_of_eq gq2.symm))
  have g_da : n0 ≤ da := Nat.le_trans Z0 (Nat.le_of_eq gq2.symm)
  have sz_da : h0.size ≤ da := Nat.le_trans (Keep.refl h0 [a0]).1 (Nat.le_of_eq gq2.symm)
  have kp3 : Keep h0 h2 [a0] := (Keep.refl h0 [a0]).ext E2
  have V_da : own_AI Z h2 da k2 .int (2 : Int32) (List.replicate 2 (0 : Int32)) := own_AI.new 2 A2 (by decide) (by decide) rfl
  have f4 := (E_a0.ext E2)
  have f5 := (F_a0_documents.ext E2)
  obtain ⟨T6, h6, X6, e6, W6, st6⟩ := putF X2 hx hZ hown (host := "") (Or.inl (hw _ (own_w 21 rfl))) Via.refl e2 f5 f4 (Or.inl (hw _ (own_w 22 rfl))) (hw _ (own_w 13 rfl)) (ty := (.array .int)) (by decide) rfl rfl (g := (mkF m 8 #[.val (.ref a0)] [(.ref da), (.ref a0)])) rfl rfl (hb hby d3_8)
  have Fw6 := f5.same W6
  have N6 := Fr.snoc X6 N0 g_a0
  have kp7 : Keep h0 h6 [a0] := kp3.wr W6 (Or.inl (own_w 0 rfl))
  have z9 : n0 ≤ (h6).size := (Nat.le_trans (Nat.le_trans Z0 E2.1) (Keep.of_wr W6).1)
  obtain ⟨T8, h8, k8, X8, e8, E8, A8, Ex8, st8⟩ := newPE X6 hx hZ (hw _ (own_w 0 rfl)) e6 (g := (mkF m 13 #[.val (.ref a0)] [(.int (3 : Int32)), (.ref a0)])) rfl (hb hby d3_13) rfl (by decide) (cap := 3) (by decide) (by decide) (by decide) (by decide) (ad := "[I") (by decide)
  obtain ⟨sa, gq8⟩ : ∃ z, z = (h6).size := ⟨_, rfl⟩
  rw [← gq8] at A8 st8 Ex8
  have f10 := (f4.wr W6)
  have ne_a0_sa : a0 ≠ sa := Nat.ne_of_lt (Nat.lt_of_lt_of_le f10.lt (Nat.le_of_eq gq8.symm))
  have f11 := (V_da.other W6 (Ne.symm ne_a0_da))
  have ne_da_sa : da ≠ sa := Nat.ne_of_lt (Nat.lt_of_lt_of_le f11.lt (Nat.le_of_eq gq8.symm))
  have g_sa : n0 ≤ sa := Nat.le_trans z9 (Nat.le_of_eq gq8.symm)
  have sz_sa : h0.size ≤ sa := Nat.le_trans kp7.1 (Nat.le_of_eq gq8.symm)
  have kp12 : Keep h0 h8 [a0] := kp7.ext E8
  have V_sa : own_AI Z h8 sa k8 .int (3 : Int32) (List.replicate 3 (0 : Int32)) := own_AI.new 3 A8 (by decide) (by decide) rfl
  have f13 := (f10.ext E8)
  have f14 := (((F_a0_starts.ext E2).other W6 (Or.inr (slot_ne (Or.inl (hw _ (own_w 24 rfl))) (Or.inl (hw _ (own_w 22 rfl))) (by decide) (t := (.array .int)) (t' := (.array .int)) (by decide) (by decide)))).ext E8)
  obtain ⟨T15, h15, X15, e15, W15, st15⟩ := putF X8 hx hZ hown (host := "") (Or.inl (hw _ (own_w 23 rfl))) Via.refl e8 f14 f13 (Or.inl (hw _ (own_w 24 rfl))) (hw _ (own_w 13 rfl)) (ty := (.array .int)) (by decide) rfl rfl (g := (mkF m 15 #[.val (.ref a0)] [(.ref sa), (.ref a0)])) rfl rfl (hb hby d3_15)
  have Fw15 := f14.same W15
  have N15 := Fr.snoc X15 N6 g_a0
  have kp16 : Keep h0 h15 [a0] := kp12.wr W15 (Or.inl (own_w 0 rfl))
  have z18 : n0 ≤ (h15).size := (Nat.le_trans (Nat.le_trans z9 E8.1) (Keep.of_wr W15).1)
  obtain ⟨T17, h17, k17, X17, e17, E17, A17, Ex17, st17⟩ := newPE X15 hx hZ (hw _ (own_w 0 rfl)) e15 (g := (mkF m 20 #[.val (.ref a0)] [(.int (4 : Int32)), (.ref a0)])) rfl (hb hby d3_20) rfl (by decide) (cap := 4) (by decide) (by decide) (by decide) (by decide) (ad := "[I") (by decide)
  obtain ⟨pa, gq17⟩ : ∃ z, z = (h15).size := ⟨_, rfl⟩
  rw [← gq17] at A17 st17 Ex17
  have f19 := (f13.wr W15)
  have ne_a0_pa : a0 ≠ pa := Nat.ne_of_lt (Nat.lt_of_lt_of_le f19.lt (Nat.le_of_eq gq17.symm))
  have f20 := ((f11.ext E8).other W15 (Ne.symm ne_a0_da))
  have ne_da_pa : da ≠ pa := Nat.ne_of_lt (Nat.lt_of_lt_of_le f20.lt (Nat.le_of_eq gq17.symm))
  have f21 := (V_sa.other W15 (Ne.symm ne_a0_sa))
  have ne_sa_pa : sa ≠ pa := Nat.ne_of_lt (Nat.lt_of_lt_of_le f21.lt (Nat.le_of_eq gq17.symm))
  have g_pa : n0 ≤ pa := Nat.le_trans z18 (Nat.le_of_eq gq17.symm)
  have sz_pa : h0.size ≤ pa := Nat.le_trans kp16.1 (Nat.le_of_eq gq17.symm)
  have kp22 : Keep h0 h17 [a0] := kp16.ext E17
  have V_pa : own_AI Z h17 pa k17 .int (4 : Int32) (List.replicate 4 (0 : Int32)) := own_AI.new 4 A17 (by decide) (by decide) rfl
  have f23 := (f19.ext E17)
  have f24 := (((((F_a0_positions.ext E2).other W6 (Or.inr (slot_ne (Or.inl (hw _ (own_w 26 rfl))) (Or.inl (hw _ (own_w 22 rfl))) (by decide) (t := (.array .int)) (t' := (.array .int)) (by decide) (by decide)))).ext E8).other W15 (Or.inr (slot_ne (Or.inl (hw _ (own_w 26 rfl))) (Or.inl (hw _ (own_w 24 rfl))) (by decide) (t := (.array .int)) (t' := (.array .int)) (by decide) (by decide)))).ext E17)
  obtain ⟨T25, h25, X25, e25, W25, st25⟩ := putF X17 hx hZ hown (host := "") (Or.inl (hw _ (own_w 25 rfl))) Via.refl e17 f24 f23 (Or.inl (hw _ (own_w 26 rfl))) (hw _ (own_w 13 rfl)) (ty := (.array .int)) (by decide) rfl rfl (g := (mkF m 22 #[.val (.ref a0)] [(.ref pa), (.ref a0)])) rfl rfl (hb hby d3_22)
  have Fw25 := f24.same W25
  have N25 := Fr.snoc X25 N15 g_a0
  have kp26 : Keep h0 h25 [a0] := kp22.wr W25 (Or.inl (own_w 0 rfl))
  obtain ⟨fs, hr, hrun, hended, hW, hsame⟩ := X25.leave (v := none) (fun _ => rfl)
  refine ⟨_, _, pre0 _ ?_, hrun, hended, _, _, rfl, ?_, ⟨_, rfl⟩, hW, hsame.mono (by decide) (by decide)⟩
  · show Steps p.tables e below (s₁.setTop (mkF m 0 #[.val (.ref a0)] [])) _
    refine XS.aloadN X0.here hx rfl (hb hby d3_0) rfl rfl ?_
    refine st1 _ ?_
    refine XS.aloadN X1.here hx rfl (hb hby d3_4) rfl rfl ?_
    refine XS.iconst X1.here hx rfl (hb hby d3_5) ?_
    refine st2 _ ?_
    show Steps p.tables e below (T2.setTop (mkF m 8 #[.val (.ref a0)] [(.ref da), (.ref a0)])) _
    refine st6 _ ?_
    refine XS.aloadN X6.here hx rfl (hb hby d3_11) rfl rfl ?_
    refine XS.iconst X6.here hx rfl (hb hby d3_12) ?_
    refine st8 _ ?_
    refine st15 _ ?_
    show Steps p.tables e below (T15.setTop (mkF m 18 #[.val (.ref a0)] [])) _
    refine XS.aloadN X15.here hx rfl (hb hby d3_18) rfl rfl ?_
    refine XS.iconst X15.here hx rfl (hb hby d3_19) ?_
    refine st17 _ ?_
    refine st25 _ ?_
    show Steps p.tables e below (T25.setTop (mkF m 25 #[.val (.ref a0)] [])) _
    exact X25.returnOut hx Bd.returns (hb hby d3_25) hr
  · show Q3 Z a0 h0 n0 _ T25.heap _
    rw [e25]
    unfold Q3
    have f27 := (f23.wr W25)
    have f28 := (((((Ex2.wr W6).ext E8).wr W15).ext E17).wr W25)
    have f29 := (((Ex8.wr W15).ext E17).wr W25)
    have f30 := (Ex17.wr W25)
    have f31 := ((((Fw6.ext E8).other W15 (Or.inr (slot_ne (Or.inl (hw _ (own_w 22 rfl))) (Or.inl (hw _ (own_w 24 rfl))) (by decide) (t := (.array .int)) (t' := (.array .int)) (by decide) (by decide)))).ext E17).other W25 (Or.inr (slot_ne (Or.inl (hw _ (own_w 22 rfl))) (Or.inl (hw _ (own_w 26 rfl))) (by decide) (t := (.array .int)) (t' := (.array .int)) (by decide) (by decide))))
    have f32 := ((Fw15.ext E17).other W25 (Or.inr (slot_ne (Or.inl (hw _ (own_w 24 rfl))) (Or.inl (hw _ (own_w 26 rfl))) (by decide) (t := (.array .int)) (t' := (.array .int)) (by decide) (by decide))))
    have f33 := ((((((F_a0_size.ext E2).other W6 (Or.inr (slot_ne (Or.inl (hw _ (own_w 33 rfl))) (Or.inl (hw _ (own_w 22 rfl))) (by decide) (t := .int) (t' := (.array .int)) (by decide) (by decide)))).ext E8).other W15 (Or.inr (slot_ne (Or.inl (hw _ (own_w 33 rfl))) (Or.inl (hw _ (own_w 24 rfl))) (by decide) (t := .int) (t' := (.array .int)) (by decide) (by decide)))).ext E17).other W25 (Or.inr (slot_ne (Or.inl (hw _ (own_w 33 rfl))) (Or.inl (hw _ (own_w 26 rfl))) (by decide) (t := .int) (t' := (.array .int)) (by decide) (by decide))))
    have f34 := ((f20.ext E17).other W25 (Ne.symm ne_a0_da))
    have f35 := ((f21.ext E17).other W25 (Ne.symm ne_a0_sa))
    have f36 := (V_pa.other W25 (Ne.symm ne_a0_pa))
    refine ⟨da, sa, pa, k2, k8, k17, rfl, N25, kp26, f27, sz_da, sz_sa, sz_pa, ne_da_sa, ne_da_pa, ne_sa_pa, ?_, ?_, ?_, ?_, f28, f29, f30, ?_, ?_, ?_⟩
    · exact f31
    · exact f32
    · exact Fw25
    · exact f33
    · exact f34
    · exact f35
    · exact f36
theorem d5_0 : decode prog_40_method_2_code 0 = .ok (.aload_n 0, 1) := by decide +kernel
theorem d5_1 : decode prog_40_method_2_code 1 = .ok (.getfield 19, 3) := by decide +kernel
theorem d5_4 : decode prog_40_method_2_code 4 = .ok (.ifCond .eq 18, 3) := by decide +kernel
theorem d5_7 : decode prog_40_method_2_code 7 = .ok (.aload_n 0, 1) := by decide +kernel
theorem d5_8 : decode prog_40_method_2_code 8 = .ok (.getfield 7, 3) := by decide +kernel
theorem d5_11 : decode prog_40_method_2_code 11 = .ok (.aload_n 0, 1) := by decide +kernel
theorem d5_12 : decode prog_40_method_2_code 12 = .ok (.getfield 19, 3) := by decide +kernel
theorem d5_15 : decode prog_40_method_2_code 15 = .ok (.iconst 1, 1) := by decide +kernel
theorem d5_16 : decode prog_40_method_2_code 16 = .ok (.isub, 1) := by decide +kernel
theorem d5_17 : decode prog_40_method_2_code 17 = .ok (.iaload, 1) := by decide +kernel
theorem d5_18 : decode prog_40_method_2_code 18 = .ok (.iload_n 1, 1) := by decide +kernel
theorem d5_19 : decode prog_40_method_2_code 19 = .ok (.if_icmp .eq 93, 3) := by decide +kernel
theorem d5_22 : decode prog_40_method_2_code 22 = .ok (.aload_n 0, 1) := by decide +kernel
theorem d5_23 : decode prog_40_method_2_code 23 = .ok (.getfield 19, 3) := by decide +kernel
theorem d5_26 : decode prog_40_method_2_code 26 = .ok (.iconst 1, 1) := by decide +kernel
theorem d5_27 : decode prog_40_method_2_code 27 = .ok (.iadd, 1) := by decide +kernel
theorem d5_28 : decode prog_40_method_2_code 28 = .ok (.aload_n 0, 1) := by decide +kernel
theorem d5_29 : decode prog_40_method_2_code 29 = .ok (.getfield 13, 3) := by decide +kernel
theorem d5_32 : decode prog_40_method_2_code 32 = .ok (.arraylength, 1) := by decide +kernel
theorem d5_33 : decode prog_40_method_2_code 33 = .ok (.if_icmp .ne 39, 3) := by decide +kernel
theorem d5_36 : decode prog_40_method_2_code 36 = .ok (.aload_n 0, 1) := by decide +kernel
theorem d5_37 : decode prog_40_method_2_code 37 = .ok (.aload_n 0, 1) := by decide +kernel
theorem d5_38 : decode prog_40_method_2_code 38 = .ok (.getfield 7, 3) := by decide +kernel
theorem d5_41 : decode prog_40_method_2_code 41 = .ok (.aload_n 0, 1) := by decide +kernel
theorem d5_42 : decode prog_40_method_2_code 42 = .ok (.getfield 19, 3) := by decide +kernel
theorem d5_45 : decode prog_40_method_2_code 45 = .ok (.iconst 2, 1) := by decide +kernel
theorem d5_46 : decode prog_40_method_2_code 46 = .ok (.imul, 1) := by decide +kernel
theorem d5_47 : decode prog_40_method_2_code 47 = .ok (.invokestatic 23, 3) := by decide +kernel
theorem d5_50 : decode prog_40_method_2_code 50 = .ok (.putfield 7, 3) := by decide +kernel
theorem d5_53 : decode prog_40_method_2_code 53 = .ok (.aload_n 0, 1) := by decide +kernel
theorem d5_54 : decode prog_40_method_2_code 54 = .ok (.aload_n 0, 1) := by decide +kernel
theorem d5_55 : decode prog_40_method_2_code 55 = .ok (.getfield 13, 3) := by decide +kernel
theorem d5_58 : decode prog_40_method_2_code 58 = .ok (.aload_n 0, 1) := by decide +kernel
theorem d5_59 : decode prog_40_method_2_code 59 = .ok (.getfield 19, 3) := by decide +kernel
theorem d5_62 : decode prog_40_method_2_code 62 = .ok (.iconst 2, 1) := by decide +kernel
theorem d5_63 : decode prog_40_method_2_code 63 = .ok (.imul, 1) := by decide +kernel
theorem d5_64 : decode prog_40_method_2_code 64 = .ok (.iconst 1, 1) := by decide +kernel
theorem d5_65 : decode prog_40_method_2_code 65 = .ok (.iadd, 1) := by decide +kernel
theorem d5_66 : decode prog_40_method_2_code 66 = .ok (.invokestatic 23, 3) := by decide +kernel
theorem d5_69 : decode prog_40_method_2_code 69 = .ok (.putfield 13, 3) := by decide +kernel
theorem d5_72 : decode prog_40_method_2_code 72 = .ok (.aload_n 0, 1) := by decide +kernel
theorem d5_73 : decode prog_40_method_2_code 73 = .ok (.getfield 7, 3) := by decide +kernel
theorem d5_76 : decode prog_40_method_2_code 76 = .ok (.aload_n 0, 1) := by decide +kernel
theorem d5_77 : decode prog_40_method_2_code 77 = .ok (.getfield 19, 3) := by decide +kernel
theorem d5_80 : decode prog_40_method_2_code 80 = .ok (.iload_n 1, 1) := by decide +kernel
theorem d5_81 : decode prog_40_method_2_code 81 = .ok (.iastore, 1) := by decide +kernel
theorem d5_82 : decode prog_40_method_2_code 82 = .ok (.aload_n 0, 1) := by decide +kernel
theorem d5_83 : decode prog_40_method_2_code 83 = .ok (.getfield 13, 3) := by decide +kernel
theorem d5_86 : decode prog_40_method_2_code 86 = .ok (.aload_n 0, 1) := by decide +kernel
theorem d5_87 : decode prog_40_method_2_code 87 = .ok (.getfield 19, 3) := by decide +kernel
theorem d5_90 : decode prog_40_method_2_code 90 = .ok (.iconst 1, 1) := by decide +kernel
theorem d5_91 : decode prog_40_method_2_code 91 = .ok (.iadd, 1) := by decide +kernel
theorem d5_92 : decode prog_40_method_2_code 92 = .ok (.aload_n 0, 1) := by decide +kernel
theorem d5_93 : decode prog_40_method_2_code 93 = .ok (.getfield 13, 3) := by decide +kernel
theorem d5_96 : decode prog_40_method_2_code 96 = .ok (.aload_n 0, 1) := by decide +kernel
theorem d5_97 : decode prog_40_method_2_code 97 = .ok (.getfield 19, 3) := by decide +kernel
theorem d5_100 : decode prog_40_method_2_code 100 = .ok (.iaload, 1) := by decide +kernel
theorem d5_101 : decode prog_40_method_2_code 101 = .ok (.iastore, 1) := by decide +kernel
theorem d5_102 : decode prog_40_method_2_code 102 = .ok (.aload_n 0, 1) := by decide +kernel
theorem d5_103 : decode prog_40_method_2_code 103 = .ok (.dup, 1) := by decide +kernel
theorem d5_104 : decode prog_40_method_2_code 104 = .ok (.getfield 19, 3) := by decide +kernel
theorem d5_107 : decode prog_40_method_2_code 107 = .ok (.iconst 1, 1) := by decide +kernel
theorem d5_108 : decode prog_40_method_2_code 108 = .ok (.iadd, 1) := by decide +kernel
theorem d5_109 : decode prog_40_method_2_code 109 = .ok (.putfield 19, 3) := by decide +kernel
theorem d5_112 : decode prog_40_method_2_code 112 = .ok (.aload_n 0, 1) := by decide +kernel
theorem d5_113 : decode prog_40_method_2_code 113 = .ok (.getfield 13, 3) := by decide +kernel
theorem d5_116 : decode prog_40_method_2_code 116 = .ok (.aload_n 0, 1) := by decide +kernel
theorem d5_117 : decode prog_40_method_2_code 117 = .ok (.getfield 19, 3) := by decide +kernel
theorem d5_120 : decode prog_40_method_2_code 120 = .ok (.iaload, 1) := by decide +kernel
theorem d5_121 : decode prog_40_method_2_code 121 = .ok (.istore_n 3, 1) := by decide +kernel
theorem d5_122 : decode prog_40_method_2_code 122 = .ok (.iload_n 3, 1) := by decide +kernel
theorem d5_123 : decode prog_40_method_2_code 123 = .ok (.aload_n 0, 1) := by decide +kernel
theorem d5_124 : decode prog_40_method_2_code 124 = .ok (.getfield 16, 3) := by decide +kernel
theorem d5_127 : decode prog_40_method_2_code 127 = .ok (.arraylength, 1) := by decide +kernel
theorem d5_128 : decode prog_40_method_2_code 128 = .ok (.if_icmp .ne 17, 3) := by decide +kernel
theorem d5_131 : decode prog_40_method_2_code 131 = .ok (.aload_n 0, 1) := by decide +kernel
theorem d5_132 : decode prog_40_method_2_code 132 = .ok (.aload_n 0, 1) := by decide +kernel
theorem d5_133 : decode prog_40_method_2_code 133 = .ok (.getfield 16, 3) := by decide +kernel
theorem d5_136 : decode prog_40_method_2_code 136 = .ok (.iload_n 3, 1) := by decide +kernel
theorem d5_137 : decode prog_40_method_2_code 137 = .ok (.iconst 2, 1) := by decide +kernel
theorem d5_138 : decode prog_40_method_2_code 138 = .ok (.imul, 1) := by decide +kernel
theorem d5_139 : decode prog_40_method_2_code 139 = .ok (.invokestatic 23, 3) := by decide +kernel
theorem d5_142 : decode prog_40_method_2_code 142 = .ok (.putfield 16, 3) := by decide +kernel
theorem d5_145 : decode prog_40_method_2_code 145 = .ok (.aload_n 0, 1) := by decide +kernel
theorem d5_146 : decode prog_40_method_2_code 146 = .ok (.getfield 16, 3) := by decide +kernel
theorem d5_149 : decode prog_40_method_2_code 149 = .ok (.iload_n 3, 1) := by decide +kernel
theorem d5_150 : decode prog_40_method_2_code 150 = .ok (.iload_n 2, 1) := by decide +kernel
theorem d5_151 : decode prog_40_method_2_code 151 = .ok (.iastore, 1) := by decide +kernel
theorem d5_152 : decode prog_40_method_2_code 152 = .ok (.aload_n 0, 1) := by decide +kernel
theorem d5_153 : decode prog_40_method_2_code 153 = .ok (.getfield 13, 3) := by decide +kernel
theorem d5_156 : decode prog_40_method_2_code 156 = .ok (.aload_n 0, 1) := by decide +kernel
theorem d5_157 : decode prog_40_method_2_code 157 = .ok (.getfield 19, 3) := by decide +kernel
theorem d5_160 : decode prog_40_method_2_code 160 = .ok (.iload_n 3, 1) := by decide +kernel
theorem d5_161 : decode prog_40_method_2_code 161 = .ok (.iconst 1, 1) := by decide +kernel
theorem d5_162 : decode prog_40_method_2_code 162 = .ok (.iadd, 1) := by decide +kernel
theorem d5_163 : decode prog_40_method_2_code 163 = .ok (.iastore, 1) := by decide +kernel
theorem d5_164 : decode prog_40_method_2_code 164 = .ok (.return_, 1) := by decide +kernel
theorem pd_1 : parseMethodDescriptor "([II)[I" = some ⟨[(.array .int), .int], some (.array .int)⟩ := by decide +kernel
theorem ef_5 (m : MethodId) (a0 : Addr) (p1 : Int32) (p2 : Int32) : entryFrame m #[(.ref a0), (.int p1), (.int p2)] 4 = mkF m 0 #[.val (.ref a0), .val (.int p1), .val (.int p2), .unset] [] := by first | (simp [entryFrame, mkF, argsToLocals, Value.category]; done) | rfl
def own_p5_size (p1 : Int32) (ld : List Int32) (sz : Int32) : Int32 := (if sz = (0 : Int32) then (sz + (1 : Int32)) else (if (ld.getD ((sz - (1 : Int32))).toNatClampNeg (0 : Int32)) = p1 then sz else (sz + (1 : Int32))))
def own_z5_db (p1 : Int32) (zd : Int32) (zs : Int32) (ld : List Int32) (sz : Int32) : Int32 := (if sz = (0 : Int32) then zd else (if (ld.getD ((sz - (1 : Int32))).toNatClampNeg (0 : Int32)) = p1 then zd else (if (sz + (1 : Int32)) = zs then ((sz * (2 : Int32))) else zd)))
def own_p5_db (p1 : Int32) (zd : Int32) (zs : Int32) (ld : List Int32) (sz : Int32) : List Int32 := (if sz = (0 : Int32) then ((ld.set (sz).toNatClampNeg p1)) else (if (ld.getD ((sz - (1 : Int32))).toNatClampNeg (0 : Int32)) = p1 then ld else (if (sz + (1 : Int32)) = zs then (((own_cp ld zd ((sz * (2 : Int32)))).set (sz).toNatClampNeg p1)) else ((ld.set (sz).toNatClampNeg p1)))))
def own_z5_sb (p1 : Int32) (zs : Int32) (ld : List Int32) (sz : Int32) : Int32 := (if sz = (0 : Int32) then zs else (if (ld.getD ((sz - (1 : Int32))).toNatClampNeg (0 : Int32)) = p1 then zs else (if (sz + (1 : Int32)) = zs then (((sz * (2 : Int32)) + (1 : Int32))) else zs)))
def own_p5_sb (p1 : Int32) (zs : Int32) (ld : List Int32) (ls : List Int32) (sz : Int32) : List Int32 := (if sz = (0 : Int32) then ((((ls.set ((sz + (1 : Int32))).toNatClampNeg (ls.getD (sz).toNatClampNeg (0 : Int32)))).set ((sz + (1 : Int32))).toNatClampNeg (((((ls.set ((sz + (1 : Int32))).toNatClampNeg (ls.getD (sz).toNatClampNeg (0 : Int32)))).getD ((sz + (1 : Int32))).toNatClampNeg (0 : Int32))) + (1 : Int32)))) else (if (ld.getD ((sz - (1 : Int32))).toNatClampNeg (0 : Int32)) = p1 then ((ls.set (sz).toNatClampNeg (((ls.getD (sz).toNatClampNeg (0 : Int32))) + (1 : Int32)))) else (if (sz + (1 : Int32)) = zs then (((((own_cp ls zs (((sz * (2 : Int32)) + (1 : Int32)))).set ((sz + (1 : Int32))).toNatClampNeg ((own_cp ls zs (((sz * (2 : Int32)) + (1 : Int32)))).getD (sz).toNatClampNeg (0 : Int32)))).set ((sz + (1 : Int32))).toNatClampNeg ((((((own_cp ls zs (((sz * (2 : Int32)) + (1 : Int32)))).set ((sz + (1 : Int32))).toNatClampNeg ((own_cp ls zs (((sz * (2 : Int32)) + (1 : Int32)))).getD (sz).toNatClampNeg (0 : Int32)))).getD ((sz + (1 : Int32))).toNatClampNeg (0 : Int32))) + (1 : Int32)))) else ((((ls.set ((sz + (1 : Int32))).toNatClampNeg (ls.getD (sz).toNatClampNeg (0 : Int32)))).set ((sz + (1 : Int32))).toNatClampNeg (((((ls.set ((sz + (1 : Int32))).toNatClampNeg (ls.getD (sz).toNatClampNeg (0 : Int32)))).getD ((sz + (1 : Int32))).toNatClampNeg (0 : Int32))) + (1 : Int32)))))))
def own_z5_pb (p1 : Int32) (zs : Int32) (zp : Int32) (ld : List Int32) (ls : List Int32) (sz : Int32) : Int32 := (if sz = (0 : Int32) then (if ((((ls.set ((sz + (1 : Int32))).toNatClampNeg (ls.getD (sz).toNatClampNeg (0 : Int32)))).getD ((sz + (1 : Int32))).toNatClampNeg (0 : Int32))) = zp then ((((((ls.set ((sz + (1 : Int32))).toNatClampNeg (ls.getD (sz).toNatClampNeg (0 : Int32)))).getD ((sz + (1 : Int32))).toNatClampNeg (0 : Int32))) * (2 : Int32))) else zp) else (if (ld.getD ((sz - (1 : Int32))).toNatClampNeg (0 : Int32)) = p1 then (if ((ls.getD (sz).toNatClampNeg (0 : Int32))) = zp then ((((ls.getD (sz).toNatClampNeg (0 : Int32))) * (2 : Int32))) else zp) else (if (sz + (1 : Int32)) = zs then (if (((((own_cp ls zs (((sz * (2 : Int32)) + (1 : Int32)))).set ((sz + (1 : Int32))).toNatClampNeg ((own_cp ls zs (((sz * (2 : Int32)) + (1 : Int32)))).getD (sz).toNatClampNeg (0 : Int32)))).getD ((sz + (1 : Int32))).toNatClampNeg (0 : Int32))) = zp then (((((((own_cp ls zs (((sz * (2 : Int32)) + (1 : Int32)))).set ((sz + (1 : Int32))).toNatClampNeg ((own_cp ls zs (((sz * (2 : Int32)) + (1 : Int32)))).getD (sz).toNatClampNeg (0 : Int32)))).getD ((sz + (1 : Int32))).toNatClampNeg (0 : Int32))) * (2 : Int32))) else zp) else (if ((((ls.set ((sz + (1 : Int32))).toNatClampNeg (ls.getD (sz).toNatClampNeg (0 : Int32)))).getD ((sz + (1 : Int32))).toNatClampNeg (0 : Int32))) = zp then ((((((ls.set ((sz + (1 : Int32))).toNatClampNeg (ls.getD (sz).toNatClampNeg (0 : Int32)))).getD ((sz + (1 : Int32))).toNatClampNeg (0 : Int32))) * (2 : Int32))) else zp))))
def own_p5_pb (p1 : Int32) (p2 : Int32) (zs : Int32) (zp : Int32) (ld : List Int32) (ls : List Int32) (lp : List Int32) (sz : Int32) : List Int32 := (if sz = (0 : Int32) then (if ((((ls.set ((sz + (1 : Int32))).toNatClampNeg (ls.getD (sz).toNatClampNeg (0 : Int32)))).getD ((sz + (1 : Int32))).toNatClampNeg (0 : Int32))) = zp then (((own_cp lp zp ((((((ls.set ((sz + (1 : Int32))).toNatClampNeg (ls.getD (sz).toNatClampNeg (0 : Int32)))).getD ((sz + (1 : Int32))).toNatClampNeg (0 : Int32))) * (2 : Int32)))).set (((((ls.set ((sz + (1 : Int32))).toNatClampNeg (ls.getD (sz).toNatClampNeg (0 : Int32)))).getD ((sz + (1 : Int32))).toNatClampNeg (0 : Int32)))).toNatClampNeg p2)) else ((lp.set (((((ls.set ((sz + (1 : Int32))).toNatClampNeg (ls.getD (sz).toNatClampNeg (0 : Int32)))).getD ((sz + (1 : Int32))).toNatClampNeg (0 : Int32)))).toNatClampNeg p2))) else (if (ld.getD ((sz - (1 : Int32))).toNatClampNeg (0 : Int32)) = p1 then (if ((ls.getD (sz).toNatClampNeg (0 : Int32))) = zp then (((own_cp lp zp ((((ls.getD (sz).toNatClampNeg (0 : Int32))) * (2 : Int32)))).set (((ls.getD (sz).toNatClampNeg (0 : Int32)))).toNatClampNeg p2)) else ((lp.set (((ls.getD (sz).toNatClampNeg (0 : Int32)))).toNatClampNeg p2))) else (if (sz + (1 : Int32)) = zs then (if (((((own_cp ls zs (((sz * (2 : Int32)) + (1 : Int32)))).set ((sz + (1 : Int32))).toNatClampNeg ((own_cp ls zs (((sz * (2 : Int32)) + (1 : Int32)))).getD (sz).toNatClampNeg (0 : Int32)))).getD ((sz + (1 : Int32))).toNatClampNeg (0 : Int32))) = zp then (((own_cp lp zp (((((((own_cp ls zs (((sz * (2 : Int32)) + (1 : Int32)))).set ((sz + (1 : Int32))).toNatClampNeg ((own_cp ls zs (((sz * (2 : Int32)) + (1 : Int32)))).getD (sz).toNatClampNeg (0 : Int32)))).getD ((sz + (1 : Int32))).toNatClampNeg (0 : Int32))) * (2 : Int32)))).set ((((((own_cp ls zs (((sz * (2 : Int32)) + (1 : Int32)))).set ((sz + (1 : Int32))).toNatClampNeg ((own_cp ls zs (((sz * (2 : Int32)) + (1 : Int32)))).getD (sz).toNatClampNeg (0 : Int32)))).getD ((sz + (1 : Int32))).toNatClampNeg (0 : Int32)))).toNatClampNeg p2)) else ((lp.set ((((((own_cp ls zs (((sz * (2 : Int32)) + (1 : Int32)))).set ((sz + (1 : Int32))).toNatClampNeg ((own_cp ls zs (((sz * (2 : Int32)) + (1 : Int32)))).getD (sz).toNatClampNeg (0 : Int32)))).getD ((sz + (1 : Int32))).toNatClampNeg (0 : Int32)))).toNatClampNeg p2))) else (if ((((ls.set ((sz + (1 : Int32))).toNatClampNeg (ls.getD (sz).toNatClampNeg (0 : Int32)))).getD ((sz + (1 : Int32))).toNatClampNeg (0 : Int32))) = zp then (((own_cp lp zp ((((((ls.set ((sz + (1 : Int32))).toNatClampNeg (ls.getD (sz).toNatClampNeg (0 : Int32)))).getD ((sz + (1 : Int32))).toNatClampNeg (0 : Int32))) * (2 : Int32)))).set (((((ls.set ((sz + (1 : Int32))).toNatClampNeg (ls.getD (sz).toNatClampNeg (0 : Int32)))).getD ((sz + (1 : Int32))).toNatClampNeg (0 : Int32)))).toNatClampNeg p2)) else ((lp.set (((((ls.set ((sz + (1 : Int32))).toNatClampNeg (ls.getD (sz).toNatClampNeg (0 : Int32)))).getD ((sz + (1 : Int32))).toNatClampNeg (0 : Int32)))).toNatClampNeg p2))))))
def Q5 (Z : State) (a0 : Addr) (p1 : Int32) (p2 : Int32) (da : Addr) (sa : Addr) (pa : Addr) (kd : ClassId) (ks : ClassId) (kp : ClassId) (zd : Int32) (zs : Int32) (zp : Int32) (ld : List Int32) (ls : List Int32) (lp : List Int32) (sz : Int32) (h0 : Heap) (n0 : Nat) (v : Option Value) (h : Heap) (L : List Loc) : Prop := ∃ (db : Addr) (sb : Addr) (pb : Addr) (kdb : ClassId) (ksb : ClassId) (kpb : ClassId), v = none ∧ Fr n0 L ∧ Keep h0 h [a0, da, sa, pa] ∧ Exa Z h a0 "com/example/whole_recall/wholerecall/index/PostingsBuilder" ∧ Fld Z h a0 "com/example/whole_recall/wholerecall/index/PostingsBuilder" "documents" "[I" (.ref db) ∧ Fld Z h a0 "com/example/whole_recall/wholerecall/index/PostingsBuilder" "starts" "[I" (.ref sb) ∧ Fld Z h a0 "com/example/whole_recall/wholerecall/index/PostingsBuilder" "positions" "[I" (.ref pb) ∧ Fld Z h a0 "com/example/whole_recall/wholerecall/index/PostingsBuilder" "size" "I" (.int (own_p5_size p1 ld sz)) ∧ Exa Z h db "[I" ∧ Exa Z h sb "[I" ∧ Exa Z h pb "[I" ∧ own_AI Z h db kdb .int (own_z5_db p1 zd zs ld sz) (own_p5_db p1 zd zs ld sz) ∧ own_AI Z h sb ksb .int (own_z5_sb p1 zs ld sz) (own_p5_sb p1 zs ld ls sz) ∧ own_AI Z h pb kpb .int (own_z5_pb p1 zs zp ld ls sz) (own_p5_pb p1 p2 zs zp ld ls lp sz) ∧ db ≠ sb ∧ db ≠ pb ∧ sb ≠ pb ∧ a0 ≠ db ∧ a0 ≠ sb ∧ a0 ≠ pb ∧ n0 ≤ db ∧ n0 ≤ sb ∧ n0 ≤ pb ∧ (db = da ∨ h0.size ≤ db) ∧ (sb = sa ∨ h0.size ≤ sb) ∧ (pb = pa ∨ h0.size ≤ pb)
set_option maxRecDepth 65536 in
set_option maxHeartbeats 40000000 in
theorem rm5 (l : Launch) (Z : State) (aw : Array Value) (hw : ∀ d ∈ tables_1, d.before aw Z = true) (wq : List Jvm.Cond) (a0 : Addr) (p1 : Int32) (p2 : Int32) (da : Addr) (sa : Addr) (pa : Addr) (kd : ClassId) (ks : ClassId) (kp : ClassId) (zd : Int32) (zs : Int32) (zp : Int32) (ld : List Int32) (ls : List Int32) (lp : List Int32) (sz : Int32) (h0 : Heap) (n0 : Nat) (Z0 : n0 ≤ h0.size) (E_a0 : Exa Z h0 a0 "com/example/whole_recall/wholerecall/index/PostingsBuilder") (F_a0_documents : Fld Z h0 a0 "com/example/whole_recall/wholerecall/index/PostingsBuilder" "documents" "[I" (.ref da)) (F_a0_starts : Fld Z h0 a0 "com/example/whole_recall/wholerecall/index/PostingsBuilder" "starts" "[I" (.ref sa)) (F_a0_positions : Fld Z h0 a0 "com/example/whole_recall/wholerecall/index/PostingsBuilder" "positions" "[I" (.ref pa)) (F_a0_size : Fld Z h0 a0 "com/example/whole_recall/wholerecall/index/PostingsBuilder" "size" "I" (.int sz)) (E_da : Exa Z h0 da "[I") (E_sa : Exa Z h0 sa "[I") (E_pa : Exa Z h0 pa "[I") (V_da : own_AI Z h0 da kd .int zd ld) (V_sa : own_AI Z h0 sa ks .int zs ls) (V_pa : own_AI Z h0 pa kp .int zp lp) (ne_da_sa : da ≠ sa) (ne_da_pa : da ≠ pa) (ne_sa_pa : sa ≠ pa) (ne_a0_da : a0 ≠ da) (ne_a0_sa : a0 ≠ sa) (ne_a0_pa : a0 ≠ pa) (g_a0 : n0 ≤ a0) (g_da : n0 ≤ da) (g_sa : n0 ≤ sa) (g_pa : n0 ≤ pa) (hI : own_I sz zd zs zp ld ls lp) :
    MetFree l (⟨"com/example/whole_recall/wholerecall/index/PostingsBuilder", "add", "(II)V"⟩ : MethodName) (head1 (Jvm.Cond.code (⟨"com/example/whole_recall/wholerecall/index/PostingsBuilder", "add", "(II)V"⟩ : MethodName) prog_40_method_2_code 4 none :: wq) ({ frames := 2, cells := 3, slots := 27, locals := 55 } : Room)) (fun a U => a = #[(.ref a0), (.int p1), (.int p2)] ∧ Z.Warmed39 U.vm ∧ U.heap = h0) (fun _ _ _ _ _ => True) (fun _ U o U' => ∃ v L, o = .returned v ∧ Q5 Z a0 p1 p2 da sa pa kd ks kp zd zs zp ld ls lp sz h0 n0 v U'.heap L ∧ FrameEnd U o U' L ({ frames := 2, cells := 3, slots := 27, locals := 55 } : Room).cells ({ frames := 2, cells := 3, slots := 27, locals := 55 } : Room).slots) := by
  refine MetFree.of_bodySF (plainFor_of_name pn_1) hisR ?_
  intro p e s m args below meth c s₁ Bd hml0 hP hK
  obtain ⟨rfl, hZ, hh⟩ := hP
  have hx := Bd.exec
  have hby := Bd.bytes
  have hml : c.maxLocals = 4 := hml0
  have hown : s.vm.findClass "com/example/whole_recall/wholerecall/index/PostingsBuilder" = some m.cls := findClass_of_methodNamed Bd.named
  have hnm := (name_of_methodNamed Bd.named Bd.method).1
  have X0 : Stand p l e ({ frames := 2, cells := 3, slots := 27, locals := 55 } : Room) s m #[(.ref a0), (.int p1), (.int p2)] below meth c s₁ [] 0 0 := Stand.of_body Bd
  have e0 : s₁.heap = h0 := by rw [← hh, Bd.state]; rfl
  have N0 := Fr.nil n0
  have pre0 : own_Pre p e below (s₁.setTop (entryFrame m #[(.ref a0), (.int p1), (.int p2)] 4)) (s₁.setTop (mkF m 0 #[.val (.ref a0), .val (.int p1), .val (.int p2), .unset] [])) := fun t k => castTop (ef_5 m a0 p1 p2) k
  obtain ⟨T1, X1, e1, st1⟩ := getF X0 hx hZ hown (host := "") (Or.inl (hw _ (own_w 32 rfl))) Via.refl e0 F_a0_size (g := (mkF m 1 #[.val (.ref a0), .val (.int p1), .val (.int p2), .unset] [(.ref a0)])) rfl rfl (hb hby d5_1)
  have pre2 : own_Pre p e below (s₁.setTop (entryFrame m #[(.ref a0), (.int p1), (.int p2)] 4)) (T1.setTop (mkF m 4 #[.val (.ref a0), .val (.int p1), .val (.int p2), .unset] [(.int sz)])) := fun t k => pre0 t (by
      show Steps p.tables e below (s₁.setTop (mkF m 0 #[.val (.ref a0), .val (.int p1), .val (.int p2), .unset] [])) _
      refine XS.aloadN X0.here hx rfl (hb hby d5_0) rfl rfl ?_
      refine st1 _ ?_
      exact k)
  by_cases hc4 : sz = (0 : Int32)
  · obtain ⟨T3, X3, e3, st3⟩ := getF X1 hx hZ hown (host := "") (Or.inl (hw _ (own_w 32 rfl))) Via.refl e1 F_a0_size (g := (mkF m 23 #[.val (.ref a0), .val (.int p1), .val (.int p2), .unset] [(.ref a0)])) rfl rfl (hb hby d5_23)
    obtain ⟨T4, X4, e4, st4⟩ := getF X3 hx hZ hown (host := "") (Or.inl (hw _ (own_w 23 rfl))) Via.refl e3 F_a0_starts (g := (mkF m 29 #[.val (.ref a0), .val (.int p1), .val (.int p2), .unset] [(.ref a0), (.int (sz + (1 : Int32)))])) rfl rfl (hb hby d5_29)
    obtain ⟨cl5, Ar5, S5, M5⟩ := V_sa.len
    have hc33 : ¬ ((sz + (1 : Int32)) = zs) := own_i33 hI hc4
    obtain ⟨T6, X6, e6, st6⟩ := getF X4 hx hZ hown (host := "") (Or.inl (hw _ (own_w 21 rfl))) Via.refl e4 F_a0_documents (g := (mkF m 73 #[.val (.ref a0), .val (.int p1), .val (.int p2), .unset] [(.ref a0)])) rfl rfl (hb hby d5_73)
    obtain ⟨T7, X7, e7, st7⟩ := getF X6 hx hZ hown (host := "") (Or.inl (hw _ (own_w 32 rfl))) Via.refl e6 F_a0_size (g := (mkF m 77 #[.val (.ref a0), .val (.int p1), .val (.int p2), .unset] [(.ref a0), (.ref da)])) rfl rfl (hb hby d5_77)
    obtain ⟨cl8, Ar8, hin8, set8⟩ := own_AI.arr V_da (j := sz) (own_i81 hI hc33)
    obtain ⟨T8, h8, X8, e8, W8, st8⟩ := stI X7 hx hZ e7 Ar8 (j := sz) hin8 (g := (mkF m 81 #[.val (.ref a0), .val (.int p1), .val (.int p2), .unset] [(.int p1), (.int sz), (.ref da)])) rfl rfl (hb hby d5_81)
    have V8 : own_AI Z h8 da kd .int zd (ld.set (sz).toNatClampNeg p1) := set8 _ _ rfl W8
    obtain ⟨ws8, hws8⟩ : ∃ z, z = (ld.set (sz).toNatClampNeg p1) := ⟨_, rfl⟩
    rw [← hws8] at V8
    have N8 := Fr.snoc X8 N0 g_da
    have kp9 : Keep h0 h8 [a0, da, sa, pa] := (Keep.refl h0 [a0, da, sa, pa]).wr W8 (Or.inl (own_w 1 rfl))
    have f10 := (F_a0_starts.other W8 (Or.inl ne_a0_da))
    obtain ⟨T11, X11, e11, st11⟩ := getF X8 hx hZ hown (host := "") (Or.inl (hw _ (own_w 23 rfl))) Via.refl e8 f10 (g := (mkF m 83 #[.val (.ref a0), .val (.int p1), .val (.int p2), .unset] [(.ref a0)])) rfl rfl (hb hby d5_83)
    have f12 := (F_a0_size.other W8 (Or.inl ne_a0_da))
    obtain ⟨T13, X13, e13, st13⟩ := getF X11 hx hZ hown (host := "") (Or.inl (hw _ (own_w 32 rfl))) Via.refl e11 f12 (g := (mkF m 87 #[.val (.ref a0), .val (.int p1), .val (.int p2), .unset] [(.ref a0), (.ref sa)])) rfl rfl (hb hby d5_87)
    obtain ⟨T14, X14, e14, st14⟩ := getF X13 hx hZ hown (host := "") (Or.inl (hw _ (own_w 23 rfl))) Via.refl e13 f10 (g := (mkF m 93 #[.val (.ref a0), .val (.int p1), .val (.int p2), .unset] [(.ref a0), (.int (sz + (1 : Int32))), (.ref sa)])) rfl rfl (hb hby d5_93)
    obtain ⟨T15, X15, e15, st15⟩ := getF X14 hx hZ hown (host := "") (Or.inl (hw _ (own_w 32 rfl))) Via.refl e14 f12 (g := (mkF m 97 #[.val (.ref a0), .val (.int p1), .val (.int p2), .unset] [(.ref a0), (.ref sa), (.int (sz + (1 : Int32))), (.ref sa)])) rfl rfl (hb hby d5_97)
    have f16 := (V_sa.other W8 (Ne.symm ne_da_sa))
    obtain ⟨cl17, Ar17, hin17, hat17⟩ := own_AI.at f16 (j := sz) (own_i100 hI)
    obtain ⟨cl18, Ar18, hin18, set18⟩ := own_AI.arr f16 (j := (sz + (1 : Int32))) (own_i101 hI hc33)
    obtain ⟨T18, h18, X18, e18, W18, st18⟩ := stI X15 hx hZ e15 Ar18 (j := (sz + (1 : Int32))) hin18 (g := (mkF m 101 #[.val (.ref a0), .val (.int p1), .val (.int p2), .unset] [(.int (ls.getD (sz).toNatClampNeg (0 : Int32))), (.int (sz + (1 : Int32))), (.ref sa)])) rfl rfl (hb hby d5_101)
    have V18 : own_AI Z h18 sa ks .int zs (ls.set ((sz + (1 : Int32))).toNatClampNeg (ls.getD (sz).toNatClampNeg (0 : Int32))) := set18 _ _ rfl W18
    obtain ⟨ws18, hws18⟩ : ∃ z, z = (ls.set ((sz + (1 : Int32))).toNatClampNeg (ls.getD (sz).toNatClampNeg (0 : Int32))) := ⟨_, rfl⟩
    rw [← hws18] at V18
    have N18 := Fr.snoc X18 N8 g_sa
    have kp19 : Keep h0 h18 [a0, da, sa, pa] := kp9.wr W18 (Or.inl (own_w 2 rfl))
    have f20 := (f12.other W18 (Or.inl ne_a0_sa))
    obtain ⟨T21, X21, e21, st21⟩ := getF X18 hx hZ hown (host := "") (Or.inl (hw _ (own_w 32 rfl))) Via.refl e18 f20 (g := (mkF m 104 #[.val (.ref a0), .val (.int p1), .val (.int p2), .unset] [(.ref a0), (.ref a0)])) rfl rfl (hb hby d5_104)
    have f22 := ((E_a0.wr W8).wr W18)
    obtain ⟨T23, h23, X23, e23, W23, st23⟩ := putF X21 hx hZ hown (host := "") (Or.inl (hw _ (own_w 32 rfl))) Via.refl e21 f20 f22 (Or.inl (hw _ (own_w 33 rfl))) (hw _ (own_w 13 rfl)) (ty := .int) (by decide) rfl rfl (g := (mkF m 109 #[.val (.ref a0), .val (.int p1), .val (.int p2), .unset] [(.int (sz + (1 : Int32))), (.ref a0)])) rfl rfl (hb hby d5_109)
    have Fw23 := f20.same W23
    have N23 := Fr.snoc X23 N18 g_a0
    have kp24 : Keep h0 h23 [a0, da, sa, pa] := kp19.wr W23 (Or.inl (own_w 0 rfl))
    have f25 := ((f10.other W18 (Or.inl ne_a0_sa)).other W23 (Or.inr (slot_ne (Or.inl (hw _ (own_w 24 rfl))) (Or.inl (hw _ (own_w 33 rfl))) (by decide) (t := (.array .int)) (t' := .int) (by decide) (by decide))))
    obtain ⟨T26, X26, e26, st26⟩ := getF X23 hx hZ hown (host := "") (Or.inl (hw _ (own_w 23 rfl))) Via.refl e23 f25 (g := (mkF m 113 #[.val (.ref a0), .val (.int p1), .val (.int p2), .unset] [(.ref a0)])) rfl rfl (hb hby d5_113)
    obtain ⟨T27, X27, e27, st27⟩ := getF X26 hx hZ hown (host := "") (Or.inl (hw _ (own_w 32 rfl))) Via.refl e26 Fw23 (g := (mkF m 117 #[.val (.ref a0), .val (.int p1), .val (.int p2), .unset] [(.ref a0), (.ref sa)])) rfl rfl (hb hby d5_117)
    have f28 := (V18.other W23 (Ne.symm ne_a0_sa))
    obtain ⟨cl29, Ar29, hin29, hat29⟩ := own_AI.at f28 (j := (sz + (1 : Int32))) (own_i101 hI hc33)
    obtain ⟨x3_122, hx3_122, pre30⟩ : ∃ z : Int32, z = (ws18.getD ((sz + (1 : Int32))).toNatClampNeg (0 : Int32)) ∧ own_Pre p e below (s₁.setTop (entryFrame m #[(.ref a0), (.int p1), (.int p2)] 4)) (T27.setTop (mkF m 122 #[.val (.ref a0), .val (.int p1), .val (.int p2), .val (.int z)] [])) := ⟨_, rfl, fun t k => pre2 t (by
        show Steps p.tables e below (T1.setTop (mkF m 4 #[.val (.ref a0), .val (.int p1), .val (.int p2), .unset] [(.int sz)])) _
        refine XS.ifYes X1.here hx rfl (pc0 := 4) (pc' := 22) rfl (hb hby d5_4) rfl ((if0 _ _).trans (teq hc4).1) (by decide) (by decide) ?_
        refine XS.aloadN X1.here hx rfl (hb hby d5_22) rfl rfl ?_
        refine st3 _ ?_
        refine XS.iconst X3.here hx rfl (hb hby d5_26) ?_
        refine XS.iadd X3.here hx rfl (hb hby d5_27) rfl ?_
        show Steps p.tables e below (T3.setTop (mkF m 28 #[.val (.ref a0), .val (.int p1), .val (.int p2), .unset] [(.int (sz + (1 : Int32)))])) _
        refine XS.aloadN X3.here hx rfl (hb hby d5_28) rfl rfl ?_
        refine st4 _ ?_
        refine X4.arraylength hx (by rw [e4]; exact Ar5.1) (State.isArrayOf_alike hZ.alike Ar5.2.1) (g := (mkF m 32 #[.val (.ref a0), .val (.int p1), .val (.int p2), .unset] [(.ref sa), (.int (sz + (1 : Int32)))])) rfl rfl (hb hby d5_32) _ ?_
        rw [len_of S5 M5]
        refine XS.icmpYes X4.here hx rfl (pc0 := 33) (pc' := 72) rfl (hb hby d5_33) rfl (feq hc33).2 (by decide) (by decide) ?_
        refine XS.aloadN X4.here hx rfl (hb hby d5_72) rfl rfl ?_
        show Steps p.tables e below (T4.setTop (mkF m 73 #[.val (.ref a0), .val (.int p1), .val (.int p2), .unset] [(.ref a0)])) _
        refine st6 _ ?_
        refine XS.aloadN X6.here hx rfl (hb hby d5_76) rfl rfl ?_
        refine st7 _ ?_
        refine XS.iloadN X7.here hx rfl (hb hby d5_80) rfl ?_
        refine st8 _ ?_
        show Steps p.tables e below (T8.setTop (mkF m 82 #[.val (.ref a0), .val (.int p1), .val (.int p2), .unset] [])) _
        refine XS.aloadN X8.here hx rfl (hb hby d5_82) rfl rfl ?_
        refine st11 _ ?_
        refine XS.aloadN X11.here hx rfl (hb hby d5_86) rfl rfl ?_
        refine st13 _ ?_
        refine XS.iconst X13.here hx rfl (hb hby d5_90) ?_
        show Steps p.tables e below (T13.setTop (mkF m 91 #[.val (.ref a0), .val (.int p1), .val (.int p2), .unset] [(.int (1 : Int32)), (.int sz), (.ref sa)])) _
        refine XS.iadd X13.here hx rfl (hb hby d5_91) rfl ?_
        refine XS.aloadN X13.here hx rfl (hb hby d5_92) rfl rfl ?_
        refine st14 _ ?_
        refine XS.aloadN X14.here hx rfl (hb hby d5_96) rfl rfl ?_
        refine st15 _ ?_
        show Steps p.tables e below (T15.setTop (mkF m 100 #[.val (.ref a0), .val (.int p1), .val (.int p2), .unset] [(.int sz), (.ref sa), (.int (sz + (1 : Int32))), (.ref sa)])) _
        refine X15.iaload hx (j := sz) (v := (.int (ls.getD (sz).toNatClampNeg (0 : Int32)))) (by rw [e15]; exact Ar17.1) (State.isArrayOf_alike hZ.alike Ar17.2.1) Ar17.2.2 hin17 hat17 (g := (mkF m 100 #[.val (.ref a0), .val (.int p1), .val (.int p2), .unset] [(.int sz), (.ref sa), (.int (sz + (1 : Int32))), (.ref sa)])) rfl rfl (hb hby d5_100) _ ?_
        refine st18 _ ?_
        refine XS.aloadN X18.here hx rfl (hb hby d5_102) rfl rfl ?_
        refine XS.dup X18.here hx rfl (hb hby d5_103) rfl rfl ?_
        refine st21 _ ?_
        show Steps p.tables e below (T21.setTop (mkF m 107 #[.val (.ref a0), .val (.int p1), .val (.int p2), .unset] [(.int sz), (.ref a0)])) _
        refine XS.iconst X21.here hx rfl (hb hby d5_107) ?_
        refine XS.iadd X21.here hx rfl (hb hby d5_108) rfl ?_
        refine st23 _ ?_
        refine XS.aloadN X23.here hx rfl (hb hby d5_112) rfl rfl ?_
        refine st26 _ ?_
        show Steps p.tables e below (T26.setTop (mkF m 116 #[.val (.ref a0), .val (.int p1), .val (.int p2), .unset] [(.ref sa)])) _
        refine XS.aloadN X26.here hx rfl (hb hby d5_116) rfl rfl ?_
        refine st27 _ ?_
        refine X27.iaload hx (j := (sz + (1 : Int32))) (v := (.int (ws18.getD ((sz + (1 : Int32))).toNatClampNeg (0 : Int32)))) (by rw [e27]; exact Ar29.1) (State.isArrayOf_alike hZ.alike Ar29.2.1) Ar29.2.2 hin29 hat29 (g := (mkF m 120 #[.val (.ref a0), .val (.int p1), .val (.int p2), .unset] [(.int (sz + (1 : Int32))), (.ref sa)])) rfl rfl (hb hby d5_120) _ ?_
        refine XS.istoreN X27.here hx rfl (hb hby d5_121) rfl (l' := #[.val (.ref a0), .val (.int p1), .val (.int p2), .val (.int (ws18.getD ((sz + (1 : Int32))).toNatClampNeg (0 : Int32)))]) rfl ?_
        exact k)⟩
    have hX : x3_122 = ls.getD sz.toNatClampNeg 0 := by rw [hx3_122, hws18]; exact own_xN hI hc33
    have hB := own_eb hI hX
    have f31 := (((F_a0_positions.other W8 (Or.inl ne_a0_da)).other W18 (Or.inl ne_a0_sa)).other W23 (Or.inr (slot_ne (Or.inl (hw _ (own_w 26 rfl))) (Or.inl (hw _ (own_w 33 rfl))) (by decide) (t := (.array .int)) (t' := .int) (by decide) (by decide))))
    obtain ⟨T32, X32, e32, st32⟩ := getF X27 hx hZ hown (host := "") (Or.inl (hw _ (own_w 25 rfl))) Via.refl e27 f31 (g := (mkF m 124 #[.val (.ref a0), .val (.int p1), .val (.int p2), .val (.int x3_122)] [(.ref a0), (.int x3_122)])) rfl rfl (hb hby d5_124)
    have f33 := (((V_pa.other W8 (Ne.symm ne_da_pa)).other W18 (Ne.symm ne_sa_pa)).other W23 (Ne.symm ne_a0_pa))
    obtain ⟨cl34, Ar34, S34, M34⟩ := f33.len
    have pre35 : own_Pre p e below (s₁.setTop (entryFrame m #[(.ref a0), (.int p1), (.int p2)] 4)) (T32.setTop (mkF m 128 #[.val (.ref a0), .val (.int p1), .val (.int p2), .val (.int x3_122)] [(.int zp), (.int x3_122)])) := fun t k => pre30 t (by
        show Steps p.tables e below (T27.setTop (mkF m 122 #[.val (.ref a0), .val (.int p1), .val (.int p2), .val (.int x3_122)] [])) _
        refine XS.iloadN X27.here hx rfl (hb hby d5_122) rfl ?_
        refine XS.aloadN X27.here hx rfl (hb hby d5_123) rfl rfl ?_
        refine st32 _ ?_
        refine X32.arraylength hx (by rw [e32]; exact Ar34.1) (State.isArrayOf_alike hZ.alike Ar34.2.1) (g := (mkF m 127 #[.val (.ref a0), .val (.int p1), .val (.int p2), .val (.int x3_122)] [(.ref pa), (.int x3_122)])) rfl rfl (hb hby d5_127) _ ?_
        rw [len_of S34 M34]
        exact k)
    by_cases hc128 : x3_122 = zp
    · obtain ⟨T36, X36, e36, st36⟩ := getF X32 hx hZ hown (host := "") (Or.inl (hw _ (own_w 25 rfl))) Via.refl e32 f31 (g := (mkF m 133 #[.val (.ref a0), .val (.int p1), .val (.int p2), .val (.int x3_122)] [(.ref a0), (.ref a0)])) rfl rfl (hb hby d5_133)
      have f38 := (((E_pa.wr W8).wr W18).wr W23)
      have z39 : n0 ≤ (h23).size := (Nat.le_trans (Nat.le_trans (Nat.le_trans Z0 (Keep.of_wr W8).1) (Keep.of_wr W18).1) (Keep.of_wr W23).1)
      have f40 := (f22.wr W23)
      have f41 := (((E_da.wr W8).wr W18).wr W23)
      have f42 := (((E_sa.wr W8).wr W18).wr W23)
      obtain ⟨_, _, ⟨T37, L37, k37, n37⟩, -, X37, ⟨Lc37, hQ37, l37, y37, z37⟩, st37⟩ := Jvm.LawKit.callS X36 hx (y := (⟨"java/util/Arrays", "copyOf", "([II)[I"⟩ : MethodName)) hown (mvT hZ (hw _ (own_w 34 rfl))) (mvT hZ (hw _ (own_w 35 rfl))) (mvT hZ (hw _ (own_w 36 rfl))) (mvT hZ (hw _ (own_w 37 rfl))) (by decide) (backOf (W := 1) (rm6 l Z aw hw [] (pa) ((x3_122 * (2 : Int32))) (kp) (zp) (lp) (h23) n0 z39 f38 f33 (own_i139 hB)) hZ (hw _ (own_w 37 rfl)) (hw _ (own_w 36 rfl)) (by decide) (by decide)) (g := (mkF m 139 #[.val (.ref a0), .val (.int p1), .val (.int p2), .val (.int x3_122)] [(.int (x3_122 * (2 : Int32))), (.ref pa), (.ref a0)])) rfl (by rw [hml]; rfl) (argsL := [(.ref pa), (.int (x3_122 * (2 : Int32)))]) (rest := [(.ref a0)]) (lenOf pd_1 rfl) rfl (by show 2 * 0 + _ ≤ _; exact Nat.le_of_eq rfl) (hb hby d5_139) (fun _ _ => ⟨rfl, e36, (by decide : 0 + 1 ≤ _), (by decide : 0 + 9 ≤ _)⟩)
      dsimp only [Pt.U, Pt.locs, Pt.cells, Pt.slots] at X37 l37 y37 z37 st37 hQ37
      subst l37 y37 z37
      obtain ⟨rb37, kb37, rfl, Nq37, K37, po37_0, po37_1, po37_2⟩ := hQ37
      have N37 := Fr.app N23 Nq37
      have kp43 : Keep h0 T37.heap [a0, da, sa, pa] := kp24.trans K37 all0
      have ne_a0_rb37 : a0 ≠ rb37 := Nat.ne_of_lt (Nat.lt_of_lt_of_le f40.lt po37_0)
      have ne_da_rb37 : da ≠ rb37 := Nat.ne_of_lt (Nat.lt_of_lt_of_le f41.lt po37_0)
      have ne_pa_rb37 : pa ≠ rb37 := Nat.ne_of_lt (Nat.lt_of_lt_of_le f38.lt po37_0)
      have ne_sa_rb37 : sa ≠ rb37 := Nat.ne_of_lt (Nat.lt_of_lt_of_le f42.lt po37_0)
      have g_rb37 : n0 ≤ rb37 := Nat.le_trans z39 po37_0
      have sz_rb37 : h0.size ≤ rb37 := Nat.le_trans kp24.1 po37_0
      have f44 := (f40.keep K37)
      have f45 := (f31.keep K37 nin0)
      obtain ⟨T46, h46, X46, e46, W46, st46⟩ := putF X37 hx hZ hown (host := "") (Or.inl (hw _ (own_w 25 rfl))) Via.refl rfl f45 f44 (Or.inl (hw _ (own_w 26 rfl))) (hw _ (own_w 13 rfl)) (ty := (.array .int)) (by decide) rfl rfl (g := (mkF m 142 #[.val (.ref a0), .val (.int p1), .val (.int p2), .val (.int x3_122)] [(.ref rb37), (.ref a0)])) rfl rfl (hb hby d5_142)
      have Fw46 := f45.same W46
      have N46 := Fr.snoc X46 N37 g_a0
      have kp47 : Keep h0 h46 [a0, da, sa, pa] := kp43.wr W46 (Or.inl (own_w 0 rfl))
      obtain ⟨T48, X48, e48, st48⟩ := getF X46 hx hZ hown (host := "") (Or.inl (hw _ (own_w 25 rfl))) Via.refl e46 Fw46 (g := (mkF m 146 #[.val (.ref a0), .val (.int p1), .val (.int p2), .val (.int x3_122)] [(.ref a0)])) rfl rfl (hb hby d5_146)
      have f49 := (po37_2.other W46 (Ne.symm ne_a0_rb37))
      obtain ⟨cl50, Ar50, hin50, set50⟩ := own_AI.arr f49 (j := x3_122) (own_i151g hI hB hc128)
      obtain ⟨T50, h50, X50, e50, W50, st50⟩ := stI X48 hx hZ e48 Ar50 (j := x3_122) hin50 (g := (mkF m 151 #[.val (.ref a0), .val (.int p1), .val (.int p2), .val (.int x3_122)] [(.int p2), (.int x3_122), (.ref rb37)])) rfl rfl (hb hby d5_151)
      have V50 : own_AI Z h50 rb37 kb37 .int ((x3_122 * (2 : Int32))) ((own_cp lp zp ((x3_122 * (2 : Int32)))).set (x3_122).toNatClampNeg p2) := set50 _ _ rfl W50
      obtain ⟨ws50, hws50⟩ : ∃ z, z = ((own_cp lp zp ((x3_122 * (2 : Int32)))).set (x3_122).toNatClampNeg p2) := ⟨_, rfl⟩
      rw [← hws50] at V50
      have N50 := Fr.snoc X50 N46 g_rb37
      have kp51 : Keep h0 h50 [a0, da, sa, pa] := kp47.wr W50 (Or.inr sz_rb37)
      have f52 := (((f25.keep K37 nin0).other W46 (Or.inr (slot_ne (Or.inl (hw _ (own_w 24 rfl))) (Or.inl (hw _ (own_w 26 rfl))) (by decide) (t := (.array .int)) (t' := (.array .int)) (by decide) (by decide)))).other W50 (Or.inl ne_a0_rb37))
      obtain ⟨T53, X53, e53, st53⟩ := getF X50 hx hZ hown (host := "") (Or.inl (hw _ (own_w 23 rfl))) Via.refl e50 f52 (g := (mkF m 153 #[.val (.ref a0), .val (.int p1), .val (.int p2), .val (.int x3_122)] [(.ref a0)])) rfl rfl (hb hby d5_153)
      have f54 := (((Fw23.keep K37 nin0).other W46 (Or.inr (slot_ne (Or.inl (hw _ (own_w 33 rfl))) (Or.inl (hw _ (own_w 26 rfl))) (by decide) (t := .int) (t' := (.array .int)) (by decide) (by decide)))).other W50 (Or.inl ne_a0_rb37))
      obtain ⟨T55, X55, e55, st55⟩ := getF X53 hx hZ hown (host := "") (Or.inl (hw _ (own_w 32 rfl))) Via.refl e53 f54 (g := (mkF m 157 #[.val (.ref a0), .val (.int p1), .val (.int p2), .val (.int x3_122)] [(.ref a0), (.ref sa)])) rfl rfl (hb hby d5_157)
      have f56 := (((f28.keep K37 nin0).other W46 (Ne.symm ne_a0_sa)).other W50 ne_sa_rb37)
      obtain ⟨cl57, Ar57, hin57, set57⟩ := own_AI.arr f56 (j := (sz + (1 : Int32))) (own_i101 hI hc33)
      obtain ⟨T57, h57, X57, e57, W57, st57⟩ := stI X55 hx hZ e55 Ar57 (j := (sz + (1 : Int32))) hin57 (g := (mkF m 163 #[.val (.ref a0), .val (.int p1), .val (.int p2), .val (.int x3_122)] [(.int (x3_122 + (1 : Int32))), (.int (sz + (1 : Int32))), (.ref sa)])) rfl rfl (hb hby d5_163)
      have V57 : own_AI Z h57 sa ks .int zs (ws18.set ((sz + (1 : Int32))).toNatClampNeg (x3_122 + (1 : Int32))) := set57 _ _ rfl W57
      obtain ⟨ws57, hws57⟩ : ∃ z, z = (ws18.set ((sz + (1 : Int32))).toNatClampNeg (x3_122 + (1 : Int32))) := ⟨_, rfl⟩
      rw [← hws57] at V57
      have N57 := Fr.snoc X57 N50 g_sa
      have kp58 : Keep h0 h57 [a0, da, sa, pa] := kp51.wr W57 (Or.inl (own_w 2 rfl))
      obtain ⟨fs, hr, hrun, hended, hW, hsame⟩ := X57.leave (v := none) (fun _ => rfl)
      refine ⟨_, _, pre35 _ ?_, hrun, hended, _, _, rfl, ?_, ⟨_, rfl⟩, hW, hsame.mono (by decide) (by decide)⟩
      · show Steps p.tables e below (T32.setTop (mkF m 128 #[.val (.ref a0), .val (.int p1), .val (.int p2), .val (.int x3_122)] [(.int zp), (.int x3_122)])) _
        refine XS.icmpNo X32.here hx rfl (hb hby d5_128) rfl (teq hc128).2 ?_
        refine XS.aloadN X32.here hx rfl (hb hby d5_131) rfl rfl ?_
        refine XS.aloadN X32.here hx rfl (hb hby d5_132) rfl rfl ?_
        refine st36 _ ?_
        refine XS.iloadN X36.here hx rfl (hb hby d5_136) rfl ?_
        show Steps p.tables e below (T36.setTop (mkF m 137 #[.val (.ref a0), .val (.int p1), .val (.int p2), .val (.int x3_122)] [(.int x3_122), (.ref pa), (.ref a0)])) _
        refine XS.iconst X36.here hx rfl (hb hby d5_137) ?_
        refine XS.imul X36.here hx rfl (hb hby d5_138) rfl ?_
        refine st37 _ ?_
        refine st46 _ ?_
        refine XS.aloadN X46.here hx rfl (hb hby d5_145) rfl rfl ?_
        show Steps p.tables e below (T46.setTop (mkF m 146 #[.val (.ref a0), .val (.int p1), .val (.int p2), .val (.int x3_122)] [(.ref a0)])) _
        refine st48 _ ?_
        refine XS.iloadN X48.here hx rfl (hb hby d5_149) rfl ?_
        refine XS.iloadN X48.here hx rfl (hb hby d5_150) rfl ?_
        refine st50 _ ?_
        refine XS.aloadN X50.here hx rfl (hb hby d5_152) rfl rfl ?_
        show Steps p.tables e below (T50.setTop (mkF m 153 #[.val (.ref a0), .val (.int p1), .val (.int p2), .val (.int x3_122)] [(.ref a0)])) _
        refine st53 _ ?_
        refine XS.aloadN X53.here hx rfl (hb hby d5_156) rfl rfl ?_
        refine st55 _ ?_
        refine XS.iloadN X55.here hx rfl (hb hby d5_160) rfl ?_
        refine XS.iconst X55.here hx rfl (hb hby d5_161) ?_
        show Steps p.tables e below (T55.setTop (mkF m 162 #[.val (.ref a0), .val (.int p1), .val (.int p2), .val (.int x3_122)] [(.int (1 : Int32)), (.int x3_122), (.int (sz + (1 : Int32))), (.ref sa)])) _
        refine XS.iadd X55.here hx rfl (hb hby d5_162) rfl ?_
        refine st57 _ ?_
        show Steps p.tables e below (T57.setTop (mkF m 164 #[.val (.ref a0), .val (.int p1), .val (.int p2), .val (.int x3_122)] [])) _
        exact X57.returnOut hx Bd.returns (hb hby d5_164) hr
      · show Q5 Z a0 p1 p2 da sa pa kd ks kp zd zs zp ld ls lp sz h0 n0 _ T57.heap _
        rw [e57]
        unfold Q5
        have f59 := (((f44.wr W46).wr W50).wr W57)
        have f60 := ((((f41.keep K37).wr W46).wr W50).wr W57)
        have f61 := ((((f42.keep K37).wr W46).wr W50).wr W57)
        have f62 := (((po37_1.wr W46).wr W50).wr W57)
        have f63 := (((((((F_a0_documents.other W8 (Or.inl ne_a0_da)).other W18 (Or.inl ne_a0_sa)).other W23 (Or.inr (slot_ne (Or.inl (hw _ (own_w 22 rfl))) (Or.inl (hw _ (own_w 33 rfl))) (by decide) (t := (.array .int)) (t' := .int) (by decide) (by decide)))).keep K37 nin0).other W46 (Or.inr (slot_ne (Or.inl (hw _ (own_w 22 rfl))) (Or.inl (hw _ (own_w 26 rfl))) (by decide) (t := (.array .int)) (t' := (.array .int)) (by decide) (by decide)))).other W50 (Or.inl ne_a0_rb37)).other W57 (Or.inl ne_a0_sa))
        have f64 := (f52.other W57 (Or.inl ne_a0_sa))
        have f65 := ((Fw46.other W50 (Or.inl ne_a0_rb37)).other W57 (Or.inl ne_a0_sa))
        have f66 := (f54.other W57 (Or.inl ne_a0_sa))
        have f67 := ((((((V8.other W18 ne_da_sa).other W23 (Ne.symm ne_a0_da)).keep K37 nin0).other W46 (Ne.symm ne_a0_da)).other W50 ne_da_rb37).other W57 ne_da_sa)
        have f68 := (V50.other W57 (Ne.symm ne_sa_rb37))
        refine ⟨da, sa, rb37, kd, ks, kb37, rfl, N57, kp58, f59, ?_, ?_, ?_, ?_, f60, f61, f62, ?_, ?_, ?_, ne_da_sa, ne_da_rb37, ne_sa_rb37, ne_a0_da, ne_a0_sa, ne_a0_rb37, g_da, g_sa, g_rb37, (Or.inl rfl), (Or.inl rfl), (Or.inr sz_rb37)⟩
        · exact f63
        · exact f64
        · exact f65
        · rw [show (own_p5_size p1 ld sz) = (sz + (1 : Int32)) from (by subst hws57 hws50 hx3_122 hws18 hws8; simp only [own_p5_size, if_pos hc4, if_pos hc128])]; exact f66
        · rw [show (own_z5_db p1 zd zs ld sz) = zd from (by subst hws57 hws50 hx3_122 hws18 hws8; simp only [own_z5_db, if_pos hc4, if_pos hc128]), show (own_p5_db p1 zd zs ld sz) = ws8 from (by subst hws57 hws50 hx3_122 hws18 hws8; simp only [own_p5_db, if_pos hc4, if_pos hc128])]; exact f67
        · rw [show (own_z5_sb p1 zs ld sz) = zs from (by subst hws57 hws50 hx3_122 hws18 hws8; simp only [own_z5_sb, if_pos hc4, if_pos hc128]), show (own_p5_sb p1 zs ld ls sz) = ws57 from (by subst hws57 hws50 hx3_122 hws18 hws8; simp only [own_p5_sb, if_pos hc4, if_pos hc128])]; exact V57
        · rw [show (own_z5_pb p1 zs zp ld ls sz) = ((x3_122 * (2 : Int32))) from (by subst hws57 hws50 hx3_122 hws18 hws8; simp only [own_z5_pb, if_pos hc4, if_pos hc128]), show (own_p5_pb p1 p2 zs zp ld ls lp sz) = ws50 from (by subst hws57 hws50 hx3_122 hws18 hws8; simp only [own_p5_pb, if_pos hc4, if_pos hc128])]; exact f68
    · obtain ⟨T69, X69, e69, st69⟩ := getF X32 hx hZ hown (host := "") (Or.inl (hw _ (own_w 25 rfl))) Via.refl e32 f31 (g := (mkF m 146 #[.val (.ref a0), .val (.int p1), .val (.int p2), .val (.int x3_122)] [(.ref a0)])) rfl rfl (hb hby d5_146)
      obtain ⟨cl70, Ar70, hin70, set70⟩ := own_AI.arr f33 (j := x3_122) (own_i151 hI hB hc128)
      obtain ⟨T70, h70, X70, e70, W70, st70⟩ := stI X69 hx hZ e69 Ar70 (j := x3_122) hin70 (g := (mkF m 151 #[.val (.ref a0), .val (.int p1), .val (.int p2), .val (.int x3_122)] [(.int p2), (.int x3_122), (.ref pa)])) rfl rfl (hb hby d5_151)
      have V70 : own_AI Z h70 pa kp .int zp (lp.set (x3_122).toNatClampNeg p2) := set70 _ _ rfl W70
      obtain ⟨ws70, hws70⟩ : ∃ z, z = (lp.set (x3_122).toNatClampNeg p2) := ⟨_, rfl⟩
      rw [← hws70] at V70
      have N70 := Fr.snoc X70 N23 g_pa
      have kp71 : Keep h0 h70 [a0, da, sa, pa] := kp24.wr W70 (Or.inl (own_w 3 rfl))
      have f72 := (f25.other W70 (Or.inl ne_a0_pa))
      obtain ⟨T73, X73, e73, st73⟩ := getF X70 hx hZ hown (host := "") (Or.inl (hw _ (own_w 23 rfl))) Via.refl e70 f72 (g := (mkF m 153 #[.val (.ref a0), .val (.int p1), .val (.int p2), .val (.int x3_122)] [(.ref a0)])) rfl rfl (hb hby d5_153)
      have f74 := (Fw23.other W70 (Or.inl ne_a0_pa))
      obtain ⟨T75, X75, e75, st75⟩ := getF X73 hx hZ hown (host := "") (Or.inl (hw _ (own_w 32 rfl))) Via.refl e73 f74 (g := (mkF m 157 #[.val (.ref a0), .val (.int p1), .val (.int p2), .val (.int x3_122)] [(.ref a0), (.ref sa)])) rfl rfl (hb hby d5_157)
      have f76 := (f28.other W70 ne_sa_pa)
      obtain ⟨cl77, Ar77, hin77, set77⟩ := own_AI.arr f76 (j := (sz + (1 : Int32))) (own_i101 hI hc33)
      obtain ⟨T77, h77, X77, e77, W77, st77⟩ := stI X75 hx hZ e75 Ar77 (j := (sz + (1 : Int32))) hin77 (g := (mkF m 163 #[.val (.ref a0), .val (.int p1), .val (.int p2), .val (.int x3_122)] [(.int (x3_122 + (1 : Int32))), (.int (sz + (1 : Int32))), (.ref sa)])) rfl rfl (hb hby d5_163)
      have V77 : own_AI Z h77 sa ks .int zs (ws18.set ((sz + (1 : Int32))).toNatClampNeg (x3_122 + (1 : Int32))) := set77 _ _ rfl W77
      obtain ⟨ws77, hws77⟩ : ∃ z, z = (ws18.set ((sz + (1 : Int32))).toNatClampNeg (x3_122 + (1 : Int32))) := ⟨_, rfl⟩
      rw [← hws77] at V77
      have N77 := Fr.snoc X77 N70 g_sa
      have kp78 : Keep h0 h77 [a0, da, sa, pa] := kp71.wr W77 (Or.inl (own_w 2 rfl))
      obtain ⟨fs, hr, hrun, hended, hW, hsame⟩ := X77.leave (v := none) (fun _ => rfl)
      refine ⟨_, _, pre35 _ ?_, hrun, hended, _, _, rfl, ?_, ⟨_, rfl⟩, hW, hsame.mono (by decide) (by decide)⟩
      · show Steps p.tables e below (T32.setTop (mkF m 128 #[.val (.ref a0), .val (.int p1), .val (.int p2), .val (.int x3_122)] [(.int zp), (.int x3_122)])) _
        refine XS.icmpYes X32.here hx rfl (pc0 := 128) (pc' := 145) rfl (hb hby d5_128) rfl (feq hc128).2 (by decide) (by decide) ?_
        refine XS.aloadN X32.here hx rfl (hb hby d5_145) rfl rfl ?_
        refine st69 _ ?_
        refine XS.iloadN X69.here hx rfl (hb hby d5_149) rfl ?_
        refine XS.iloadN X69.here hx rfl (hb hby d5_150) rfl ?_
        show Steps p.tables e below (T69.setTop (mkF m 151 #[.val (.ref a0), .val (.int p1), .val (.int p2), .val (.int x3_122)] [(.int p2), (.int x3_122), (.ref pa)])) _
        refine st70 _ ?_
        refine XS.aloadN X70.here hx rfl (hb hby d5_152) rfl rfl ?_
        refine st73 _ ?_
        refine XS.aloadN X73.here hx rfl (hb hby d5_156) rfl rfl ?_
        refine st75 _ ?_
        show Steps p.tables e below (T75.setTop (mkF m 160 #[.val (.ref a0), .val (.int p1), .val (.int p2), .val (.int x3_122)] [(.int (sz + (1 : Int32))), (.ref sa)])) _
        refine XS.iloadN X75.here hx rfl (hb hby d5_160) rfl ?_
        refine XS.iconst X75.here hx rfl (hb hby d5_161) ?_
        refine XS.iadd X75.here hx rfl (hb hby d5_162) rfl ?_
        refine st77 _ ?_
        show Steps p.tables e below (T77.setTop (mkF m 164 #[.val (.ref a0), .val (.int p1), .val (.int p2), .val (.int x3_122)] [])) _
        exact X77.returnOut hx Bd.returns (hb hby d5_164) hr
      · show Q5 Z a0 p1 p2 da sa pa kd ks kp zd zs zp ld ls lp sz h0 n0 _ T77.heap _
        rw [e77]
        unfold Q5
        have f79 := (((f22.wr W23).wr W70).wr W77)
        have f80 := (((((E_da.wr W8).wr W18).wr W23).wr W70).wr W77)
        have f81 := (((((E_sa.wr W8).wr W18).wr W23).wr W70).wr W77)
        have f82 := (((((E_pa.wr W8).wr W18).wr W23).wr W70).wr W77)
        have f83 := (((((F_a0_documents.other W8 (Or.inl ne_a0_da)).other W18 (Or.inl ne_a0_sa)).other W23 (Or.inr (slot_ne (Or.inl (hw _ (own_w 22 rfl))) (Or.inl (hw _ (own_w 33 rfl))) (by decide) (t := (.array .int)) (t' := .int) (by decide) (by decide)))).other W70 (Or.inl ne_a0_pa)).other W77 (Or.inl ne_a0_sa))
        have f84 := (f72.other W77 (Or.inl ne_a0_sa))
        have f85 := ((f31.other W70 (Or.inl ne_a0_pa)).other W77 (Or.inl ne_a0_sa))
        have f86 := (f74.other W77 (Or.inl ne_a0_sa))
        have f87 := ((((V8.other W18 ne_da_sa).other W23 (Ne.symm ne_a0_da)).other W70 ne_da_pa).other W77 ne_da_sa)
        have f88 := (V70.other W77 (Ne.symm ne_sa_pa))
        refine ⟨da, sa, pa, kd, ks, kp, rfl, N77, kp78, f79, ?_, ?_, ?_, ?_, f80, f81, f82, ?_, ?_, ?_, ne_da_sa, ne_da_pa, ne_sa_pa, ne_a0_da, ne_a0_sa, ne_a0_pa, g_da, g_sa, g_pa, (Or.inl rfl), (Or.inl rfl), (Or.inl rfl)⟩
        · exact f83
        · exact f84
        · exact f85
        · rw [show (own_p5_size p1 ld sz) = (sz + (1 : Int32)) from (by subst hws77 hws70 hx3_122 hws18 hws8; simp only [own_p5_size, if_pos hc4, if_neg hc128])]; exact f86
        · rw [show (own_z5_db p1 zd zs ld sz) = zd from (by subst hws77 hws70 hx3_122 hws18 hws8; simp only [own_z5_db, if_pos hc4, if_neg hc128]), show (own_p5_db p1 zd zs ld sz) = ws8 from (by subst hws77 hws70 hx3_122 hws18 hws8; simp only [own_p5_db, if_pos hc4, if_neg hc128])]; exact f87
        · rw [show (own_z5_sb p1 zs ld sz) = zs from (by subst hws77 hws70 hx3_122 hws18 hws8; simp only [own_z5_sb, if_pos hc4, if_neg hc128]), show (own_p5_sb p1 zs ld ls sz) = ws77 from (by subst hws77 hws70 hx3_122 hws18 hws8; simp only [own_p5_sb, if_pos hc4, if_neg hc128])]; exact V77
        · rw [show (own_z5_pb p1 zs zp ld ls sz) = zp from (by subst hws77 hws70 hx3_122 hws18 hws8; simp only [own_z5_pb, if_pos hc4, if_neg hc128]), show (own_p5_pb p1 p2 zs zp ld ls lp sz) = ws70 from (by subst hws77 hws70 hx3_122 hws18 hws8; simp only [own_p5_pb, if_pos hc4, if_neg hc128])]; exact f88
  · obtain ⟨T89, X89, e89, st89⟩ := getF X1 hx hZ hown (host := "") (Or.inl (hw _ (own_w 21 rfl))) Via.refl e1 F_a0_documents (g := (mkF m 8 #[.val (.ref a0), .val (.int p1), .val (.int p2), .unset] [(.ref a0)])) rfl rfl (hb hby d5_8)
    obtain ⟨T90, X90, e90, st90⟩ := getF X89 hx hZ hown (host := "") (Or.inl (hw _ (own_w 32 rfl))) Via.refl e89 F_a0_size (g := (mkF m 12 #[.val (.ref a0), .val (.int p1), .val (.int p2), .unset] [(.ref a0), (.ref da)])) rfl rfl (hb hby d5_12)
    obtain ⟨cl91, Ar91, hin91, hat91⟩ := own_AI.at V_da (j := (sz - (1 : Int32))) (own_i17 hI hc4)
    have pre92 : own_Pre p e below (s₁.setTop (entryFrame m #[(.ref a0), (.int p1), (.int p2)] 4)) (T90.setTop (mkF m 19 #[.val (.ref a0), .val (.int p1), .val (.int p2), .unset] [(.int p1), (.int (ld.getD ((sz - (1 : Int32))).toNatClampNeg (0 : Int32)))])) := fun t k => pre2 t (by
        show Steps p.tables e below (T1.setTop (mkF m 4 #[.val (.ref a0), .val (.int p1), .val (.int p2), .unset] [(.int sz)])) _
        refine XS.ifNo X1.here hx rfl (hb hby d5_4) rfl ((if0 _ _).trans (feq hc4).1) ?_
        refine XS.aloadN X1.here hx rfl (hb hby d5_7) rfl rfl ?_
        refine st89 _ ?_
        refine XS.aloadN X89.here hx rfl (hb hby d5_11) rfl rfl ?_
        refine st90 _ ?_
        show Steps p.tables e below (T90.setTop (mkF m 15 #[.val (.ref a0), .val (.int p1), .val (.int p2), .unset] [(.int sz), (.ref da)])) _
        refine XS.iconst X90.here hx rfl (hb hby d5_15) ?_
        refine XS.isub X90.here hx rfl (hb hby d5_16) rfl ?_
        refine X90.iaload hx (j := (sz - (1 : Int32))) (v := (.int (ld.getD ((sz - (1 : Int32))).toNatClampNeg (0 : Int32)))) (by rw [e90]; exact Ar91.1) (State.isArrayOf_alike hZ.alike Ar91.2.1) Ar91.2.2 hin91 hat91 (g := (mkF m 17 #[.val (.ref a0), .val (.int p1), .val (.int p2), .unset] [(.int (sz - (1 : Int32))), (.ref da)])) rfl rfl (hb hby d5_17) _ ?_
        refine XS.iloadN X90.here hx rfl (hb hby d5_18) rfl ?_
        exact k)
    by_cases hc19 : (ld.getD ((sz - (1 : Int32))).toNatClampNeg (0 : Int32)) = p1
    · obtain ⟨T93, X93, e93, st93⟩ := getF X90 hx hZ hown (host := "") (Or.inl (hw _ (own_w 23 rfl))) Via.refl e90 F_a0_starts (g := (mkF m 113 #[.val (.ref a0), .val (.int p1), .val (.int p2), .unset] [(.ref a0)])) rfl rfl (hb hby d5_113)
      obtain ⟨T94, X94, e94, st94⟩ := getF X93 hx hZ hown (host := "") (Or.inl (hw _ (own_w 32 rfl))) Via.refl e93 F_a0_size (g := (mkF m 117 #[.val (.ref a0), .val (.int p1), .val (.int p2), .unset] [(.ref a0), (.ref sa)])) rfl rfl (hb hby d5_117)
      obtain ⟨cl95, Ar95, hin95, hat95⟩ := own_AI.at V_sa (j := sz) (own_i100 hI)
      obtain ⟨x3_122, hx3_122, pre96⟩ : ∃ z : Int32, z = (ls.getD (sz).toNatClampNeg (0 : Int32)) ∧ own_Pre p e below (s₁.setTop (entryFrame m #[(.ref a0), (.int p1), (.int p2)] 4)) (T94.setTop (mkF m 122 #[.val (.ref a0), .val (.int p1), .val (.int p2), .val (.int z)] [])) := ⟨_, rfl, fun t k => pre92 t (by
          show Steps p.tables e below (T90.setTop (mkF m 19 #[.val (.ref a0), .val (.int p1), .val (.int p2), .unset] [(.int p1), (.int (ld.getD ((sz - (1 : Int32))).toNatClampNeg (0 : Int32)))])) _
          refine XS.icmpYes X90.here hx rfl (pc0 := 19) (pc' := 112) rfl (hb hby d5_19) rfl (teq hc19).1 (by decide) (by decide) ?_
          refine XS.aloadN X90.here hx rfl (hb hby d5_112) rfl rfl ?_
          refine st93 _ ?_
          refine XS.aloadN X93.here hx rfl (hb hby d5_116) rfl rfl ?_
          refine st94 _ ?_
          show Steps p.tables e below (T94.setTop (mkF m 120 #[.val (.ref a0), .val (.int p1), .val (.int p2), .unset] [(.int sz), (.ref sa)])) _
          refine X94.iaload hx (j := sz) (v := (.int (ls.getD (sz).toNatClampNeg (0 : Int32)))) (by rw [e94]; exact Ar95.1) (State.isArrayOf_alike hZ.alike Ar95.2.1) Ar95.2.2 hin95 hat95 (g := (mkF m 120 #[.val (.ref a0), .val (.int p1), .val (.int p2), .unset] [(.int sz), (.ref sa)])) rfl rfl (hb hby d5_120) _ ?_
          refine XS.istoreN X94.here hx rfl (hb hby d5_121) rfl (l' := #[.val (.ref a0), .val (.int p1), .val (.int p2), .val (.int (ls.getD (sz).toNatClampNeg (0 : Int32)))]) rfl ?_
          exact k)⟩
      have hX : x3_122 = ls.getD sz.toNatClampNeg 0 := by exact hx3_122
      have hB := own_eb hI hX
      obtain ⟨T97, X97, e97, st97⟩ := getF X94 hx hZ hown (host := "") (Or.inl (hw _ (own_w 25 rfl))) Via.refl e94 F_a0_positions (g := (mkF m 124 #[.val (.ref a0), .val (.int p1), .val (.int p2), .val (.int x3_122)] [(.ref a0), (.int x3_122)])) rfl rfl (hb hby d5_124)
      obtain ⟨cl98, Ar98, S98, M98⟩ := V_pa.len
      have pre99 : own_Pre p e below (s₁.setTop (entryFrame m #[(.ref a0), (.int p1), (.int p2)] 4)) (T97.setTop (mkF m 128 #[.val (.ref a0), .val (.int p1), .val (.int p2), .val (.int x3_122)] [(.int zp), (.int x3_122)])) := fun t k => pre96 t (by
          show Steps p.tables e below (T94.setTop (mkF m 122 #[.val (.ref a0), .val (.int p1), .val (.int p2), .val (.int x3_122)] [])) _
          refine XS.iloadN X94.here hx rfl (hb hby d5_122) rfl ?_
          refine XS.aloadN X94.here hx rfl (hb hby d5_123) rfl rfl ?_
          refine st97 _ ?_
          refine X97.arraylength hx (by rw [e97]; exact Ar98.1) (State.isArrayOf_alike hZ.alike Ar98.2.1) (g := (mkF m 127 #[.val (.ref a0), .val (.int p1), .val (.int p2), .val (.int x3_122)] [(.ref pa), (.int x3_122)])) rfl rfl (hb hby d5_127) _ ?_
          rw [len_of S98 M98]
          exact k)
      by_cases hc128 : x3_122 = zp
      · obtain ⟨T100, X100, e100, st100⟩ := getF X97 hx hZ hown (host := "") (Or.inl (hw _ (own_w 25 rfl))) Via.refl e97 F_a0_positions (g := (mkF m 133 #[.val (.ref a0), .val (.int p1), .val (.int p2), .val (.int x3_122)] [(.ref a0), (.ref a0)])) rfl rfl (hb hby d5_133)
        obtain ⟨_, _, ⟨T101, L101, k101, n101⟩, -, X101, ⟨Lc101, hQ101, l101, y101, z101⟩, st101⟩ := Jvm.LawKit.callS X100 hx (y := (⟨"java/util/Arrays", "copyOf", "([II)[I"⟩ : MethodName)) hown (mvT hZ (hw _ (own_w 34 rfl))) (mvT hZ (hw _ (own_w 35 rfl))) (mvT hZ (hw _ (own_w 36 rfl))) (mvT hZ (hw _ (own_w 37 rfl))) (by decide) (backOf (W := 1) (rm6 l Z aw hw [] (pa) ((x3_122 * (2 : Int32))) (kp) (zp) (lp) (h0) n0 Z0 E_pa V_pa (own_i139 hB)) hZ (hw _ (own_w 37 rfl)) (hw _ (own_w 36 rfl)) (by decide) (by decide)) (g := (mkF m 139 #[.val (.ref a0), .val (.int p1), .val (.int p2), .val (.int x3_122)] [(.int (x3_122 * (2 : Int32))), (.ref pa), (.ref a0)])) rfl (by rw [hml]; rfl) (argsL := [(.ref pa), (.int (x3_122 * (2 : Int32)))]) (rest := [(.ref a0)]) (lenOf pd_1 rfl) rfl (by show 2 * 0 + _ ≤ _; exact Nat.le_of_eq rfl) (hb hby d5_139) (fun _ _ => ⟨rfl, e100, (by decide : 0 + 1 ≤ _), (by decide : 0 + 9 ≤ _)⟩)
        dsimp only [Pt.U, Pt.locs, Pt.cells, Pt.slots] at X101 l101 y101 z101 st101 hQ101
        subst l101 y101 z101
        obtain ⟨rb101, kb101, rfl, Nq101, K101, po101_0, po101_1, po101_2⟩ := hQ101
        have N101 := Fr.app N0 Nq101
        have kp102 : Keep h0 T101.heap [a0, da, sa, pa] := (Keep.refl h0 [a0, da, sa, pa]).trans K101 all0
        have ne_a0_rb101 : a0 ≠ rb101 := Nat.ne_of_lt (Nat.lt_of_lt_of_le E_a0.lt po101_0)
        have ne_da_rb101 : da ≠ rb101 := Nat.ne_of_lt (Nat.lt_of_lt_of_le E_da.lt po101_0)
        have ne_pa_rb101 : pa ≠ rb101 := Nat.ne_of_lt (Nat.lt_of_lt_of_le E_pa.lt po101_0)
        have ne_sa_rb101 : sa ≠ rb101 := Nat.ne_of_lt (Nat.lt_of_lt_of_le E_sa.lt po101_0)
        have g_rb101 : n0 ≤ rb101 := Nat.le_trans Z0 po101_0
        have sz_rb101 : h0.size ≤ rb101 := Nat.le_trans (Keep.refl h0 [a0, da, sa, pa]).1 po101_0
        have f103 := (E_a0.keep K101)
        have f104 := (F_a0_positions.keep K101 nin0)
        obtain ⟨T105, h105, X105, e105, W105, st105⟩ := putF X101 hx hZ hown (host := "") (Or.inl (hw _ (own_w 25 rfl))) Via.refl rfl f104 f103 (Or.inl (hw _ (own_w 26 rfl))) (hw _ (own_w 13 rfl)) (ty := (.array .int)) (by decide) rfl rfl (g := (mkF m 142 #[.val (.ref a0), .val (.int p1), .val (.int p2), .val (.int x3_122)] [(.ref rb101), (.ref a0)])) rfl rfl (hb hby d5_142)
        have Fw105 := f104.same W105
        have N105 := Fr.snoc X105 N101 g_a0
        have kp106 : Keep h0 h105 [a0, da, sa, pa] := kp102.wr W105 (Or.inl (own_w 0 rfl))
        obtain ⟨T107, X107, e107, st107⟩ := getF X105 hx hZ hown (host := "") (Or.inl (hw _ (own_w 25 rfl))) Via.refl e105 Fw105 (g := (mkF m 146 #[.val (.ref a0), .val (.int p1), .val (.int p2), .val (.int x3_122)] [(.ref a0)])) rfl rfl (hb hby d5_146)
        have f108 := (po101_2.other W105 (Ne.symm ne_a0_rb101))
        obtain ⟨cl109, Ar109, hin109, set109⟩ := own_AI.arr f108 (j := x3_122) (own_i151g hI hB hc128)
        obtain ⟨T109, h109, X109, e109, W109, st109⟩ := stI X107 hx hZ e107 Ar109 (j := x3_122) hin109 (g := (mkF m 151 #[.val (.ref a0), .val (.int p1), .val (.int p2), .val (.int x3_122)] [(.int p2), (.int x3_122), (.ref rb101)])) rfl rfl (hb hby d5_151)
        have V109 : own_AI Z h109 rb101 kb101 .int ((x3_122 * (2 : Int32))) ((own_cp lp zp ((x3_122 * (2 : Int32)))).set (x3_122).toNatClampNeg p2) := set109 _ _ rfl W109
        obtain ⟨ws109, hws109⟩ : ∃ z, z = ((own_cp lp zp ((x3_122 * (2 : Int32)))).set (x3_122).toNatClampNeg p2) := ⟨_, rfl⟩
        rw [← hws109] at V109
        have N109 := Fr.snoc X109 N105 g_rb101
        have kp110 : Keep h0 h109 [a0, da, sa, pa] := kp106.wr W109 (Or.inr sz_rb101)
        have f111 := (((F_a0_starts.keep K101 nin0).other W105 (Or.inr (slot_ne (Or.inl (hw _ (own_w 24 rfl))) (Or.inl (hw _ (own_w 26 rfl))) (by decide) (t := (.array .int)) (t' := (.array .int)) (by decide) (by decide)))).other W109 (Or.inl ne_a0_rb101))
        obtain ⟨T112, X112, e112, st112⟩ := getF X109 hx hZ hown (host := "") (Or.inl (hw _ (own_w 23 rfl))) Via.refl e109 f111 (g := (mkF m 153 #[.val (.ref a0), .val (.int p1), .val (.int p2), .val (.int x3_122)] [(.ref a0)])) rfl rfl (hb hby d5_153)
        have f113 := (((F_a0_size.keep K101 nin0).other W105 (Or.inr (slot_ne (Or.inl (hw _ (own_w 33 rfl))) (Or.inl (hw _ (own_w 26 rfl))) (by decide) (t := .int) (t' := (.array .int)) (by decide) (by decide)))).other W109 (Or.inl ne_a0_rb101))
        obtain ⟨T114, X114, e114, st114⟩ := getF X112 hx hZ hown (host := "") (Or.inl (hw _ (own_w 32 rfl))) Via.refl e112 f113 (g := (mkF m 157 #[.val (.ref a0), .val (.int p1), .val (.int p2), .val (.int x3_122)] [(.ref a0), (.ref sa)])) rfl rfl (hb hby d5_157)
        have f115 := (((V_sa.keep K101 nin0).other W105 (Ne.symm ne_a0_sa)).other W109 ne_sa_rb101)
        obtain ⟨cl116, Ar116, hin116, set116⟩ := own_AI.arr f115 (j := sz) (own_i100 hI)
        obtain ⟨T116, h116, X116, e116, W116, st116⟩ := stI X114 hx hZ e114 Ar116 (j := sz) hin116 (g := (mkF m 163 #[.val (.ref a0), .val (.int p1), .val (.int p2), .val (.int x3_122)] [(.int (x3_122 + (1 : Int32))), (.int sz), (.ref sa)])) rfl rfl (hb hby d5_163)
        have V116 : own_AI Z h116 sa ks .int zs (ls.set (sz).toNatClampNeg (x3_122 + (1 : Int32))) := set116 _ _ rfl W116
        obtain ⟨ws116, hws116⟩ : ∃ z, z = (ls.set (sz).toNatClampNeg (x3_122 + (1 : Int32))) := ⟨_, rfl⟩
        rw [← hws116] at V116
        have N116 := Fr.snoc X116 N109 g_sa
        have kp117 : Keep h0 h116 [a0, da, sa, pa] := kp110.wr W116 (Or.inl (own_w 2 rfl))
        obtain ⟨fs, hr, hrun, hended, hW, hsame⟩ := X116.leave (v := none) (fun _ => rfl)
        refine ⟨_, _, pre99 _ ?_, hrun, hended, _, _, rfl, ?_, ⟨_, rfl⟩, hW, hsame.mono (by decide) (by decide)⟩
        · show Steps p.tables e below (T97.setTop (mkF m 128 #[.val (.ref a0), .val (.int p1), .val (.int p2), .val (.int x3_122)] [(.int zp), (.int x3_122)])) _
          refine XS.icmpNo X97.here hx rfl (hb hby d5_128) rfl (teq hc128).2 ?_
          refine XS.aloadN X97.here hx rfl (hb hby d5_131) rfl rfl ?_
          refine XS.aloadN X97.here hx rfl (hb hby d5_132) rfl rfl ?_
          refine st100 _ ?_
          refine XS.iloadN X100.here hx rfl (hb hby d5_136) rfl ?_
          show Steps p.tables e below (T100.setTop (mkF m 137 #[.val (.ref a0), .val (.int p1), .val (.int p2), .val (.int x3_122)] [(.int x3_122), (.ref pa), (.ref a0)])) _
          refine XS.iconst X100.here hx rfl (hb hby d5_137) ?_
          refine XS.imul X100.here hx rfl (hb hby d5_138) rfl ?_
          refine st101 _ ?_
          refine st105 _ ?_
          refine XS.aloadN X105.here hx rfl (hb hby d5_145) rfl rfl ?_
          show Steps p.tables e below (T105.setTop (mkF m 146 #[.val (.ref a0), .val (.int p1), .val (.int p2), .val (.int x3_122)] [(.ref a0)])) _
          refine st107 _ ?_
          refine XS.iloadN X107.here hx rfl (hb hby d5_149) rfl ?_
          refine XS.iloadN X107.here hx rfl (hb hby d5_150) rfl ?_
          refine st109 _ ?_
          refine XS.aloadN X109.here hx rfl (hb hby d5_152) rfl rfl ?_
          show Steps p.tables e below (T109.setTop (mkF m 153 #[.val (.ref a0), .val (.int p1), .val (.int p2), .val (.int x3_122)] [(.ref a0)])) _
          refine st112 _ ?_
          refine XS.aloadN X112.here hx rfl (hb hby d5_156) rfl rfl ?_
          refine st114 _ ?_
          refine XS.iloadN X114.here hx rfl (hb hby d5_160) rfl ?_
          refine XS.iconst X114.here hx rfl (hb hby d5_161) ?_
          show Steps p.tables e below (T114.setTop (mkF m 162 #[.val (.ref a0), .val (.int p1), .val (.int p2), .val (.int x3_122)] [(.int (1 : Int32)), (.int x3_122), (.int sz), (.ref sa)])) _
          refine XS.iadd X114.here hx rfl (hb hby d5_162) rfl ?_
          refine st116 _ ?_
          show Steps p.tables e below (T116.setTop (mkF m 164 #[.val (.ref a0), .val (.int p1), .val (.int p2), .val (.int x3_122)] [])) _
          exact X116.returnOut hx Bd.returns (hb hby d5_164) hr
        · show Q5 Z a0 p1 p2 da sa pa kd ks kp zd zs zp ld ls lp sz h0 n0 _ T116.heap _
          rw [e116]
          unfold Q5
          have f118 := (((f103.wr W105).wr W109).wr W116)
          have f119 := ((((E_da.keep K101).wr W105).wr W109).wr W116)
          have f120 := ((((E_sa.keep K101).wr W105).wr W109).wr W116)
          have f121 := (((po101_1.wr W105).wr W109).wr W116)
          have f122 := ((((F_a0_documents.keep K101 nin0).other W105 (Or.inr (slot_ne (Or.inl (hw _ (own_w 22 rfl))) (Or.inl (hw _ (own_w 26 rfl))) (by decide) (t := (.array .int)) (t' := (.array .int)) (by decide) (by decide)))).other W109 (Or.inl ne_a0_rb101)).other W116 (Or.inl ne_a0_sa))
          have f123 := (f111.other W116 (Or.inl ne_a0_sa))
          have f124 := ((Fw105.other W109 (Or.inl ne_a0_rb101)).other W116 (Or.inl ne_a0_sa))
          have f125 := (f113.other W116 (Or.inl ne_a0_sa))
          have f126 := ((((V_da.keep K101 nin0).other W105 (Ne.symm ne_a0_da)).other W109 ne_da_rb101).other W116 ne_da_sa)
          have f127 := (V109.other W116 (Ne.symm ne_sa_rb101))
          refine ⟨da, sa, rb101, kd, ks, kb101, rfl, N116, kp117, f118, ?_, ?_, ?_, ?_, f119, f120, f121, ?_, ?_, ?_, ne_da_sa, ne_da_rb101, ne_sa_rb101, ne_a0_da, ne_a0_sa, ne_a0_rb101, g_da, g_sa, g_rb101, (Or.inl rfl), (Or.inl rfl), (Or.inr sz_rb101)⟩
          · exact f122
          · exact f123
          · exact f124
          · rw [show (own_p5_size p1 ld sz) = sz from (by subst hws116 hws109 hx3_122; simp only [own_p5_size, if_neg hc4, if_pos hc19, if_pos hc128])]; exact f125
          · rw [show (own_z5_db p1 zd zs ld sz) = zd from (by subst hws116 hws109 hx3_122; simp only [own_z5_db, if_neg hc4, if_pos hc19, if_pos hc128]), show (own_p5_db p1 zd zs ld sz) = ld from (by subst hws116 hws109 hx3_122; simp only [own_p5_db, if_neg hc4, if_pos hc19, if_pos hc128])]; exact f126
          · rw [show (own_z5_sb p1 zs ld sz) = zs from (by subst hws116 hws109 hx3_122; simp only [own_z5_sb, if_neg hc4, if_pos hc19, if_pos hc128]), show (own_p5_sb p1 zs ld ls sz) = ws116 from (by subst hws116 hws109 hx3_122; simp only [own_p5_sb, if_neg hc4, if_pos hc19, if_pos hc128])]; exact V116
          · rw [show (own_z5_pb p1 zs zp ld ls sz) = ((x3_122 * (2 : Int32))) from (by subst hws116 hws109 hx3_122; simp only [own_z5_pb, if_neg hc4, if_pos hc19, if_pos hc128]), show (own_p5_pb p1 p2 zs zp ld ls lp sz) = ws109 from (by subst hws116 hws109 hx3_122; simp only [own_p5_pb, if_neg hc4, if_pos hc19, if_pos hc128])]; exact f127
      · obtain ⟨T128, X128, e128, st128⟩ := getF X97 hx hZ hown (host := "") (Or.inl (hw _ (own_w 25 rfl))) Via.refl e97 F_a0_positions (g := (mkF m 146 #[.val (.ref a0), .val (.int p1), .val (.int p2), .val (.int x3_122)] [(.ref a0)])) rfl rfl (hb hby d5_146)
        obtain ⟨cl129, Ar129, hin129, set129⟩ := own_AI.arr V_pa (j := x3_122) (own_i151 hI hB hc128)
        obtain ⟨T129, h129, X129, e129, W129, st129⟩ := stI X128 hx hZ e128 Ar129 (j := x3_122) hin129 (g := (mkF m 151 #[.val (.ref a0), .val (.int p1), .val (.int p2), .val (.int x3_122)] [(.int p2), (.int x3_122), (.ref pa)])) rfl rfl (hb hby d5_151)
        have V129 : own_AI Z h129 pa kp .int zp (lp.set (x3_122).toNatClampNeg p2) := set129 _ _ rfl W129
        obtain ⟨ws129, hws129⟩ : ∃ z, z = (lp.set (x3_122).toNatClampNeg p2) := ⟨_, rfl⟩
        rw [← hws129] at V129
        have N129 := Fr.snoc X129 N0 g_pa
        have kp130 : Keep h0 h129 [a0, da, sa, pa] := (Keep.refl h0 [a0, da, sa, pa]).wr W129 (Or.inl (own_w 3 rfl))
        have f131 := (F_a0_starts.other W129 (Or.inl ne_a0_pa))
        obtain ⟨T132, X132, e132, st132⟩ := getF X129 hx hZ hown (host := "") (Or.inl (hw _ (own_w 23 rfl))) Via.refl e129 f131 (g := (mkF m 153 #[.val (.ref a0), .val (.int p1), .val (.int p2), .val (.int x3_122)] [(.ref a0)])) rfl rfl (hb hby d5_153)
        have f133 := (F_a0_size.other W129 (Or.inl ne_a0_pa))
        obtain ⟨T134, X134, e134, st134⟩ := getF X132 hx hZ hown (host := "") (Or.inl (hw _ (own_w 32 rfl))) Via.refl e132 f133 (g := (mkF m 157 #[.val (.ref a0), .val (.int p1), .val (.int p2), .val (.int x3_122)] [(.ref a0), (.ref sa)])) rfl rfl (hb hby d5_157)
        have f135 := (V_sa.other W129 ne_sa_pa)
        obtain ⟨cl136, Ar136, hin136, set136⟩ := own_AI.arr f135 (j := sz) (own_i100 hI)
        obtain ⟨T136, h136, X136, e136, W136, st136⟩ := stI X134 hx hZ e134 Ar136 (j := sz) hin136 (g := (mkF m 163 #[.val (.ref a0), .val (.int p1), .val (.int p2), .val (.int x3_122)] [(.int (x3_122 + (1 : Int32))), (.int sz), (.ref sa)])) rfl rfl (hb hby d5_163)
        have V136 : own_AI Z h136 sa ks .int zs (ls.set (sz).toNatClampNeg (x3_122 + (1 : Int32))) := set136 _ _ rfl W136
        obtain ⟨ws136, hws136⟩ : ∃ z, z = (ls.set (sz).toNatClampNeg (x3_122 + (1 : Int32))) := ⟨_, rfl⟩
        rw [← hws136] at V136
        have N136 := Fr.snoc X136 N129 g_sa
        have kp137 : Keep h0 h136 [a0, da, sa, pa] := kp130.wr W136 (Or.inl (own_w 2 rfl))
        obtain ⟨fs, hr, hrun, hended, hW, hsame⟩ := X136.leave (v := none) (fun _ => rfl)
        refine ⟨_, _, pre99 _ ?_, hrun, hended, _, _, rfl, ?_, ⟨_, rfl⟩, hW, hsame.mono (by decide) (by decide)⟩
        · show Steps p.tables e below (T97.setTop (mkF m 128 #[.val (.ref a0), .val (.int p1), .val (.int p2), .val (.int x3_122)] [(.int zp), (.int x3_122)])) _
          refine XS.icmpYes X97.here hx rfl (pc0 := 128) (pc' := 145) rfl (hb hby d5_128) rfl (feq hc128).2 (by decide) (by decide) ?_
          refine XS.aloadN X97.here hx rfl (hb hby d5_145) rfl rfl ?_
          refine st128 _ ?_
          refine XS.iloadN X128.here hx rfl (hb hby d5_149) rfl ?_
          refine XS.iloadN X128.here hx rfl (hb hby d5_150) rfl ?_
          show Steps p.tables e below (T128.setTop (mkF m 151 #[.val (.ref a0), .val (.int p1), .val (.int p2), .val (.int x3_122)] [(.int p2), (.int x3_122), (.ref pa)])) _
          refine st129 _ ?_
          refine XS.aloadN X129.here hx rfl (hb hby d5_152) rfl rfl ?_
          refine st132 _ ?_
          refine XS.aloadN X132.here hx rfl (hb hby d5_156) rfl rfl ?_
          refine st134 _ ?_
          show Steps p.tables e below (T134.setTop (mkF m 160 #[.val (.ref a0), .val (.int p1), .val (.int p2), .val (.int x3_122)] [(.int sz), (.ref sa)])) _
          refine XS.iloadN X134.here hx rfl (hb hby d5_160) rfl ?_
          refine XS.iconst X134.here hx rfl (hb hby d5_161) ?_
          refine XS.iadd X134.here hx rfl (hb hby d5_162) rfl ?_
          refine st136 _ ?_
          show Steps p.tables e below (T136.setTop (mkF m 164 #[.val (.ref a0), .val (.int p1), .val (.int p2), .val (.int x3_122)] [])) _
          exact X136.returnOut hx Bd.returns (hb hby d5_164) hr
        · show Q5 Z a0 p1 p2 da sa pa kd ks kp zd zs zp ld ls lp sz h0 n0 _ T136.heap _
          rw [e136]
          unfold Q5
          have f138 := ((E_a0.wr W129).wr W136)
          have f139 := ((E_da.wr W129).wr W136)
          have f140 := ((E_sa.wr W129).wr W136)
          have f141 := ((E_pa.wr W129).wr W136)
          have f142 := ((F_a0_documents.other W129 (Or.inl ne_a0_pa)).other W136 (Or.inl ne_a0_sa))
          have f143 := (f131.other W136 (Or.inl ne_a0_sa))
          have f144 := ((F_a0_positions.other W129 (Or.inl ne_a0_pa)).other W136 (Or.inl ne_a0_sa))
          have f145 := (f133.other W136 (Or.inl ne_a0_sa))
          have f146 := ((V_da.other W129 ne_da_pa).other W136 ne_da_sa)
          have f147 := (V129.other W136 (Ne.symm ne_sa_pa))
          refine ⟨da, sa, pa, kd, ks, kp, rfl, N136, kp137, f138, ?_, ?_, ?_, ?_, f139, f140, f141, ?_, ?_, ?_, ne_da_sa, ne_da_pa, ne_sa_pa, ne_a0_da, ne_a0_sa, ne_a0_pa, g_da, g_sa, g_pa, (Or.inl rfl), (Or.inl rfl), (Or.inl rfl)⟩
          · exact f142
          · exact f143
          · exact f144
          · rw [show (own_p5_size p1 ld sz) = sz from (by subst hws136 hws129 hx3_122; simp only [own_p5_size, if_neg hc4, if_pos hc19, if_neg hc128])]; exact f145
          · rw [show (own_z5_db p1 zd zs ld sz) = zd from (by subst hws136 hws129 hx3_122; simp only [own_z5_db, if_neg hc4, if_pos hc19, if_neg hc128]), show (own_p5_db p1 zd zs ld sz) = ld from (by subst hws136 hws129 hx3_122; simp only [own_p5_db, if_neg hc4, if_pos hc19, if_neg hc128])]; exact f146
          · rw [show (own_z5_sb p1 zs ld sz) = zs from (by subst hws136 hws129 hx3_122; simp only [own_z5_sb, if_neg hc4, if_pos hc19, if_neg hc128]), show (own_p5_sb p1 zs ld ls sz) = ws136 from (by subst hws136 hws129 hx3_122; simp only [own_p5_sb, if_neg hc4, if_pos hc19, if_neg hc128])]; exact V136
          · rw [show (own_z5_pb p1 zs zp ld ls sz) = zp from (by subst hws136 hws129 hx3_122; simp only [own_z5_pb, if_neg hc4, if_pos hc19, if_neg hc128]), show (own_p5_pb p1 p2 zs zp ld ls lp sz) = ws129 from (by subst hws136 hws129 hx3_122; simp only [own_p5_pb, if_neg hc4, if_pos hc19, if_neg hc128])]; exact f147
    · obtain ⟨T148, X148, e148, st148⟩ := getF X90 hx hZ hown (host := "") (Or.inl (hw _ (own_w 32 rfl))) Via.refl e90 F_a0_size (g := (mkF m 23 #[.val (.ref a0), .val (.int p1), .val (.int p2), .unset] [(.ref a0)])) rfl rfl (hb hby d5_23)
      obtain ⟨T149, X149, e149, st149⟩ := getF X148 hx hZ hown (host := "") (Or.inl (hw _ (own_w 23 rfl))) Via.refl e148 F_a0_starts (g := (mkF m 29 #[.val (.ref a0), .val (.int p1), .val (.int p2), .unset] [(.ref a0), (.int (sz + (1 : Int32)))])) rfl rfl (hb hby d5_29)
      obtain ⟨cl150, Ar150, S150, M150⟩ := V_sa.len
      have pre151 : own_Pre p e below (s₁.setTop (entryFrame m #[(.ref a0), (.int p1), (.int p2)] 4)) (T149.setTop (mkF m 33 #[.val (.ref a0), .val (.int p1), .val (.int p2), .unset] [(.int zs), (.int (sz + (1 : Int32)))])) := fun t k => pre92 t (by
          show Steps p.tables e below (T90.setTop (mkF m 19 #[.val (.ref a0), .val (.int p1), .val (.int p2), .unset] [(.int p1), (.int (ld.getD ((sz - (1 : Int32))).toNatClampNeg (0 : Int32)))])) _
          refine XS.icmpNo X90.here hx rfl (hb hby d5_19) rfl (feq hc19).1 ?_
          refine XS.aloadN X90.here hx rfl (hb hby d5_22) rfl rfl ?_
          refine st148 _ ?_
          refine XS.iconst X148.here hx rfl (hb hby d5_26) ?_
          refine XS.iadd X148.here hx rfl (hb hby d5_27) rfl ?_
          show Steps p.tables e below (T148.setTop (mkF m 28 #[.val (.ref a0), .val (.int p1), .val (.int p2), .unset] [(.int (sz + (1 : Int32)))])) _
          refine XS.aloadN X148.here hx rfl (hb hby d5_28) rfl rfl ?_
          refine st149 _ ?_
          refine X149.arraylength hx (by rw [e149]; exact Ar150.1) (State.isArrayOf_alike hZ.alike Ar150.2.1) (g := (mkF m 32 #[.val (.ref a0), .val (.int p1), .val (.int p2), .unset] [(.ref sa), (.int (sz + (1 : Int32)))])) rfl rfl (hb hby d5_32) _ ?_
          rw [len_of S150 M150]
          exact k)
      by_cases hc33 : (sz + (1 : Int32)) = zs
      · obtain ⟨T152, X152, e152, st152⟩ := getF X149 hx hZ hown (host := "") (Or.inl (hw _ (own_w 21 rfl))) Via.refl e149 F_a0_documents (g := (mkF m 38 #[.val (.ref a0), .val (.int p1), .val (.int p2), .unset] [(.ref a0), (.ref a0)])) rfl rfl (hb hby d5_38)
        obtain ⟨T153, X153, e153, st153⟩ := getF X152 hx hZ hown (host := "") (Or.inl (hw _ (own_w 32 rfl))) Via.refl e152 F_a0_size (g := (mkF m 42 #[.val (.ref a0), .val (.int p1), .val (.int p2), .unset] [(.ref a0), (.ref da), (.ref a0)])) rfl rfl (hb hby d5_42)
        obtain ⟨_, _, ⟨T154, L154, k154, n154⟩, -, X154, ⟨Lc154, hQ154, l154, y154, z154⟩, st154⟩ := Jvm.LawKit.callS X153 hx (y := (⟨"java/util/Arrays", "copyOf", "([II)[I"⟩ : MethodName)) hown (mvT hZ (hw _ (own_w 34 rfl))) (mvT hZ (hw _ (own_w 35 rfl))) (mvT hZ (hw _ (own_w 36 rfl))) (mvT hZ (hw _ (own_w 37 rfl))) (by decide) (backOf (W := 1) (rm6 l Z aw hw [] (da) ((sz * (2 : Int32))) (kd) (zd) (ld) (h0) n0 Z0 E_da V_da (own_g hI hc33).1) hZ (hw _ (own_w 37 rfl)) (hw _ (own_w 36 rfl)) (by decide) (by decide)) (g := (mkF m 47 #[.val (.ref a0), .val (.int p1), .val (.int p2), .unset] [(.int (sz * (2 : Int32))), (.ref da), (.ref a0)])) rfl (by rw [hml]; rfl) (argsL := [(.ref da), (.int (sz * (2 : Int32)))]) (rest := [(.ref a0)]) (lenOf pd_1 rfl) rfl (by show 2 * 0 + _ ≤ _; exact Nat.le_of_eq rfl) (hb hby d5_47) (fun _ _ => ⟨rfl, e153, (by decide : 0 + 1 ≤ _), (by decide : 0 + 9 ≤ _)⟩)
        dsimp only [Pt.U, Pt.locs, Pt.cells, Pt.slots] at X154 l154 y154 z154 st154 hQ154
        subst l154 y154 z154
        obtain ⟨rb154, kb154, rfl, Nq154, K154, po154_0, po154_1, po154_2⟩ := hQ154
        have N154 := Fr.app N0 Nq154
        have kp155 : Keep h0 T154.heap [a0, da, sa, pa] := (Keep.refl h0 [a0, da, sa, pa]).trans K154 all0
        have ne_a0_rb154 : a0 ≠ rb154 := Nat.ne_of_lt (Nat.lt_of_lt_of_le E_a0.lt po154_0)
        have ne_da_rb154 : da ≠ rb154 := Nat.ne_of_lt (Nat.lt_of_lt_of_le E_da.lt po154_0)
        have ne_pa_rb154 : pa ≠ rb154 := Nat.ne_of_lt (Nat.lt_of_lt_of_le E_pa.lt po154_0)
        have ne_sa_rb154 : sa ≠ rb154 := Nat.ne_of_lt (Nat.lt_of_lt_of_le E_sa.lt po154_0)
        have g_rb154 : n0 ≤ rb154 := Nat.le_trans Z0 po154_0
        have sz_rb154 : h0.size ≤ rb154 := Nat.le_trans (Keep.refl h0 [a0, da, sa, pa]).1 po154_0
        have f156 := (E_a0.keep K154)
        have f157 := (F_a0_documents.keep K154 nin0)
        obtain ⟨T158, h158, X158, e158, W158, st158⟩ := putF X154 hx hZ hown (host := "") (Or.inl (hw _ (own_w 21 rfl))) Via.refl rfl f157 f156 (Or.inl (hw _ (own_w 22 rfl))) (hw _ (own_w 13 rfl)) (ty := (.array .int)) (by decide) rfl rfl (g := (mkF m 50 #[.val (.ref a0), .val (.int p1), .val (.int p2), .unset] [(.ref rb154), (.ref a0)])) rfl rfl (hb hby d5_50)
        have Fw158 := f157.same W158
        have N158 := Fr.snoc X158 N154 g_a0
        have kp159 : Keep h0 h158 [a0, da, sa, pa] := kp155.wr W158 (Or.inl (own_w 0 rfl))
        have f160 := ((F_a0_starts.keep K154 nin0).other W158 (Or.inr (slot_ne (Or.inl (hw _ (own_w 24 rfl))) (Or.inl (hw _ (own_w 22 rfl))) (by decide) (t := (.array .int)) (t' := (.array .int)) (by decide) (by decide))))
        obtain ⟨T161, X161, e161, st161⟩ := getF X158 hx hZ hown (host := "") (Or.inl (hw _ (own_w 23 rfl))) Via.refl e158 f160 (g := (mkF m 55 #[.val (.ref a0), .val (.int p1), .val (.int p2), .unset] [(.ref a0), (.ref a0)])) rfl rfl (hb hby d5_55)
        have f162 := ((F_a0_size.keep K154 nin0).other W158 (Or.inr (slot_ne (Or.inl (hw _ (own_w 33 rfl))) (Or.inl (hw _ (own_w 22 rfl))) (by decide) (t := .int) (t' := (.array .int)) (by decide) (by decide))))
        obtain ⟨T163, X163, e163, st163⟩ := getF X161 hx hZ hown (host := "") (Or.inl (hw _ (own_w 32 rfl))) Via.refl e161 f162 (g := (mkF m 59 #[.val (.ref a0), .val (.int p1), .val (.int p2), .unset] [(.ref a0), (.ref sa), (.ref a0)])) rfl rfl (hb hby d5_59)
        have f165 := ((E_sa.keep K154).wr W158)
        have f166 := ((V_sa.keep K154 nin0).other W158 (Ne.symm ne_a0_sa))
        have z167 : n0 ≤ (h158).size := (Nat.le_trans (Nat.le_trans Z0 K154.1) (Keep.of_wr W158).1)
        have f168 := (f156.wr W158)
        have f169 := ((E_da.keep K154).wr W158)
        have f170 := ((E_pa.keep K154).wr W158)
        have f171 := (po154_1.wr W158)
        obtain ⟨_, _, ⟨T164, L164, k164, n164⟩, -, X164, ⟨Lc164, hQ164, l164, y164, z164⟩, st164⟩ := Jvm.LawKit.callS X163 hx (y := (⟨"java/util/Arrays", "copyOf", "([II)[I"⟩ : MethodName)) hown (mvT hZ (hw _ (own_w 34 rfl))) (mvT hZ (hw _ (own_w 35 rfl))) (mvT hZ (hw _ (own_w 36 rfl))) (mvT hZ (hw _ (own_w 37 rfl))) (by decide) (backOf (W := 1) (rm6 l Z aw hw [] (sa) (((sz * (2 : Int32)) + (1 : Int32))) (ks) (zs) (ls) (h158) n0 z167 f165 f166 (own_g hI hc33).2.1) hZ (hw _ (own_w 37 rfl)) (hw _ (own_w 36 rfl)) (by decide) (by decide)) (g := (mkF m 66 #[.val (.ref a0), .val (.int p1), .val (.int p2), .unset] [(.int ((sz * (2 : Int32)) + (1 : Int32))), (.ref sa), (.ref a0)])) rfl (by rw [hml]; rfl) (argsL := [(.ref sa), (.int ((sz * (2 : Int32)) + (1 : Int32)))]) (rest := [(.ref a0)]) (lenOf pd_1 rfl) rfl (by show 2 * 0 + _ ≤ _; exact Nat.le_of_eq rfl) (hb hby d5_66) (fun _ _ => ⟨rfl, e163, (by decide : 1 + 1 ≤ _), (by decide : 9 + 9 ≤ _)⟩)
        dsimp only [Pt.U, Pt.locs, Pt.cells, Pt.slots] at X164 l164 y164 z164 st164 hQ164
        subst l164 y164 z164
        obtain ⟨rb164, kb164, rfl, Nq164, K164, po164_0, po164_1, po164_2⟩ := hQ164
        have N164 := Fr.app N158 Nq164
        have kp172 : Keep h0 T164.heap [a0, da, sa, pa] := kp159.trans K164 all0
        have ne_a0_rb164 : a0 ≠ rb164 := Nat.ne_of_lt (Nat.lt_of_lt_of_le f168.lt po164_0)
        have ne_da_rb164 : da ≠ rb164 := Nat.ne_of_lt (Nat.lt_of_lt_of_le f169.lt po164_0)
        have ne_pa_rb164 : pa ≠ rb164 := Nat.ne_of_lt (Nat.lt_of_lt_of_le f170.lt po164_0)
        have ne_rb154_rb164 : rb154 ≠ rb164 := Nat.ne_of_lt (Nat.lt_of_lt_of_le f171.lt po164_0)
        have ne_sa_rb164 : sa ≠ rb164 := Nat.ne_of_lt (Nat.lt_of_lt_of_le f165.lt po164_0)
        have g_rb164 : n0 ≤ rb164 := Nat.le_trans z167 po164_0
        have sz_rb164 : h0.size ≤ rb164 := Nat.le_trans kp159.1 po164_0
        have f173 := (f168.keep K164)
        have f174 := (f160.keep K164 nin0)
        obtain ⟨T175, h175, X175, e175, W175, st175⟩ := putF X164 hx hZ hown (host := "") (Or.inl (hw _ (own_w 23 rfl))) Via.refl rfl f174 f173 (Or.inl (hw _ (own_w 24 rfl))) (hw _ (own_w 13 rfl)) (ty := (.array .int)) (by decide) rfl rfl (g := (mkF m 69 #[.val (.ref a0), .val (.int p1), .val (.int p2), .unset] [(.ref rb164), (.ref a0)])) rfl rfl (hb hby d5_69)
        have Fw175 := f174.same W175
        have N175 := Fr.snoc X175 N164 g_a0
        have kp176 : Keep h0 h175 [a0, da, sa, pa] := kp172.wr W175 (Or.inl (own_w 0 rfl))
        have f177 := ((Fw158.keep K164 nin0).other W175 (Or.inr (slot_ne (Or.inl (hw _ (own_w 22 rfl))) (Or.inl (hw _ (own_w 24 rfl))) (by decide) (t := (.array .int)) (t' := (.array .int)) (by decide) (by decide))))
        obtain ⟨T178, X178, e178, st178⟩ := getF X175 hx hZ hown (host := "") (Or.inl (hw _ (own_w 21 rfl))) Via.refl e175 f177 (g := (mkF m 73 #[.val (.ref a0), .val (.int p1), .val (.int p2), .unset] [(.ref a0)])) rfl rfl (hb hby d5_73)
        have f179 := ((f162.keep K164 nin0).other W175 (Or.inr (slot_ne (Or.inl (hw _ (own_w 33 rfl))) (Or.inl (hw _ (own_w 24 rfl))) (by decide) (t := .int) (t' := (.array .int)) (by decide) (by decide))))
        obtain ⟨T180, X180, e180, st180⟩ := getF X178 hx hZ hown (host := "") (Or.inl (hw _ (own_w 32 rfl))) Via.refl e178 f179 (g := (mkF m 77 #[.val (.ref a0), .val (.int p1), .val (.int p2), .unset] [(.ref a0), (.ref rb154)])) rfl rfl (hb hby d5_77)
        have f181 := (((po154_2.other W158 (Ne.symm ne_a0_rb154)).keep K164 nin0).other W175 (Ne.symm ne_a0_rb154))
        obtain ⟨cl182, Ar182, hin182, set182⟩ := own_AI.arr f181 (j := sz) ((own_g hI hc33).2.2.1)
        obtain ⟨T182, h182, X182, e182, W182, st182⟩ := stI X180 hx hZ e180 Ar182 (j := sz) hin182 (g := (mkF m 81 #[.val (.ref a0), .val (.int p1), .val (.int p2), .unset] [(.int p1), (.int sz), (.ref rb154)])) rfl rfl (hb hby d5_81)
        have V182 : own_AI Z h182 rb154 kb154 .int ((sz * (2 : Int32))) ((own_cp ld zd ((sz * (2 : Int32)))).set (sz).toNatClampNeg p1) := set182 _ _ rfl W182
        obtain ⟨ws182, hws182⟩ : ∃ z, z = ((own_cp ld zd ((sz * (2 : Int32)))).set (sz).toNatClampNeg p1) := ⟨_, rfl⟩
        rw [← hws182] at V182
        have N182 := Fr.snoc X182 N175 g_rb154
        have kp183 : Keep h0 h182 [a0, da, sa, pa] := kp176.wr W182 (Or.inr sz_rb154)
        have f184 := (Fw175.other W182 (Or.inl ne_a0_rb154))
        obtain ⟨T185, X185, e185, st185⟩ := getF X182 hx hZ hown (host := "") (Or.inl (hw _ (own_w 23 rfl))) Via.refl e182 f184 (g := (mkF m 83 #[.val (.ref a0), .val (.int p1), .val (.int p2), .unset] [(.ref a0)])) rfl rfl (hb hby d5_83)
        have f186 := (f179.other W182 (Or.inl ne_a0_rb154))
        obtain ⟨T187, X187, e187, st187⟩ := getF X185 hx hZ hown (host := "") (Or.inl (hw _ (own_w 32 rfl))) Via.refl e185 f186 (g := (mkF m 87 #[.val (.ref a0), .val (.int p1), .val (.int p2), .unset] [(.ref a0), (.ref rb164)])) rfl rfl (hb hby d5_87)
        obtain ⟨T188, X188, e188, st188⟩ := getF X187 hx hZ hown (host := "") (Or.inl (hw _ (own_w 23 rfl))) Via.refl e187 f184 (g := (mkF m 93 #[.val (.ref a0), .val (.int p1), .val (.int p2), .unset] [(.ref a0), (.int (sz + (1 : Int32))), (.ref rb164)])) rfl rfl (hb hby d5_93)
        obtain ⟨T189, X189, e189, st189⟩ := getF X188 hx hZ hown (host := "") (Or.inl (hw _ (own_w 32 rfl))) Via.refl e188 f186 (g := (mkF m 97 #[.val (.ref a0), .val (.int p1), .val (.int p2), .unset] [(.ref a0), (.ref rb164), (.int (sz + (1 : Int32))), (.ref rb164)])) rfl rfl (hb hby d5_97)
        have f190 := ((po164_2.other W175 (Ne.symm ne_a0_rb164)).other W182 (Ne.symm ne_rb154_rb164))
        obtain ⟨cl191, Ar191, hin191, hat191⟩ := own_AI.at f190 (j := sz) ((own_g hI hc33).2.2.2.1)
        obtain ⟨cl192, Ar192, hin192, set192⟩ := own_AI.arr f190 (j := (sz + (1 : Int32))) ((own_g hI hc33).2.2.2.2)
        obtain ⟨T192, h192, X192, e192, W192, st192⟩ := stI X189 hx hZ e189 Ar192 (j := (sz + (1 : Int32))) hin192 (g := (mkF m 101 #[.val (.ref a0), .val (.int p1), .val (.int p2), .unset] [(.int ((own_cp ls zs (((sz * (2 : Int32)) + (1 : Int32)))).getD (sz).toNatClampNeg (0 : Int32))), (.int (sz + (1 : Int32))), (.ref rb164)])) rfl rfl (hb hby d5_101)
        have V192 : own_AI Z h192 rb164 kb164 .int (((sz * (2 : Int32)) + (1 : Int32))) ((own_cp ls zs (((sz * (2 : Int32)) + (1 : Int32)))).set ((sz + (1 : Int32))).toNatClampNeg ((own_cp ls zs (((sz * (2 : Int32)) + (1 : Int32)))).getD (sz).toNatClampNeg (0 : Int32))) := set192 _ _ rfl W192
        obtain ⟨ws192, hws192⟩ : ∃ z, z = ((own_cp ls zs (((sz * (2 : Int32)) + (1 : Int32)))).set ((sz + (1 : Int32))).toNatClampNeg ((own_cp ls zs (((sz * (2 : Int32)) + (1 : Int32)))).getD (sz).toNatClampNeg (0 : Int32))) := ⟨_, rfl⟩
        rw [← hws192] at V192
        have N192 := Fr.snoc X192 N182 g_rb164
        have kp193 : Keep h0 h192 [a0, da, sa, pa] := kp183.wr W192 (Or.inr sz_rb164)
        have f194 := (f186.other W192 (Or.inl ne_a0_rb164))
        obtain ⟨T195, X195, e195, st195⟩ := getF X192 hx hZ hown (host := "") (Or.inl (hw _ (own_w 32 rfl))) Via.refl e192 f194 (g := (mkF m 104 #[.val (.ref a0), .val (.int p1), .val (.int p2), .unset] [(.ref a0), (.ref a0)])) rfl rfl (hb hby d5_104)
        have f196 := (((f173.wr W175).wr W182).wr W192)
        obtain ⟨T197, h197, X197, e197, W197, st197⟩ := putF X195 hx hZ hown (host := "") (Or.inl (hw _ (own_w 32 rfl))) Via.refl e195 f194 f196 (Or.inl (hw _ (own_w 33 rfl))) (hw _ (own_w 13 rfl)) (ty := .int) (by decide) rfl rfl (g := (mkF m 109 #[.val (.ref a0), .val (.int p1), .val (.int p2), .unset] [(.int (sz + (1 : Int32))), (.ref a0)])) rfl rfl (hb hby d5_109)
        have Fw197 := f194.same W197
        have N197 := Fr.snoc X197 N192 g_a0
        have kp198 : Keep h0 h197 [a0, da, sa, pa] := kp193.wr W197 (Or.inl (own_w 0 rfl))
        have f199 := ((f184.other W192 (Or.inl ne_a0_rb164)).other W197 (Or.inr (slot_ne (Or.inl (hw _ (own_w 24 rfl))) (Or.inl (hw _ (own_w 33 rfl))) (by decide) (t := (.array .int)) (t' := .int) (by decide) (by decide))))
        obtain ⟨T200, X200, e200, st200⟩ := getF X197 hx hZ hown (host := "") (Or.inl (hw _ (own_w 23 rfl))) Via.refl e197 f199 (g := (mkF m 113 #[.val (.ref a0), .val (.int p1), .val (.int p2), .unset] [(.ref a0)])) rfl rfl (hb hby d5_113)
        obtain ⟨T201, X201, e201, st201⟩ := getF X200 hx hZ hown (host := "") (Or.inl (hw _ (own_w 32 rfl))) Via.refl e200 Fw197 (g := (mkF m 117 #[.val (.ref a0), .val (.int p1), .val (.int p2), .unset] [(.ref a0), (.ref rb164)])) rfl rfl (hb hby d5_117)
        have f202 := (V192.other W197 (Ne.symm ne_a0_rb164))
        obtain ⟨cl203, Ar203, hin203, hat203⟩ := own_AI.at f202 (j := (sz + (1 : Int32))) ((own_g hI hc33).2.2.2.2)
        obtain ⟨x3_122, hx3_122, pre204⟩ : ∃ z : Int32, z = (ws192.getD ((sz + (1 : Int32))).toNatClampNeg (0 : Int32)) ∧ own_Pre p e below (s₁.setTop (entryFrame m #[(.ref a0), (.int p1), (.int p2)] 4)) (T201.setTop (mkF m 122 #[.val (.ref a0), .val (.int p1), .val (.int p2), .val (.int z)] [])) := ⟨_, rfl, fun t k => pre151 t (by
            show Steps p.tables e below (T149.setTop (mkF m 33 #[.val (.ref a0), .val (.int p1), .val (.int p2), .unset] [(.int zs), (.int (sz + (1 : Int32)))])) _
            refine XS.icmpNo X149.here hx rfl (hb hby d5_33) rfl (teq hc33).2 ?_
            refine XS.aloadN X149.here hx rfl (hb hby d5_36) rfl rfl ?_
            refine XS.aloadN X149.here hx rfl (hb hby d5_37) rfl rfl ?_
            refine st152 _ ?_
            refine XS.aloadN X152.here hx rfl (hb hby d5_41) rfl rfl ?_
            show Steps p.tables e below (T152.setTop (mkF m 42 #[.val (.ref a0), .val (.int p1), .val (.int p2), .unset] [(.ref a0), (.ref da), (.ref a0)])) _
            refine st153 _ ?_
            refine XS.iconst X153.here hx rfl (hb hby d5_45) ?_
            refine XS.imul X153.here hx rfl (hb hby d5_46) rfl ?_
            refine st154 _ ?_
            refine st158 _ ?_
            show Steps p.tables e below (T158.setTop (mkF m 53 #[.val (.ref a0), .val (.int p1), .val (.int p2), .unset] [])) _
            refine XS.aloadN X158.here hx rfl (hb hby d5_53) rfl rfl ?_
            refine XS.aloadN X158.here hx rfl (hb hby d5_54) rfl rfl ?_
            refine st161 _ ?_
            refine XS.aloadN X161.here hx rfl (hb hby d5_58) rfl rfl ?_
            refine st163 _ ?_
            show Steps p.tables e below (T163.setTop (mkF m 62 #[.val (.ref a0), .val (.int p1), .val (.int p2), .unset] [(.int sz), (.ref sa), (.ref a0)])) _
            refine XS.iconst X163.here hx rfl (hb hby d5_62) ?_
            refine XS.imul X163.here hx rfl (hb hby d5_63) rfl ?_
            refine XS.iconst X163.here hx rfl (hb hby d5_64) ?_
            refine XS.iadd X163.here hx rfl (hb hby d5_65) rfl ?_
            refine st164 _ ?_
            show Steps p.tables e below (T164.setTop (mkF m 69 #[.val (.ref a0), .val (.int p1), .val (.int p2), .unset] [(.ref rb164), (.ref a0)])) _
            refine st175 _ ?_
            refine XS.aloadN X175.here hx rfl (hb hby d5_72) rfl rfl ?_
            refine st178 _ ?_
            refine XS.aloadN X178.here hx rfl (hb hby d5_76) rfl rfl ?_
            refine st180 _ ?_
            show Steps p.tables e below (T180.setTop (mkF m 80 #[.val (.ref a0), .val (.int p1), .val (.int p2), .unset] [(.int sz), (.ref rb154)])) _
            refine XS.iloadN X180.here hx rfl (hb hby d5_80) rfl ?_
            refine st182 _ ?_
            refine XS.aloadN X182.here hx rfl (hb hby d5_82) rfl rfl ?_
            refine st185 _ ?_
            refine XS.aloadN X185.here hx rfl (hb hby d5_86) rfl rfl ?_
            show Steps p.tables e below (T185.setTop (mkF m 87 #[.val (.ref a0), .val (.int p1), .val (.int p2), .unset] [(.ref a0), (.ref rb164)])) _
            refine st187 _ ?_
            refine XS.iconst X187.here hx rfl (hb hby d5_90) ?_
            refine XS.iadd X187.here hx rfl (hb hby d5_91) rfl ?_
            refine XS.aloadN X187.here hx rfl (hb hby d5_92) rfl rfl ?_
            refine st188 _ ?_
            show Steps p.tables e below (T188.setTop (mkF m 96 #[.val (.ref a0), .val (.int p1), .val (.int p2), .unset] [(.ref rb164), (.int (sz + (1 : Int32))), (.ref rb164)])) _
            refine XS.aloadN X188.here hx rfl (hb hby d5_96) rfl rfl ?_
            refine st189 _ ?_
            refine X189.iaload hx (j := sz) (v := (.int ((own_cp ls zs (((sz * (2 : Int32)) + (1 : Int32)))).getD (sz).toNatClampNeg (0 : Int32)))) (by rw [e189]; exact Ar191.1) (State.isArrayOf_alike hZ.alike Ar191.2.1) Ar191.2.2 hin191 hat191 (g := (mkF m 100 #[.val (.ref a0), .val (.int p1), .val (.int p2), .unset] [(.int sz), (.ref rb164), (.int (sz + (1 : Int32))), (.ref rb164)])) rfl rfl (hb hby d5_100) _ ?_
            refine st192 _ ?_
            refine XS.aloadN X192.here hx rfl (hb hby d5_102) rfl rfl ?_
            show Steps p.tables e below (T192.setTop (mkF m 103 #[.val (.ref a0), .val (.int p1), .val (.int p2), .unset] [(.ref a0)])) _
            refine XS.dup X192.here hx rfl (hb hby d5_103) rfl rfl ?_
            refine st195 _ ?_
            refine XS.iconst X195.here hx rfl (hb hby d5_107) ?_
            refine XS.iadd X195.here hx rfl (hb hby d5_108) rfl ?_
            refine st197 _ ?_
            show Steps p.tables e below (T197.setTop (mkF m 112 #[.val (.ref a0), .val (.int p1), .val (.int p2), .unset] [])) _
            refine XS.aloadN X197.here hx rfl (hb hby d5_112) rfl rfl ?_
            refine st200 _ ?_
            refine XS.aloadN X200.here hx rfl (hb hby d5_116) rfl rfl ?_
            refine st201 _ ?_
            refine X201.iaload hx (j := (sz + (1 : Int32))) (v := (.int (ws192.getD ((sz + (1 : Int32))).toNatClampNeg (0 : Int32)))) (by rw [e201]; exact Ar203.1) (State.isArrayOf_alike hZ.alike Ar203.2.1) Ar203.2.2 hin203 hat203 (g := (mkF m 120 #[.val (.ref a0), .val (.int p1), .val (.int p2), .unset] [(.int (sz + (1 : Int32))), (.ref rb164)])) rfl rfl (hb hby d5_120) _ ?_
            show Steps p.tables e below (T201.setTop (mkF m 121 #[.val (.ref a0), .val (.int p1), .val (.int p2), .unset] [(.int (ws192.getD ((sz + (1 : Int32))).toNatClampNeg (0 : Int32)))])) _
            refine XS.istoreN X201.here hx rfl (hb hby d5_121) rfl (l' := #[.val (.ref a0), .val (.int p1), .val (.int p2), .val (.int (ws192.getD ((sz + (1 : Int32))).toNatClampNeg (0 : Int32)))]) rfl ?_
            exact k)⟩
        have hX : x3_122 = ls.getD sz.toNatClampNeg 0 := by rw [hx3_122, hws192]; exact own_xG hI hc33
        have hB := own_eb hI hX
        have f205 := (((((((F_a0_positions.keep K154 nin0).other W158 (Or.inr (slot_ne (Or.inl (hw _ (own_w 26 rfl))) (Or.inl (hw _ (own_w 22 rfl))) (by decide) (t := (.array .int)) (t' := (.array .int)) (by decide) (by decide)))).keep K164 nin0).other W175 (Or.inr (slot_ne (Or.inl (hw _ (own_w 26 rfl))) (Or.inl (hw _ (own_w 24 rfl))) (by decide) (t := (.array .int)) (t' := (.array .int)) (by decide) (by decide)))).other W182 (Or.inl ne_a0_rb154)).other W192 (Or.inl ne_a0_rb164)).other W197 (Or.inr (slot_ne (Or.inl (hw _ (own_w 26 rfl))) (Or.inl (hw _ (own_w 33 rfl))) (by decide) (t := (.array .int)) (t' := .int) (by decide) (by decide))))
        obtain ⟨T206, X206, e206, st206⟩ := getF X201 hx hZ hown (host := "") (Or.inl (hw _ (own_w 25 rfl))) Via.refl e201 f205 (g := (mkF m 124 #[.val (.ref a0), .val (.int p1), .val (.int p2), .val (.int x3_122)] [(.ref a0), (.int x3_122)])) rfl rfl (hb hby d5_124)
        have f207 := (((((((V_pa.keep K154 nin0).other W158 (Ne.symm ne_a0_pa)).keep K164 nin0).other W175 (Ne.symm ne_a0_pa)).other W182 ne_pa_rb154).other W192 ne_pa_rb164).other W197 (Ne.symm ne_a0_pa))
        obtain ⟨cl208, Ar208, S208, M208⟩ := f207.len
        have pre209 : own_Pre p e below (s₁.setTop (entryFrame m #[(.ref a0), (.int p1), (.int p2)] 4)) (T206.setTop (mkF m 128 #[.val (.ref a0), .val (.int p1), .val (.int p2), .val (.int x3_122)] [(.int zp), (.int x3_122)])) := fun t k => pre204 t (by
            show Steps p.tables e below (T201.setTop (mkF m 122 #[.val (.ref a0), .val (.int p1), .val (.int p2), .val (.int x3_122)] [])) _
            refine XS.iloadN X201.here hx rfl (hb hby d5_122) rfl ?_
            refine XS.aloadN X201.here hx rfl (hb hby d5_123) rfl rfl ?_
            refine st206 _ ?_
            refine X206.arraylength hx (by rw [e206]; exact Ar208.1) (State.isArrayOf_alike hZ.alike Ar208.2.1) (g := (mkF m 127 #[.val (.ref a0), .val (.int p1), .val (.int p2), .val (.int x3_122)] [(.ref pa), (.int x3_122)])) rfl rfl (hb hby d5_127) _ ?_
            rw [len_of S208 M208]
            exact k)
        by_cases hc128 : x3_122 = zp
        · obtain ⟨T210, X210, e210, st210⟩ := getF X206 hx hZ hown (host := "") (Or.inl (hw _ (own_w 25 rfl))) Via.refl e206 f205 (g := (mkF m 133 #[.val (.ref a0), .val (.int p1), .val (.int p2), .val (.int x3_122)] [(.ref a0), (.ref a0)])) rfl rfl (hb hby d5_133)
          have f212 := (((((f170.keep K164).wr W175).wr W182).wr W192).wr W197)
          have z213 : n0 ≤ (h197).size := (Nat.le_trans (Nat.le_trans (Nat.le_trans (Nat.le_trans (Nat.le_trans z167 K164.1) (Keep.of_wr W175).1) (Keep.of_wr W182).1) (Keep.of_wr W192).1) (Keep.of_wr W197).1)
          have f214 := (f196.wr W197)
          have f215 := (((((f169.keep K164).wr W175).wr W182).wr W192).wr W197)
          have f216 := (((((f171.keep K164).wr W175).wr W182).wr W192).wr W197)
          have f217 := ((((po164_1.wr W175).wr W182).wr W192).wr W197)
          have f218 := (((((f165.keep K164).wr W175).wr W182).wr W192).wr W197)
          obtain ⟨_, _, ⟨T211, L211, k211, n211⟩, -, X211, ⟨Lc211, hQ211, l211, y211, z211⟩, st211⟩ := Jvm.LawKit.callS X210 hx (y := (⟨"java/util/Arrays", "copyOf", "([II)[I"⟩ : MethodName)) hown (mvT hZ (hw _ (own_w 34 rfl))) (mvT hZ (hw _ (own_w 35 rfl))) (mvT hZ (hw _ (own_w 36 rfl))) (mvT hZ (hw _ (own_w 37 rfl))) (by decide) (backOf (W := 1) (rm6 l Z aw hw [] (pa) ((x3_122 * (2 : Int32))) (kp) (zp) (lp) (h197) n0 z213 f212 f207 (own_i139 hB)) hZ (hw _ (own_w 37 rfl)) (hw _ (own_w 36 rfl)) (by decide) (by decide)) (g := (mkF m 139 #[.val (.ref a0), .val (.int p1), .val (.int p2), .val (.int x3_122)] [(.int (x3_122 * (2 : Int32))), (.ref pa), (.ref a0)])) rfl (by rw [hml]; rfl) (argsL := [(.ref pa), (.int (x3_122 * (2 : Int32)))]) (rest := [(.ref a0)]) (lenOf pd_1 rfl) rfl (by show 2 * 0 + _ ≤ _; exact Nat.le_of_eq rfl) (hb hby d5_139) (fun _ _ => ⟨rfl, e210, (by decide : 2 + 1 ≤ _), (by decide : 18 + 9 ≤ _)⟩)
          dsimp only [Pt.U, Pt.locs, Pt.cells, Pt.slots] at X211 l211 y211 z211 st211 hQ211
          subst l211 y211 z211
          obtain ⟨rb211, kb211, rfl, Nq211, K211, po211_0, po211_1, po211_2⟩ := hQ211
          have N211 := Fr.app N197 Nq211
          have kp219 : Keep h0 T211.heap [a0, da, sa, pa] := kp198.trans K211 all0
          have ne_a0_rb211 : a0 ≠ rb211 := Nat.ne_of_lt (Nat.lt_of_lt_of_le f214.lt po211_0)
          have ne_da_rb211 : da ≠ rb211 := Nat.ne_of_lt (Nat.lt_of_lt_of_le f215.lt po211_0)
          have ne_pa_rb211 : pa ≠ rb211 := Nat.ne_of_lt (Nat.lt_of_lt_of_le f212.lt po211_0)
          have ne_rb154_rb211 : rb154 ≠ rb211 := Nat.ne_of_lt (Nat.lt_of_lt_of_le f216.lt po211_0)
          have ne_rb164_rb211 : rb164 ≠ rb211 := Nat.ne_of_lt (Nat.lt_of_lt_of_le f217.lt po211_0)
          have ne_sa_rb211 : sa ≠ rb211 := Nat.ne_of_lt (Nat.lt_of_lt_of_le f218.lt po211_0)
          have g_rb211 : n0 ≤ rb211 := Nat.le_trans z213 po211_0
          have sz_rb211 : h0.size ≤ rb211 := Nat.le_trans kp198.1 po211_0
          have f220 := (f214.keep K211)
          have f221 := (f205.keep K211 nin0)
          obtain ⟨T222, h222, X222, e222, W222, st222⟩ := putF X211 hx hZ hown (host := "") (Or.inl (hw _ (own_w 25 rfl))) Via.refl rfl f221 f220 (Or.inl (hw _ (own_w 26 rfl))) (hw _ (own_w 13 rfl)) (ty := (.array .int)) (by decide) rfl rfl (g := (mkF m 142 #[.val (.ref a0), .val (.int p1), .val (.int p2), .val (.int x3_122)] [(.ref rb211), (.ref a0)])) rfl rfl (hb hby d5_142)
          have Fw222 := f221.same W222
          have N222 := Fr.snoc X222 N211 g_a0
          have kp223 : Keep h0 h222 [a0, da, sa, pa] := kp219.wr W222 (Or.inl (own_w 0 rfl))
          obtain ⟨T224, X224, e224, st224⟩ := getF X222 hx hZ hown (host := "") (Or.inl (hw _ (own_w 25 rfl))) Via.refl e222 Fw222 (g := (mkF m 146 #[.val (.ref a0), .val (.int p1), .val (.int p2), .val (.int x3_122)] [(.ref a0)])) rfl rfl (hb hby d5_146)
          have f225 := (po211_2.other W222 (Ne.symm ne_a0_rb211))
          obtain ⟨cl226, Ar226, hin226, set226⟩ := own_AI.arr f225 (j := x3_122) (own_i151g hI hB hc128)
          obtain ⟨T226, h226, X226, e226, W226, st226⟩ := stI X224 hx hZ e224 Ar226 (j := x3_122) hin226 (g := (mkF m 151 #[.val (.ref a0), .val (.int p1), .val (.int p2), .val (.int x3_122)] [(.int p2), (.int x3_122), (.ref rb211)])) rfl rfl (hb hby d5_151)
          have V226 : own_AI Z h226 rb211 kb211 .int ((x3_122 * (2 : Int32))) ((own_cp lp zp ((x3_122 * (2 : Int32)))).set (x3_122).toNatClampNeg p2) := set226 _ _ rfl W226
          obtain ⟨ws226, hws226⟩ : ∃ z, z = ((own_cp lp zp ((x3_122 * (2 : Int32)))).set (x3_122).toNatClampNeg p2) := ⟨_, rfl⟩
          rw [← hws226] at V226
          have N226 := Fr.snoc X226 N222 g_rb211
          have kp227 : Keep h0 h226 [a0, da, sa, pa] := kp223.wr W226 (Or.inr sz_rb211)
          have f228 := (((f199.keep K211 nin0).other W222 (Or.inr (slot_ne (Or.inl (hw _ (own_w 24 rfl))) (Or.inl (hw _ (own_w 26 rfl))) (by decide) (t := (.array .int)) (t' := (.array .int)) (by decide) (by decide)))).other W226 (Or.inl ne_a0_rb211))
          obtain ⟨T229, X229, e229, st229⟩ := getF X226 hx hZ hown (host := "") (Or.inl (hw _ (own_w 23 rfl))) Via.refl e226 f228 (g := (mkF m 153 #[.val (.ref a0), .val (.int p1), .val (.int p2), .val (.int x3_122)] [(.ref a0)])) rfl rfl (hb hby d5_153)
          have f230 := (((Fw197.keep K211 nin0).other W222 (Or.inr (slot_ne (Or.inl (hw _ (own_w 33 rfl))) (Or.inl (hw _ (own_w 26 rfl))) (by decide) (t := .int) (t' := (.array .int)) (by decide) (by decide)))).other W226 (Or.inl ne_a0_rb211))
          obtain ⟨T231, X231, e231, st231⟩ := getF X229 hx hZ hown (host := "") (Or.inl (hw _ (own_w 32 rfl))) Via.refl e229 f230 (g := (mkF m 157 #[.val (.ref a0), .val (.int p1), .val (.int p2), .val (.int x3_122)] [(.ref a0), (.ref rb164)])) rfl rfl (hb hby d5_157)
          have f232 := (((f202.keep K211 nin0).other W222 (Ne.symm ne_a0_rb164)).other W226 ne_rb164_rb211)
          obtain ⟨cl233, Ar233, hin233, set233⟩ := own_AI.arr f232 (j := (sz + (1 : Int32))) ((own_g hI hc33).2.2.2.2)
          obtain ⟨T233, h233, X233, e233, W233, st233⟩ := stI X231 hx hZ e231 Ar233 (j := (sz + (1 : Int32))) hin233 (g := (mkF m 163 #[.val (.ref a0), .val (.int p1), .val (.int p2), .val (.int x3_122)] [(.int (x3_122 + (1 : Int32))), (.int (sz + (1 : Int32))), (.ref rb164)])) rfl rfl (hb hby d5_163)
          have V233 : own_AI Z h233 rb164 kb164 .int (((sz * (2 : Int32)) + (1 : Int32))) (ws192.set ((sz + (1 : Int32))).toNatClampNeg (x3_122 + (1 : Int32))) := set233 _ _ rfl W233
          obtain ⟨ws233, hws233⟩ : ∃ z, z = (ws192.set ((sz + (1 : Int32))).toNatClampNeg (x3_122 + (1 : Int32))) := ⟨_, rfl⟩
          rw [← hws233] at V233
          have N233 := Fr.snoc X233 N226 g_rb164
          have kp234 : Keep h0 h233 [a0, da, sa, pa] := kp227.wr W233 (Or.inr sz_rb164)
          obtain ⟨fs, hr, hrun, hended, hW, hsame⟩ := X233.leave (v := none) (fun _ => rfl)
          refine ⟨_, _, pre209 _ ?_, hrun, hended, _, _, rfl, ?_, ⟨_, rfl⟩, hW, hsame.mono (by decide) (by decide)⟩
          · show Steps p.tables e below (T206.setTop (mkF m 128 #[.val (.ref a0), .val (.int p1), .val (.int p2), .val (.int x3_122)] [(.int zp), (.int x3_122)])) _
            refine XS.icmpNo X206.here hx rfl (hb hby d5_128) rfl (teq hc128).2 ?_
            refine XS.aloadN X206.here hx rfl (hb hby d5_131) rfl rfl ?_
            refine XS.aloadN X206.here hx rfl (hb hby d5_132) rfl rfl ?_
            refine st210 _ ?_
            refine XS.iloadN X210.here hx rfl (hb hby d5_136) rfl ?_
            show Steps p.tables e below (T210.setTop (mkF m 137 #[.val (.ref a0), .val (.int p1), .val (.int p2), .val (.int x3_122)] [(.int x3_122), (.ref pa), (.ref a0)])) _
            refine XS.iconst X210.here hx rfl (hb hby d5_137) ?_
            refine XS.imul X210.here hx rfl (hb hby d5_138) rfl ?_
            refine st211 _ ?_
            refine st222 _ ?_
            refine XS.aloadN X222.here hx rfl (hb hby d5_145) rfl rfl ?_
            show Steps p.tables e below (T222.setTop (mkF m 146 #[.val (.ref a0), .val (.int p1), .val (.int p2), .val (.int x3_122)] [(.ref a0)])) _
            refine st224 _ ?_
            refine XS.iloadN X224.here hx rfl (hb hby d5_149) rfl ?_
            refine XS.iloadN X224.here hx rfl (hb hby d5_150) rfl ?_
            refine st226 _ ?_
            refine XS.aloadN X226.here hx rfl (hb hby d5_152) rfl rfl ?_
            show Steps p.tables e below (T226.setTop (mkF m 153 #[.val (.ref a0), .val (.int p1), .val (.int p2), .val (.int x3_122)] [(.ref a0)])) _
            refine st229 _ ?_
            refine XS.aloadN X229.here hx rfl (hb hby d5_156) rfl rfl ?_
            refine st231 _ ?_
            refine XS.iloadN X231.here hx rfl (hb hby d5_160) rfl ?_
            refine XS.iconst X231.here hx rfl (hb hby d5_161) ?_
            show Steps p.tables e below (T231.setTop (mkF m 162 #[.val (.ref a0), .val (.int p1), .val (.int p2), .val (.int x3_122)] [(.int (1 : Int32)), (.int x3_122), (.int (sz + (1 : Int32))), (.ref rb164)])) _
            refine XS.iadd X231.here hx rfl (hb hby d5_162) rfl ?_
            refine st233 _ ?_
            show Steps p.tables e below (T233.setTop (mkF m 164 #[.val (.ref a0), .val (.int p1), .val (.int p2), .val (.int x3_122)] [])) _
            exact X233.returnOut hx Bd.returns (hb hby d5_164) hr
          · show Q5 Z a0 p1 p2 da sa pa kd ks kp zd zs zp ld ls lp sz h0 n0 _ T233.heap _
            rw [e233]
            unfold Q5
            have f235 := (((f220.wr W222).wr W226).wr W233)
            have f236 := ((((f216.keep K211).wr W222).wr W226).wr W233)
            have f237 := ((((f217.keep K211).wr W222).wr W226).wr W233)
            have f238 := (((po211_1.wr W222).wr W226).wr W233)
            have f239 := (((((((f177.other W182 (Or.inl ne_a0_rb154)).other W192 (Or.inl ne_a0_rb164)).other W197 (Or.inr (slot_ne (Or.inl (hw _ (own_w 22 rfl))) (Or.inl (hw _ (own_w 33 rfl))) (by decide) (t := (.array .int)) (t' := .int) (by decide) (by decide)))).keep K211 nin0).other W222 (Or.inr (slot_ne (Or.inl (hw _ (own_w 22 rfl))) (Or.inl (hw _ (own_w 26 rfl))) (by decide) (t := (.array .int)) (t' := (.array .int)) (by decide) (by decide)))).other W226 (Or.inl ne_a0_rb211)).other W233 (Or.inl ne_a0_rb164))
            have f240 := (f228.other W233 (Or.inl ne_a0_rb164))
            have f241 := ((Fw222.other W226 (Or.inl ne_a0_rb211)).other W233 (Or.inl ne_a0_rb164))
            have f242 := (f230.other W233 (Or.inl ne_a0_rb164))
            have f243 := ((((((V182.other W192 ne_rb154_rb164).other W197 (Ne.symm ne_a0_rb154)).keep K211 nin0).other W222 (Ne.symm ne_a0_rb154)).other W226 ne_rb154_rb211).other W233 ne_rb154_rb164)
            have f244 := (V226.other W233 (Ne.symm ne_rb164_rb211))
            refine ⟨rb154, rb164, rb211, kb154, kb164, kb211, rfl, N233, kp234, f235, ?_, ?_, ?_, ?_, f236, f237, f238, ?_, ?_, ?_, ne_rb154_rb164, ne_rb154_rb211, ne_rb164_rb211, ne_a0_rb154, ne_a0_rb164, ne_a0_rb211, g_rb154, g_rb164, g_rb211, (Or.inr sz_rb154), (Or.inr sz_rb164), (Or.inr sz_rb211)⟩
            · exact f239
            · exact f240
            · exact f241
            · rw [show (own_p5_size p1 ld sz) = (sz + (1 : Int32)) from (by subst hws233 hws226 hx3_122 hws192 hws182; simp only [own_p5_size, if_neg hc4, if_neg hc19, if_pos hc33, if_pos hc128])]; exact f242
            · rw [show (own_z5_db p1 zd zs ld sz) = ((sz * (2 : Int32))) from (by subst hws233 hws226 hx3_122 hws192 hws182; simp only [own_z5_db, if_neg hc4, if_neg hc19, if_pos hc33, if_pos hc128]), show (own_p5_db p1 zd zs ld sz) = ws182 from (by subst hws233 hws226 hx3_122 hws192 hws182; simp only [own_p5_db, if_neg hc4, if_neg hc19, if_pos hc33, if_pos hc128])]; exact f243
            · rw [show (own_z5_sb p1 zs ld sz) = (((sz * (2 : Int32)) + (1 : Int32))) from (by subst hws233 hws226 hx3_122 hws192 hws182; simp only [own_z5_sb, if_neg hc4, if_neg hc19, if_pos hc33, if_pos hc128]), show (own_p5_sb p1 zs ld ls sz) = ws233 from (by subst hws233 hws226 hx3_122 hws192 hws182; simp only [own_p5_sb, if_neg hc4, if_neg hc19, if_pos hc33, if_pos hc128])]; exact V233
            · rw [show (own_z5_pb p1 zs zp ld ls sz) = ((x3_122 * (2 : Int32))) from (by subst hws233 hws226 hx3_122 hws192 hws182; simp only [own_z5_pb, if_neg hc4, if_neg hc19, if_pos hc33, if_pos hc128]), show (own_p5_pb p1 p2 zs zp ld ls lp sz) = ws226 from (by subst hws233 hws226 hx3_122 hws192 hws182; simp only [own_p5_pb, if_neg hc4, if_neg hc19, if_pos hc33, if_pos hc128])]; exact f244
        · obtain ⟨T245, X245, e245, st245⟩ := getF X206 hx hZ hown (host := "") (Or.inl (hw _ (own_w 25 rfl))) Via.refl e206 f205 (g := (mkF m 146 #[.val (.ref a0), .val (.int p1), .val (.int p2), .val (.int x3_122)] [(.ref a0)])) rfl rfl (hb hby d5_146)
          obtain ⟨cl246, Ar246, hin246, set246⟩ := own_AI.arr f207 (j := x3_122) (own_i151 hI hB hc128)
          obtain ⟨T246, h246, X246, e246, W246, st246⟩ := stI X245 hx hZ e245 Ar246 (j := x3_122) hin246 (g := (mkF m 151 #[.val (.ref a0), .val (.int p1), .val (.int p2), .val (.int x3_122)] [(.int p2), (.int x3_122), (.ref pa)])) rfl rfl (hb hby d5_151)
          have V246 : own_AI Z h246 pa kp .int zp (lp.set (x3_122).toNatClampNeg p2) := set246 _ _ rfl W246
          obtain ⟨ws246, hws246⟩ : ∃ z, z = (lp.set (x3_122).toNatClampNeg p2) := ⟨_, rfl⟩
          rw [← hws246] at V246
          have N246 := Fr.snoc X246 N197 g_pa
          have kp247 : Keep h0 h246 [a0, da, sa, pa] := kp198.wr W246 (Or.inl (own_w 3 rfl))
          have f248 := (f199.other W246 (Or.inl ne_a0_pa))
          obtain ⟨T249, X249, e249, st249⟩ := getF X246 hx hZ hown (host := "") (Or.inl (hw _ (own_w 23 rfl))) Via.refl e246 f248 (g := (mkF m 153 #[.val (.ref a0), .val (.int p1), .val (.int p2), .val (.int x3_122)] [(.ref a0)])) rfl rfl (hb hby d5_153)
          have f250 := (Fw197.other W246 (Or.inl ne_a0_pa))
          obtain ⟨T251, X251, e251, st251⟩ := getF X249 hx hZ hown (host := "") (Or.inl (hw _ (own_w 32 rfl))) Via.refl e249 f250 (g := (mkF m 157 #[.val (.ref a0), .val (.int p1), .val (.int p2), .val (.int x3_122)] [(.ref a0), (.ref rb164)])) rfl rfl (hb hby d5_157)
          have f252 := (f202.other W246 (Ne.symm ne_pa_rb164))
          obtain ⟨cl253, Ar253, hin253, set253⟩ := own_AI.arr f252 (j := (sz + (1 : Int32))) ((own_g hI hc33).2.2.2.2)
          obtain ⟨T253, h253, X253, e253, W253, st253⟩ := stI X251 hx hZ e251 Ar253 (j := (sz + (1 : Int32))) hin253 (g := (mkF m 163 #[.val (.ref a0), .val (.int p1), .val (.int p2), .val (.int x3_122)] [(.int (x3_122 + (1 : Int32))), (.int (sz + (1 : Int32))), (.ref rb164)])) rfl rfl (hb hby d5_163)
          have V253 : own_AI Z h253 rb164 kb164 .int (((sz * (2 : Int32)) + (1 : Int32))) (ws192.set ((sz + (1 : Int32))).toNatClampNeg (x3_122 + (1 : Int32))) := set253 _ _ rfl W253
          obtain ⟨ws253, hws253⟩ : ∃ z, z = (ws192.set ((sz + (1 : Int32))).toNatClampNeg (x3_122 + (1 : Int32))) := ⟨_, rfl⟩
          rw [← hws253] at V253
          have N253 := Fr.snoc X253 N246 g_rb164
          have kp254 : Keep h0 h253 [a0, da, sa, pa] := kp247.wr W253 (Or.inr sz_rb164)
          obtain ⟨fs, hr, hrun, hended, hW, hsame⟩ := X253.leave (v := none) (fun _ => rfl)
          refine ⟨_, _, pre209 _ ?_, hrun, hended, _, _, rfl, ?_, ⟨_, rfl⟩, hW, hsame.mono (by decide) (by decide)⟩
          · show Steps p.tables e below (T206.setTop (mkF m 128 #[.val (.ref a0), .val (.int p1), .val (.int p2), .val (.int x3_122)] [(.int zp), (.int x3_122)])) _
            refine XS.icmpYes X206.here hx rfl (pc0 := 128) (pc' := 145) rfl (hb hby d5_128) rfl (feq hc128).2 (by decide) (by decide) ?_
            refine XS.aloadN X206.here hx rfl (hb hby d5_145) rfl rfl ?_
            refine st245 _ ?_
            refine XS.iloadN X245.here hx rfl (hb hby d5_149) rfl ?_
            refine XS.iloadN X245.here hx rfl (hb hby d5_150) rfl ?_
            show Steps p.tables e below (T245.setTop (mkF m 151 #[.val (.ref a0), .val (.int p1), .val (.int p2), .val (.int x3_122)] [(.int p2), (.int x3_122), (.ref pa)])) _
            refine st246 _ ?_
            refine XS.aloadN X246.here hx rfl (hb hby d5_152) rfl rfl ?_
            refine st249 _ ?_
            refine XS.aloadN X249.here hx rfl (hb hby d5_156) rfl rfl ?_
            refine st251 _ ?_
            show Steps p.tables e below (T251.setTop (mkF m 160 #[.val (.ref a0), .val (.int p1), .val (.int p2), .val (.int x3_122)] [(.int (sz + (1 : Int32))), (.ref rb164)])) _
            refine XS.iloadN X251.here hx rfl (hb hby d5_160) rfl ?_
            refine XS.iconst X251.here hx rfl (hb hby d5_161) ?_
            refine XS.iadd X251.here hx rfl (hb hby d5_162) rfl ?_
            refine st253 _ ?_
            show Steps p.tables e below (T253.setTop (mkF m 164 #[.val (.ref a0), .val (.int p1), .val (.int p2), .val (.int x3_122)] [])) _
            exact X253.returnOut hx Bd.returns (hb hby d5_164) hr
          · show Q5 Z a0 p1 p2 da sa pa kd ks kp zd zs zp ld ls lp sz h0 n0 _ T253.heap _
            rw [e253]
            unfold Q5
            have f255 := (((f196.wr W197).wr W246).wr W253)
            have f256 := (((((((f171.keep K164).wr W175).wr W182).wr W192).wr W197).wr W246).wr W253)
            have f257 := ((((((po164_1.wr W175).wr W182).wr W192).wr W197).wr W246).wr W253)
            have f258 := (((((((f170.keep K164).wr W175).wr W182).wr W192).wr W197).wr W246).wr W253)
            have f259 := (((((f177.other W182 (Or.inl ne_a0_rb154)).other W192 (Or.inl ne_a0_rb164)).other W197 (Or.inr (slot_ne (Or.inl (hw _ (own_w 22 rfl))) (Or.inl (hw _ (own_w 33 rfl))) (by decide) (t := (.array .int)) (t' := .int) (by decide) (by decide)))).other W246 (Or.inl ne_a0_pa)).other W253 (Or.inl ne_a0_rb164))
            have f260 := (f248.other W253 (Or.inl ne_a0_rb164))
            have f261 := ((f205.other W246 (Or.inl ne_a0_pa)).other W253 (Or.inl ne_a0_rb164))
            have f262 := (f250.other W253 (Or.inl ne_a0_rb164))
            have f263 := ((((V182.other W192 ne_rb154_rb164).other W197 (Ne.symm ne_a0_rb154)).other W246 (Ne.symm ne_pa_rb154)).other W253 ne_rb154_rb164)
            have f264 := (V246.other W253 ne_pa_rb164)
            refine ⟨rb154, rb164, pa, kb154, kb164, kp, rfl, N253, kp254, f255, ?_, ?_, ?_, ?_, f256, f257, f258, ?_, ?_, ?_, ne_rb154_rb164, (Ne.symm ne_pa_rb154), (Ne.symm ne_pa_rb164), ne_a0_rb154, ne_a0_rb164, ne_a0_pa, g_rb154, g_rb164, g_pa, (Or.inr sz_rb154), (Or.inr sz_rb164), (Or.inl rfl)⟩
            · exact f259
            · exact f260
            · exact f261
            · rw [show (own_p5_size p1 ld sz) = (sz + (1 : Int32)) from (by subst hws253 hws246 hx3_122 hws192 hws182; simp only [own_p5_size, if_neg hc4, if_neg hc19, if_pos hc33, if_neg hc128])]; exact f262
            · rw [show (own_z5_db p1 zd zs ld sz) = ((sz * (2 : Int32))) from (by subst hws253 hws246 hx3_122 hws192 hws182; simp only [own_z5_db, if_neg hc4, if_neg hc19, if_pos hc33, if_neg hc128]), show (own_p5_db p1 zd zs ld sz) = ws182 from (by subst hws253 hws246 hx3_122 hws192 hws182; simp only [own_p5_db, if_neg hc4, if_neg hc19, if_pos hc33, if_neg hc128])]; exact f263
            · rw [show (own_z5_sb p1 zs ld sz) = (((sz * (2 : Int32)) + (1 : Int32))) from (by subst hws253 hws246 hx3_122 hws192 hws182; simp only [own_z5_sb, if_neg hc4, if_neg hc19, if_pos hc33, if_neg hc128]), show (own_p5_sb p1 zs ld ls sz) = ws253 from (by subst hws253 hws246 hx3_122 hws192 hws182; simp only [own_p5_sb, if_neg hc4, if_neg hc19, if_pos hc33, if_neg hc128])]; exact V253
            · rw [show (own_z5_pb p1 zs zp ld ls sz) = zp from (by subst hws253 hws246 hx3_122 hws192 hws182; simp only [own_z5_pb, if_neg hc4, if_neg hc19, if_pos hc33, if_neg hc128]), show (own_p5_pb p1 p2 zs zp ld ls lp sz) = ws246 from (by subst hws253 hws246 hx3_122 hws192 hws182; simp only [own_p5_pb, if_neg hc4, if_neg hc19, if_pos hc33, if_neg hc128])]; exact f264
      · obtain ⟨T265, X265, e265, st265⟩ := getF X149 hx hZ hown (host := "") (Or.inl (hw _ (own_w 21 rfl))) Via.refl e149 F_a0_documents (g := (mkF m 73 #[.val (.ref a0), .val (.int p1), .val (.int p2), .unset] [(.ref a0)])) rfl rfl (hb hby d5_73)
        obtain ⟨T266, X266, e266, st266⟩ := getF X265 hx hZ hown (host := "") (Or.inl (hw _ (own_w 32 rfl))) Via.refl e265 F_a0_size (g := (mkF m 77 #[.val (.ref a0), .val (.int p1), .val (.int p2), .unset] [(.ref a0), (.ref da)])) rfl rfl (hb hby d5_77)
        obtain ⟨cl267, Ar267, hin267, set267⟩ := own_AI.arr V_da (j := sz) (own_i81 hI hc33)
        obtain ⟨T267, h267, X267, e267, W267, st267⟩ := stI X266 hx hZ e266 Ar267 (j := sz) hin267 (g := (mkF m 81 #[.val (.ref a0), .val (.int p1), .val (.int p2), .unset] [(.int p1), (.int sz), (.ref da)])) rfl rfl (hb hby d5_81)
        have V267 : own_AI Z h267 da kd .int zd (ld.set (sz).toNatClampNeg p1) := set267 _ _ rfl W267
        obtain ⟨ws267, hws267⟩ : ∃ z, z = (ld.set (sz).toNatClampNeg p1) := ⟨_, rfl⟩
        rw [← hws267] at V267
        have N267 := Fr.snoc X267 N0 g_da
        have kp268 : Keep h0 h267 [a0, da, sa, pa] := (Keep.refl h0 [a0, da, sa, pa]).wr W267 (Or.inl (own_w 1 rfl))
        have f269 := (F_a0_starts.other W267 (Or.inl ne_a0_da))
        obtain ⟨T270, X270, e270, st270⟩ := getF X267 hx hZ hown (host := "") (Or.inl (hw _ (own_w 23 rfl))) Via.refl e267 f269 (g := (mkF m 83 #[.val (.ref a0), .val (.int p1), .val (.int p2), .unset] [(.ref a0)])) rfl rfl (hb hby d5_83)
        have f271 := (F_a0_size.other W267 (Or.inl ne_a0_da))
        obtain ⟨T272, X272, e272, st272⟩ := getF X270 hx hZ hown (host := "") (Or.inl (hw _ (own_w 32 rfl))) Via.refl e270 f271 (g := (mkF m 87 #[.val (.ref a0), .val (.int p1), .val (.int p2), .unset] [(.ref a0), (.ref sa)])) rfl rfl (hb hby d5_87)
        obtain ⟨T273, X273, e273, st273⟩ := getF X272 hx hZ hown (host := "") (Or.inl (hw _ (own_w 23 rfl))) Via.refl e272 f269 (g := (mkF m 93 #[.val (.ref a0), .val (.int p1), .val (.int p2), .unset] [(.ref a0), (.int (sz + (1 : Int32))), (.ref sa)])) rfl rfl (hb hby d5_93)
        obtain ⟨T274, X274, e274, st274⟩ := getF X273 hx hZ hown (host := "") (Or.inl (hw _ (own_w 32 rfl))) Via.refl e273 f271 (g := (mkF m 97 #[.val (.ref a0), .val (.int p1), .val (.int p2), .unset] [(.ref a0), (.ref sa), (.int (sz + (1 : Int32))), (.ref sa)])) rfl rfl (hb hby d5_97)
        have f275 := (V_sa.other W267 (Ne.symm ne_da_sa))
        obtain ⟨cl276, Ar276, hin276, hat276⟩ := own_AI.at f275 (j := sz) (own_i100 hI)
        obtain ⟨cl277, Ar277, hin277, set277⟩ := own_AI.arr f275 (j := (sz + (1 : Int32))) (own_i101 hI hc33)
        obtain ⟨T277, h277, X277, e277, W277, st277⟩ := stI X274 hx hZ e274 Ar277 (j := (sz + (1 : Int32))) hin277 (g := (mkF m 101 #[.val (.ref a0), .val (.int p1), .val (.int p2), .unset] [(.int (ls.getD (sz).toNatClampNeg (0 : Int32))), (.int (sz + (1 : Int32))), (.ref sa)])) rfl rfl (hb hby d5_101)
        have V277 : own_AI Z h277 sa ks .int zs (ls.set ((sz + (1 : Int32))).toNatClampNeg (ls.getD (sz).toNatClampNeg (0 : Int32))) := set277 _ _ rfl W277
        obtain ⟨ws277, hws277⟩ : ∃ z, z = (ls.set ((sz + (1 : Int32))).toNatClampNeg (ls.getD (sz).toNatClampNeg (0 : Int32))) := ⟨_, rfl⟩
        rw [← hws277] at V277
        have N277 := Fr.snoc X277 N267 g_sa
        have kp278 : Keep h0 h277 [a0, da, sa, pa] := kp268.wr W277 (Or.inl (own_w 2 rfl))
        have f279 := (f271.other W277 (Or.inl ne_a0_sa))
        obtain ⟨T280, X280, e280, st280⟩ := getF X277 hx hZ hown (host := "") (Or.inl (hw _ (own_w 32 rfl))) Via.refl e277 f279 (g := (mkF m 104 #[.val (.ref a0), .val (.int p1), .val (.int p2), .unset] [(.ref a0), (.ref a0)])) rfl rfl (hb hby d5_104)
        have f281 := ((E_a0.wr W267).wr W277)
        obtain ⟨T282, h282, X282, e282, W282, st282⟩ := putF X280 hx hZ hown (host := "") (Or.inl (hw _ (own_w 32 rfl))) Via.refl e280 f279 f281 (Or.inl (hw _ (own_w 33 rfl))) (hw _ (own_w 13 rfl)) (ty := .int) (by decide) rfl rfl (g := (mkF m 109 #[.val (.ref a0), .val (.int p1), .val (.int p2), .unset] [(.int (sz + (1 : Int32))), (.ref a0)])) rfl rfl (hb hby d5_109)
        have Fw282 := f279.same W282
        have N282 := Fr.snoc X282 N277 g_a0
        have kp283 : Keep h0 h282 [a0, da, sa, pa] := kp278.wr W282 (Or.inl (own_w 0 rfl))
        have f284 := ((f269.other W277 (Or.inl ne_a0_sa)).other W282 (Or.inr (slot_ne (Or.inl (hw _ (own_w 24 rfl))) (Or.inl (hw _ (own_w 33 rfl))) (by decide) (t := (.array .int)) (t' := .int) (by decide) (by decide))))
        obtain ⟨T285, X285, e285, st285⟩ := getF X282 hx hZ hown (host := "") (Or.inl (hw _ (own_w 23 rfl))) Via.refl e282 f284 (g := (mkF m 113 #[.val (.ref a0), .val (.int p1), .val (.int p2), .unset] [(.ref a0)])) rfl rfl (hb hby d5_113)
        obtain ⟨T286, X286, e286, st286⟩ := getF X285 hx hZ hown (host := "") (Or.inl (hw _ (own_w 32 rfl))) Via.refl e285 Fw282 (g := (mkF m 117 #[.val (.ref a0), .val (.int p1), .val (.int p2), .unset] [(.ref a0), (.ref sa)])) rfl rfl (hb hby d5_117)
        have f287 := (V277.other W282 (Ne.symm ne_a0_sa))
        obtain ⟨cl288, Ar288, hin288, hat288⟩ := own_AI.at f287 (j := (sz + (1 : Int32))) (own_i101 hI hc33)
        obtain ⟨x3_122, hx3_122, pre289⟩ : ∃ z : Int32, z = (ws277.getD ((sz + (1 : Int32))).toNatClampNeg (0 : Int32)) ∧ own_Pre p e below (s₁.setTop (entryFrame m #[(.ref a0), (.int p1), (.int p2)] 4)) (T286.setTop (mkF m 122 #[.val (.ref a0), .val (.int p1), .val (.int p2), .val (.int z)] [])) := ⟨_, rfl, fun t k => pre151 t (by
            show Steps p.tables e below (T149.setTop (mkF m 33 #[.val (.ref a0), .val (.int p1), .val (.int p2), .unset] [(.int zs), (.int (sz + (1 : Int32)))])) _
            refine XS.icmpYes X149.here hx rfl (pc0 := 33) (pc' := 72) rfl (hb hby d5_33) rfl (feq hc33).2 (by decide) (by decide) ?_
            refine XS.aloadN X149.here hx rfl (hb hby d5_72) rfl rfl ?_
            refine st265 _ ?_
            refine XS.aloadN X265.here hx rfl (hb hby d5_76) rfl rfl ?_
            refine st266 _ ?_
            show Steps p.tables e below (T266.setTop (mkF m 80 #[.val (.ref a0), .val (.int p1), .val (.int p2), .unset] [(.int sz), (.ref da)])) _
            refine XS.iloadN X266.here hx rfl (hb hby d5_80) rfl ?_
            refine st267 _ ?_
            refine XS.aloadN X267.here hx rfl (hb hby d5_82) rfl rfl ?_
            refine st270 _ ?_
            refine XS.aloadN X270.here hx rfl (hb hby d5_86) rfl rfl ?_
            show Steps p.tables e below (T270.setTop (mkF m 87 #[.val (.ref a0), .val (.int p1), .val (.int p2), .unset] [(.ref a0), (.ref sa)])) _
            refine st272 _ ?_
            refine XS.iconst X272.here hx rfl (hb hby d5_90) ?_
            refine XS.iadd X272.here hx rfl (hb hby d5_91) rfl ?_
            refine XS.aloadN X272.here hx rfl (hb hby d5_92) rfl rfl ?_
            refine st273 _ ?_
            show Steps p.tables e below (T273.setTop (mkF m 96 #[.val (.ref a0), .val (.int p1), .val (.int p2), .unset] [(.ref sa), (.int (sz + (1 : Int32))), (.ref sa)])) _
            refine XS.aloadN X273.here hx rfl (hb hby d5_96) rfl rfl ?_
            refine st274 _ ?_
            refine X274.iaload hx (j := sz) (v := (.int (ls.getD (sz).toNatClampNeg (0 : Int32)))) (by rw [e274]; exact Ar276.1) (State.isArrayOf_alike hZ.alike Ar276.2.1) Ar276.2.2 hin276 hat276 (g := (mkF m 100 #[.val (.ref a0), .val (.int p1), .val (.int p2), .unset] [(.int sz), (.ref sa), (.int (sz + (1 : Int32))), (.ref sa)])) rfl rfl (hb hby d5_100) _ ?_
            refine st277 _ ?_
            refine XS.aloadN X277.here hx rfl (hb hby d5_102) rfl rfl ?_
            show Steps p.tables e below (T277.setTop (mkF m 103 #[.val (.ref a0), .val (.int p1), .val (.int p2), .unset] [(.ref a0)])) _
            refine XS.dup X277.here hx rfl (hb hby d5_103) rfl rfl ?_
            refine st280 _ ?_
            refine XS.iconst X280.here hx rfl (hb hby d5_107) ?_
            refine XS.iadd X280.here hx rfl (hb hby d5_108) rfl ?_
            refine st282 _ ?_
            show Steps p.tables e below (T282.setTop (mkF m 112 #[.val (.ref a0), .val (.int p1), .val (.int p2), .unset] [])) _
            refine XS.aloadN X282.here hx rfl (hb hby d5_112) rfl rfl ?_
            refine st285 _ ?_
            refine XS.aloadN X285.here hx rfl (hb hby d5_116) rfl rfl ?_
            refine st286 _ ?_
            refine X286.iaload hx (j := (sz + (1 : Int32))) (v := (.int (ws277.getD ((sz + (1 : Int32))).toNatClampNeg (0 : Int32)))) (by rw [e286]; exact Ar288.1) (State.isArrayOf_alike hZ.alike Ar288.2.1) Ar288.2.2 hin288 hat288 (g := (mkF m 120 #[.val (.ref a0), .val (.int p1), .val (.int p2), .unset] [(.int (sz + (1 : Int32))), (.ref sa)])) rfl rfl (hb hby d5_120) _ ?_
            show Steps p.tables e below (T286.setTop (mkF m 121 #[.val (.ref a0), .val (.int p1), .val (.int p2), .unset] [(.int (ws277.getD ((sz + (1 : Int32))).toNatClampNeg (0 : Int32)))])) _
            refine XS.istoreN X286.here hx rfl (hb hby d5_121) rfl (l' := #[.val (.ref a0), .val (.int p1), .val (.int p2), .val (.int (ws277.getD ((sz + (1 : Int32))).toNatClampNeg (0 : Int32)))]) rfl ?_
            exact k)⟩
        have hX : x3_122 = ls.getD sz.toNatClampNeg 0 := by rw [hx3_122, hws277]; exact own_xN hI hc33
        have hB := own_eb hI hX
        have f290 := (((F_a0_positions.other W267 (Or.inl ne_a0_da)).other W277 (Or.inl ne_a0_sa)).other W282 (Or.inr (slot_ne (Or.inl (hw _ (own_w 26 rfl))) (Or.inl (hw _ (own_w 33 rfl))) (by decide) (t := (.array .int)) (t' := .int) (by decide) (by decide))))
        obtain ⟨T291, X291, e291, st291⟩ := getF X286 hx hZ hown (host := "") (Or.inl (hw _ (own_w 25 rfl))) Via.refl e286 f290 (g := (mkF m 124 #[.val (.ref a0), .val (.int p1), .val (.int p2), .val (.int x3_122)] [(.ref a0), (.int x3_122)])) rfl rfl (hb hby d5_124)
        have f292 := (((V_pa.other W267 (Ne.symm ne_da_pa)).other W277 (Ne.symm ne_sa_pa)).other W282 (Ne.symm ne_a0_pa))
        obtain ⟨cl293, Ar293, S293, M293⟩ := f292.len
        have pre294 : own_Pre p e below (s₁.setTop (entryFrame m #[(.ref a0), (.int p1), (.int p2)] 4)) (T291.setTop (mkF m 128 #[.val (.ref a0), .val (.int p1), .val (.int p2), .val (.int x3_122)] [(.int zp), (.int x3_122)])) := fun t k => pre289 t (by
            show Steps p.tables e below (T286.setTop (mkF m 122 #[.val (.ref a0), .val (.int p1), .val (.int p2), .val (.int x3_122)] [])) _
            refine XS.iloadN X286.here hx rfl (hb hby d5_122) rfl ?_
            refine XS.aloadN X286.here hx rfl (hb hby d5_123) rfl rfl ?_
            refine st291 _ ?_
            refine X291.arraylength hx (by rw [e291]; exact Ar293.1) (State.isArrayOf_alike hZ.alike Ar293.2.1) (g := (mkF m 127 #[.val (.ref a0), .val (.int p1), .val (.int p2), .val (.int x3_122)] [(.ref pa), (.int x3_122)])) rfl rfl (hb hby d5_127) _ ?_
            rw [len_of S293 M293]
            exact k)
        by_cases hc128 : x3_122 = zp
        · obtain ⟨T295, X295, e295, st295⟩ := getF X291 hx hZ hown (host := "") (Or.inl (hw _ (own_w 25 rfl))) Via.refl e291 f290 (g := (mkF m 133 #[.val (.ref a0), .val (.int p1), .val (.int p2), .val (.int x3_122)] [(.ref a0), (.ref a0)])) rfl rfl (hb hby d5_133)
          have f297 := (((E_pa.wr W267).wr W277).wr W282)
          have z298 : n0 ≤ (h282).size := (Nat.le_trans (Nat.le_trans (Nat.le_trans Z0 (Keep.of_wr W267).1) (Keep.of_wr W277).1) (Keep.of_wr W282).1)
          have f299 := (f281.wr W282)
          have f300 := (((E_da.wr W267).wr W277).wr W282)
          have f301 := (((E_sa.wr W267).wr W277).wr W282)
          obtain ⟨_, _, ⟨T296, L296, k296, n296⟩, -, X296, ⟨Lc296, hQ296, l296, y296, z296⟩, st296⟩ := Jvm.LawKit.callS X295 hx (y := (⟨"java/util/Arrays", "copyOf", "([II)[I"⟩ : MethodName)) hown (mvT hZ (hw _ (own_w 34 rfl))) (mvT hZ (hw _ (own_w 35 rfl))) (mvT hZ (hw _ (own_w 36 rfl))) (mvT hZ (hw _ (own_w 37 rfl))) (by decide) (backOf (W := 1) (rm6 l Z aw hw [] (pa) ((x3_122 * (2 : Int32))) (kp) (zp) (lp) (h282) n0 z298 f297 f292 (own_i139 hB)) hZ (hw _ (own_w 37 rfl)) (hw _ (own_w 36 rfl)) (by decide) (by decide)) (g := (mkF m 139 #[.val (.ref a0), .val (.int p1), .val (.int p2), .val (.int x3_122)] [(.int (x3_122 * (2 : Int32))), (.ref pa), (.ref a0)])) rfl (by rw [hml]; rfl) (argsL := [(.ref pa), (.int (x3_122 * (2 : Int32)))]) (rest := [(.ref a0)]) (lenOf pd_1 rfl) rfl (by show 2 * 0 + _ ≤ _; exact Nat.le_of_eq rfl) (hb hby d5_139) (fun _ _ => ⟨rfl, e295, (by decide : 0 + 1 ≤ _), (by decide : 0 + 9 ≤ _)⟩)
          dsimp only [Pt.U, Pt.locs, Pt.cells, Pt.slots] at X296 l296 y296 z296 st296 hQ296
          subst l296 y296 z296
          obtain ⟨rb296, kb296, rfl, Nq296, K296, po296_0, po296_1, po296_2⟩ := hQ296
          have N296 := Fr.app N282 Nq296
          have kp302 : Keep h0 T296.heap [a0, da, sa, pa] := kp283.trans K296 all0
          have ne_a0_rb296 : a0 ≠ rb296 := Nat.ne_of_lt (Nat.lt_of_lt_of_le f299.lt po296_0)
          have ne_da_rb296 : da ≠ rb296 := Nat.ne_of_lt (Nat.lt_of_lt_of_le f300.lt po296_0)
          have ne_pa_rb296 : pa ≠ rb296 := Nat.ne_of_lt (Nat.lt_of_lt_of_le f297.lt po296_0)
          have ne_sa_rb296 : sa ≠ rb296 := Nat.ne_of_lt (Nat.lt_of_lt_of_le f301.lt po296_0)
          have g_rb296 : n0 ≤ rb296 := Nat.le_trans z298 po296_0
          have sz_rb296 : h0.size ≤ rb296 := Nat.le_trans kp283.1 po296_0
          have f303 := (f299.keep K296)
          have f304 := (f290.keep K296 nin0)
          obtain ⟨T305, h305, X305, e305, W305, st305⟩ := putF X296 hx hZ hown (host := "") (Or.inl (hw _ (own_w 25 rfl))) Via.refl rfl f304 f303 (Or.inl (hw _ (own_w 26 rfl))) (hw _ (own_w 13 rfl)) (ty := (.array .int)) (by decide) rfl rfl (g := (mkF m 142 #[.val (.ref a0), .val (.int p1), .val (.int p2), .val (.int x3_122)] [(.ref rb296), (.ref a0)])) rfl rfl (hb hby d5_142)
          have Fw305 := f304.same W305
          have N305 := Fr.snoc X305 N296 g_a0
          have kp306 : Keep h0 h305 [a0, da, sa, pa] := kp302.wr W305 (Or.inl (own_w 0 rfl))
          obtain ⟨T307, X307, e307, st307⟩ := getF X305 hx hZ hown (host := "") (Or.inl (hw _ (own_w 25 rfl))) Via.refl e305 Fw305 (g := (mkF m 146 #[.val (.ref a0), .val (.int p1), .val (.int p2), .val (.int x3_122)] [(.ref a0)])) rfl rfl (hb hby d5_146)
          have f308 := (po296_2.other W305 (Ne.symm ne_a0_rb296))
          obtain ⟨cl309, Ar309, hin309, set309⟩ := own_AI.arr f308 (j := x3_122) (own_i151g hI hB hc128)
          obtain ⟨T309, h309, X309, e309, W309, st309⟩ := stI X307 hx hZ e307 Ar309 (j := x3_122) hin309 (g := (mkF m 151 #[.val (.ref a0), .val (.int p1), .val (.int p2), .val (.int x3_122)] [(.int p2), (.int x3_122), (.ref rb296)])) rfl rfl (hb hby d5_151)
          have V309 : own_AI Z h309 rb296 kb296 .int ((x3_122 * (2 : Int32))) ((own_cp lp zp ((x3_122 * (2 : Int32)))).set (x3_122).toNatClampNeg p2) := set309 _ _ rfl W309
          obtain ⟨ws309, hws309⟩ : ∃ z, z = ((own_cp lp zp ((x3_122 * (2 : Int32)))).set (x3_122).toNatClampNeg p2) := ⟨_, rfl⟩
          rw [← hws309] at V309
          have N309 := Fr.snoc X309 N305 g_rb296
          have kp310 : Keep h0 h309 [a0, da, sa, pa] := kp306.wr W309 (Or.inr sz_rb296)
          have f311 := (((f284.keep K296 nin0).other W305 (Or.inr (slot_ne (Or.inl (hw _ (own_w 24 rfl))) (Or.inl (hw _ (own_w 26 rfl))) (by decide) (t := (.array .int)) (t' := (.array .int)) (by decide) (by decide)))).other W309 (Or.inl ne_a0_rb296))
          obtain ⟨T312, X312, e312, st312⟩ := getF X309 hx hZ hown (host := "") (Or.inl (hw _ (own_w 23 rfl))) Via.refl e309 f311 (g := (mkF m 153 #[.val (.ref a0), .val (.int p1), .val (.int p2), .val (.int x3_122)] [(.ref a0)])) rfl rfl (hb hby d5_153)
          have f313 := (((Fw282.keep K296 nin0).other W305 (Or.inr (slot_ne (Or.inl (hw _ (own_w 33 rfl))) (Or.inl (hw _ (own_w 26 rfl))) (by decide) (t := .int) (t' := (.array .int)) (by decide) (by decide)))).other W309 (Or.inl ne_a0_rb296))
          obtain ⟨T314, X314, e314, st314⟩ := getF X312 hx hZ hown (host := "") (Or.inl (hw _ (own_w 32 rfl))) Via.refl e312 f313 (g := (mkF m 157 #[.val (.ref a0), .val (.int p1), .val (.int p2), .val (.int x3_122)] [(.ref a0), (.ref sa)])) rfl rfl (hb hby d5_157)
          have f315 := (((f287.keep K296 nin0).other W305 (Ne.symm ne_a0_sa)).other W309 ne_sa_rb296)
          obtain ⟨cl316, Ar316, hin316, set316⟩ := own_AI.arr f315 (j := (sz + (1 : Int32))) (own_i101 hI hc33)
          obtain ⟨T316, h316, X316, e316, W316, st316⟩ := stI X314 hx hZ e314 Ar316 (j := (sz + (1 : Int32))) hin316 (g := (mkF m 163 #[.val (.ref a0), .val (.int p1), .val (.int p2), .val (.int x3_122)] [(.int (x3_122 + (1 : Int32))), (.int (sz + (1 : Int32))), (.ref sa)])) rfl rfl (hb hby d5_163)
          have V316 : own_AI Z h316 sa ks .int zs (ws277.set ((sz + (1 : Int32))).toNatClampNeg (x3_122 + (1 : Int32))) := set316 _ _ rfl W316
          obtain ⟨ws316, hws316⟩ : ∃ z, z = (ws277.set ((sz + (1 : Int32))).toNatClampNeg (x3_122 + (1 : Int32))) := ⟨_, rfl⟩
          rw [← hws316] at V316
          have N316 := Fr.snoc X316 N309 g_sa
          have kp317 : Keep h0 h316 [a0, da, sa, pa] := kp310.wr W316 (Or.inl (own_w 2 rfl))
          obtain ⟨fs, hr, hrun, hended, hW, hsame⟩ := X316.leave (v := none) (fun _ => rfl)
          refine ⟨_, _, pre294 _ ?_, hrun, hended, _, _, rfl, ?_, ⟨_, rfl⟩, hW, hsame.mono (by decide) (by decide)⟩
          · show Steps p.tables e below (T291.setTop (mkF m 128 #[.val (.ref a0), .val (.int p1), .val (.int p2), .val (.int x3_122)] [(.int zp), (.int x3_122)])) _
            refine XS.icmpNo X291.here hx rfl (hb hby d5_128) rfl (teq hc128).2 ?_
            refine XS.aloadN X291.here hx rfl (hb hby d5_131) rfl rfl ?_
            refine XS.aloadN X291.here hx rfl (hb hby d5_132) rfl rfl ?_
            refine st295 _ ?_
            refine XS.iloadN X295.here hx rfl (hb hby d5_136) rfl ?_
            show Steps p.tables e below (T295.setTop (mkF m 137 #[.val (.ref a0), .val (.int p1), .val (.int p2), .val (.int x3_122)] [(.int x3_122), (.ref pa), (.ref a0)])) _
            refine XS.iconst X295.here hx rfl (hb hby d5_137) ?_
            refine XS.imul X295.here hx rfl (hb hby d5_138) rfl ?_
            refine st296 _ ?_
            refine st305 _ ?_
            refine XS.aloadN X305.here hx rfl (hb hby d5_145) rfl rfl ?_
            show Steps p.tables e below (T305.setTop (mkF m 146 #[.val (.ref a0), .val (.int p1), .val (.int p2), .val (.int x3_122)] [(.ref a0)])) _
            refine st307 _ ?_
            refine XS.iloadN X307.here hx rfl (hb hby d5_149) rfl ?_
            refine XS.iloadN X307.here hx rfl (hb hby d5_150) rfl ?_
            refine st309 _ ?_
            refine XS.aloadN X309.here hx rfl (hb hby d5_152) rfl rfl ?_
            show Steps p.tables e below (T309.setTop (mkF m 153 #[.val (.ref a0), .val (.int p1), .val (.int p2), .val (.int x3_122)] [(.ref a0)])) _
            refine st312 _ ?_
            refine XS.aloadN X312.here hx rfl (hb hby d5_156) rfl rfl ?_
            refine st314 _ ?_
            refine XS.iloadN X314.here hx rfl (hb hby d5_160) rfl ?_
            refine XS.iconst X314.here hx rfl (hb hby d5_161) ?_
            show Steps p.tables e below (T314.setTop (mkF m 162 #[.val (.ref a0), .val (.int p1), .val (.int p2), .val (.int x3_122)] [(.int (1 : Int32)), (.int x3_122), (.int (sz + (1 : Int32))), (.ref sa)])) _
            refine XS.iadd X314.here hx rfl (hb hby d5_162) rfl ?_
            refine st316 _ ?_
            show Steps p.tables e below (T316.setTop (mkF m 164 #[.val (.ref a0), .val (.int p1), .val (.int p2), .val (.int x3_122)] [])) _
            exact X316.returnOut hx Bd.returns (hb hby d5_164) hr
          · show Q5 Z a0 p1 p2 da sa pa kd ks kp zd zs zp ld ls lp sz h0 n0 _ T316.heap _
            rw [e316]
            unfold Q5
            have f318 := (((f303.wr W305).wr W309).wr W316)
            have f319 := ((((f300.keep K296).wr W305).wr W309).wr W316)
            have f320 := ((((f301.keep K296).wr W305).wr W309).wr W316)
            have f321 := (((po296_1.wr W305).wr W309).wr W316)
            have f322 := (((((((F_a0_documents.other W267 (Or.inl ne_a0_da)).other W277 (Or.inl ne_a0_sa)).other W282 (Or.inr (slot_ne (Or.inl (hw _ (own_w 22 rfl))) (Or.inl (hw _ (own_w 33 rfl))) (by decide) (t := (.array .int)) (t' := .int) (by decide) (by decide)))).keep K296 nin0).other W305 (Or.inr (slot_ne (Or.inl (hw _ (own_w 22 rfl))) (Or.inl (hw _ (own_w 26 rfl))) (by decide) (t := (.array .int)) (t' := (.array .int)) (by decide) (by decide)))).other W309 (Or.inl ne_a0_rb296)).other W316 (Or.inl ne_a0_sa))
            have f323 := (f311.other W316 (Or.inl ne_a0_sa))
            have f324 := ((Fw305.other W309 (Or.inl ne_a0_rb296)).other W316 (Or.inl ne_a0_sa))
            have f325 := (f313.other W316 (Or.inl ne_a0_sa))
            have f326 := ((((((V267.other W277 ne_da_sa).other W282 (Ne.symm ne_a0_da)).keep K296 nin0).other W305 (Ne.symm ne_a0_da)).other W309 ne_da_rb296).other W316 ne_da_sa)
            have f327 := (V309.other W316 (Ne.symm ne_sa_rb296))
            refine ⟨da, sa, rb296, kd, ks, kb296, rfl, N316, kp317, f318, ?_, ?_, ?_, ?_, f319, f320, f321, ?_, ?_, ?_, ne_da_sa, ne_da_rb296, ne_sa_rb296, ne_a0_da, ne_a0_sa, ne_a0_rb296, g_da, g_sa, g_rb296, (Or.inl rfl), (Or.inl rfl), (Or.inr sz_rb296)⟩
            · exact f322
            · exact f323
            · exact f324
            · rw [show (own_p5_size p1 ld sz) = (sz + (1 : Int32)) from (by subst hws316 hws309 hx3_122 hws277 hws267; simp only [own_p5_size, if_neg hc4, if_neg hc19, if_neg hc33, if_pos hc128])]; exact f325
            · rw [show (own_z5_db p1 zd zs ld sz) = zd from (by subst hws316 hws309 hx3_122 hws277 hws267; simp only [own_z5_db, if_neg hc4, if_neg hc19, if_neg hc33, if_pos hc128]), show (own_p5_db p1 zd zs ld sz) = ws267 from (by subst hws316 hws309 hx3_122 hws277 hws267; simp only [own_p5_db, if_neg hc4, if_neg hc19, if_neg hc33, if_pos hc128])]; exact f326
            · rw [show (own_z5_sb p1 zs ld sz) = zs from (by subst hws316 hws309 hx3_122 hws277 hws267; simp only [own_z5_sb, if_neg hc4, if_neg hc19, if_neg hc33, if_pos hc128]), show (own_p5_sb p1 zs ld ls sz) = ws316 from (by subst hws316 hws309 hx3_122 hws277 hws267; simp only [own_p5_sb, if_neg hc4, if_neg hc19, if_neg hc33, if_pos hc128])]; exact V316
            · rw [show (own_z5_pb p1 zs zp ld ls sz) = ((x3_122 * (2 : Int32))) from (by subst hws316 hws309 hx3_122 hws277 hws267; simp only [own_z5_pb, if_neg hc4, if_neg hc19, if_neg hc33, if_pos hc128]), show (own_p5_pb p1 p2 zs zp ld ls lp sz) = ws309 from (by subst hws316 hws309 hx3_122 hws277 hws267; simp only [own_p5_pb, if_neg hc4, if_neg hc19, if_neg hc33, if_pos hc128])]; exact f327
        · obtain ⟨T328, X328, e328, st328⟩ := getF X291 hx hZ hown (host := "") (Or.inl (hw _ (own_w 25 rfl))) Via.refl e291 f290 (g := (mkF m 146 #[.val (.ref a0), .val (.int p1), .val (.int p2), .val (.int x3_122)] [(.ref a0)])) rfl rfl (hb hby d5_146)
          obtain ⟨cl329, Ar329, hin329, set329⟩ := own_AI.arr f292 (j := x3_122) (own_i151 hI hB hc128)
          obtain ⟨T329, h329, X329, e329, W329, st329⟩ := stI X328 hx hZ e328 Ar329 (j := x3_122) hin329 (g := (mkF m 151 #[.val (.ref a0), .val (.int p1), .val (.int p2), .val (.int x3_122)] [(.int p2), (.int x3_122), (.ref pa)])) rfl rfl (hb hby d5_151)
          have V329 : own_AI Z h329 pa kp .int zp (lp.set (x3_122).toNatClampNeg p2) := set329 _ _ rfl W329
          obtain ⟨ws329, hws329⟩ : ∃ z, z = (lp.set (x3_122).toNatClampNeg p2) := ⟨_, rfl⟩
          rw [← hws329] at V329
          have N329 := Fr.snoc X329 N282 g_pa
          have kp330 : Keep h0 h329 [a0, da, sa, pa] := kp283.wr W329 (Or.inl (own_w 3 rfl))
          have f331 := (f284.other W329 (Or.inl ne_a0_pa))
          obtain ⟨T332, X332, e332, st332⟩ := getF X329 hx hZ hown (host := "") (Or.inl (hw _ (own_w 23 rfl))) Via.refl e329 f331 (g := (mkF m 153 #[.val (.ref a0), .val (.int p1), .val (.int p2), .val (.int x3_122)] [(.ref a0)])) rfl rfl (hb hby d5_153)
          have f333 := (Fw282.other W329 (Or.inl ne_a0_pa))
          obtain ⟨T334, X334, e334, st334⟩ := getF X332 hx hZ hown (host := "") (Or.inl (hw _ (own_w 32 rfl))) Via.refl e332 f333 (g := (mkF m 157 #[.val (.ref a0), .val (.int p1), .val (.int p2), .val (.int x3_122)] [(.ref a0), (.ref sa)])) rfl rfl (hb hby d5_157)
          have f335 := (f287.other W329 ne_sa_pa)
          obtain ⟨cl336, Ar336, hin336, set336⟩ := own_AI.arr f335 (j := (sz + (1 : Int32))) (own_i101 hI hc33)
          obtain ⟨T336, h336, X336, e336, W336, st336⟩ := stI X334 hx hZ e334 Ar336 (j := (sz + (1 : Int32))) hin336 (g := (mkF m 163 #[.val (.ref a0), .val (.int p1), .val (.int p2), .val (.int x3_122)] [(.int (x3_122 + (1 : Int32))), (.int (sz + (1 : Int32))), (.ref sa)])) rfl rfl (hb hby d5_163)
          have V336 : own_AI Z h336 sa ks .int zs (ws277.set ((sz + (1 : Int32))).toNatClampNeg (x3_122 + (1 : Int32))) := set336 _ _ rfl W336
          obtain ⟨ws336, hws336⟩ : ∃ z, z = (ws277.set ((sz + (1 : Int32))).toNatClampNeg (x3_122 + (1 : Int32))) := ⟨_, rfl⟩
          rw [← hws336] at V336
          have N336 := Fr.snoc X336 N329 g_sa
          have kp337 : Keep h0 h336 [a0, da, sa, pa] := kp330.wr W336 (Or.inl (own_w 2 rfl))
          obtain ⟨fs, hr, hrun, hended, hW, hsame⟩ := X336.leave (v := none) (fun _ => rfl)
          refine ⟨_, _, pre294 _ ?_, hrun, hended, _, _, rfl, ?_, ⟨_, rfl⟩, hW, hsame.mono (by decide) (by decide)⟩
          · show Steps p.tables e below (T291.setTop (mkF m 128 #[.val (.ref a0), .val (.int p1), .val (.int p2), .val (.int x3_122)] [(.int zp), (.int x3_122)])) _
            refine XS.icmpYes X291.here hx rfl (pc0 := 128) (pc' := 145) rfl (hb hby d5_128) rfl (feq hc128).2 (by decide) (by decide) ?_
            refine XS.aloadN X291.here hx rfl (hb hby d5_145) rfl rfl ?_
            refine st328 _ ?_
            refine XS.iloadN X328.here hx rfl (hb hby d5_149) rfl ?_
            refine XS.iloadN X328.here hx rfl (hb hby d5_150) rfl ?_
            show Steps p.tables e below (T328.setTop (mkF m 151 #[.val (.ref a0), .val (.int p1), .val (.int p2), .val (.int x3_122)] [(.int p2), (.int x3_122), (.ref pa)])) _
            refine st329 _ ?_
            refine XS.aloadN X329.here hx rfl (hb hby d5_152) rfl rfl ?_
            refine st332 _ ?_
            refine XS.aloadN X332.here hx rfl (hb hby d5_156) rfl rfl ?_
            refine st334 _ ?_
            show Steps p.tables e below (T334.setTop (mkF m 160 #[.val (.ref a0), .val (.int p1), .val (.int p2), .val (.int x3_122)] [(.int (sz + (1 : Int32))), (.ref sa)])) _
            refine XS.iloadN X334.here hx rfl (hb hby d5_160) rfl ?_
            refine XS.iconst X334.here hx rfl (hb hby d5_161) ?_
            refine XS.iadd X334.here hx rfl (hb hby d5_162) rfl ?_
            refine st336 _ ?_
            show Steps p.tables e below (T336.setTop (mkF m 164 #[.val (.ref a0), .val (.int p1), .val (.int p2), .val (.int x3_122)] [])) _
            exact X336.returnOut hx Bd.returns (hb hby d5_164) hr
          · show Q5 Z a0 p1 p2 da sa pa kd ks kp zd zs zp ld ls lp sz h0 n0 _ T336.heap _
            rw [e336]
            unfold Q5
            have f338 := (((f281.wr W282).wr W329).wr W336)
            have f339 := (((((E_da.wr W267).wr W277).wr W282).wr W329).wr W336)
            have f340 := (((((E_sa.wr W267).wr W277).wr W282).wr W329).wr W336)
            have f341 := (((((E_pa.wr W267).wr W277).wr W282).wr W329).wr W336)
            have f342 := (((((F_a0_documents.other W267 (Or.inl ne_a0_da)).other W277 (Or.inl ne_a0_sa)).other W282 (Or.inr (slot_ne (Or.inl (hw _ (own_w 22 rfl))) (Or.inl (hw _ (own_w 33 rfl))) (by decide) (t := (.array .int)) (t' := .int) (by decide) (by decide)))).other W329 (Or.inl ne_a0_pa)).other W336 (Or.inl ne_a0_sa))
            have f343 := (f331.other W336 (Or.inl ne_a0_sa))
            have f344 := ((f290.other W329 (Or.inl ne_a0_pa)).other W336 (Or.inl ne_a0_sa))
            have f345 := (f333.other W336 (Or.inl ne_a0_sa))
            have f346 := ((((V267.other W277 ne_da_sa).other W282 (Ne.symm ne_a0_da)).other W329 ne_da_pa).other W336 ne_da_sa)
            have f347 := (V329.other W336 (Ne.symm ne_sa_pa))
            refine ⟨da, sa, pa, kd, ks, kp, rfl, N336, kp337, f338, ?_, ?_, ?_, ?_, f339, f340, f341, ?_, ?_, ?_, ne_da_sa, ne_da_pa, ne_sa_pa, ne_a0_da, ne_a0_sa, ne_a0_pa, g_da, g_sa, g_pa, (Or.inl rfl), (Or.inl rfl), (Or.inl rfl)⟩
            · exact f342
            · exact f343
            · exact f344
            · rw [show (own_p5_size p1 ld sz) = (sz + (1 : Int32)) from (by subst hws336 hws329 hx3_122 hws277 hws267; simp only [own_p5_size, if_neg hc4, if_neg hc19, if_neg hc33, if_neg hc128])]; exact f345
            · rw [show (own_z5_db p1 zd zs ld sz) = zd from (by subst hws336 hws329 hx3_122 hws277 hws267; simp only [own_z5_db, if_neg hc4, if_neg hc19, if_neg hc33, if_neg hc128]), show (own_p5_db p1 zd zs ld sz) = ws267 from (by subst hws336 hws329 hx3_122 hws277 hws267; simp only [own_p5_db, if_neg hc4, if_neg hc19, if_neg hc33, if_neg hc128])]; exact f346
            · rw [show (own_z5_sb p1 zs ld sz) = zs from (by subst hws336 hws329 hx3_122 hws277 hws267; simp only [own_z5_sb, if_neg hc4, if_neg hc19, if_neg hc33, if_neg hc128]), show (own_p5_sb p1 zs ld ls sz) = ws336 from (by subst hws336 hws329 hx3_122 hws277 hws267; simp only [own_p5_sb, if_neg hc4, if_neg hc19, if_neg hc33, if_neg hc128])]; exact V336
            · rw [show (own_z5_pb p1 zs zp ld ls sz) = zp from (by subst hws336 hws329 hx3_122 hws277 hws267; simp only [own_z5_pb, if_neg hc4, if_neg hc19, if_neg hc33, if_neg hc128]), show (own_p5_pb p1 p2 zs zp ld ls lp sz) = ws329 from (by subst hws336 hws329 hx3_122 hws277 hws267; simp only [own_p5_pb, if_neg hc4, if_neg hc19, if_neg hc33, if_neg hc128])]; exact f347
theorem d2_0 : decode method_2_code 0 = .ok (.bipush 8, 2) := by decide +kernel
theorem d2_2 : decode method_2_code 2 = .ok (.iload_n 0, 1) := by decide +kernel
theorem d2_3 : decode method_2_code 3 = .ok (.iconst 1, 1) := by decide +kernel
theorem d2_4 : decode method_2_code 4 = .ok (.isub, 1) := by decide +kernel
theorem d2_5 : decode method_2_code 5 = .ok (.imul, 1) := by decide +kernel
theorem d2_6 : decode method_2_code 6 = .ok (.istore 9, 2) := by decide +kernel
theorem d2_8 : decode method_2_code 8 = .ok (.iload_n 1, 1) := by decide +kernel
theorem d2_9 : decode method_2_code 9 = .ok (.iload_n 0, 1) := by decide +kernel
theorem d2_10 : decode method_2_code 10 = .ok (.iconst 1, 1) := by decide +kernel
theorem d2_11 : decode method_2_code 11 = .ok (.isub, 1) := by decide +kernel
theorem d2_12 : decode method_2_code 12 = .ok (.iushr, 1) := by decide +kernel
theorem d2_13 : decode method_2_code 13 = .ok (.iconst 1, 1) := by decide +kernel
theorem d2_14 : decode method_2_code 14 = .ok (.iand, 1) := by decide +kernel
theorem d2_15 : decode method_2_code 15 = .ok (.ifCond .eq 7, 3) := by decide +kernel
theorem d2_18 : decode method_2_code 18 = .ok (.iconst 1, 1) := by decide +kernel
theorem d2_19 : decode method_2_code 19 = .ok (.goto 4, 3) := by decide +kernel
theorem d2_22 : decode method_2_code 22 = .ok (.iconst 0, 1) := by decide +kernel
theorem d2_23 : decode method_2_code 23 = .ok (.istore 10, 2) := by decide +kernel
theorem d2_25 : decode method_2_code 25 = .ok (.aload 7, 2) := by decide +kernel
theorem d2_27 : decode method_2_code 27 = .ok (.iload_n 0, 1) := by decide +kernel
theorem d2_28 : decode method_2_code 28 = .ok (.iload 10, 2) := by decide +kernel
theorem d2_30 : decode method_2_code 30 = .ok (.bastore, 1) := by decide +kernel
theorem d2_31 : decode method_2_code 31 = .ok (.iload 10, 2) := by decide +kernel
theorem d2_33 : decode method_2_code 33 = .ok (.ifCond .eq 54, 3) := by decide +kernel
theorem d2_36 : decode method_2_code 36 = .ok (.aload 5, 2) := by decide +kernel
theorem d2_38 : decode method_2_code 38 = .ok (.iload_n 0, 1) := by decide +kernel
theorem d2_39 : decode method_2_code 39 = .ok (.aload 5, 2) := by decide +kernel
theorem d2_41 : decode method_2_code 41 = .ok (.iload_n 0, 1) := by decide +kernel
theorem d2_42 : decode method_2_code 42 = .ok (.iconst 1, 1) := by decide +kernel
theorem d2_43 : decode method_2_code 43 = .ok (.isub, 1) := by decide +kernel
theorem d2_44 : decode method_2_code 44 = .ok (.iaload, 1) := by decide +kernel
theorem d2_45 : decode method_2_code 45 = .ok (.iload_n 2, 1) := by decide +kernel
theorem d2_46 : decode method_2_code 46 = .ok (.iload 9, 2) := by decide +kernel
theorem d2_48 : decode method_2_code 48 = .ok (.iushr, 1) := by decide +kernel
theorem d2_49 : decode method_2_code 49 = .ok (.sipush 255, 3) := by decide +kernel
theorem d2_52 : decode method_2_code 52 = .ok (.iand, 1) := by decide +kernel
theorem d2_53 : decode method_2_code 53 = .ok (.iadd, 1) := by decide +kernel
theorem d2_54 : decode method_2_code 54 = .ok (.iconst 1, 1) := by decide +kernel
theorem d2_55 : decode method_2_code 55 = .ok (.iadd, 1) := by decide +kernel
theorem d2_56 : decode method_2_code 56 = .ok (.iastore, 1) := by decide +kernel
theorem d2_57 : decode method_2_code 57 = .ok (.aload 6, 2) := by decide +kernel
theorem d2_59 : decode method_2_code 59 = .ok (.iload_n 0, 1) := by decide +kernel
theorem d2_60 : decode method_2_code 60 = .ok (.iload_n 3, 1) := by decide +kernel
theorem d2_61 : decode method_2_code 61 = .ok (.iload 9, 2) := by decide +kernel
theorem d2_63 : decode method_2_code 63 = .ok (.iushr, 1) := by decide +kernel
theorem d2_64 : decode method_2_code 64 = .ok (.sipush 255, 3) := by decide +kernel
theorem d2_67 : decode method_2_code 67 = .ok (.iand, 1) := by decide +kernel
theorem d2_68 : decode method_2_code 68 = .ok (.ldc 7, 2) := by decide +kernel
theorem d2_70 : decode method_2_code 70 = .ok (.imul, 1) := by decide +kernel
theorem d2_71 : decode method_2_code 71 = .ok (.iastore, 1) := by decide +kernel
theorem d2_72 : decode method_2_code 72 = .ok (.aload 8, 2) := by decide +kernel
theorem d2_74 : decode method_2_code 74 = .ok (.iload_n 0, 1) := by decide +kernel
theorem d2_75 : decode method_2_code 75 = .ok (.aload 8, 2) := by decide +kernel
theorem d2_77 : decode method_2_code 77 = .ok (.iload_n 0, 1) := by decide +kernel
theorem d2_78 : decode method_2_code 78 = .ok (.iconst 1, 1) := by decide +kernel
theorem d2_79 : decode method_2_code 79 = .ok (.isub, 1) := by decide +kernel
theorem d2_80 : decode method_2_code 80 = .ok (.iaload, 1) := by decide +kernel
theorem d2_81 : decode method_2_code 81 = .ok (.iconst 1, 1) := by decide +kernel
theorem d2_82 : decode method_2_code 82 = .ok (.iadd, 1) := by decide +kernel
theorem d2_83 : decode method_2_code 83 = .ok (.iastore, 1) := by decide +kernel
theorem d2_84 : decode method_2_code 84 = .ok (.goto 45, 3) := by decide +kernel
theorem d2_87 : decode method_2_code 87 = .ok (.aload 5, 2) := by decide +kernel
theorem d2_89 : decode method_2_code 89 = .ok (.iload_n 0, 1) := by decide +kernel
theorem d2_90 : decode method_2_code 90 = .ok (.aload 5, 2) := by decide +kernel
theorem d2_92 : decode method_2_code 92 = .ok (.iload_n 0, 1) := by decide +kernel
theorem d2_93 : decode method_2_code 93 = .ok (.iconst 1, 1) := by decide +kernel
theorem d2_94 : decode method_2_code 94 = .ok (.isub, 1) := by decide +kernel
theorem d2_95 : decode method_2_code 95 = .ok (.iaload, 1) := by decide +kernel
theorem d2_96 : decode method_2_code 96 = .ok (.iastore, 1) := by decide +kernel
theorem d2_97 : decode method_2_code 97 = .ok (.aload 6, 2) := by decide +kernel
theorem d2_99 : decode method_2_code 99 = .ok (.iload_n 0, 1) := by decide +kernel
theorem d2_100 : decode method_2_code 100 = .ok (.aload 6, 2) := by decide +kernel
theorem d2_102 : decode method_2_code 102 = .ok (.iload_n 0, 1) := by decide +kernel
theorem d2_103 : decode method_2_code 103 = .ok (.iconst 1, 1) := by decide +kernel
theorem d2_104 : decode method_2_code 104 = .ok (.isub, 1) := by decide +kernel
theorem d2_105 : decode method_2_code 105 = .ok (.iaload, 1) := by decide +kernel
theorem d2_106 : decode method_2_code 106 = .ok (.iload 4, 2) := by decide +kernel
theorem d2_108 : decode method_2_code 108 = .ok (.iload 9, 2) := by decide +kernel
theorem d2_110 : decode method_2_code 110 = .ok (.iushr, 1) := by decide +kernel
theorem d2_111 : decode method_2_code 111 = .ok (.sipush 255, 3) := by decide +kernel
theorem d2_114 : decode method_2_code 114 = .ok (.iand, 1) := by decide +kernel
theorem d2_115 : decode method_2_code 115 = .ok (.iadd, 1) := by decide +kernel
theorem d2_116 : decode method_2_code 116 = .ok (.iconst 1, 1) := by decide +kernel
theorem d2_117 : decode method_2_code 117 = .ok (.iadd, 1) := by decide +kernel
theorem d2_118 : decode method_2_code 118 = .ok (.iastore, 1) := by decide +kernel
theorem d2_119 : decode method_2_code 119 = .ok (.aload 8, 2) := by decide +kernel
theorem d2_121 : decode method_2_code 121 = .ok (.iload_n 0, 1) := by decide +kernel
theorem d2_122 : decode method_2_code 122 = .ok (.aload 8, 2) := by decide +kernel
theorem d2_124 : decode method_2_code 124 = .ok (.iload_n 0, 1) := by decide +kernel
theorem d2_125 : decode method_2_code 125 = .ok (.iconst 1, 1) := by decide +kernel
theorem d2_126 : decode method_2_code 126 = .ok (.isub, 1) := by decide +kernel
theorem d2_127 : decode method_2_code 127 = .ok (.iaload, 1) := by decide +kernel
theorem d2_128 : decode method_2_code 128 = .ok (.iastore, 1) := by decide +kernel
theorem d2_129 : decode method_2_code 129 = .ok (.return_, 1) := by decide +kernel
theorem pn_2 : plainName "com/example/whole_recall/wholerecall/index/PostingsBuilderAddPinLaw" = true := by first | (simp [plainName, overriddenIn]; done) | decide +kernel
theorem ef_2 (m : MethodId) (p0 : Int32) (p1 : Int32) (p2 : Int32) (p3 : Int32) (p4 : Int32) (a5 : Addr) (a6 : Addr) (a7 : Addr) (a8 : Addr) : entryFrame m #[(.int p0), (.int p1), (.int p2), (.int p3), (.int p4), (.ref a5), (.ref a6), (.ref a7), (.ref a8)] 11 = mkF m 0 #[.val (.int p0), .val (.int p1), .val (.int p2), .val (.int p3), .val (.int p4), .val (.ref a5), .val (.ref a6), .val (.ref a7), .val (.ref a8), .unset, .unset] [] := by first | (simp [entryFrame, mkF, argsToLocals, Value.category]; done) | rfl
def own_m2_23_s0 (v0 : Int32) (v1 : Int32) : Int32 := (if (((v0).toUInt32 >>> ((v1 - (1 : Int32)) &&& 31).toUInt32).toInt32 &&& (1 : Int32)) = (0 : Int32) then (0 : Int32) else (1 : Int32))
def own_p2_a5 (p0 : Int32) (p1 : Int32) (p2 : Int32) (l1 : List Int32) : List Int32 := (if ((own_m2_23_s0 p1 p0)) = (0 : Int32) then ((l1.set (p0).toNatClampNeg (l1.getD ((p0 - (1 : Int32))).toNatClampNeg (0 : Int32)))) else ((l1.set (p0).toNatClampNeg (((l1.getD ((p0 - (1 : Int32))).toNatClampNeg (0 : Int32)) + (((p2).toUInt32 >>> ((((8 : Int32) * (p0 - (1 : Int32)))) &&& 31).toUInt32).toInt32 &&& (255 : Int32))) + (1 : Int32)))))
def own_p2_a6 (p0 : Int32) (p1 : Int32) (p3 : Int32) (p4 : Int32) (l2 : List Int32) : List Int32 := (if ((own_m2_23_s0 p1 p0)) = (0 : Int32) then ((l2.set (p0).toNatClampNeg (((l2.getD ((p0 - (1 : Int32))).toNatClampNeg (0 : Int32)) + (((p4).toUInt32 >>> ((((8 : Int32) * (p0 - (1 : Int32)))) &&& 31).toUInt32).toInt32 &&& (255 : Int32))) + (1 : Int32)))) else ((l2.set (p0).toNatClampNeg ((((p3).toUInt32 >>> ((((8 : Int32) * (p0 - (1 : Int32)))) &&& 31).toUInt32).toInt32 &&& (255 : Int32)) * (8388607 : Int32)))))
def own_p2_a7 (p0 : Int32) (p1 : Int32) (l3 : List Int32) : List Int32 := ((l3.set (p0).toNatClampNeg (nar .boolean ((own_m2_23_s0 p1 p0)))))
def own_p2_a8 (p0 : Int32) (p1 : Int32) (l4 : List Int32) : List Int32 := (if ((own_m2_23_s0 p1 p0)) = (0 : Int32) then ((l4.set (p0).toNatClampNeg (l4.getD ((p0 - (1 : Int32))).toNatClampNeg (0 : Int32)))) else ((l4.set (p0).toNatClampNeg ((l4.getD ((p0 - (1 : Int32))).toNatClampNeg (0 : Int32)) + (1 : Int32)))))
def Q2 (Z : State) (p0 : Int32) (p1 : Int32) (p2 : Int32) (p3 : Int32) (p4 : Int32) (a5 : Addr) (a6 : Addr) (a7 : Addr) (a8 : Addr) (k1 : ClassId) (k2 : ClassId) (k3 : ClassId) (k4 : ClassId) (l1 : List Int32) (l2 : List Int32) (l3 : List Int32) (l4 : List Int32) (h0 : Heap) (n0 : Nat) (v : Option Value) (h : Heap) (L : List Loc) : Prop := v = none ∧ Fr n0 L ∧ Keep h0 h [a5, a6, a7, a8] ∧ own_AI Z h a5 k1 .int (5 : Int32) (own_p2_a5 p0 p1 p2 l1) ∧ own_AI Z h a6 k2 .int (5 : Int32) (own_p2_a6 p0 p1 p3 p4 l2) ∧ own_AI Z h a7 k3 .boolean (5 : Int32) (own_p2_a7 p0 p1 l3) ∧ own_AI Z h a8 k4 .int (5 : Int32) (own_p2_a8 p0 p1 l4)
set_option maxRecDepth 65536 in
set_option maxHeartbeats 40000000 in
theorem rm2 (l : Launch) (Z : State) (aw : Array Value) (hw : ∀ d ∈ tables_1, d.before aw Z = true) (wq : List Jvm.Cond) (p0 : Int32) (p1 : Int32) (p2 : Int32) (p3 : Int32) (p4 : Int32) (a5 : Addr) (a6 : Addr) (a7 : Addr) (a8 : Addr) (k1 : ClassId) (k2 : ClassId) (k3 : ClassId) (k4 : ClassId) (l1 : List Int32) (l2 : List Int32) (l3 : List Int32) (l4 : List Int32) (h0 : Heap) (n0 : Nat) (Z0 : n0 ≤ h0.size) (V_a5 : own_AI Z h0 a5 k1 .int (5 : Int32) l1) (V_a6 : own_AI Z h0 a6 k2 .int (5 : Int32) l2) (V_a7 : own_AI Z h0 a7 k3 .boolean (5 : Int32) l3) (V_a8 : own_AI Z h0 a8 k4 .int (5 : Int32) l4) (ne_a5_a6 : a5 ≠ a6) (ne_a5_a7 : a5 ≠ a7) (ne_a5_a8 : a5 ≠ a8) (ne_a6_a7 : a6 ≠ a7) (ne_a6_a8 : a6 ≠ a8) (ne_a7_a8 : a7 ≠ a8) (g_a5 : n0 ≤ a5) (g_a6 : n0 ≤ a6) (g_a7 : n0 ≤ a7) (g_a8 : n0 ≤ a8) (ht : own_T p0) :
    MetFree l (⟨"com/example/whole_recall/wholerecall/index/PostingsBuilderAddPinLaw", "step", "(IIIII[I[I[Z[I)V"⟩ : MethodName) (head1 (Jvm.Cond.code (⟨"com/example/whole_recall/wholerecall/index/PostingsBuilderAddPinLaw", "step", "(IIIII[I[I[Z[I)V"⟩ : MethodName) method_2_code 11 none :: wq) ({ frames := 0, cells := 0, slots := 0, locals := 0 } : Room)) (fun a U => a = #[(.int p0), (.int p1), (.int p2), (.int p3), (.int p4), (.ref a5), (.ref a6), (.ref a7), (.ref a8)] ∧ Z.Warmed39 U.vm ∧ U.heap = h0) (fun _ _ _ _ _ => True) (fun _ U o U' => ∃ v L, o = .returned v ∧ Q2 Z p0 p1 p2 p3 p4 a5 a6 a7 a8 k1 k2 k3 k4 l1 l2 l3 l4 h0 n0 v U'.heap L ∧ FrameEnd U o U' L ({ frames := 0, cells := 0, slots := 0, locals := 0 } : Room).cells ({ frames := 0, cells := 0, slots := 0, locals := 0 } : Room).slots) := by
  refine MetFree.of_bodySF (plainFor_of_name pn_2) hisR ?_
  intro p e s m args below meth c s₁ Bd hml0 hP hK
  obtain ⟨rfl, hZ, hh⟩ := hP
  have hx := Bd.exec
  have hby := Bd.bytes
  have hml : c.maxLocals = 11 := hml0
  have hown : s.vm.findClass "com/example/whole_recall/wholerecall/index/PostingsBuilderAddPinLaw" = some m.cls := findClass_of_methodNamed Bd.named
  have hnm := (name_of_methodNamed Bd.named Bd.method).1
  have X0 : Stand p l e ({ frames := 0, cells := 0, slots := 0, locals := 0 } : Room) s m #[(.int p0), (.int p1), (.int p2), (.int p3), (.int p4), (.ref a5), (.ref a6), (.ref a7), (.ref a8)] below meth c s₁ [] 0 0 := Stand.of_body Bd
  have e0 : s₁.heap = h0 := by rw [← hh, Bd.state]; rfl
  have N0 := Fr.nil n0
  have pre0 : own_Pre p e below (s₁.setTop (entryFrame m #[(.int p0), (.int p1), (.int p2), (.int p3), (.int p4), (.ref a5), (.ref a6), (.ref a7), (.ref a8)] 11)) (s₁.setTop (mkF m 0 #[.val (.int p0), .val (.int p1), .val (.int p2), .val (.int p3), .val (.int p4), .val (.ref a5), .val (.ref a6), .val (.ref a7), .val (.ref a8), .unset, .unset] [])) := fun t k => castTop (ef_2 m p0 p1 p2 p3 p4 a5 a6 a7 a8) k
  obtain ⟨x9_8, hx9_8, pre1⟩ : ∃ z : Int32, z = ((8 : Int32) * (p0 - (1 : Int32))) ∧ own_Pre p e below (s₁.setTop (entryFrame m #[(.int p0), (.int p1), (.int p2), (.int p3), (.int p4), (.ref a5), (.ref a6), (.ref a7), (.ref a8)] 11)) (s₁.setTop (mkF m 8 #[.val (.int p0), .val (.int p1), .val (.int p2), .val (.int p3), .val (.int p4), .val (.ref a5), .val (.ref a6), .val (.ref a7), .val (.ref a8), .val (.int z), .unset] [])) := ⟨_, rfl, fun t k => pre0 t (by
      show Steps p.tables e below (s₁.setTop (mkF m 0 #[.val (.int p0), .val (.int p1), .val (.int p2), .val (.int p3), .val (.int p4), .val (.ref a5), .val (.ref a6), .val (.ref a7), .val (.ref a8), .unset, .unset] [])) _
      refine XS.bipush X0.here hx rfl (hb hby d2_0) ?_
      refine XS.iloadN X0.here hx rfl (hb hby d2_2) rfl ?_
      refine XS.iconst X0.here hx rfl (hb hby d2_3) ?_
      refine XS.isub X0.here hx rfl (hb hby d2_4) rfl ?_
      refine XS.imul X0.here hx rfl (hb hby d2_5) rfl ?_
      show Steps p.tables e below (s₁.setTop (mkF m 6 #[.val (.int p0), .val (.int p1), .val (.int p2), .val (.int p3), .val (.int p4), .val (.ref a5), .val (.ref a6), .val (.ref a7), .val (.ref a8), .unset, .unset] [(.int ((8 : Int32) * (p0 - (1 : Int32))))])) _
      refine XS.istore X0.here hx rfl (hb hby d2_6) rfl (l' := #[.val (.int p0), .val (.int p1), .val (.int p2), .val (.int p3), .val (.int p4), .val (.ref a5), .val (.ref a6), .val (.ref a7), .val (.ref a8), .val (.int ((8 : Int32) * (p0 - (1 : Int32)))), .unset]) rfl ?_
      exact k)⟩
  have pre4 : own_Pre p e below (s₁.setTop (entryFrame m #[(.int p0), (.int p1), (.int p2), (.int p3), (.int p4), (.ref a5), (.ref a6), (.ref a7), (.ref a8)] 11)) (s₁.setTop (mkF m 15 #[.val (.int p0), .val (.int p1), .val (.int p2), .val (.int p3), .val (.int p4), .val (.ref a5), .val (.ref a6), .val (.ref a7), .val (.ref a8), .val (.int x9_8), .unset] [(.int (((p1).toUInt32 >>> ((p0 - (1 : Int32)) &&& 31).toUInt32).toInt32 &&& (1 : Int32)))])) := fun t k => pre1 t (by
      show Steps p.tables e below (s₁.setTop (mkF m 8 #[.val (.int p0), .val (.int p1), .val (.int p2), .val (.int p3), .val (.int p4), .val (.ref a5), .val (.ref a6), .val (.ref a7), .val (.ref a8), .val (.int x9_8), .unset] [])) _
      refine XS.iloadN X0.here hx rfl (hb hby d2_8) rfl ?_
      refine XS.iloadN X0.here hx rfl (hb hby d2_9) rfl ?_
      refine XS.iconst X0.here hx rfl (hb hby d2_10) ?_
      refine XS.isub X0.here hx rfl (hb hby d2_11) rfl ?_
      refine XS.iushr X0.here hx rfl (hb hby d2_12) rfl ?_
      show Steps p.tables e below (s₁.setTop (mkF m 13 #[.val (.int p0), .val (.int p1), .val (.int p2), .val (.int p3), .val (.int p4), .val (.ref a5), .val (.ref a6), .val (.ref a7), .val (.ref a8), .val (.int x9_8), .unset] [(.int ((p1).toUInt32 >>> ((p0 - (1 : Int32)) &&& 31).toUInt32).toInt32)])) _
      refine XS.iconst X0.here hx rfl (hb hby d2_13) ?_
      refine XS.iand X0.here hx rfl (hb hby d2_14) rfl ?_
      exact k)
  obtain ⟨m23_s0, hm23_s0, pre3⟩ : ∃ (m23_s0 : Int32), m23_s0 = (own_m2_23_s0 p1 p0) ∧ own_Pre p e below (s₁.setTop (entryFrame m #[(.int p0), (.int p1), (.int p2), (.int p3), (.int p4), (.ref a5), (.ref a6), (.ref a7), (.ref a8)] 11)) (s₁.setTop (mkF m 23 #[.val (.int p0), .val (.int p1), .val (.int p2), .val (.int p3), .val (.int p4), .val (.ref a5), .val (.ref a6), .val (.ref a7), .val (.ref a8), .val (.int x9_8), .unset] [(.int m23_s0)])) := by
    by_cases hc15 : (((p1).toUInt32 >>> ((p0 - (1 : Int32)) &&& 31).toUInt32).toInt32 &&& (1 : Int32)) = (0 : Int32)
    · have pre5 : own_Pre p e below (s₁.setTop (entryFrame m #[(.int p0), (.int p1), (.int p2), (.int p3), (.int p4), (.ref a5), (.ref a6), (.ref a7), (.ref a8)] 11)) (s₁.setTop (mkF m 23 #[.val (.int p0), .val (.int p1), .val (.int p2), .val (.int p3), .val (.int p4), .val (.ref a5), .val (.ref a6), .val (.ref a7), .val (.ref a8), .val (.int x9_8), .unset] [(.int (0 : Int32))])) := fun t k => pre4 t (by
          show Steps p.tables e below (s₁.setTop (mkF m 15 #[.val (.int p0), .val (.int p1), .val (.int p2), .val (.int p3), .val (.int p4), .val (.ref a5), .val (.ref a6), .val (.ref a7), .val (.ref a8), .val (.int x9_8), .unset] [(.int (((p1).toUInt32 >>> ((p0 - (1 : Int32)) &&& 31).toUInt32).toInt32 &&& (1 : Int32)))])) _
          refine XS.ifYes X0.here hx rfl (pc0 := 15) (pc' := 22) rfl (hb hby d2_15) rfl ((if0 _ _).trans (teq hc15).1) (by decide) (by decide) ?_
          refine XS.iconst X0.here hx rfl (hb hby d2_22) ?_
          exact k)
      refine ⟨_, ?_, pre5⟩
      all_goals (first | (simp only [own_m2_23_s0, if_pos hc15]; done) | (simp [own_m2_23_s0, if_pos hc15]; done))
    · have pre6 : own_Pre p e below (s₁.setTop (entryFrame m #[(.int p0), (.int p1), (.int p2), (.int p3), (.int p4), (.ref a5), (.ref a6), (.ref a7), (.ref a8)] 11)) (s₁.setTop (mkF m 23 #[.val (.int p0), .val (.int p1), .val (.int p2), .val (.int p3), .val (.int p4), .val (.ref a5), .val (.ref a6), .val (.ref a7), .val (.ref a8), .val (.int x9_8), .unset] [(.int (1 : Int32))])) := fun t k => pre4 t (by
          show Steps p.tables e below (s₁.setTop (mkF m 15 #[.val (.int p0), .val (.int p1), .val (.int p2), .val (.int p3), .val (.int p4), .val (.ref a5), .val (.ref a6), .val (.ref a7), .val (.ref a8), .val (.int x9_8), .unset] [(.int (((p1).toUInt32 >>> ((p0 - (1 : Int32)) &&& 31).toUInt32).toInt32 &&& (1 : Int32)))])) _
          refine XS.ifNo X0.here hx rfl (hb hby d2_15) rfl ((if0 _ _).trans (feq hc15).1) ?_
          refine XS.iconst X0.here hx rfl (hb hby d2_18) ?_
          refine XS.goto X0.here hx rfl (pc0 := 19) (pc' := 23) rfl (hb hby d2_19) (by decide) (by decide) ?_
          exact k)
      refine ⟨_, ?_, pre6⟩
      all_goals (first | (simp only [own_m2_23_s0, if_neg hc15]; done) | (simp [own_m2_23_s0, if_neg hc15]; done))
  obtain ⟨cl7, Ar7, hin7, set7⟩ := own_AI.arr V_a7 (j := p0) ((own_t ht).1)
  obtain ⟨T7, h7, X7, e7, W7, st7⟩ := stZ X0 hx hZ e0 Ar7 (j := p0) hin7 (g := (mkF m 30 #[.val (.int p0), .val (.int p1), .val (.int p2), .val (.int p3), .val (.int p4), .val (.ref a5), .val (.ref a6), .val (.ref a7), .val (.ref a8), .val (.int x9_8), .val (.int m23_s0)] [(.int m23_s0), (.int p0), (.ref a7)])) rfl rfl (hb hby d2_30)
  have V7 : own_AI Z h7 a7 k3 .boolean (5 : Int32) (l3.set (p0).toNatClampNeg (nar .boolean m23_s0)) := set7 _ _ (fits_nar_bool _) W7
  obtain ⟨ws7, hws7⟩ : ∃ z, z = (l3.set (p0).toNatClampNeg (nar .boolean m23_s0)) := ⟨_, rfl⟩
  rw [← hws7] at V7
  have N7 := Fr.snoc X7 N0 g_a7
  have kp8 : Keep h0 h7 [a5, a6, a7, a8] := (Keep.refl h0 [a5, a6, a7, a8]).wr W7 (Or.inl (own_w 2 rfl))
  have pre9 : own_Pre p e below (s₁.setTop (entryFrame m #[(.int p0), (.int p1), (.int p2), (.int p3), (.int p4), (.ref a5), (.ref a6), (.ref a7), (.ref a8)] 11)) (T7.setTop (mkF m 33 #[.val (.int p0), .val (.int p1), .val (.int p2), .val (.int p3), .val (.int p4), .val (.ref a5), .val (.ref a6), .val (.ref a7), .val (.ref a8), .val (.int x9_8), .val (.int m23_s0)] [(.int m23_s0)])) := fun t k => pre3 t (by
      show Steps p.tables e below (s₁.setTop (mkF m 23 #[.val (.int p0), .val (.int p1), .val (.int p2), .val (.int p3), .val (.int p4), .val (.ref a5), .val (.ref a6), .val (.ref a7), .val (.ref a8), .val (.int x9_8), .unset] [(.int m23_s0)])) _
      refine XS.istore X0.here hx rfl (hb hby d2_23) rfl (l' := #[.val (.int p0), .val (.int p1), .val (.int p2), .val (.int p3), .val (.int p4), .val (.ref a5), .val (.ref a6), .val (.ref a7), .val (.ref a8), .val (.int x9_8), .val (.int m23_s0)]) rfl ?_
      refine XS.aload X0.here hx rfl (hb hby d2_25) rfl rfl ?_
      refine XS.iloadN X0.here hx rfl (hb hby d2_27) rfl ?_
      refine XS.iload X0.here hx rfl (hb hby d2_28) rfl ?_
      refine st7 _ ?_
      show Steps p.tables e below (T7.setTop (mkF m 31 #[.val (.int p0), .val (.int p1), .val (.int p2), .val (.int p3), .val (.int p4), .val (.ref a5), .val (.ref a6), .val (.ref a7), .val (.ref a8), .val (.int x9_8), .val (.int m23_s0)] [])) _
      refine XS.iload X7.here hx rfl (hb hby d2_31) rfl ?_
      exact k)
  by_cases hc33 : m23_s0 = (0 : Int32)
  · have f10 := (V_a5.other W7 ne_a5_a7)
    obtain ⟨cl11, Ar11, hin11, hat11⟩ := own_AI.at f10 (j := (p0 - (1 : Int32))) ((own_t ht).2)
    obtain ⟨cl12, Ar12, hin12, set12⟩ := own_AI.arr f10 (j := p0) ((own_t ht).1)
    obtain ⟨T12, h12, X12, e12, W12, st12⟩ := stI X7 hx hZ e7 Ar12 (j := p0) hin12 (g := (mkF m 96 #[.val (.int p0), .val (.int p1), .val (.int p2), .val (.int p3), .val (.int p4), .val (.ref a5), .val (.ref a6), .val (.ref a7), .val (.ref a8), .val (.int x9_8), .val (.int m23_s0)] [(.int (l1.getD ((p0 - (1 : Int32))).toNatClampNeg (0 : Int32))), (.int p0), (.ref a5)])) rfl rfl (hb hby d2_96)
    have V12 : own_AI Z h12 a5 k1 .int (5 : Int32) (l1.set (p0).toNatClampNeg (l1.getD ((p0 - (1 : Int32))).toNatClampNeg (0 : Int32))) := set12 _ _ rfl W12
    obtain ⟨ws12, hws12⟩ : ∃ z, z = (l1.set (p0).toNatClampNeg (l1.getD ((p0 - (1 : Int32))).toNatClampNeg (0 : Int32))) := ⟨_, rfl⟩
    rw [← hws12] at V12
    have N12 := Fr.snoc X12 N7 g_a5
    have kp13 : Keep h0 h12 [a5, a6, a7, a8] := kp8.wr W12 (Or.inl (own_w 0 rfl))
    have f14 := ((V_a6.other W7 ne_a6_a7).other W12 (Ne.symm ne_a5_a6))
    obtain ⟨cl15, Ar15, hin15, hat15⟩ := own_AI.at f14 (j := (p0 - (1 : Int32))) ((own_t ht).2)
    obtain ⟨cl16, Ar16, hin16, set16⟩ := own_AI.arr f14 (j := p0) ((own_t ht).1)
    obtain ⟨T16, h16, X16, e16, W16, st16⟩ := stI X12 hx hZ e12 Ar16 (j := p0) hin16 (g := (mkF m 118 #[.val (.int p0), .val (.int p1), .val (.int p2), .val (.int p3), .val (.int p4), .val (.ref a5), .val (.ref a6), .val (.ref a7), .val (.ref a8), .val (.int x9_8), .val (.int m23_s0)] [(.int (((l2.getD ((p0 - (1 : Int32))).toNatClampNeg (0 : Int32)) + (((p4).toUInt32 >>> (x9_8 &&& 31).toUInt32).toInt32 &&& (255 : Int32))) + (1 : Int32))), (.int p0), (.ref a6)])) rfl rfl (hb hby d2_118)
    have V16 : own_AI Z h16 a6 k2 .int (5 : Int32) (l2.set (p0).toNatClampNeg (((l2.getD ((p0 - (1 : Int32))).toNatClampNeg (0 : Int32)) + (((p4).toUInt32 >>> (x9_8 &&& 31).toUInt32).toInt32 &&& (255 : Int32))) + (1 : Int32))) := set16 _ _ rfl W16
    obtain ⟨ws16, hws16⟩ : ∃ z, z = (l2.set (p0).toNatClampNeg (((l2.getD ((p0 - (1 : Int32))).toNatClampNeg (0 : Int32)) + (((p4).toUInt32 >>> (x9_8 &&& 31).toUInt32).toInt32 &&& (255 : Int32))) + (1 : Int32))) := ⟨_, rfl⟩
    rw [← hws16] at V16
    have N16 := Fr.snoc X16 N12 g_a6
    have kp17 : Keep h0 h16 [a5, a6, a7, a8] := kp13.wr W16 (Or.inl (own_w 1 rfl))
    have f18 := (((V_a8.other W7 (Ne.symm ne_a7_a8)).other W12 (Ne.symm ne_a5_a8)).other W16 (Ne.symm ne_a6_a8))
    obtain ⟨cl19, Ar19, hin19, hat19⟩ := own_AI.at f18 (j := (p0 - (1 : Int32))) ((own_t ht).2)
    obtain ⟨cl20, Ar20, hin20, set20⟩ := own_AI.arr f18 (j := p0) ((own_t ht).1)
    obtain ⟨T20, h20, X20, e20, W20, st20⟩ := stI X16 hx hZ e16 Ar20 (j := p0) hin20 (g := (mkF m 128 #[.val (.int p0), .val (.int p1), .val (.int p2), .val (.int p3), .val (.int p4), .val (.ref a5), .val (.ref a6), .val (.ref a7), .val (.ref a8), .val (.int x9_8), .val (.int m23_s0)] [(.int (l4.getD ((p0 - (1 : Int32))).toNatClampNeg (0 : Int32))), (.int p0), (.ref a8)])) rfl rfl (hb hby d2_128)
    have V20 : own_AI Z h20 a8 k4 .int (5 : Int32) (l4.set (p0).toNatClampNeg (l4.getD ((p0 - (1 : Int32))).toNatClampNeg (0 : Int32))) := set20 _ _ rfl W20
    obtain ⟨ws20, hws20⟩ : ∃ z, z = (l4.set (p0).toNatClampNeg (l4.getD ((p0 - (1 : Int32))).toNatClampNeg (0 : Int32))) := ⟨_, rfl⟩
    rw [← hws20] at V20
    have N20 := Fr.snoc X20 N16 g_a8
    have kp21 : Keep h0 h20 [a5, a6, a7, a8] := kp17.wr W20 (Or.inl (own_w 3 rfl))
    obtain ⟨fs, hr, hrun, hended, hW, hsame⟩ := X20.leave (v := none) (fun _ => rfl)
    refine ⟨_, _, pre9 _ ?_, hrun, hended, _, _, rfl, ?_, ⟨_, rfl⟩, hW, hsame.mono (by decide) (by decide)⟩
    · show Steps p.tables e below (T7.setTop (mkF m 33 #[.val (.int p0), .val (.int p1), .val (.int p2), .val (.int p3), .val (.int p4), .val (.ref a5), .val (.ref a6), .val (.ref a7), .val (.ref a8), .val (.int x9_8), .val (.int m23_s0)] [(.int m23_s0)])) _
      refine XS.ifYes X7.here hx rfl (pc0 := 33) (pc' := 87) rfl (hb hby d2_33) rfl ((if0 _ _).trans (teq hc33).1) (by decide) (by decide) ?_
      refine XS.aload X7.here hx rfl (hb hby d2_87) rfl rfl ?_
      refine XS.iloadN X7.here hx rfl (hb hby d2_89) rfl ?_
      refine XS.aload X7.here hx rfl (hb hby d2_90) rfl rfl ?_
      refine XS.iloadN X7.here hx rfl (hb hby d2_92) rfl ?_
      show Steps p.tables e below (T7.setTop (mkF m 93 #[.val (.int p0), .val (.int p1), .val (.int p2), .val (.int p3), .val (.int p4), .val (.ref a5), .val (.ref a6), .val (.ref a7), .val (.ref a8), .val (.int x9_8), .val (.int m23_s0)] [(.int p0), (.ref a5), (.int p0), (.ref a5)])) _
      refine XS.iconst X7.here hx rfl (hb hby d2_93) ?_
      refine XS.isub X7.here hx rfl (hb hby d2_94) rfl ?_
      refine X7.iaload hx (j := (p0 - (1 : Int32))) (v := (.int (l1.getD ((p0 - (1 : Int32))).toNatClampNeg (0 : Int32)))) (by rw [e7]; exact Ar11.1) (State.isArrayOf_alike hZ.alike Ar11.2.1) Ar11.2.2 hin11 hat11 (g := (mkF m 95 #[.val (.int p0), .val (.int p1), .val (.int p2), .val (.int p3), .val (.int p4), .val (.ref a5), .val (.ref a6), .val (.ref a7), .val (.ref a8), .val (.int x9_8), .val (.int m23_s0)] [(.int (p0 - (1 : Int32))), (.ref a5), (.int p0), (.ref a5)])) rfl rfl (hb hby d2_95) _ ?_
      refine st12 _ ?_
      refine XS.aload X12.here hx rfl (hb hby d2_97) rfl rfl ?_
      show Steps p.tables e below (T12.setTop (mkF m 99 #[.val (.int p0), .val (.int p1), .val (.int p2), .val (.int p3), .val (.int p4), .val (.ref a5), .val (.ref a6), .val (.ref a7), .val (.ref a8), .val (.int x9_8), .val (.int m23_s0)] [(.ref a6)])) _
      refine XS.iloadN X12.here hx rfl (hb hby d2_99) rfl ?_
      refine XS.aload X12.here hx rfl (hb hby d2_100) rfl rfl ?_
      refine XS.iloadN X12.here hx rfl (hb hby d2_102) rfl ?_
      refine XS.iconst X12.here hx rfl (hb hby d2_103) ?_
      refine XS.isub X12.here hx rfl (hb hby d2_104) rfl ?_
      show Steps p.tables e below (T12.setTop (mkF m 105 #[.val (.int p0), .val (.int p1), .val (.int p2), .val (.int p3), .val (.int p4), .val (.ref a5), .val (.ref a6), .val (.ref a7), .val (.ref a8), .val (.int x9_8), .val (.int m23_s0)] [(.int (p0 - (1 : Int32))), (.ref a6), (.int p0), (.ref a6)])) _
      refine X12.iaload hx (j := (p0 - (1 : Int32))) (v := (.int (l2.getD ((p0 - (1 : Int32))).toNatClampNeg (0 : Int32)))) (by rw [e12]; exact Ar15.1) (State.isArrayOf_alike hZ.alike Ar15.2.1) Ar15.2.2 hin15 hat15 (g := (mkF m 105 #[.val (.int p0), .val (.int p1), .val (.int p2), .val (.int p3), .val (.int p4), .val (.ref a5), .val (.ref a6), .val (.ref a7), .val (.ref a8), .val (.int x9_8), .val (.int m23_s0)] [(.int (p0 - (1 : Int32))), (.ref a6), (.int p0), (.ref a6)])) rfl rfl (hb hby d2_105) _ ?_
      refine XS.iload X12.here hx rfl (hb hby d2_106) rfl ?_
      refine XS.iload X12.here hx rfl (hb hby d2_108) rfl ?_
      refine XS.iushr X12.here hx rfl (hb hby d2_110) rfl ?_
      refine XS.sipush X12.here hx rfl (hb hby d2_111) ?_
      show Steps p.tables e below (T12.setTop (mkF m 114 #[.val (.int p0), .val (.int p1), .val (.int p2), .val (.int p3), .val (.int p4), .val (.ref a5), .val (.ref a6), .val (.ref a7), .val (.ref a8), .val (.int x9_8), .val (.int m23_s0)] [(.int (255 : Int32)), (.int ((p4).toUInt32 >>> (x9_8 &&& 31).toUInt32).toInt32), (.int (l2.getD ((p0 - (1 : Int32))).toNatClampNeg (0 : Int32))), (.int p0), (.ref a6)])) _
      refine XS.iand X12.here hx rfl (hb hby d2_114) rfl ?_
      refine XS.iadd X12.here hx rfl (hb hby d2_115) rfl ?_
      refine XS.iconst X12.here hx rfl (hb hby d2_116) ?_
      refine XS.iadd X12.here hx rfl (hb hby d2_117) rfl ?_
      refine st16 _ ?_
      show Steps p.tables e below (T16.setTop (mkF m 119 #[.val (.int p0), .val (.int p1), .val (.int p2), .val (.int p3), .val (.int p4), .val (.ref a5), .val (.ref a6), .val (.ref a7), .val (.ref a8), .val (.int x9_8), .val (.int m23_s0)] [])) _
      refine XS.aload X16.here hx rfl (hb hby d2_119) rfl rfl ?_
      refine XS.iloadN X16.here hx rfl (hb hby d2_121) rfl ?_
      refine XS.aload X16.here hx rfl (hb hby d2_122) rfl rfl ?_
      refine XS.iloadN X16.here hx rfl (hb hby d2_124) rfl ?_
      refine XS.iconst X16.here hx rfl (hb hby d2_125) ?_
      show Steps p.tables e below (T16.setTop (mkF m 126 #[.val (.int p0), .val (.int p1), .val (.int p2), .val (.int p3), .val (.int p4), .val (.ref a5), .val (.ref a6), .val (.ref a7), .val (.ref a8), .val (.int x9_8), .val (.int m23_s0)] [(.int (1 : Int32)), (.int p0), (.ref a8), (.int p0), (.ref a8)])) _
      refine XS.isub X16.here hx rfl (hb hby d2_126) rfl ?_
      refine X16.iaload hx (j := (p0 - (1 : Int32))) (v := (.int (l4.getD ((p0 - (1 : Int32))).toNatClampNeg (0 : Int32)))) (by rw [e16]; exact Ar19.1) (State.isArrayOf_alike hZ.alike Ar19.2.1) Ar19.2.2 hin19 hat19 (g := (mkF m 127 #[.val (.int p0), .val (.int p1), .val (.int p2), .val (.int p3), .val (.int p4), .val (.ref a5), .val (.ref a6), .val (.ref a7), .val (.ref a8), .val (.int x9_8), .val (.int m23_s0)] [(.int (p0 - (1 : Int32))), (.ref a8), (.int p0), (.ref a8)])) rfl rfl (hb hby d2_127) _ ?_
      refine st20 _ ?_
      show Steps p.tables e below (T20.setTop (mkF m 129 #[.val (.int p0), .val (.int p1), .val (.int p2), .val (.int p3), .val (.int p4), .val (.ref a5), .val (.ref a6), .val (.ref a7), .val (.ref a8), .val (.int x9_8), .val (.int m23_s0)] [])) _
      exact X20.returnOut hx Bd.returns (hb hby d2_129) hr
    · show Q2 Z p0 p1 p2 p3 p4 a5 a6 a7 a8 k1 k2 k3 k4 l1 l2 l3 l4 h0 n0 _ T20.heap _
      rw [e20]
      unfold Q2
      have f22 := ((V12.other W16 ne_a5_a6).other W20 ne_a5_a8)
      have f23 := (V16.other W20 ne_a6_a8)
      have f24 := (((V7.other W12 (Ne.symm ne_a5_a7)).other W16 (Ne.symm ne_a6_a7)).other W20 ne_a7_a8)
      refine ⟨rfl, N20, kp21, ?_, ?_, ?_, ?_⟩
      · rw [show (own_p2_a5 p0 p1 p2 l1) = ws12 from (by subst hws20 hws16 hws12 hws7 hm23_s0 hx9_8; simp only [own_p2_a5, if_pos hc33])]; exact f22
      · rw [show (own_p2_a6 p0 p1 p3 p4 l2) = ws16 from (by subst hws20 hws16 hws12 hws7 hm23_s0 hx9_8; simp only [own_p2_a6, if_pos hc33])]; exact f23
      · rw [show (own_p2_a7 p0 p1 l3) = ws7 from (by subst hws20 hws16 hws12 hws7 hm23_s0 hx9_8; simp only [own_p2_a7, if_pos hc33])]; exact f24
      · rw [show (own_p2_a8 p0 p1 l4) = ws20 from (by subst hws20 hws16 hws12 hws7 hm23_s0 hx9_8; simp only [own_p2_a8, if_pos hc33])]; exact V20
  · have f25 := (V_a5.other W7 ne_a5_a7)
    obtain ⟨cl26, Ar26, hin26, hat26⟩ := own_AI.at f25 (j := (p0 - (1 : Int32))) ((own_t ht).2)
    obtain ⟨cl27, Ar27, hin27, set27⟩ := own_AI.arr f25 (j := p0) ((own_t ht).1)
    obtain ⟨T27, h27, X27, e27, W27, st27⟩ := stI X7 hx hZ e7 Ar27 (j := p0) hin27 (g := (mkF m 56 #[.val (.int p0), .val (.int p1), .val (.int p2), .val (.int p3), .val (.int p4), .val (.ref a5), .val (.ref a6), .val (.ref a7), .val (.ref a8), .val (.int x9_8), .val (.int m23_s0)] [(.int (((l1.getD ((p0 - (1 : Int32))).toNatClampNeg (0 : Int32)) + (((p2).toUInt32 >>> (x9_8 &&& 31).toUInt32).toInt32 &&& (255 : Int32))) + (1 : Int32))), (.int p0), (.ref a5)])) rfl rfl (hb hby d2_56)
    have V27 : own_AI Z h27 a5 k1 .int (5 : Int32) (l1.set (p0).toNatClampNeg (((l1.getD ((p0 - (1 : Int32))).toNatClampNeg (0 : Int32)) + (((p2).toUInt32 >>> (x9_8 &&& 31).toUInt32).toInt32 &&& (255 : Int32))) + (1 : Int32))) := set27 _ _ rfl W27
    obtain ⟨ws27, hws27⟩ : ∃ z, z = (l1.set (p0).toNatClampNeg (((l1.getD ((p0 - (1 : Int32))).toNatClampNeg (0 : Int32)) + (((p2).toUInt32 >>> (x9_8 &&& 31).toUInt32).toInt32 &&& (255 : Int32))) + (1 : Int32))) := ⟨_, rfl⟩
    rw [← hws27] at V27
    have N27 := Fr.snoc X27 N7 g_a5
    have kp28 : Keep h0 h27 [a5, a6, a7, a8] := kp8.wr W27 (Or.inl (own_w 0 rfl))
    have f29 := ((V_a6.other W7 ne_a6_a7).other W27 (Ne.symm ne_a5_a6))
    obtain ⟨cl30, Ar30, hin30, set30⟩ := own_AI.arr f29 (j := p0) ((own_t ht).1)
    obtain ⟨T30, h30, X30, e30, W30, st30⟩ := stI X27 hx hZ e27 Ar30 (j := p0) hin30 (g := (mkF m 71 #[.val (.int p0), .val (.int p1), .val (.int p2), .val (.int p3), .val (.int p4), .val (.ref a5), .val (.ref a6), .val (.ref a7), .val (.ref a8), .val (.int x9_8), .val (.int m23_s0)] [(.int ((((p3).toUInt32 >>> (x9_8 &&& 31).toUInt32).toInt32 &&& (255 : Int32)) * (8388607 : Int32))), (.int p0), (.ref a6)])) rfl rfl (hb hby d2_71)
    have V30 : own_AI Z h30 a6 k2 .int (5 : Int32) (l2.set (p0).toNatClampNeg ((((p3).toUInt32 >>> (x9_8 &&& 31).toUInt32).toInt32 &&& (255 : Int32)) * (8388607 : Int32))) := set30 _ _ rfl W30
    obtain ⟨ws30, hws30⟩ : ∃ z, z = (l2.set (p0).toNatClampNeg ((((p3).toUInt32 >>> (x9_8 &&& 31).toUInt32).toInt32 &&& (255 : Int32)) * (8388607 : Int32))) := ⟨_, rfl⟩
    rw [← hws30] at V30
    have N30 := Fr.snoc X30 N27 g_a6
    have kp31 : Keep h0 h30 [a5, a6, a7, a8] := kp28.wr W30 (Or.inl (own_w 1 rfl))
    have f32 := (((V_a8.other W7 (Ne.symm ne_a7_a8)).other W27 (Ne.symm ne_a5_a8)).other W30 (Ne.symm ne_a6_a8))
    obtain ⟨cl33, Ar33, hin33, hat33⟩ := own_AI.at f32 (j := (p0 - (1 : Int32))) ((own_t ht).2)
    obtain ⟨cl34, Ar34, hin34, set34⟩ := own_AI.arr f32 (j := p0) ((own_t ht).1)
    obtain ⟨T34, h34, X34, e34, W34, st34⟩ := stI X30 hx hZ e30 Ar34 (j := p0) hin34 (g := (mkF m 83 #[.val (.int p0), .val (.int p1), .val (.int p2), .val (.int p3), .val (.int p4), .val (.ref a5), .val (.ref a6), .val (.ref a7), .val (.ref a8), .val (.int x9_8), .val (.int m23_s0)] [(.int ((l4.getD ((p0 - (1 : Int32))).toNatClampNeg (0 : Int32)) + (1 : Int32))), (.int p0), (.ref a8)])) rfl rfl (hb hby d2_83)
    have V34 : own_AI Z h34 a8 k4 .int (5 : Int32) (l4.set (p0).toNatClampNeg ((l4.getD ((p0 - (1 : Int32))).toNatClampNeg (0 : Int32)) + (1 : Int32))) := set34 _ _ rfl W34
    obtain ⟨ws34, hws34⟩ : ∃ z, z = (l4.set (p0).toNatClampNeg ((l4.getD ((p0 - (1 : Int32))).toNatClampNeg (0 : Int32)) + (1 : Int32))) := ⟨_, rfl⟩
    rw [← hws34] at V34
    have N34 := Fr.snoc X34 N30 g_a8
    have kp35 : Keep h0 h34 [a5, a6, a7, a8] := kp31.wr W34 (Or.inl (own_w 3 rfl))
    obtain ⟨fs, hr, hrun, hended, hW, hsame⟩ := X34.leave (v := none) (fun _ => rfl)
    refine ⟨_, _, pre9 _ ?_, hrun, hended, _, _, rfl, ?_, ⟨_, rfl⟩, hW, hsame.mono (by decide) (by decide)⟩
    · show Steps p.tables e below (T7.setTop (mkF m 33 #[.val (.int p0), .val (.int p1), .val (.int p2), .val (.int p3), .val (.int p4), .val (.ref a5), .val (.ref a6), .val (.ref a7), .val (.ref a8), .val (.int x9_8), .val (.int m23_s0)] [(.int m23_s0)])) _
      refine XS.ifNo X7.here hx rfl (hb hby d2_33) rfl ((if0 _ _).trans (feq hc33).1) ?_
      refine XS.aload X7.here hx rfl (hb hby d2_36) rfl rfl ?_
      refine XS.iloadN X7.here hx rfl (hb hby d2_38) rfl ?_
      refine XS.aload X7.here hx rfl (hb hby d2_39) rfl rfl ?_
      refine XS.iloadN X7.here hx rfl (hb hby d2_41) rfl ?_
      show Steps p.tables e below (T7.setTop (mkF m 42 #[.val (.int p0), .val (.int p1), .val (.int p2), .val (.int p3), .val (.int p4), .val (.ref a5), .val (.ref a6), .val (.ref a7), .val (.ref a8), .val (.int x9_8), .val (.int m23_s0)] [(.int p0), (.ref a5), (.int p0), (.ref a5)])) _
      refine XS.iconst X7.here hx rfl (hb hby d2_42) ?_
      refine XS.isub X7.here hx rfl (hb hby d2_43) rfl ?_
      refine X7.iaload hx (j := (p0 - (1 : Int32))) (v := (.int (l1.getD ((p0 - (1 : Int32))).toNatClampNeg (0 : Int32)))) (by rw [e7]; exact Ar26.1) (State.isArrayOf_alike hZ.alike Ar26.2.1) Ar26.2.2 hin26 hat26 (g := (mkF m 44 #[.val (.int p0), .val (.int p1), .val (.int p2), .val (.int p3), .val (.int p4), .val (.ref a5), .val (.ref a6), .val (.ref a7), .val (.ref a8), .val (.int x9_8), .val (.int m23_s0)] [(.int (p0 - (1 : Int32))), (.ref a5), (.int p0), (.ref a5)])) rfl rfl (hb hby d2_44) _ ?_
      refine XS.iloadN X7.here hx rfl (hb hby d2_45) rfl ?_
      refine XS.iload X7.here hx rfl (hb hby d2_46) rfl ?_
      show Steps p.tables e below (T7.setTop (mkF m 48 #[.val (.int p0), .val (.int p1), .val (.int p2), .val (.int p3), .val (.int p4), .val (.ref a5), .val (.ref a6), .val (.ref a7), .val (.ref a8), .val (.int x9_8), .val (.int m23_s0)] [(.int x9_8), (.int p2), (.int (l1.getD ((p0 - (1 : Int32))).toNatClampNeg (0 : Int32))), (.int p0), (.ref a5)])) _
      refine XS.iushr X7.here hx rfl (hb hby d2_48) rfl ?_
      refine XS.sipush X7.here hx rfl (hb hby d2_49) ?_
      refine XS.iand X7.here hx rfl (hb hby d2_52) rfl ?_
      refine XS.iadd X7.here hx rfl (hb hby d2_53) rfl ?_
      refine XS.iconst X7.here hx rfl (hb hby d2_54) ?_
      show Steps p.tables e below (T7.setTop (mkF m 55 #[.val (.int p0), .val (.int p1), .val (.int p2), .val (.int p3), .val (.int p4), .val (.ref a5), .val (.ref a6), .val (.ref a7), .val (.ref a8), .val (.int x9_8), .val (.int m23_s0)] [(.int (1 : Int32)), (.int ((l1.getD ((p0 - (1 : Int32))).toNatClampNeg (0 : Int32)) + (((p2).toUInt32 >>> (x9_8 &&& 31).toUInt32).toInt32 &&& (255 : Int32)))), (.int p0), (.ref a5)])) _
      refine XS.iadd X7.here hx rfl (hb hby d2_55) rfl ?_
      refine st27 _ ?_
      refine XS.aload X27.here hx rfl (hb hby d2_57) rfl rfl ?_
      refine XS.iloadN X27.here hx rfl (hb hby d2_59) rfl ?_
      refine XS.iloadN X27.here hx rfl (hb hby d2_60) rfl ?_
      show Steps p.tables e below (T27.setTop (mkF m 61 #[.val (.int p0), .val (.int p1), .val (.int p2), .val (.int p3), .val (.int p4), .val (.ref a5), .val (.ref a6), .val (.ref a7), .val (.ref a8), .val (.int x9_8), .val (.int m23_s0)] [(.int p3), (.int p0), (.ref a6)])) _
      refine XS.iload X27.here hx rfl (hb hby d2_61) rfl ?_
      refine XS.iushr X27.here hx rfl (hb hby d2_63) rfl ?_
      refine XS.sipush X27.here hx rfl (hb hby d2_64) ?_
      refine XS.iand X27.here hx rfl (hb hby d2_67) rfl ?_
      refine X27.ldcInt hx hown (mvT hZ (hw _ (own_w 82 rfl))) (g := (mkF m 68 #[.val (.int p0), .val (.int p1), .val (.int p2), .val (.int p3), .val (.int p4), .val (.ref a5), .val (.ref a6), .val (.ref a7), .val (.ref a8), .val (.int x9_8), .val (.int m23_s0)] [(.int (((p3).toUInt32 >>> (x9_8 &&& 31).toUInt32).toInt32 &&& (255 : Int32))), (.int p0), (.ref a6)])) rfl (hb hby d2_68) _ ?_
      show Steps p.tables e below (T27.setTop (mkF m 70 #[.val (.int p0), .val (.int p1), .val (.int p2), .val (.int p3), .val (.int p4), .val (.ref a5), .val (.ref a6), .val (.ref a7), .val (.ref a8), .val (.int x9_8), .val (.int m23_s0)] [(.int (8388607 : Int32)), (.int (((p3).toUInt32 >>> (x9_8 &&& 31).toUInt32).toInt32 &&& (255 : Int32))), (.int p0), (.ref a6)])) _
      refine XS.imul X27.here hx rfl (hb hby d2_70) rfl ?_
      refine st30 _ ?_
      refine XS.aload X30.here hx rfl (hb hby d2_72) rfl rfl ?_
      refine XS.iloadN X30.here hx rfl (hb hby d2_74) rfl ?_
      refine XS.aload X30.here hx rfl (hb hby d2_75) rfl rfl ?_
      show Steps p.tables e below (T30.setTop (mkF m 77 #[.val (.int p0), .val (.int p1), .val (.int p2), .val (.int p3), .val (.int p4), .val (.ref a5), .val (.ref a6), .val (.ref a7), .val (.ref a8), .val (.int x9_8), .val (.int m23_s0)] [(.ref a8), (.int p0), (.ref a8)])) _
      refine XS.iloadN X30.here hx rfl (hb hby d2_77) rfl ?_
      refine XS.iconst X30.here hx rfl (hb hby d2_78) ?_
      refine XS.isub X30.here hx rfl (hb hby d2_79) rfl ?_
      refine X30.iaload hx (j := (p0 - (1 : Int32))) (v := (.int (l4.getD ((p0 - (1 : Int32))).toNatClampNeg (0 : Int32)))) (by rw [e30]; exact Ar33.1) (State.isArrayOf_alike hZ.alike Ar33.2.1) Ar33.2.2 hin33 hat33 (g := (mkF m 80 #[.val (.int p0), .val (.int p1), .val (.int p2), .val (.int p3), .val (.int p4), .val (.ref a5), .val (.ref a6), .val (.ref a7), .val (.ref a8), .val (.int x9_8), .val (.int m23_s0)] [(.int (p0 - (1 : Int32))), (.ref a8), (.int p0), (.ref a8)])) rfl rfl (hb hby d2_80) _ ?_
      refine XS.iconst X30.here hx rfl (hb hby d2_81) ?_
      show Steps p.tables e below (T30.setTop (mkF m 82 #[.val (.int p0), .val (.int p1), .val (.int p2), .val (.int p3), .val (.int p4), .val (.ref a5), .val (.ref a6), .val (.ref a7), .val (.ref a8), .val (.int x9_8), .val (.int m23_s0)] [(.int (1 : Int32)), (.int (l4.getD ((p0 - (1 : Int32))).toNatClampNeg (0 : Int32))), (.int p0), (.ref a8)])) _
      refine XS.iadd X30.here hx rfl (hb hby d2_82) rfl ?_
      refine st34 _ ?_
      refine XS.goto X34.here hx rfl (pc0 := 84) (pc' := 129) rfl (hb hby d2_84) (by decide) (by decide) ?_
      show Steps p.tables e below (T34.setTop (mkF m 129 #[.val (.int p0), .val (.int p1), .val (.int p2), .val (.int p3), .val (.int p4), .val (.ref a5), .val (.ref a6), .val (.ref a7), .val (.ref a8), .val (.int x9_8), .val (.int m23_s0)] [])) _
      exact X34.returnOut hx Bd.returns (hb hby d2_129) hr
    · show Q2 Z p0 p1 p2 p3 p4 a5 a6 a7 a8 k1 k2 k3 k4 l1 l2 l3 l4 h0 n0 _ T34.heap _
      rw [e34]
      unfold Q2
      have f36 := ((V27.other W30 ne_a5_a6).other W34 ne_a5_a8)
      have f37 := (V30.other W34 ne_a6_a8)
      have f38 := (((V7.other W27 (Ne.symm ne_a5_a7)).other W30 (Ne.symm ne_a6_a7)).other W34 ne_a7_a8)
      refine ⟨rfl, N34, kp35, ?_, ?_, ?_, ?_⟩
      · rw [show (own_p2_a5 p0 p1 p2 l1) = ws27 from (by subst hws34 hws30 hws27 hws7 hm23_s0 hx9_8; simp only [own_p2_a5, if_neg hc33])]; exact f36
      · rw [show (own_p2_a6 p0 p1 p3 p4 l2) = ws30 from (by subst hws34 hws30 hws27 hws7 hm23_s0 hx9_8; simp only [own_p2_a6, if_neg hc33])]; exact f37
      · rw [show (own_p2_a7 p0 p1 l3) = ws7 from (by subst hws34 hws30 hws27 hws7 hm23_s0 hx9_8; simp only [own_p2_a7, if_neg hc33])]; exact f38
      · rw [show (own_p2_a8 p0 p1 l4) = ws34 from (by subst hws34 hws30 hws27 hws7 hm23_s0 hx9_8; simp only [own_p2_a8, if_neg hc33])]; exact V34
theorem d8_0 : decode prog_39_method_1_code 0 = .ok (.aload_n 0, 1) := by decide +kernel
theorem d8_1 : decode prog_39_method_1_code 1 = .ok (.invokespecial 1, 3) := by decide +kernel
theorem d8_4 : decode prog_39_method_1_code 4 = .ok (.aload_n 0, 1) := by decide +kernel
theorem d8_5 : decode prog_39_method_1_code 5 = .ok (.aload_n 1, 1) := by decide +kernel
theorem d8_6 : decode prog_39_method_1_code 6 = .ok (.putfield 7, 3) := by decide +kernel
theorem d8_9 : decode prog_39_method_1_code 9 = .ok (.aload_n 0, 1) := by decide +kernel
theorem d8_10 : decode prog_39_method_1_code 10 = .ok (.aload_n 2, 1) := by decide +kernel
theorem d8_11 : decode prog_39_method_1_code 11 = .ok (.putfield 13, 3) := by decide +kernel
theorem d8_14 : decode prog_39_method_1_code 14 = .ok (.aload_n 0, 1) := by decide +kernel
theorem d8_15 : decode prog_39_method_1_code 15 = .ok (.aload_n 3, 1) := by decide +kernel
theorem d8_16 : decode prog_39_method_1_code 16 = .ok (.putfield 16, 3) := by decide +kernel
theorem d8_19 : decode prog_39_method_1_code 19 = .ok (.return_, 1) := by decide +kernel
theorem pn_3 : plainName "com/example/whole_recall/wholerecall/index/Postings" = true := by first | (simp [plainName, overriddenIn]; done) | decide +kernel
theorem ef_8 (m : MethodId) (a0 : Addr) (a1 : Addr) (a2 : Addr) (a3 : Addr) : entryFrame m #[(.ref a0), (.ref a1), (.ref a2), (.ref a3)] 4 = mkF m 0 #[.val (.ref a0), .val (.ref a1), .val (.ref a2), .val (.ref a3)] [] := by first | (simp [entryFrame, mkF, argsToLocals, Value.category]; done) | rfl
def Q8 (Z : State) (a0 : Addr) (a1 : Addr) (a2 : Addr) (a3 : Addr) (h0 : Heap) (n0 : Nat) (v : Option Value) (h : Heap) (L : List Loc) : Prop := v = none ∧ Fr n0 L ∧ Keep h0 h [a0] ∧ Exa Z h a0 "com/example/whole_recall/wholerecall/index/Postings" ∧ Fld Z h a0 "com/example/whole_recall/wholerecall/index/Postings" "documents" "[I" (.ref a1) ∧ Fld Z h a0 "com/example/whole_recall/wholerecall/index/Postings" "starts" "[I" (.ref a2) ∧ Fld Z h a0 "com/example/whole_recall/wholerecall/index/Postings" "positions" "[I" (.ref a3)
set_option maxRecDepth 65536 in
set_option maxHeartbeats 40000000 in
theorem rm8 (l : Launch) (Z : State) (aw : Array Value) (hw : ∀ d ∈ tables_1, d.before aw Z = true) (wq : List Jvm.Cond) (a0 : Addr) (a1 : Addr) (a2 : Addr) (a3 : Addr) (h0 : Heap) (n0 : Nat) (Z0 : n0 ≤ h0.size) (E_a0 : Exa Z h0 a0 "com/example/whole_recall/wholerecall/index/Postings") (F_a0_documents : Fld Z h0 a0 "com/example/whole_recall/wholerecall/index/Postings" "documents" "[I" .null) (F_a0_starts : Fld Z h0 a0 "com/example/whole_recall/wholerecall/index/Postings" "starts" "[I" .null) (F_a0_positions : Fld Z h0 a0 "com/example/whole_recall/wholerecall/index/Postings" "positions" "[I" .null) (g_a0 : n0 ≤ a0) :
    MetFree l (⟨"com/example/whole_recall/wholerecall/index/Postings", "<init>", "([I[I[I)V"⟩ : MethodName) (head1 (Jvm.Cond.code (⟨"com/example/whole_recall/wholerecall/index/Postings", "<init>", "([I[I[I)V"⟩ : MethodName) prog_39_method_1_code 4 none :: wq) ({ frames := 1, cells := 0, slots := 0, locals := 12 } : Room)) (fun a U => a = #[(.ref a0), (.ref a1), (.ref a2), (.ref a3)] ∧ Z.Warmed39 U.vm ∧ U.heap = h0) (fun _ _ _ _ _ => True) (fun _ U o U' => ∃ v L, o = .returned v ∧ Q8 Z a0 a1 a2 a3 h0 n0 v U'.heap L ∧ FrameEnd U o U' L ({ frames := 1, cells := 0, slots := 0, locals := 12 } : Room).cells ({ frames := 1, cells := 0, slots := 0, locals := 12 } : Room).slots) := by
  refine MetFree.of_bodySF (plainFor_of_name pn_3) hisR ?_
  intro p e s m args below meth c s₁ Bd hml0 hP hK
  obtain ⟨rfl, hZ, hh⟩ := hP
  have hx := Bd.exec
  have hby := Bd.bytes
  have hml : c.maxLocals = 4 := hml0
  have hown : s.vm.findClass "com/example/whole_recall/wholerecall/index/Postings" = some m.cls := findClass_of_methodNamed Bd.named
  have hnm := (name_of_methodNamed Bd.named Bd.method).1
  have X0 : Stand p l e ({ frames := 1, cells := 0, slots := 0, locals := 12 } : Room) s m #[(.ref a0), (.ref a1), (.ref a2), (.ref a3)] below meth c s₁ [] 0 0 := Stand.of_body Bd
  have e0 : s₁.heap = h0 := by rw [← hh, Bd.state]; rfl
  have N0 := Fr.nil n0
  have pre0 : own_Pre p e below (s₁.setTop (entryFrame m #[(.ref a0), (.ref a1), (.ref a2), (.ref a3)] 4)) (s₁.setTop (mkF m 0 #[.val (.ref a0), .val (.ref a1), .val (.ref a2), .val (.ref a3)] [])) := fun t k => castTop (ef_8 m a0 a1 a2 a3) k
  obtain ⟨T1, X1, e1, st1⟩ := initO X0 hx hZ hown (hw _ (own_w 54 rfl)) (hw _ (own_w 19 rfl)) (hw _ (own_w 20 rfl)) e0 (g := (mkF m 1 #[.val (.ref a0), .val (.ref a1), .val (.ref a2), .val (.ref a3)] [(.ref a0)])) rfl (by rw [hml]; rfl) rfl (hb hby d8_1) (by decide) (W := 0) (by show 2 * 0 + _ ≤ _; exact Nat.le_of_eq rfl) (by decide)
  obtain ⟨T2, h2, X2, e2, W2, st2⟩ := putF X1 hx hZ hown (host := "") (Or.inl (hw _ (own_w 55 rfl))) Via.refl e1 F_a0_documents E_a0 (Or.inr ⟨(hw _ (own_w 56 rfl)), rfl, hnm⟩) (hw _ (own_w 49 rfl)) (ty := (.array .int)) (by decide) rfl rfl (g := (mkF m 6 #[.val (.ref a0), .val (.ref a1), .val (.ref a2), .val (.ref a3)] [(.ref a1), (.ref a0)])) rfl rfl (hb hby d8_6)
  have Fw2 := F_a0_documents.same W2
  have N2 := Fr.snoc X2 N0 g_a0
  have kp3 : Keep h0 h2 [a0] := (Keep.refl h0 [a0]).wr W2 (Or.inl (own_w 0 rfl))
  have f4 := (E_a0.wr W2)
  have f5 := (F_a0_starts.other W2 (Or.inr (slot_ne (Or.inr (hw _ (own_w 58 rfl))) (Or.inr (hw _ (own_w 56 rfl))) (by decide) (t := (.array .int)) (t' := (.array .int)) (by decide) (by decide))))
  obtain ⟨T6, h6, X6, e6, W6, st6⟩ := putF X2 hx hZ hown (host := "") (Or.inl (hw _ (own_w 57 rfl))) Via.refl e2 f5 f4 (Or.inr ⟨(hw _ (own_w 58 rfl)), rfl, hnm⟩) (hw _ (own_w 49 rfl)) (ty := (.array .int)) (by decide) rfl rfl (g := (mkF m 11 #[.val (.ref a0), .val (.ref a1), .val (.ref a2), .val (.ref a3)] [(.ref a2), (.ref a0)])) rfl rfl (hb hby d8_11)
  have Fw6 := f5.same W6
  have N6 := Fr.snoc X6 N2 g_a0
  have kp7 : Keep h0 h6 [a0] := kp3.wr W6 (Or.inl (own_w 0 rfl))
  have f8 := (f4.wr W6)
  have f9 := ((F_a0_positions.other W2 (Or.inr (slot_ne (Or.inr (hw _ (own_w 60 rfl))) (Or.inr (hw _ (own_w 56 rfl))) (by decide) (t := (.array .int)) (t' := (.array .int)) (by decide) (by decide)))).other W6 (Or.inr (slot_ne (Or.inr (hw _ (own_w 60 rfl))) (Or.inr (hw _ (own_w 58 rfl))) (by decide) (t := (.array .int)) (t' := (.array .int)) (by decide) (by decide))))
  obtain ⟨T10, h10, X10, e10, W10, st10⟩ := putF X6 hx hZ hown (host := "") (Or.inl (hw _ (own_w 59 rfl))) Via.refl e6 f9 f8 (Or.inr ⟨(hw _ (own_w 60 rfl)), rfl, hnm⟩) (hw _ (own_w 49 rfl)) (ty := (.array .int)) (by decide) rfl rfl (g := (mkF m 16 #[.val (.ref a0), .val (.ref a1), .val (.ref a2), .val (.ref a3)] [(.ref a3), (.ref a0)])) rfl rfl (hb hby d8_16)
  have Fw10 := f9.same W10
  have N10 := Fr.snoc X10 N6 g_a0
  have kp11 : Keep h0 h10 [a0] := kp7.wr W10 (Or.inl (own_w 0 rfl))
  obtain ⟨fs, hr, hrun, hended, hW, hsame⟩ := X10.leave (v := none) (fun _ => rfl)
  refine ⟨_, _, pre0 _ ?_, hrun, hended, _, _, rfl, ?_, ⟨_, rfl⟩, hW, hsame.mono (by decide) (by decide)⟩
  · show Steps p.tables e below (s₁.setTop (mkF m 0 #[.val (.ref a0), .val (.ref a1), .val (.ref a2), .val (.ref a3)] [])) _
    refine XS.aloadN X0.here hx rfl (hb hby d8_0) rfl rfl ?_
    refine st1 _ ?_
    refine XS.aloadN X1.here hx rfl (hb hby d8_4) rfl rfl ?_
    refine XS.aloadN X1.here hx rfl (hb hby d8_5) rfl rfl ?_
    refine st2 _ ?_
    show Steps p.tables e below (T2.setTop (mkF m 9 #[.val (.ref a0), .val (.ref a1), .val (.ref a2), .val (.ref a3)] [])) _
    refine XS.aloadN X2.here hx rfl (hb hby d8_9) rfl rfl ?_
    refine XS.aloadN X2.here hx rfl (hb hby d8_10) rfl rfl ?_
    refine st6 _ ?_
    refine XS.aloadN X6.here hx rfl (hb hby d8_14) rfl rfl ?_
    refine XS.aloadN X6.here hx rfl (hb hby d8_15) rfl rfl ?_
    show Steps p.tables e below (T6.setTop (mkF m 16 #[.val (.ref a0), .val (.ref a1), .val (.ref a2), .val (.ref a3)] [(.ref a3), (.ref a0)])) _
    refine st10 _ ?_
    show Steps p.tables e below (T10.setTop (mkF m 19 #[.val (.ref a0), .val (.ref a1), .val (.ref a2), .val (.ref a3)] [])) _
    exact X10.returnOut hx Bd.returns (hb hby d8_19) hr
  · show Q8 Z a0 a1 a2 a3 h0 n0 _ T10.heap _
    rw [e10]
    unfold Q8
    have f12 := (f8.wr W10)
    have f13 := ((Fw2.other W6 (Or.inr (slot_ne (Or.inr (hw _ (own_w 56 rfl))) (Or.inr (hw _ (own_w 58 rfl))) (by decide) (t := (.array .int)) (t' := (.array .int)) (by decide) (by decide)))).other W10 (Or.inr (slot_ne (Or.inr (hw _ (own_w 56 rfl))) (Or.inr (hw _ (own_w 60 rfl))) (by decide) (t := (.array .int)) (t' := (.array .int)) (by decide) (by decide))))
    have f14 := (Fw6.other W10 (Or.inr (slot_ne (Or.inr (hw _ (own_w 58 rfl))) (Or.inr (hw _ (own_w 60 rfl))) (by decide) (t := (.array .int)) (t' := (.array .int)) (by decide) (by decide))))
    refine ⟨rfl, N10, kp11, f12, ?_, ?_, ?_⟩
    · exact f13
    · exact f14
    · exact Fw10
theorem d7_0 : decode prog_40_method_3_code 0 = .ok (.new 29, 3) := by decide +kernel
theorem d7_3 : decode prog_40_method_3_code 3 = .ok (.dup, 1) := by decide +kernel
theorem d7_4 : decode prog_40_method_3_code 4 = .ok (.aload_n 0, 1) := by decide +kernel
theorem d7_5 : decode prog_40_method_3_code 5 = .ok (.getfield 7, 3) := by decide +kernel
theorem d7_8 : decode prog_40_method_3_code 8 = .ok (.aload_n 0, 1) := by decide +kernel
theorem d7_9 : decode prog_40_method_3_code 9 = .ok (.getfield 19, 3) := by decide +kernel
theorem d7_12 : decode prog_40_method_3_code 12 = .ok (.invokestatic 23, 3) := by decide +kernel
theorem d7_15 : decode prog_40_method_3_code 15 = .ok (.aload_n 0, 1) := by decide +kernel
theorem d7_16 : decode prog_40_method_3_code 16 = .ok (.getfield 13, 3) := by decide +kernel
theorem d7_19 : decode prog_40_method_3_code 19 = .ok (.aload_n 0, 1) := by decide +kernel
theorem d7_20 : decode prog_40_method_3_code 20 = .ok (.getfield 19, 3) := by decide +kernel
theorem d7_23 : decode prog_40_method_3_code 23 = .ok (.iconst 1, 1) := by decide +kernel
theorem d7_24 : decode prog_40_method_3_code 24 = .ok (.iadd, 1) := by decide +kernel
theorem d7_25 : decode prog_40_method_3_code 25 = .ok (.invokestatic 23, 3) := by decide +kernel
theorem d7_28 : decode prog_40_method_3_code 28 = .ok (.aload_n 0, 1) := by decide +kernel
theorem d7_29 : decode prog_40_method_3_code 29 = .ok (.getfield 16, 3) := by decide +kernel
theorem d7_32 : decode prog_40_method_3_code 32 = .ok (.aload_n 0, 1) := by decide +kernel
theorem d7_33 : decode prog_40_method_3_code 33 = .ok (.getfield 13, 3) := by decide +kernel
theorem d7_36 : decode prog_40_method_3_code 36 = .ok (.aload_n 0, 1) := by decide +kernel
theorem d7_37 : decode prog_40_method_3_code 37 = .ok (.getfield 19, 3) := by decide +kernel
theorem d7_40 : decode prog_40_method_3_code 40 = .ok (.iaload, 1) := by decide +kernel
theorem d7_41 : decode prog_40_method_3_code 41 = .ok (.invokestatic 23, 3) := by decide +kernel
theorem d7_44 : decode prog_40_method_3_code 44 = .ok (.invokespecial 31, 3) := by decide +kernel
theorem d7_47 : decode prog_40_method_3_code 47 = .ok (.areturn, 1) := by decide +kernel
theorem pd_2 : parseMethodDescriptor "([I[I[I)V" = some ⟨[(.array .int), (.array .int), (.array .int)], none⟩ := by decide +kernel
theorem ef_7 (m : MethodId) (a0 : Addr) : entryFrame m #[(.ref a0)] 1 = mkF m 0 #[.val (.ref a0)] [] := by first | (simp [entryFrame, mkF, argsToLocals, Value.category]; done) | rfl
def Q7 (Z : State) (a0 : Addr) (da : Addr) (sa : Addr) (pa : Addr) (kd : ClassId) (ks : ClassId) (kp : ClassId) (zd : Int32) (zs : Int32) (zp : Int32) (ld : List Int32) (ls : List Int32) (lp : List Int32) (sz : Int32) (h0 : Heap) (n0 : Nat) (v : Option Value) (h : Heap) (L : List Loc) : Prop := ∃ (po : Addr) (dc : Addr) (sc : Addr) (pc : Addr) (kdc : ClassId) (ksc : ClassId) (kpc : ClassId), v = some (.ref po) ∧ Fr n0 L ∧ Keep h0 h [] ∧ h0.size ≤ po ∧ Exa Z h po "com/example/whole_recall/wholerecall/index/Postings" ∧ Fld Z h po "com/example/whole_recall/wholerecall/index/Postings" "documents" "[I" (.ref dc) ∧ Fld Z h po "com/example/whole_recall/wholerecall/index/Postings" "starts" "[I" (.ref sc) ∧ Fld Z h po "com/example/whole_recall/wholerecall/index/Postings" "positions" "[I" (.ref pc) ∧ own_AI Z h dc kdc .int sz (own_cp ld zd sz) ∧ own_AI Z h sc ksc .int (sz + (1 : Int32)) (own_cp ls zs (sz + (1 : Int32))) ∧ own_AI Z h pc kpc .int (ls.getD (sz).toNatClampNeg (0 : Int32)) (own_cp lp zp (ls.getD (sz).toNatClampNeg (0 : Int32)))
set_option maxRecDepth 65536 in
set_option maxHeartbeats 40000000 in
theorem rm7 (l : Launch) (Z : State) (aw : Array Value) (hw : ∀ d ∈ tables_1, d.before aw Z = true) (wq : List Jvm.Cond) (a0 : Addr) (da : Addr) (sa : Addr) (pa : Addr) (kd : ClassId) (ks : ClassId) (kp : ClassId) (zd : Int32) (zs : Int32) (zp : Int32) (ld : List Int32) (ls : List Int32) (lp : List Int32) (sz : Int32) (h0 : Heap) (n0 : Nat) (Z0 : n0 ≤ h0.size) (E_a0 : Exa Z h0 a0 "com/example/whole_recall/wholerecall/index/PostingsBuilder") (F_a0_documents : Fld Z h0 a0 "com/example/whole_recall/wholerecall/index/PostingsBuilder" "documents" "[I" (.ref da)) (F_a0_starts : Fld Z h0 a0 "com/example/whole_recall/wholerecall/index/PostingsBuilder" "starts" "[I" (.ref sa)) (F_a0_positions : Fld Z h0 a0 "com/example/whole_recall/wholerecall/index/PostingsBuilder" "positions" "[I" (.ref pa)) (F_a0_size : Fld Z h0 a0 "com/example/whole_recall/wholerecall/index/PostingsBuilder" "size" "I" (.int sz)) (E_da : Exa Z h0 da "[I") (E_sa : Exa Z h0 sa "[I") (E_pa : Exa Z h0 pa "[I") (V_da : own_AI Z h0 da kd .int zd ld) (V_sa : own_AI Z h0 sa ks .int zs ls) (V_pa : own_AI Z h0 pa kp .int zp lp) (ne_da_sa : da ≠ sa) (ne_da_pa : da ≠ pa) (ne_sa_pa : sa ≠ pa) (ne_a0_da : a0 ≠ da) (ne_a0_sa : a0 ≠ sa) (ne_a0_pa : a0 ≠ pa) (hJ : own_J sz zd zs zp ld ls lp) :
    MetFree l (⟨"com/example/whole_recall/wholerecall/index/PostingsBuilder", "build", "()Lcom/example/whole_recall/wholerecall/index/Postings;"⟩ : MethodName) (head1 (Jvm.Cond.code (⟨"com/example/whole_recall/wholerecall/index/PostingsBuilder", "build", "()Lcom/example/whole_recall/wholerecall/index/Postings;"⟩ : MethodName) prog_40_method_3_code 1 (some (.object "com/example/whole_recall/wholerecall/index/Postings")) :: wq) ({ frames := 2, cells := 4, slots := 30, locals := 58 } : Room)) (fun a U => a = #[(.ref a0)] ∧ Z.Warmed39 U.vm ∧ U.heap = h0) (fun _ _ _ _ _ => True) (fun _ U o U' => ∃ v L, o = .returned v ∧ Q7 Z a0 da sa pa kd ks kp zd zs zp ld ls lp sz h0 n0 v U'.heap L ∧ FrameEnd U o U' L ({ frames := 2, cells := 4, slots := 30, locals := 58 } : Room).cells ({ frames := 2, cells := 4, slots := 30, locals := 58 } : Room).slots) := by
  refine MetFree.of_bodySF (plainFor_of_name pn_1) hisR ?_
  intro p e s m args below meth c s₁ Bd hml0 hP hK
  obtain ⟨rfl, hZ, hh⟩ := hP
  have hx := Bd.exec
  have hby := Bd.bytes
  have hml : c.maxLocals = 1 := hml0
  have hown : s.vm.findClass "com/example/whole_recall/wholerecall/index/PostingsBuilder" = some m.cls := findClass_of_methodNamed Bd.named
  have hnm := (name_of_methodNamed Bd.named Bd.method).1
  have X0 : Stand p l e ({ frames := 2, cells := 4, slots := 30, locals := 58 } : Room) s m #[(.ref a0)] below meth c s₁ [] 0 0 := Stand.of_body Bd
  have e0 : s₁.heap = h0 := by rw [← hh, Bd.state]; rfl
  have N0 := Fr.nil n0
  have pre0 : own_Pre p e below (s₁.setTop (entryFrame m #[(.ref a0)] 1)) (s₁.setTop (mkF m 0 #[.val (.ref a0)] [])) := fun t k => castTop (ef_7 m a0) k
  obtain ⟨T1, h1, X1, e1, E1, A1, D1, -, st1⟩ := newO X0 hx hZ hown (hw _ (own_w 48 rfl)) (hw _ (own_w 49 rfl)) (hw _ (own_w 50 rfl)) e0 (g := (mkF m 0 #[.val (.ref a0)] [])) rfl (hb hby d7_0) (by decide) (by decide)
  obtain ⟨po, gq1⟩ : ∃ z, z = (h0).size := ⟨_, rfl⟩
  rw [← gq1] at A1 D1 st1
  have ne_a0_po : a0 ≠ po := Nat.ne_of_lt (Nat.lt_of_lt_of_le E_a0.lt (Nat.le_of_eq gq1.symm))
  have ne_da_po : da ≠ po := Nat.ne_of_lt (Nat.lt_of_lt_of_le E_da.lt (Nat.le_of_eq gq1.symm))
  have ne_pa_po : pa ≠ po := Nat.ne_of_lt (Nat.lt_of_lt_of_le E_pa.lt (Nat.le_of_eq gq1.symm))
  have ne_sa_po : sa ≠ po := Nat.ne_of_lt (Nat.lt_of_lt_of_le E_sa.lt (Nat.le_of_eq gq1.symm))
  have g_po : n0 ≤ po := Nat.le_trans Z0 (Nat.le_of_eq gq1.symm)
  have sz_po : h0.size ≤ po := Nat.le_trans (Keep.refl h0 []).1 (Nat.le_of_eq gq1.symm)
  have kp2 : Keep h0 h1 [] := (Keep.refl h0 []).ext E1
  have F_po_documents : Fld Z h1 po "com/example/whole_recall/wholerecall/index/Postings" "documents" "[I" .null := D1 (Or.inr (hw _ (own_w 56 rfl))) (ty := (.array .int)) (by decide)
  have F_po_starts : Fld Z h1 po "com/example/whole_recall/wholerecall/index/Postings" "starts" "[I" .null := D1 (Or.inr (hw _ (own_w 58 rfl))) (ty := (.array .int)) (by decide)
  have F_po_positions : Fld Z h1 po "com/example/whole_recall/wholerecall/index/Postings" "positions" "[I" .null := D1 (Or.inr (hw _ (own_w 60 rfl))) (ty := (.array .int)) (by decide)
  have f3 := (F_a0_documents.ext E1)
  obtain ⟨T4, X4, e4, st4⟩ := getF X1 hx hZ hown (host := "") (Or.inl (hw _ (own_w 21 rfl))) Via.refl e1 f3 (g := (mkF m 5 #[.val (.ref a0)] [(.ref a0), (.ref po), (.ref po)])) rfl rfl (hb hby d7_5)
  have f5 := (F_a0_size.ext E1)
  obtain ⟨T6, X6, e6, st6⟩ := getF X4 hx hZ hown (host := "") (Or.inl (hw _ (own_w 32 rfl))) Via.refl e4 f5 (g := (mkF m 9 #[.val (.ref a0)] [(.ref a0), (.ref da), (.ref po), (.ref po)])) rfl rfl (hb hby d7_9)
  have f8 := (E_da.ext E1)
  have f9 := (V_da.ext E1)
  have z10 : n0 ≤ (h1).size := (Nat.le_trans Z0 E1.1)
  have f11 := (E_a0.ext E1)
  have f12 := (E_pa.ext E1)
  have f13 := (E_sa.ext E1)
  obtain ⟨_, _, ⟨T7, L7, k7, n7⟩, -, X7, ⟨Lc7, hQ7, l7, y7, z7⟩, st7⟩ := Jvm.LawKit.callS X6 hx (y := (⟨"java/util/Arrays", "copyOf", "([II)[I"⟩ : MethodName)) hown (mvT hZ (hw _ (own_w 34 rfl))) (mvT hZ (hw _ (own_w 35 rfl))) (mvT hZ (hw _ (own_w 36 rfl))) (mvT hZ (hw _ (own_w 37 rfl))) (by decide) (backOf (W := 2) (rm6 l Z aw hw [] (da) (sz) (kd) (zd) (ld) (h1) n0 z10 f8 f9 (own_j hJ).2.1) hZ (hw _ (own_w 37 rfl)) (hw _ (own_w 36 rfl)) (by decide) (by decide)) (g := (mkF m 12 #[.val (.ref a0)] [(.int sz), (.ref da), (.ref po), (.ref po)])) rfl (by rw [hml]; rfl) (argsL := [(.ref da), (.int sz)]) (rest := [(.ref po), (.ref po)]) (lenOf pd_1 rfl) rfl (by show 2 * 0 + _ ≤ _; exact Nat.le_of_eq rfl) (hb hby d7_12) (fun _ _ => ⟨rfl, e6, (by decide : 1 + 1 ≤ _), (by decide : 3 + 9 ≤ _)⟩)
  dsimp only [Pt.U, Pt.locs, Pt.cells, Pt.slots] at X7 l7 y7 z7 st7 hQ7
  subst l7 y7 z7
  obtain ⟨rb7, kb7, rfl, Nq7, K7, po7_0, po7_1, po7_2⟩ := hQ7
  have N7 := Fr.app N0 Nq7
  have kp14 : Keep h0 T7.heap [] := kp2.trans K7 all0
  have ne_a0_rb7 : a0 ≠ rb7 := Nat.ne_of_lt (Nat.lt_of_lt_of_le f11.lt po7_0)
  have ne_da_rb7 : da ≠ rb7 := Nat.ne_of_lt (Nat.lt_of_lt_of_le f8.lt po7_0)
  have ne_pa_rb7 : pa ≠ rb7 := Nat.ne_of_lt (Nat.lt_of_lt_of_le f12.lt po7_0)
  have ne_po_rb7 : po ≠ rb7 := Nat.ne_of_lt (Nat.lt_of_lt_of_le A1.lt po7_0)
  have ne_sa_rb7 : sa ≠ rb7 := Nat.ne_of_lt (Nat.lt_of_lt_of_le f13.lt po7_0)
  have g_rb7 : n0 ≤ rb7 := Nat.le_trans z10 po7_0
  have sz_rb7 : h0.size ≤ rb7 := Nat.le_trans kp2.1 po7_0
  have f15 := ((F_a0_starts.ext E1).keep K7 nin0)
  obtain ⟨T16, X16, e16, st16⟩ := getF X7 hx hZ hown (host := "") (Or.inl (hw _ (own_w 23 rfl))) Via.refl rfl f15 (g := (mkF m 16 #[.val (.ref a0)] [(.ref a0), (.ref rb7), (.ref po), (.ref po)])) rfl rfl (hb hby d7_16)
  have f17 := (f5.keep K7 nin0)
  obtain ⟨T18, X18, e18, st18⟩ := getF X16 hx hZ hown (host := "") (Or.inl (hw _ (own_w 32 rfl))) Via.refl e16 f17 (g := (mkF m 20 #[.val (.ref a0)] [(.ref a0), (.ref sa), (.ref rb7), (.ref po), (.ref po)])) rfl rfl (hb hby d7_20)
  have f20 := (f13.keep K7)
  have f21 := ((V_sa.ext E1).keep K7 nin0)
  have z22 : n0 ≤ (T7.heap).size := (Nat.le_trans z10 K7.1)
  have f23 := (f11.keep K7)
  have f24 := (f8.keep K7)
  have f25 := (f12.keep K7)
  have f26 := (A1.keep K7)
  obtain ⟨_, _, ⟨T19, L19, k19, n19⟩, -, X19, ⟨Lc19, hQ19, l19, y19, z19⟩, st19⟩ := Jvm.LawKit.callS X18 hx (y := (⟨"java/util/Arrays", "copyOf", "([II)[I"⟩ : MethodName)) hown (mvT hZ (hw _ (own_w 34 rfl))) (mvT hZ (hw _ (own_w 35 rfl))) (mvT hZ (hw _ (own_w 36 rfl))) (mvT hZ (hw _ (own_w 37 rfl))) (by decide) (backOf (W := 3) (rm6 l Z aw hw [] (sa) ((sz + (1 : Int32))) (ks) (zs) (ls) (T7.heap) n0 z22 f20 f21 (own_j hJ).2.2.1) hZ (hw _ (own_w 37 rfl)) (hw _ (own_w 36 rfl)) (by decide) (by decide)) (g := (mkF m 25 #[.val (.ref a0)] [(.int (sz + (1 : Int32))), (.ref sa), (.ref rb7), (.ref po), (.ref po)])) rfl (by rw [hml]; rfl) (argsL := [(.ref sa), (.int (sz + (1 : Int32)))]) (rest := [(.ref rb7), (.ref po), (.ref po)]) (lenOf pd_1 rfl) rfl (by show 2 * 0 + _ ≤ _; exact Nat.le_of_eq rfl) (hb hby d7_25) (fun _ _ => ⟨rfl, e18, (by decide : 2 + 1 ≤ _), (by decide : 12 + 9 ≤ _)⟩)
  dsimp only [Pt.U, Pt.locs, Pt.cells, Pt.slots] at X19 l19 y19 z19 st19 hQ19
  subst l19 y19 z19
  obtain ⟨rb19, kb19, rfl, Nq19, K19, po19_0, po19_1, po19_2⟩ := hQ19
  have N19 := Fr.app N7 Nq19
  have kp27 : Keep h0 T19.heap [] := kp14.trans K19 all0
  have ne_a0_rb19 : a0 ≠ rb19 := Nat.ne_of_lt (Nat.lt_of_lt_of_le f23.lt po19_0)
  have ne_da_rb19 : da ≠ rb19 := Nat.ne_of_lt (Nat.lt_of_lt_of_le f24.lt po19_0)
  have ne_pa_rb19 : pa ≠ rb19 := Nat.ne_of_lt (Nat.lt_of_lt_of_le f25.lt po19_0)
  have ne_po_rb19 : po ≠ rb19 := Nat.ne_of_lt (Nat.lt_of_lt_of_le f26.lt po19_0)
  have ne_rb7_rb19 : rb7 ≠ rb19 := Nat.ne_of_lt (Nat.lt_of_lt_of_le po7_1.lt po19_0)
  have ne_sa_rb19 : sa ≠ rb19 := Nat.ne_of_lt (Nat.lt_of_lt_of_le f20.lt po19_0)
  have g_rb19 : n0 ≤ rb19 := Nat.le_trans z22 po19_0
  have sz_rb19 : h0.size ≤ rb19 := Nat.le_trans kp14.1 po19_0
  have f28 := (((F_a0_positions.ext E1).keep K7 nin0).keep K19 nin0)
  obtain ⟨T29, X29, e29, st29⟩ := getF X19 hx hZ hown (host := "") (Or.inl (hw _ (own_w 25 rfl))) Via.refl rfl f28 (g := (mkF m 29 #[.val (.ref a0)] [(.ref a0), (.ref rb19), (.ref rb7), (.ref po), (.ref po)])) rfl rfl (hb hby d7_29)
  have f30 := (f15.keep K19 nin0)
  obtain ⟨T31, X31, e31, st31⟩ := getF X29 hx hZ hown (host := "") (Or.inl (hw _ (own_w 23 rfl))) Via.refl e29 f30 (g := (mkF m 33 #[.val (.ref a0)] [(.ref a0), (.ref pa), (.ref rb19), (.ref rb7), (.ref po), (.ref po)])) rfl rfl (hb hby d7_33)
  have f32 := (f17.keep K19 nin0)
  obtain ⟨T33, X33, e33, st33⟩ := getF X31 hx hZ hown (host := "") (Or.inl (hw _ (own_w 32 rfl))) Via.refl e31 f32 (g := (mkF m 37 #[.val (.ref a0)] [(.ref a0), (.ref sa), (.ref pa), (.ref rb19), (.ref rb7), (.ref po), (.ref po)])) rfl rfl (hb hby d7_37)
  have f34 := (f21.keep K19 nin0)
  obtain ⟨cl35, Ar35, hin35, hat35⟩ := own_AI.at f34 (j := sz) ((own_j hJ).1)
  have f37 := (f25.keep K19)
  have f38 := (((V_pa.ext E1).keep K7 nin0).keep K19 nin0)
  have z39 : n0 ≤ (T19.heap).size := (Nat.le_trans z22 K19.1)
  have f40 := (f23.keep K19)
  have f41 := (f24.keep K19)
  have f42 := (f26.keep K19)
  have f43 := (po7_1.keep K19)
  have f44 := (f20.keep K19)
  obtain ⟨_, _, ⟨T36, L36, k36, n36⟩, -, X36, ⟨Lc36, hQ36, l36, y36, z36⟩, st36⟩ := Jvm.LawKit.callS X33 hx (y := (⟨"java/util/Arrays", "copyOf", "([II)[I"⟩ : MethodName)) hown (mvT hZ (hw _ (own_w 34 rfl))) (mvT hZ (hw _ (own_w 35 rfl))) (mvT hZ (hw _ (own_w 36 rfl))) (mvT hZ (hw _ (own_w 37 rfl))) (by decide) (backOf (W := 4) (rm6 l Z aw hw [] (pa) ((ls.getD (sz).toNatClampNeg (0 : Int32))) (kp) (zp) (lp) (T19.heap) n0 z39 f37 f38 (own_j hJ).2.2.2) hZ (hw _ (own_w 37 rfl)) (hw _ (own_w 36 rfl)) (by decide) (by decide)) (g := (mkF m 41 #[.val (.ref a0)] [(.int (ls.getD (sz).toNatClampNeg (0 : Int32))), (.ref pa), (.ref rb19), (.ref rb7), (.ref po), (.ref po)])) rfl (by rw [hml]; rfl) (argsL := [(.ref pa), (.int (ls.getD (sz).toNatClampNeg (0 : Int32)))]) (rest := [(.ref rb19), (.ref rb7), (.ref po), (.ref po)]) (lenOf pd_1 rfl) rfl (by show 2 * 0 + _ ≤ _; exact Nat.le_of_eq rfl) (hb hby d7_41) (fun _ _ => ⟨rfl, e33, (by decide : 3 + 1 ≤ _), (by decide : 21 + 9 ≤ _)⟩)
  dsimp only [Pt.U, Pt.locs, Pt.cells, Pt.slots] at X36 l36 y36 z36 st36 hQ36
  subst l36 y36 z36
  obtain ⟨rb36, kb36, rfl, Nq36, K36, po36_0, po36_1, po36_2⟩ := hQ36
  have N36 := Fr.app N19 Nq36
  have kp45 : Keep h0 T36.heap [] := kp27.trans K36 all0
  have ne_a0_rb36 : a0 ≠ rb36 := Nat.ne_of_lt (Nat.lt_of_lt_of_le f40.lt po36_0)
  have ne_da_rb36 : da ≠ rb36 := Nat.ne_of_lt (Nat.lt_of_lt_of_le f41.lt po36_0)
  have ne_pa_rb36 : pa ≠ rb36 := Nat.ne_of_lt (Nat.lt_of_lt_of_le f37.lt po36_0)
  have ne_po_rb36 : po ≠ rb36 := Nat.ne_of_lt (Nat.lt_of_lt_of_le f42.lt po36_0)
  have ne_rb19_rb36 : rb19 ≠ rb36 := Nat.ne_of_lt (Nat.lt_of_lt_of_le po19_1.lt po36_0)
  have ne_rb7_rb36 : rb7 ≠ rb36 := Nat.ne_of_lt (Nat.lt_of_lt_of_le f43.lt po36_0)
  have ne_sa_rb36 : sa ≠ rb36 := Nat.ne_of_lt (Nat.lt_of_lt_of_le f44.lt po36_0)
  have g_rb36 : n0 ≤ rb36 := Nat.le_trans z39 po36_0
  have sz_rb36 : h0.size ≤ rb36 := Nat.le_trans kp27.1 po36_0
  have f47 := (f42.keep K36)
  have f48 := (((F_po_documents.keep K7 nin0).keep K19 nin0).keep K36 nin0)
  have f49 := (((F_po_starts.keep K7 nin0).keep K19 nin0).keep K36 nin0)
  have f50 := (((F_po_positions.keep K7 nin0).keep K19 nin0).keep K36 nin0)
  have z51 : n0 ≤ (T36.heap).size := (Nat.le_trans z39 K36.1)
  obtain ⟨_, _, ⟨T46, L46, k46, n46⟩, -, X46, ⟨Lc46, hQ46, l46, y46, z46⟩, st46⟩ := X36.specialBack hx (y := (⟨"com/example/whole_recall/wholerecall/index/Postings", "<init>", "([I[I[I)V"⟩ : MethodName)) rfl hown (mvT hZ (hw _ (own_w 51 rfl))) (mvT hZ (hw _ (own_w 52 rfl))) (mvT hZ (hw _ (own_w 53 rfl))) (by decide) (backOf (W := 1) (rm8 l Z aw hw [] (po) (rb7) (rb19) (rb36) (T36.heap) n0 z51 f47 f48 f49 f50 g_po) hZ (hw _ (own_w 53 rfl)) (hw _ (own_w 50 rfl)) (by decide) (by decide)) (g := (mkF m 44 #[.val (.ref a0)] [(.ref rb36), (.ref rb19), (.ref rb7), (.ref po), (.ref po)])) rfl (by rw [hml]; rfl) (Steps.refl _) (a := po) (argsL := [(.ref rb7), (.ref rb19), (.ref rb36)]) (rest := [(.ref po)]) (lenOf pd_2 rfl) rfl (by show 2 * 0 + _ ≤ _; exact Nat.le_of_eq rfl) (hb hby d7_44) (fun _ _ => ⟨rfl, rfl, (by decide : 4 + 0 ≤ _), (by decide : 30 + 0 ≤ _)⟩)
  dsimp only [Pt.U, Pt.locs, Pt.cells, Pt.slots] at X46 l46 y46 z46 st46 hQ46
  subst l46 y46 z46
  obtain ⟨rfl, Nq46, K46, po46_0, po46_1, po46_2, po46_3⟩ := hQ46
  have N46 := Fr.app N36 Nq46
  have kp52 : Keep h0 T46.heap [] := kp45.trans K46 (allS (Or.inr sz_po) all0)
  obtain ⟨fs, hr, hrun, hended, hW, hsame⟩ := X46.leave (v := some (.ref po)) (fun h => by rw [Bd.returns] at h; cases h)
  refine ⟨_, _, pre0 _ ?_, hrun, hended, _, _, rfl, ?_, ⟨_, rfl⟩, hW, hsame.mono (by decide) (by decide)⟩
  · show Steps p.tables e below (s₁.setTop (mkF m 0 #[.val (.ref a0)] [])) _
    refine st1 _ ?_
    refine XS.dup X1.here hx rfl (hb hby d7_3) rfl rfl ?_
    refine XS.aloadN X1.here hx rfl (hb hby d7_4) rfl rfl ?_
    refine st4 _ ?_
    refine XS.aloadN X4.here hx rfl (hb hby d7_8) rfl rfl ?_
    show Steps p.tables e below (T4.setTop (mkF m 9 #[.val (.ref a0)] [(.ref a0), (.ref da), (.ref po), (.ref po)])) _
    refine st6 _ ?_
    refine st7 _ ?_
    refine XS.aloadN X7.here hx rfl (hb hby d7_15) rfl rfl ?_
    refine st16 _ ?_
    refine XS.aloadN X16.here hx rfl (hb hby d7_19) rfl rfl ?_
    show Steps p.tables e below (T16.setTop (mkF m 20 #[.val (.ref a0)] [(.ref a0), (.ref sa), (.ref rb7), (.ref po), (.ref po)])) _
    refine st18 _ ?_
    refine XS.iconst X18.here hx rfl (hb hby d7_23) ?_
    refine XS.iadd X18.here hx rfl (hb hby d7_24) rfl ?_
    refine st19 _ ?_
    refine XS.aloadN X19.here hx rfl (hb hby d7_28) rfl rfl ?_
    show Steps p.tables e below (T19.setTop (mkF m 29 #[.val (.ref a0)] [(.ref a0), (.ref rb19), (.ref rb7), (.ref po), (.ref po)])) _
    refine st29 _ ?_
    refine XS.aloadN X29.here hx rfl (hb hby d7_32) rfl rfl ?_
    refine st31 _ ?_
    refine XS.aloadN X31.here hx rfl (hb hby d7_36) rfl rfl ?_
    refine st33 _ ?_
    show Steps p.tables e below (T33.setTop (mkF m 40 #[.val (.ref a0)] [(.int sz), (.ref sa), (.ref pa), (.ref rb19), (.ref rb7), (.ref po), (.ref po)])) _
    refine X33.iaload hx (j := sz) (v := (.int (ls.getD (sz).toNatClampNeg (0 : Int32)))) (by rw [e33]; exact Ar35.1) (State.isArrayOf_alike hZ.alike Ar35.2.1) Ar35.2.2 hin35 hat35 (g := (mkF m 40 #[.val (.ref a0)] [(.int sz), (.ref sa), (.ref pa), (.ref rb19), (.ref rb7), (.ref po), (.ref po)])) rfl rfl (hb hby d7_40) _ ?_
    refine st36 _ ?_
    refine st46.trans ?_
    show Steps p.tables e below (T46.setTop (mkF m 47 #[.val (.ref a0)] [(.ref po)])) _
    exact retR X46 hx (v := (.ref po)) rfl Bd.returns rfl (hb hby d7_47) hr
  · show Q7 Z a0 da sa pa kd ks kp zd zs zp ld ls lp sz h0 n0 _ T46.heap _
    unfold Q7
    have f53 := (((po7_2.keep K19 nin0).keep K36 nin0).keep K46 (ninS (Ne.symm ne_po_rb7) nin0))
    have f54 := ((po19_2.keep K36 nin0).keep K46 (ninS (Ne.symm ne_po_rb19) nin0))
    have f55 := (po36_2.keep K46 (ninS (Ne.symm ne_po_rb36) nin0))
    refine ⟨po, rb7, rb19, rb36, kb7, kb19, kb36, rfl, N46, kp52, sz_po, po46_0, ?_, ?_, ?_, ?_, ?_, ?_⟩
    · exact po46_1
    · exact po46_2
    · exact po46_3
    · exact f53
    · exact f54
    · exact f55
theorem d9_0 : decode prog_39_method_2_code 0 = .ok (.aload_n 0, 1) := by decide +kernel
theorem d9_1 : decode prog_39_method_2_code 1 = .ok (.getfield 7, 3) := by decide +kernel
theorem d9_4 : decode prog_39_method_2_code 4 = .ok (.arraylength, 1) := by decide +kernel
theorem d9_5 : decode prog_39_method_2_code 5 = .ok (.ireturn, 1) := by decide +kernel
theorem ef_9 (m : MethodId) (a0 : Addr) : entryFrame m #[(.ref a0)] 1 = mkF m 0 #[.val (.ref a0)] [] := by first | (simp [entryFrame, mkF, argsToLocals, Value.category]; done) | rfl
def Q9 (Z : State) (a0 : Addr) (da : Addr) (kd : ClassId) (zd : Int32) (ld : List Int32) (h0 : Heap) (n0 : Nat) (v : Option Value) (h : Heap) (L : List Loc) : Prop := v = some (.int zd) ∧ Fr n0 L ∧ h = h0
set_option maxRecDepth 65536 in
set_option maxHeartbeats 40000000 in
theorem rm9 (l : Launch) (Z : State) (aw : Array Value) (hw : ∀ d ∈ tables_1, d.before aw Z = true) (wq : List Jvm.Cond) (a0 : Addr) (da : Addr) (kd : ClassId) (zd : Int32) (ld : List Int32) (h0 : Heap) (n0 : Nat) (Z0 : n0 ≤ h0.size) (E_a0 : Exa Z h0 a0 "com/example/whole_recall/wholerecall/index/Postings") (F_a0_documents : Fld Z h0 a0 "com/example/whole_recall/wholerecall/index/Postings" "documents" "[I" (.ref da)) (V_da : own_AI Z h0 da kd .int zd ld) :
    MetFree l (⟨"com/example/whole_recall/wholerecall/index/Postings", "size", "()I"⟩ : MethodName) (head1 (Jvm.Cond.code (⟨"com/example/whole_recall/wholerecall/index/Postings", "size", "()I"⟩ : MethodName) prog_39_method_2_code 1 (some .int) :: wq) ({ frames := 0, cells := 0, slots := 0, locals := 0 } : Room)) (fun a U => a = #[(.ref a0)] ∧ Z.Warmed39 U.vm ∧ U.heap = h0) (fun _ _ _ _ _ => True) (fun _ U o U' => ∃ v L, o = .returned v ∧ Q9 Z a0 da kd zd ld h0 n0 v U'.heap L ∧ FrameEnd U o U' L ({ frames := 0, cells := 0, slots := 0, locals := 0 } : Room).cells ({ frames := 0, cells := 0, slots := 0, locals := 0 } : Room).slots) := by
  refine MetFree.of_bodySF (plainFor_of_name pn_3) hisR ?_
  intro p e s m args below meth c s₁ Bd hml0 hP hK
  obtain ⟨rfl, hZ, hh⟩ := hP
  have hx := Bd.exec
  have hby := Bd.bytes
  have hml : c.maxLocals = 1 := hml0
  have hown : s.vm.findClass "com/example/whole_recall/wholerecall/index/Postings" = some m.cls := findClass_of_methodNamed Bd.named
  have hnm := (name_of_methodNamed Bd.named Bd.method).1
  have X0 : Stand p l e ({ frames := 0, cells := 0, slots := 0, locals := 0 } : Room) s m #[(.ref a0)] below meth c s₁ [] 0 0 := Stand.of_body Bd
  have e0 : s₁.heap = h0 := by rw [← hh, Bd.state]; rfl
  have N0 := Fr.nil n0
  have pre0 : own_Pre p e below (s₁.setTop (entryFrame m #[(.ref a0)] 1)) (s₁.setTop (mkF m 0 #[.val (.ref a0)] [])) := fun t k => castTop (ef_9 m a0) k
  obtain ⟨T1, X1, e1, st1⟩ := getF X0 hx hZ hown (host := "") (Or.inl (hw _ (own_w 55 rfl))) Via.refl e0 F_a0_documents (g := (mkF m 1 #[.val (.ref a0)] [(.ref a0)])) rfl rfl (hb hby d9_1)
  obtain ⟨cl2, Ar2, S2, M2⟩ := V_da.len
  obtain ⟨fs, hr, hrun, hended, hW, hsame⟩ := X1.leave (v := some (.int zd)) (fun h => by rw [Bd.returns] at h; cases h)
  refine ⟨_, _, pre0 _ ?_, hrun, hended, _, _, rfl, ?_, ⟨_, rfl⟩, hW, hsame.mono (by decide) (by decide)⟩
  · show Steps p.tables e below (s₁.setTop (mkF m 0 #[.val (.ref a0)] [])) _
    refine XS.aloadN X0.here hx rfl (hb hby d9_0) rfl rfl ?_
    refine st1 _ ?_
    refine X1.arraylength hx (by rw [e1]; exact Ar2.1) (State.isArrayOf_alike hZ.alike Ar2.2.1) (g := (mkF m 4 #[.val (.ref a0)] [(.ref da)])) rfl rfl (hb hby d9_4) _ ?_
    rw [len_of S2 M2]
    show Steps p.tables e below (T1.setTop (mkF m 5 #[.val (.ref a0)] [(.int zd)])) _
    exact retI X1 hx Bd.returns (hb hby d9_5) hr
  · show Q9 Z a0 da kd zd ld h0 n0 _ T1.heap _
    rw [e1]
    unfold Q9
    refine ⟨rfl, N0, rfl⟩
theorem d10_0 : decode prog_39_method_3_code 0 = .ok (.aload_n 0, 1) := by decide +kernel
theorem d10_1 : decode prog_39_method_3_code 1 = .ok (.getfield 7, 3) := by decide +kernel
theorem d10_4 : decode prog_39_method_3_code 4 = .ok (.iload_n 1, 1) := by decide +kernel
theorem d10_5 : decode prog_39_method_3_code 5 = .ok (.iaload, 1) := by decide +kernel
theorem d10_6 : decode prog_39_method_3_code 6 = .ok (.ireturn, 1) := by decide +kernel
theorem ef_10 (m : MethodId) (a0 : Addr) (p1 : Int32) : entryFrame m #[(.ref a0), (.int p1)] 2 = mkF m 0 #[.val (.ref a0), .val (.int p1)] [] := by first | (simp [entryFrame, mkF, argsToLocals, Value.category]; done) | rfl
def Q10 (Z : State) (a0 : Addr) (p1 : Int32) (da : Addr) (kd : ClassId) (zd : Int32) (ld : List Int32) (h0 : Heap) (n0 : Nat) (v : Option Value) (h : Heap) (L : List Loc) : Prop := v = some (.int (ld.getD (p1).toNatClampNeg (0 : Int32))) ∧ Fr n0 L ∧ h = h0
set_option maxRecDepth 65536 in
set_option maxHeartbeats 40000000 in
theorem rm10 (l : Launch) (Z : State) (aw : Array Value) (hw : ∀ d ∈ tables_1, d.before aw Z = true) (wq : List Jvm.Cond) (a0 : Addr) (p1 : Int32) (da : Addr) (kd : ClassId) (zd : Int32) (ld : List Int32) (h0 : Heap) (n0 : Nat) (Z0 : n0 ≤ h0.size) (E_a0 : Exa Z h0 a0 "com/example/whole_recall/wholerecall/index/Postings") (F_a0_documents : Fld Z h0 a0 "com/example/whole_recall/wholerecall/index/Postings" "documents" "[I" (.ref da)) (V_da : own_AI Z h0 da kd .int zd ld) (hi : ¬ p1 < (0 : Int32) ∧ p1 < zd) :
    MetFree l (⟨"com/example/whole_recall/wholerecall/index/Postings", "document", "(I)I"⟩ : MethodName) (head1 (Jvm.Cond.code (⟨"com/example/whole_recall/wholerecall/index/Postings", "document", "(I)I"⟩ : MethodName) prog_39_method_3_code 2 (some .int) :: wq) ({ frames := 0, cells := 0, slots := 0, locals := 0 } : Room)) (fun a U => a = #[(.ref a0), (.int p1)] ∧ Z.Warmed39 U.vm ∧ U.heap = h0) (fun _ _ _ _ _ => True) (fun _ U o U' => ∃ v L, o = .returned v ∧ Q10 Z a0 p1 da kd zd ld h0 n0 v U'.heap L ∧ FrameEnd U o U' L ({ frames := 0, cells := 0, slots := 0, locals := 0 } : Room).cells ({ frames := 0, cells := 0, slots := 0, locals := 0 } : Room).slots) := by
  refine MetFree.of_bodySF (plainFor_of_name pn_3) hisR ?_
  intro p e s m args below meth c s₁ Bd hml0 hP hK
  obtain ⟨rfl, hZ, hh⟩ := hP
  have hx := Bd.exec
  have hby := Bd.bytes
  have hml : c.maxLocals = 2 := hml0
  have hown : s.vm.findClass "com/example/whole_recall/wholerecall/index/Postings" = some m.cls := findClass_of_methodNamed Bd.named
  have hnm := (name_of_methodNamed Bd.named Bd.method).1
  have X0 : Stand p l e ({ frames := 0, cells := 0, slots := 0, locals := 0 } : Room) s m #[(.ref a0), (.int p1)] below meth c s₁ [] 0 0 := Stand.of_body Bd
  have e0 : s₁.heap = h0 := by rw [← hh, Bd.state]; rfl
  have N0 := Fr.nil n0
  have pre0 : own_Pre p e below (s₁.setTop (entryFrame m #[(.ref a0), (.int p1)] 2)) (s₁.setTop (mkF m 0 #[.val (.ref a0), .val (.int p1)] [])) := fun t k => castTop (ef_10 m a0 p1) k
  obtain ⟨T1, X1, e1, st1⟩ := getF X0 hx hZ hown (host := "") (Or.inl (hw _ (own_w 55 rfl))) Via.refl e0 F_a0_documents (g := (mkF m 1 #[.val (.ref a0), .val (.int p1)] [(.ref a0)])) rfl rfl (hb hby d10_1)
  obtain ⟨cl2, Ar2, hin2, hat2⟩ := own_AI.at V_da (j := p1) (hi)
  obtain ⟨fs, hr, hrun, hended, hW, hsame⟩ := X1.leave (v := some (.int (ld.getD (p1).toNatClampNeg (0 : Int32)))) (fun h => by rw [Bd.returns] at h; cases h)
  refine ⟨_, _, pre0 _ ?_, hrun, hended, _, _, rfl, ?_, ⟨_, rfl⟩, hW, hsame.mono (by decide) (by decide)⟩
  · show Steps p.tables e below (s₁.setTop (mkF m 0 #[.val (.ref a0), .val (.int p1)] [])) _
    refine XS.aloadN X0.here hx rfl (hb hby d10_0) rfl rfl ?_
    refine st1 _ ?_
    refine XS.iloadN X1.here hx rfl (hb hby d10_4) rfl ?_
    refine X1.iaload hx (j := p1) (v := (.int (ld.getD (p1).toNatClampNeg (0 : Int32)))) (by rw [e1]; exact Ar2.1) (State.isArrayOf_alike hZ.alike Ar2.2.1) Ar2.2.2 hin2 hat2 (g := (mkF m 5 #[.val (.ref a0), .val (.int p1)] [(.int p1), (.ref da)])) rfl rfl (hb hby d10_5) _ ?_
    show Steps p.tables e below (T1.setTop (mkF m 6 #[.val (.ref a0), .val (.int p1)] [(.int (ld.getD (p1).toNatClampNeg (0 : Int32)))])) _
    exact retI X1 hx Bd.returns (hb hby d10_6) hr
  · show Q10 Z a0 p1 da kd zd ld h0 n0 _ T1.heap _
    rw [e1]
    unfold Q10
    refine ⟨rfl, N0, rfl⟩
theorem d11_0 : decode prog_39_method_4_code 0 = .ok (.aload_n 0, 1) := by decide +kernel
theorem d11_1 : decode prog_39_method_4_code 1 = .ok (.getfield 13, 3) := by decide +kernel
theorem d11_4 : decode prog_39_method_4_code 4 = .ok (.iload_n 1, 1) := by decide +kernel
theorem d11_5 : decode prog_39_method_4_code 5 = .ok (.iconst 1, 1) := by decide +kernel
theorem d11_6 : decode prog_39_method_4_code 6 = .ok (.iadd, 1) := by decide +kernel
theorem d11_7 : decode prog_39_method_4_code 7 = .ok (.iaload, 1) := by decide +kernel
theorem d11_8 : decode prog_39_method_4_code 8 = .ok (.aload_n 0, 1) := by decide +kernel
theorem d11_9 : decode prog_39_method_4_code 9 = .ok (.getfield 13, 3) := by decide +kernel
theorem d11_12 : decode prog_39_method_4_code 12 = .ok (.iload_n 1, 1) := by decide +kernel
theorem d11_13 : decode prog_39_method_4_code 13 = .ok (.iaload, 1) := by decide +kernel
theorem d11_14 : decode prog_39_method_4_code 14 = .ok (.isub, 1) := by decide +kernel
theorem d11_15 : decode prog_39_method_4_code 15 = .ok (.ireturn, 1) := by decide +kernel
theorem ef_11 (m : MethodId) (a0 : Addr) (p1 : Int32) : entryFrame m #[(.ref a0), (.int p1)] 2 = mkF m 0 #[.val (.ref a0), .val (.int p1)] [] := by first | (simp [entryFrame, mkF, argsToLocals, Value.category]; done) | rfl
def own_f11 (p1 : Int32) (ls : List Int32) : Int32 := ((ls.getD ((p1 + (1 : Int32))).toNatClampNeg (0 : Int32)) - (ls.getD (p1).toNatClampNeg (0 : Int32)))
def Q11 (Z : State) (a0 : Addr) (p1 : Int32) (sa : Addr) (ks : ClassId) (zs : Int32) (ls : List Int32) (h0 : Heap) (n0 : Nat) (v : Option Value) (h : Heap) (L : List Loc) : Prop := v = some (.int (own_f11 p1 ls)) ∧ Fr n0 L ∧ h = h0
set_option maxRecDepth 65536 in
set_option maxHeartbeats 40000000 in
theorem rm11 (l : Launch) (Z : State) (aw : Array Value) (hw : ∀ d ∈ tables_1, d.before aw Z = true) (wq : List Jvm.Cond) (a0 : Addr) (p1 : Int32) (sa : Addr) (ks : ClassId) (zs : Int32) (ls : List Int32) (h0 : Heap) (n0 : Nat) (Z0 : n0 ≤ h0.size) (E_a0 : Exa Z h0 a0 "com/example/whole_recall/wholerecall/index/Postings") (F_a0_starts : Fld Z h0 a0 "com/example/whole_recall/wholerecall/index/Postings" "starts" "[I" (.ref sa)) (V_sa : own_AI Z h0 sa ks .int zs ls) (hi : (¬ p1 < (0 : Int32) ∧ p1 < zs) ∧ (¬ (p1 + (1 : Int32)) < (0 : Int32) ∧ (p1 + (1 : Int32)) < zs)) :
    MetFree l (⟨"com/example/whole_recall/wholerecall/index/Postings", "frequency", "(I)I"⟩ : MethodName) (head1 (Jvm.Cond.code (⟨"com/example/whole_recall/wholerecall/index/Postings", "frequency", "(I)I"⟩ : MethodName) prog_39_method_4_code 2 (some .int) :: wq) ({ frames := 0, cells := 0, slots := 0, locals := 0 } : Room)) (fun a U => a = #[(.ref a0), (.int p1)] ∧ Z.Warmed39 U.vm ∧ U.heap = h0) (fun _ _ _ _ _ => True) (fun _ U o U' => ∃ v L, o = .returned v ∧ Q11 Z a0 p1 sa ks zs ls h0 n0 v U'.heap L ∧ FrameEnd U o U' L ({ frames := 0, cells := 0, slots := 0, locals := 0 } : Room).cells ({ frames := 0, cells := 0, slots := 0, locals := 0 } : Room).slots) := by
  refine MetFree.of_bodySF (plainFor_of_name pn_3) hisR ?_
  intro p e s m args below meth c s₁ Bd hml0 hP hK
  obtain ⟨rfl, hZ, hh⟩ := hP
  have hx := Bd.exec
  have hby := Bd.bytes
  have hml : c.maxLocals = 2 := hml0
  have hown : s.vm.findClass "com/example/whole_recall/wholerecall/index/Postings" = some m.cls := findClass_of_methodNamed Bd.named
  have hnm := (name_of_methodNamed Bd.named Bd.method).1
  have X0 : Stand p l e ({ frames := 0, cells := 0, slots := 0, locals := 0 } : Room) s m #[(.ref a0), (.int p1)] below meth c s₁ [] 0 0 := Stand.of_body Bd
  have e0 : s₁.heap = h0 := by rw [← hh, Bd.state]; rfl
  have N0 := Fr.nil n0
  have pre0 : own_Pre p e below (s₁.setTop (entryFrame m #[(.ref a0), (.int p1)] 2)) (s₁.setTop (mkF m 0 #[.val (.ref a0), .val (.int p1)] [])) := fun t k => castTop (ef_11 m a0 p1) k
  obtain ⟨T1, X1, e1, st1⟩ := getF X0 hx hZ hown (host := "") (Or.inl (hw _ (own_w 57 rfl))) Via.refl e0 F_a0_starts (g := (mkF m 1 #[.val (.ref a0), .val (.int p1)] [(.ref a0)])) rfl rfl (hb hby d11_1)
  obtain ⟨cl2, Ar2, hin2, hat2⟩ := own_AI.at V_sa (j := (p1 + (1 : Int32))) (hi.2)
  obtain ⟨T3, X3, e3, st3⟩ := getF X1 hx hZ hown (host := "") (Or.inl (hw _ (own_w 57 rfl))) Via.refl e1 F_a0_starts (g := (mkF m 9 #[.val (.ref a0), .val (.int p1)] [(.ref a0), (.int (ls.getD ((p1 + (1 : Int32))).toNatClampNeg (0 : Int32)))])) rfl rfl (hb hby d11_9)
  obtain ⟨cl4, Ar4, hin4, hat4⟩ := own_AI.at V_sa (j := p1) (hi.1)
  obtain ⟨fs, hr, hrun, hended, hW, hsame⟩ := X3.leave (v := some (.int ((ls.getD ((p1 + (1 : Int32))).toNatClampNeg (0 : Int32)) - (ls.getD (p1).toNatClampNeg (0 : Int32))))) (fun h => by rw [Bd.returns] at h; cases h)
  refine ⟨_, _, pre0 _ ?_, hrun, hended, _, _, rfl, ?_, ⟨_, rfl⟩, hW, hsame.mono (by decide) (by decide)⟩
  · show Steps p.tables e below (s₁.setTop (mkF m 0 #[.val (.ref a0), .val (.int p1)] [])) _
    refine XS.aloadN X0.here hx rfl (hb hby d11_0) rfl rfl ?_
    refine st1 _ ?_
    refine XS.iloadN X1.here hx rfl (hb hby d11_4) rfl ?_
    refine XS.iconst X1.here hx rfl (hb hby d11_5) ?_
    refine XS.iadd X1.here hx rfl (hb hby d11_6) rfl ?_
    show Steps p.tables e below (T1.setTop (mkF m 7 #[.val (.ref a0), .val (.int p1)] [(.int (p1 + (1 : Int32))), (.ref sa)])) _
    refine X1.iaload hx (j := (p1 + (1 : Int32))) (v := (.int (ls.getD ((p1 + (1 : Int32))).toNatClampNeg (0 : Int32)))) (by rw [e1]; exact Ar2.1) (State.isArrayOf_alike hZ.alike Ar2.2.1) Ar2.2.2 hin2 hat2 (g := (mkF m 7 #[.val (.ref a0), .val (.int p1)] [(.int (p1 + (1 : Int32))), (.ref sa)])) rfl rfl (hb hby d11_7) _ ?_
    refine XS.aloadN X1.here hx rfl (hb hby d11_8) rfl rfl ?_
    refine st3 _ ?_
    refine XS.iloadN X3.here hx rfl (hb hby d11_12) rfl ?_
    refine X3.iaload hx (j := p1) (v := (.int (ls.getD (p1).toNatClampNeg (0 : Int32)))) (by rw [e3]; exact Ar4.1) (State.isArrayOf_alike hZ.alike Ar4.2.1) Ar4.2.2 hin4 hat4 (g := (mkF m 13 #[.val (.ref a0), .val (.int p1)] [(.int p1), (.ref sa), (.int (ls.getD ((p1 + (1 : Int32))).toNatClampNeg (0 : Int32)))])) rfl rfl (hb hby d11_13) _ ?_
    show Steps p.tables e below (T3.setTop (mkF m 14 #[.val (.ref a0), .val (.int p1)] [(.int (ls.getD (p1).toNatClampNeg (0 : Int32))), (.int (ls.getD ((p1 + (1 : Int32))).toNatClampNeg (0 : Int32)))])) _
    refine XS.isub X3.here hx rfl (hb hby d11_14) rfl ?_
    show Steps p.tables e below (T3.setTop (mkF m 15 #[.val (.ref a0), .val (.int p1)] [(.int ((ls.getD ((p1 + (1 : Int32))).toNatClampNeg (0 : Int32)) - (ls.getD (p1).toNatClampNeg (0 : Int32))))])) _
    exact retI X3 hx Bd.returns (hb hby d11_15) hr
  · show Q11 Z a0 p1 sa ks zs ls h0 n0 _ T3.heap _
    rw [e3]
    unfold Q11
    refine ⟨?_, N0, rfl⟩
    · simp only [own_f11]
theorem d12_0 : decode prog_39_method_5_code 0 = .ok (.iload_n 2, 1) := by decide +kernel
theorem d12_1 : decode prog_39_method_5_code 1 = .ok (.ifCond .lt 12, 3) := by decide +kernel
theorem d12_4 : decode prog_39_method_5_code 4 = .ok (.iload_n 2, 1) := by decide +kernel
theorem d12_5 : decode prog_39_method_5_code 5 = .ok (.aload_n 0, 1) := by decide +kernel
theorem d12_6 : decode prog_39_method_5_code 6 = .ok (.iload_n 1, 1) := by decide +kernel
theorem d12_7 : decode prog_39_method_5_code 7 = .ok (.invokevirtual 19, 3) := by decide +kernel
theorem d12_10 : decode prog_39_method_5_code 10 = .ok (.if_icmp .lt 22, 3) := by decide +kernel
theorem d12_32 : decode prog_39_method_5_code 32 = .ok (.aload_n 0, 1) := by decide +kernel
theorem d12_33 : decode prog_39_method_5_code 33 = .ok (.getfield 16, 3) := by decide +kernel
theorem d12_36 : decode prog_39_method_5_code 36 = .ok (.aload_n 0, 1) := by decide +kernel
theorem d12_37 : decode prog_39_method_5_code 37 = .ok (.getfield 13, 3) := by decide +kernel
theorem d12_40 : decode prog_39_method_5_code 40 = .ok (.iload_n 1, 1) := by decide +kernel
theorem d12_41 : decode prog_39_method_5_code 41 = .ok (.iaload, 1) := by decide +kernel
theorem d12_42 : decode prog_39_method_5_code 42 = .ok (.iload_n 2, 1) := by decide +kernel
theorem d12_43 : decode prog_39_method_5_code 43 = .ok (.iadd, 1) := by decide +kernel
theorem d12_44 : decode prog_39_method_5_code 44 = .ok (.iaload, 1) := by decide +kernel
theorem d12_45 : decode prog_39_method_5_code 45 = .ok (.ireturn, 1) := by decide +kernel
theorem pd_3 : parseMethodDescriptor "(I)I" = some ⟨[.int], some .int⟩ := by decide +kernel
theorem ef_12 (m : MethodId) (a0 : Addr) (p1 : Int32) (p2 : Int32) : entryFrame m #[(.ref a0), (.int p1), (.int p2)] 3 = mkF m 0 #[.val (.ref a0), .val (.int p1), .val (.int p2)] [] := by first | (simp [entryFrame, mkF, argsToLocals, Value.category]; done) | rfl
def Q12 (Z : State) (a0 : Addr) (p1 : Int32) (p2 : Int32) (sa : Addr) (pa : Addr) (ks : ClassId) (kp : ClassId) (zs : Int32) (zp : Int32) (ls : List Int32) (lp : List Int32) (h0 : Heap) (n0 : Nat) (v : Option Value) (h : Heap) (L : List Loc) : Prop := v = some (.int (lp.getD ((ls.getD (p1).toNatClampNeg (0 : Int32)) + p2).toNatClampNeg (0 : Int32))) ∧ Fr n0 L ∧ h = h0
set_option maxRecDepth 65536 in
set_option maxHeartbeats 40000000 in
theorem rm12 (l : Launch) (Z : State) (aw : Array Value) (hw : ∀ d ∈ tables_1, d.before aw Z = true) (wq : List Jvm.Cond) (a0 : Addr) (p1 : Int32) (p2 : Int32) (sa : Addr) (pa : Addr) (ks : ClassId) (kp : ClassId) (zs : Int32) (zp : Int32) (ls : List Int32) (lp : List Int32) (h0 : Heap) (n0 : Nat) (Z0 : n0 ≤ h0.size) (E_a0 : Exa Z h0 a0 "com/example/whole_recall/wholerecall/index/Postings") (F_a0_starts : Fld Z h0 a0 "com/example/whole_recall/wholerecall/index/Postings" "starts" "[I" (.ref sa)) (F_a0_positions : Fld Z h0 a0 "com/example/whole_recall/wholerecall/index/Postings" "positions" "[I" (.ref pa)) (V_sa : own_AI Z h0 sa ks .int zs ls) (V_pa : own_AI Z h0 pa kp .int zp lp) (hi : (¬ p1 < (0 : Int32) ∧ p1 < zs) ∧ (¬ (p1 + (1 : Int32)) < (0 : Int32) ∧ (p1 + (1 : Int32)) < zs)) (hj : ¬ p2 < (0 : Int32)) (hf : p2 < own_f11 p1 ls) (hp : ¬ ((ls.getD (p1).toNatClampNeg (0 : Int32)) + p2) < (0 : Int32) ∧ ((ls.getD (p1).toNatClampNeg (0 : Int32)) + p2) < zp) :
    MetFree l (⟨"com/example/whole_recall/wholerecall/index/Postings", "position", "(II)I"⟩ : MethodName) (head1 (Jvm.Cond.code (⟨"com/example/whole_recall/wholerecall/index/Postings", "position", "(II)I"⟩ : MethodName) prog_39_method_5_code 3 (some .int) :: wq) ({ frames := 1, cells := 0, slots := 0, locals := 14 } : Room)) (fun a U => a = #[(.ref a0), (.int p1), (.int p2)] ∧ Z.Warmed39 U.vm ∧ U.heap = h0) (fun _ _ _ _ _ => True) (fun _ U o U' => ∃ v L, o = .returned v ∧ Q12 Z a0 p1 p2 sa pa ks kp zs zp ls lp h0 n0 v U'.heap L ∧ FrameEnd U o U' L ({ frames := 1, cells := 0, slots := 0, locals := 14 } : Room).cells ({ frames := 1, cells := 0, slots := 0, locals := 14 } : Room).slots) := by
  refine MetFree.of_bodySF (plainFor_of_name pn_3) hisR ?_
  intro p e s m args below meth c s₁ Bd hml0 hP hK
  obtain ⟨rfl, hZ, hh⟩ := hP
  have hx := Bd.exec
  have hby := Bd.bytes
  have hml : c.maxLocals = 3 := hml0
  have hown : s.vm.findClass "com/example/whole_recall/wholerecall/index/Postings" = some m.cls := findClass_of_methodNamed Bd.named
  have hnm := (name_of_methodNamed Bd.named Bd.method).1
  have X0 : Stand p l e ({ frames := 1, cells := 0, slots := 0, locals := 14 } : Room) s m #[(.ref a0), (.int p1), (.int p2)] below meth c s₁ [] 0 0 := Stand.of_body Bd
  have e0 : s₁.heap = h0 := by rw [← hh, Bd.state]; rfl
  have N0 := Fr.nil n0
  have pre0 : own_Pre p e below (s₁.setTop (entryFrame m #[(.ref a0), (.int p1), (.int p2)] 3)) (s₁.setTop (mkF m 0 #[.val (.ref a0), .val (.int p1), .val (.int p2)] [])) := fun t k => castTop (ef_12 m a0 p1 p2) k
  have hc1 : ¬ (p2 < (0 : Int32)) := hj
  obtain ⟨cq1, kq1, q1a, q1b, q1c⟩ := isOf hZ e0 E_a0
  obtain ⟨_, _, ⟨T1, L1, k1, n1⟩, -, X1, ⟨Lc1, hQ1, l1, y1, z1⟩, st1⟩ := X0.virtualBack hx (y := (⟨"com/example/whole_recall/wholerecall/index/Postings", "frequency", "(I)I"⟩ : MethodName)) (z := (⟨"com/example/whole_recall/wholerecall/index/Postings", "frequency", "(I)I"⟩ : MethodName)) hown (mvT hZ (hw _ (own_w 81 rfl))) (mvT hZ (hw _ (own_w 72 rfl))) (notFace_of_selects (args := #[]) (mvT hZ (hw _ (own_w 74 rfl)))) (mvT hZ (hw _ (own_w 74 rfl))) (mvT hZ (hw _ (own_w 73 rfl))) (by decide) (backOf (W := 1) (rm11 l Z aw hw [] (a0) (p1) (sa) (ks) (zs) (ls) (h0) n0 Z0 E_a0 F_a0_starts V_sa hi) hZ (hw _ (own_w 75 rfl)) (hw _ (own_w 50 rfl)) (by decide) (by decide)) q1a q1c (g := (mkF m 7 #[.val (.ref a0), .val (.int p1), .val (.int p2)] [(.int p1), (.ref a0), (.int p2)])) rfl (by rw [hml]; rfl) (Steps.refl _) (argsL := [(.int p1)]) (rest := [(.int p2)]) (lenOf pd_3 rfl) rfl (by show 2 * 0 + _ ≤ _; exact Nat.le_of_eq rfl) (hb hby d12_7) (fun _ _ => ⟨rfl, e0, (by decide : 0 + 0 ≤ _), (by decide : 0 + 0 ≤ _)⟩)
  dsimp only [Pt.U, Pt.locs, Pt.cells, Pt.slots] at X1 l1 y1 z1 st1 hQ1
  subst l1 y1 z1
  obtain ⟨rfl, Nq1, eq1⟩ := hQ1
  have N1 := Fr.app N0 Nq1
  have hc10 : (p2 < (own_f11 p1 ls)) := hf
  obtain ⟨T2, X2, e2, st2⟩ := getF X1 hx hZ hown (host := "") (Or.inl (hw _ (own_w 59 rfl))) Via.refl eq1 F_a0_positions (g := (mkF m 33 #[.val (.ref a0), .val (.int p1), .val (.int p2)] [(.ref a0)])) rfl rfl (hb hby d12_33)
  obtain ⟨T3, X3, e3, st3⟩ := getF X2 hx hZ hown (host := "") (Or.inl (hw _ (own_w 57 rfl))) Via.refl e2 F_a0_starts (g := (mkF m 37 #[.val (.ref a0), .val (.int p1), .val (.int p2)] [(.ref a0), (.ref pa)])) rfl rfl (hb hby d12_37)
  obtain ⟨cl4, Ar4, hin4, hat4⟩ := own_AI.at V_sa (j := p1) (hi.1)
  obtain ⟨cl5, Ar5, hin5, hat5⟩ := own_AI.at V_pa (j := ((ls.getD (p1).toNatClampNeg (0 : Int32)) + p2)) (hp)
  obtain ⟨fs, hr, hrun, hended, hW, hsame⟩ := X3.leave (v := some (.int (lp.getD (((ls.getD (p1).toNatClampNeg (0 : Int32)) + p2)).toNatClampNeg (0 : Int32)))) (fun h => by rw [Bd.returns] at h; cases h)
  refine ⟨_, _, pre0 _ ?_, hrun, hended, _, _, rfl, ?_, ⟨_, rfl⟩, hW, hsame.mono (by decide) (by decide)⟩
  · show Steps p.tables e below (s₁.setTop (mkF m 0 #[.val (.ref a0), .val (.int p1), .val (.int p2)] [])) _
    refine XS.iloadN X0.here hx rfl (hb hby d12_0) rfl ?_
    refine XS.ifNo X0.here hx rfl (hb hby d12_1) rfl ((if0 _ _).trans (flt hc1).1) ?_
    refine XS.iloadN X0.here hx rfl (hb hby d12_4) rfl ?_
    refine XS.aloadN X0.here hx rfl (hb hby d12_5) rfl rfl ?_
    refine XS.iloadN X0.here hx rfl (hb hby d12_6) rfl ?_
    show Steps p.tables e below (s₁.setTop (mkF m 7 #[.val (.ref a0), .val (.int p1), .val (.int p2)] [(.int p1), (.ref a0), (.int p2)])) _
    refine st1.trans ?_
    refine XS.icmpYes X1.here hx rfl (pc0 := 10) (pc' := 32) rfl (hb hby d12_10) rfl (tlt hc10).1 (by decide) (by decide) ?_
    refine XS.aloadN X1.here hx rfl (hb hby d12_32) rfl rfl ?_
    refine st2 _ ?_
    refine XS.aloadN X2.here hx rfl (hb hby d12_36) rfl rfl ?_
    show Steps p.tables e below (T2.setTop (mkF m 37 #[.val (.ref a0), .val (.int p1), .val (.int p2)] [(.ref a0), (.ref pa)])) _
    refine st3 _ ?_
    refine XS.iloadN X3.here hx rfl (hb hby d12_40) rfl ?_
    refine X3.iaload hx (j := p1) (v := (.int (ls.getD (p1).toNatClampNeg (0 : Int32)))) (by rw [e3]; exact Ar4.1) (State.isArrayOf_alike hZ.alike Ar4.2.1) Ar4.2.2 hin4 hat4 (g := (mkF m 41 #[.val (.ref a0), .val (.int p1), .val (.int p2)] [(.int p1), (.ref sa), (.ref pa)])) rfl rfl (hb hby d12_41) _ ?_
    refine XS.iloadN X3.here hx rfl (hb hby d12_42) rfl ?_
    refine XS.iadd X3.here hx rfl (hb hby d12_43) rfl ?_
    show Steps p.tables e below (T3.setTop (mkF m 44 #[.val (.ref a0), .val (.int p1), .val (.int p2)] [(.int ((ls.getD (p1).toNatClampNeg (0 : Int32)) + p2)), (.ref pa)])) _
    refine X3.iaload hx (j := ((ls.getD (p1).toNatClampNeg (0 : Int32)) + p2)) (v := (.int (lp.getD (((ls.getD (p1).toNatClampNeg (0 : Int32)) + p2)).toNatClampNeg (0 : Int32)))) (by rw [e3]; exact Ar5.1) (State.isArrayOf_alike hZ.alike Ar5.2.1) Ar5.2.2 hin5 hat5 (g := (mkF m 44 #[.val (.ref a0), .val (.int p1), .val (.int p2)] [(.int ((ls.getD (p1).toNatClampNeg (0 : Int32)) + p2)), (.ref pa)])) rfl rfl (hb hby d12_44) _ ?_
    show Steps p.tables e below (T3.setTop (mkF m 45 #[.val (.ref a0), .val (.int p1), .val (.int p2)] [(.int (lp.getD (((ls.getD (p1).toNatClampNeg (0 : Int32)) + p2)).toNatClampNeg (0 : Int32)))])) _
    exact retI X3 hx Bd.returns (hb hby d12_45) hr
  · show Q12 Z a0 p1 p2 sa pa ks kp zs zp ls lp h0 n0 _ T3.heap _
    rw [e3]
    unfold Q12
    refine ⟨rfl, N1, rfl⟩
theorem pd_4 : parseMethodDescriptor "(IIIII[I[I[Z[I)V" = some ⟨[.int, .int, .int, .int, .int, (.array .int), (.array .int), (.array .boolean), (.array .int)], none⟩ := by decide +kernel
theorem pd_5 : parseMethodDescriptor "()V" = some ⟨[], none⟩ := by decide +kernel
theorem pd_6 : parseMethodDescriptor "(II)V" = some ⟨[.int, .int], none⟩ := by decide +kernel
theorem pd_7 : parseMethodDescriptor "()Lcom/example/whole_recall/wholerecall/index/Postings;" = some ⟨[], some (.object "com/example/whole_recall/wholerecall/index/Postings")⟩ := by decide +kernel
theorem pd_8 : parseMethodDescriptor "()I" = some ⟨[], some .int⟩ := by decide +kernel
theorem ef_0 (m : MethodId) (p0 : Int32) (p1 : Int32) (p2 : Int32) (p3 : Int32) (p4 : Int32) (p5 : Int32) : entryFrame m #[(.int p0), (.int p1), (.int p2), (.int p3), (.int p4), (.int p5)] maxLocals = mkF m 0 #[.val (.int p0), .val (.int p1), .val (.int p2), .val (.int p3), .val (.int p4), .val (.int p5), .unset, .unset, .unset, .unset, .unset, .unset, .unset, .unset, .unset, .unset, .unset] [] := by first | (simp [entryFrame, mkF, argsToLocals, Value.category, maxLocals]; done) | rfl
def own_m0_150_l11 (v0 : List Int32) (v1 : Int32) : Int32 := (if (v0.getD (v1).toNatClampNeg (0 : Int32)) = (0 : Int32) then ((v1 + (-1 : Int32))) else v1)
def own_m0_206_l12 (v0 : Int32) (v1 : List Int32) : Int32 := (if v0 < (5 : Int32) then (if (v1.getD (v0).toNatClampNeg (0 : Int32)) = (0 : Int32) then ((v0 + (1 : Int32))) else v0) else v0)
/-- how entry i of the lists follows entry j -/
def own_C (dL nL rL : List Int32) (j i : Nat) : Prop := (nL.getD i 0 = 1 ∧ ¬ dL.getD j 0 = dL.getD i 0 ∧ (rL.getD i 0).toInt = (rL.getD j 0).toInt + 1) ∨ (nL.getD i 0 = 0 ∧ dL.getD j 0 = dL.getD i 0 ∧ rL.getD i 0 = rL.getD j 0)
theorem own_01 (f t : Int32) : own_m2_23_s0 f t = 0 ∨ own_m2_23_s0 f t = 1 := by
  unfold own_m2_23_s0; split
  · exact Or.inl rfl
  · exact Or.inr rfl
theorem own_gap (x y : Int32) : ¬ x = x + (y &&& (255 : Int32)) + 1 := by
  intro h
  have m := c_mask y 255 8 (by decide) (by decide)
  have e1 : (1 : Int32).toInt = 1 := rfl
  have a := c_iadd x (y &&& 255)
  have b := c_iadd (x + (y &&& 255)) 1
  rw [← h] at b
  omega
theorem own_stepC {T f q p4 p5 : Int32} {d n r d' n' r' : List Int32} {i j : Nat} (hi : T.toNatClampNeg = i) (hj : (T - 1).toNatClampNeg = j) (hij : i ≠ j) (hd : d.length = 5) (hn : n.length = 5) (hr : r.length = 5) (h5 : i < 5) (hrg : 0 ≤ (r.getD j 0).toInt ∧ (r.getD j 0).toInt ≤ 10)
    (ed : d' = own_p2_a5 T f q d) (en : n' = own_p2_a7 T f n) (er : r' = own_p2_a8 T f r) : own_C d' n' r' j i ∧ (∀ k, k ≠ i → d'.getD k 0 = d.getD k 0 ∧ n'.getD k 0 = n.getD k 0 ∧ r'.getD k 0 = r.getD k 0) ∧ d'.length = 5 ∧ n'.length = 5 ∧ r'.length = 5 ∧ (0 ≤ (r'.getD i 0).toInt ∧ (r'.getD i 0).toInt ≤ (r.getD j 0).toInt + 1) := by
  have e1 : (1 : Int32).toInt = 1 := rfl
  have nb0 : nar .boolean (0 : Int32) = 0 := by decide
  have nb1 : nar .boolean (1 : Int32) = 1 := by decide
  have ca := c_iadd (r.getD j 0) 1
  have cr := rng32 (r.getD j 0 + 1)
  unfold own_p2_a5 at ed; unfold own_p2_a7 at en; unfold own_p2_a8 at er
  rw [hi, hj] at ed; rw [hi] at en; rw [hi, hj] at er
  rcases own_01 f T with z | z
  · rw [if_pos z] at ed er; rw [z, nb0] at en
    subst ed en er
    refine ⟨Or.inr ⟨own_sets _ _ _ (by omega), ?_, ?_⟩, fun k hk => ⟨own_seto _ _ _ _ (Ne.symm hk), own_seto _ _ _ _ (Ne.symm hk), own_seto _ _ _ _ (Ne.symm hk)⟩, by rw [List.length_set]; exact hd, by rw [List.length_set]; exact hn, by rw [List.length_set]; exact hr, ?_⟩
    · rw [own_sets _ _ _ (by omega), own_seto _ _ _ _ hij]
    · rw [own_sets _ _ _ (by omega), own_seto _ _ _ _ hij]
    · rw [own_sets _ _ _ (by omega)]; omega
  · have z' : ¬ own_m2_23_s0 f T = 0 := by rw [z]; decide
    rw [if_neg z'] at ed er; rw [z, nb1] at en
    subst ed en er
    refine ⟨Or.inl ⟨own_sets _ _ _ (by omega), ?_, ?_⟩, fun k hk => ⟨own_seto _ _ _ _ (Ne.symm hk), own_seto _ _ _ _ (Ne.symm hk), own_seto _ _ _ _ (Ne.symm hk)⟩, by rw [List.length_set]; exact hd, by rw [List.length_set]; exact hn, by rw [List.length_set]; exact hr, ?_⟩
    · rw [own_sets _ _ _ (by omega), own_seto _ _ _ _ hij]; exact own_gap _ _
    · rw [own_sets _ _ _ (by omega), own_seto _ _ _ _ hij]; omega
    · rw [own_sets _ _ _ (by omega)]; omega
theorem own_Cmove {d n r d' n' r' : List Int32} {j i : Nat} (C : own_C d n r j i) (hj : d'.getD j 0 = d.getD j 0 ∧ n'.getD j 0 = n.getD j 0 ∧ r'.getD j 0 = r.getD j 0) (hi : d'.getD i 0 = d.getD i 0 ∧ n'.getD i 0 = n.getD i 0 ∧ r'.getD i 0 = r.getD i 0) : own_C d' n' r' j i := by
  unfold own_C; rw [hj.1, hi.1, hi.2.1, hi.2.2, hj.2.2]; exact C
/-- the four steps -/
abbrev own_Ls (dL nL rL : List Int32) : Prop := (∀ j, j < 4 → own_C dL nL rL j (j + 1)) ∧ (nL.getD 0 0 = 1) ∧ ((rL.getD 0 0).toInt = 0)
theorem own_Ls.c {dL nL rL : List Int32} (hyp : own_Ls dL nL rL) : ∀ j, j < 4 → own_C dL nL rL j (j + 1) := hyp.1
theorem own_Ls.n0 {dL nL rL : List Int32} (hyp : own_Ls dL nL rL) : nL.getD 0 0 = 1 := hyp.2.1
theorem own_Ls.r0 {dL nL rL : List Int32} (hyp : own_Ls dL nL rL) : (rL.getD 0 0).toInt = 0 := hyp.2.2
theorem own_steps {f q v : Int32} {d0 n0 r0 d1 n1 r1 d2 n2 r2 d3 n3 r3 d4 n4 r4 : List Int32} (hd : d0 = (List.replicate 5 (0 : Int32)).set 0 v) (hn : n0 = (List.replicate 5 (0 : Int32)).set 0 1) (hr : r0 = (List.replicate 5 (0 : Int32)).set 0 0)
    (a1 : d1 = own_p2_a5 1 f q d0) (b1 : n1 = own_p2_a7 1 f n0) (c1 : r1 = own_p2_a8 1 f r0) (a2 : d2 = own_p2_a5 2 f q d1) (b2 : n2 = own_p2_a7 2 f n1) (c2 : r2 = own_p2_a8 2 f r1)
    (a3 : d3 = own_p2_a5 3 f q d2) (b3 : n3 = own_p2_a7 3 f n2) (c3 : r3 = own_p2_a8 3 f r2) (a4 : d4 = own_p2_a5 4 f q d3) (b4 : n4 = own_p2_a7 4 f n3) (c4 : r4 = own_p2_a8 4 f r3) : own_Ls d4 n4 r4 := by
  have ld : d0.length = 5 := by rw [hd]; rfl
  have ln : n0.length = 5 := by rw [hn]; rfl
  have lr : r0.length = 5 := by rw [hr]; rfl
  have z0 : (r0.getD 0 0).toInt = 0 := by rw [hr]; rfl
  have y0 : n0.getD 0 0 = 1 := by rw [hn]; rfl
  obtain ⟨C1, K1, ld, ln, lr, R1⟩ := own_stepC (p4 := 0) (p5 := 0) (i := 1) (j := 0) (by decide) (by decide) (by decide) ld ln lr (by decide) (by omega) a1 b1 c1
  obtain ⟨C2, K2, ld, ln, lr, R2⟩ := own_stepC (p4 := 0) (p5 := 0) (i := 2) (j := 1) (by decide) (by decide) (by decide) ld ln lr (by decide) (by omega) a2 b2 c2
  obtain ⟨C3, K3, ld, ln, lr, R3⟩ := own_stepC (p4 := 0) (p5 := 0) (i := 3) (j := 2) (by decide) (by decide) (by decide) ld ln lr (by decide) (by omega) a3 b3 c3
  obtain ⟨C4, K4, ld, ln, lr, R4⟩ := own_stepC (p4 := 0) (p5 := 0) (i := 4) (j := 3) (by decide) (by decide) (by decide) ld ln lr (by decide) (by omega) a4 b4 c4
  have C1 := own_Cmove (own_Cmove (own_Cmove C1 (K2 0 (by decide)) (K2 1 (by decide))) (K3 0 (by decide)) (K3 1 (by decide))) (K4 0 (by decide)) (K4 1 (by decide))
  have C2 := own_Cmove (own_Cmove C2 (K3 1 (by decide)) (K3 2 (by decide))) (K4 1 (by decide)) (K4 2 (by decide))
  have C3 := own_Cmove C3 (K4 2 (by decide)) (K4 3 (by decide))
  refine ⟨fun j hj => ?_, ?_, ?_⟩
  · match j, hj with
    | 0, _ => exact C1
    | 1, _ => exact C2
    | 2, _ => exact C3
    | 3, _ => exact C4
  · rw [(K4 0 (by decide)).2.1, (K3 0 (by decide)).2.1, (K2 0 (by decide)).2.1, (K1 0 (by decide)).2.1]; exact y0
  · rw [(K4 0 (by decide)).2.2, (K3 0 (by decide)).2.2, (K2 0 (by decide)).2.2, (K1 0 (by decide)).2.2]; exact z0
/-- ranks -/
theorem own_Ls.rk {d n r : List Int32} (H : own_Ls d n r) : ∀ j, j < 5 → 0 ≤ (r.getD j 0).toInt ∧ (r.getD j 0).toInt ≤ j
  | 0, _ => by rw [H.r0]; exact ⟨by decide, by decide⟩
  | j + 1, h => by
    have q := H.rk j (by omega)
    rcases H.c j (by omega) with ⟨-, -, e⟩ | ⟨-, -, e⟩
    · rw [e]; omega
    · rw [e]; omega
theorem own_Ls.up {d n r : List Int32} (H : own_Ls d n r) (i : Nat) : ∀ j, i ≤ j → j < 5 → (r.getD i 0).toInt ≤ (r.getD j 0).toInt
  | 0, hij, _ => by rw [Nat.le_zero.mp hij]; exact Int.le_refl _
  | j + 1, hij, h => by
    by_cases e : i = j + 1
    · rw [e]; exact Int.le_refl _
    · have q := H.up i j (by omega) (by omega)
      rcases H.c j (by omega) with ⟨-, -, e⟩ | ⟨-, -, e⟩
      · rw [e]; omega
      · rw [e]; exact q
/-- what an add leaves -/
abbrev own_S (sz zd zs zp : Int32) (ld ls lp : List Int32) (d p : Int32) (sz' zd' zs' zp' : Int32) (ld' ls' lp' : List Int32) : Prop := ((zd'.toInt = 2 ∨ zd'.toInt = 4 ∨ zd'.toInt = 8) ∧ zs'.toInt = zd'.toInt + 1 ∧ 0 ≤ sz'.toInt ∧ sz'.toInt ≤ zd'.toInt ∧ (zp'.toInt = 4 ∨ zp'.toInt = 8) ∧ zd'.toNatClampNeg ≤ ld'.length ∧ zs'.toNatClampNeg ≤ ls'.length ∧ zp'.toNatClampNeg ≤ lp'.length) ∧ ((ls'.getD sz'.toNatClampNeg 0).toInt = (ls.getD sz.toNatClampNeg 0).toInt + 1) ∧ ((sz = 0 ∨ ¬ ld.getD (sz - 1).toNatClampNeg 0 = d) → sz'.toInt = sz.toInt + 1 ∧ ld'.getD sz.toNatClampNeg 0 = d ∧ ls'.getD sz.toNatClampNeg 0 = ls.getD sz.toNatClampNeg 0) ∧ (¬ sz = 0 → ld.getD (sz - 1).toNatClampNeg 0 = d → sz' = sz) ∧ (∀ i, i < sz.toNatClampNeg → ld'.getD i 0 = ld.getD i 0 ∧ ls'.getD i 0 = ls.getD i 0) ∧ ((ls.getD sz.toNatClampNeg 0).toInt + 1 ≤ zp'.toInt) ∧ (lp'.getD (ls.getD sz.toNatClampNeg 0).toNatClampNeg 0 = p ∧ ∀ i, i < (ls.getD sz.toNatClampNeg 0).toNatClampNeg → lp'.getD i 0 = lp.getD i 0)
theorem own_S.sh {sz zd zs zp : Int32} {ld ls lp : List Int32} {d p : Int32} {sz' zd' zs' zp' : Int32} {ld' ls' lp' : List Int32} (hyp : own_S sz zd zs zp ld ls lp d p sz' zd' zs' zp' ld' ls' lp') : (zd'.toInt = 2 ∨ zd'.toInt = 4 ∨ zd'.toInt = 8) ∧ zs'.toInt = zd'.toInt + 1 ∧ 0 ≤ sz'.toInt ∧ sz'.toInt ≤ zd'.toInt ∧ (zp'.toInt = 4 ∨ zp'.toInt = 8) ∧ zd'.toNatClampNeg ≤ ld'.length ∧ zs'.toNatClampNeg ≤ ls'.length ∧ zp'.toNatClampNeg ≤ lp'.length := hyp.1
theorem own_S.e {sz zd zs zp : Int32} {ld ls lp : List Int32} {d p : Int32} {sz' zd' zs' zp' : Int32} {ld' ls' lp' : List Int32} (hyp : own_S sz zd zs zp ld ls lp d p sz' zd' zs' zp' ld' ls' lp') : (ls'.getD sz'.toNatClampNeg 0).toInt = (ls.getD sz.toNatClampNeg 0).toInt + 1 := hyp.2.1
theorem own_S.nw {sz zd zs zp : Int32} {ld ls lp : List Int32} {d p : Int32} {sz' zd' zs' zp' : Int32} {ld' ls' lp' : List Int32} (hyp : own_S sz zd zs zp ld ls lp d p sz' zd' zs' zp' ld' ls' lp') : (sz = 0 ∨ ¬ ld.getD (sz - 1).toNatClampNeg 0 = d) → sz'.toInt = sz.toInt + 1 ∧ ld'.getD sz.toNatClampNeg 0 = d ∧ ls'.getD sz.toNatClampNeg 0 = ls.getD sz.toNatClampNeg 0 := hyp.2.2.1
theorem own_S.sm {sz zd zs zp : Int32} {ld ls lp : List Int32} {d p : Int32} {sz' zd' zs' zp' : Int32} {ld' ls' lp' : List Int32} (hyp : own_S sz zd zs zp ld ls lp d p sz' zd' zs' zp' ld' ls' lp') : ¬ sz = 0 → ld.getD (sz - 1).toNatClampNeg 0 = d → sz' = sz := hyp.2.2.2.1
theorem own_S.lo {sz zd zs zp : Int32} {ld ls lp : List Int32} {d p : Int32} {sz' zd' zs' zp' : Int32} {ld' ls' lp' : List Int32} (hyp : own_S sz zd zs zp ld ls lp d p sz' zd' zs' zp' ld' ls' lp') : ∀ i, i < sz.toNatClampNeg → ld'.getD i 0 = ld.getD i 0 ∧ ls'.getD i 0 = ls.getD i 0 := hyp.2.2.2.2.1
theorem own_S.zp {sz zd zs zp : Int32} {ld ls lp : List Int32} {d p : Int32} {sz' zd' zs' zp' : Int32} {ld' ls' lp' : List Int32} (hyp : own_S sz zd zs zp ld ls lp d p sz' zd' zs' zp' ld' ls' lp') : (ls.getD sz.toNatClampNeg 0).toInt + 1 ≤ zp'.toInt := hyp.2.2.2.2.2.1
theorem own_S.pos {sz zd zs zp : Int32} {ld ls lp : List Int32} {d p : Int32} {sz' zd' zs' zp' : Int32} {ld' ls' lp' : List Int32} (hyp : own_S sz zd zs zp ld ls lp d p sz' zd' zs' zp' ld' ls' lp') : lp'.getD (ls.getD sz.toNatClampNeg 0).toNatClampNeg 0 = p ∧ ∀ i, i < (ls.getD sz.toNatClampNeg 0).toNatClampNeg → lp'.getD i 0 = lp.getD i 0 := hyp.2.2.2.2.2.2
theorem own_pos {sz zd zs zp e p zp' : Int32} {ld ls lp lp' : List Int32} (hI : own_I sz zd zs zp ld ls lp) (he : e = ls.getD sz.toNatClampNeg 0) (hz : zp' = if e = zp then e * 2 else zp) (hl : lp' = if e = zp then (own_cp lp zp (e * 2)).set e.toNatClampNeg p else lp.set e.toNatClampNeg p) :
    (zp'.toInt = 4 ∨ zp'.toInt = 8) ∧ zp'.toNatClampNeg ≤ lp'.length ∧ e.toInt + 1 ≤ zp'.toInt ∧ lp'.getD e.toNatClampNeg 0 = p ∧ ∀ i, i < e.toNatClampNeg → lp'.getD i 0 = lp.getD i 0 := by
  have b := own_eb hI he
  have c := own_x2 b
  obtain ⟨i1, i2, i3, i4, i5, i6, i7, i8, i9, i10, i11⟩ := hI
  have t1 := own_tn2 (y := e) (by omega)
  have t2 := own_tn2 (y := zp) (by omega)
  have t3 := own_tn2 (y := e * 2) (by omega)
  by_cases k : e = zp
  · rw [if_pos k] at hz hl
    subst hz hl
    rw [(own_ty _ _).2] at k
    refine ⟨by omega, by rw [List.length_set, own_cp_len]; exact Nat.le_refl _, by omega, own_sets _ _ _ (by rw [own_cp_len]; omega), fun i hi => ?_⟩
    rw [own_seto _ _ _ _ (by omega), own_cp_get, if_pos (by omega)]
  · rw [if_neg k] at hz hl
    subst hz hl
    rw [(own_ty _ _).2] at k
    exact ⟨i6, by rw [List.length_set]; exact i11, by omega, own_sets _ _ _ (by omega), fun i hi => own_seto _ _ _ _ (by omega)⟩
theorem own_addS {sz zd zs zp d p sz' zd' zs' zp' : Int32} {ld ls lp ld' ls' lp' : List Int32} (hI : own_I sz zd zs zp ld ls lp) (h1 : sz' = own_p5_size d ld sz) (h2 : zd' = own_z5_db d zd zs ld sz) (h3 : ld' = own_p5_db d zd zs ld sz) (h4 : zs' = own_z5_sb d zs ld sz) (h5 : ls' = own_p5_sb d zs ld ls sz) (h6 : zp' = own_z5_pb d zs zp ld ls sz) (h7 : lp' = own_p5_pb d p zs zp ld ls lp sz) :
    own_S sz zd zs zp ld ls lp d p sz' zd' zs' zp' ld' ls' lp' := by
  obtain ⟨a1, a2, a3, a4, a5, a6, a7, a8⟩ := own_arith hI
  have hI0 := hI
  obtain ⟨i1, i2, i3, i4, i5, i6, i7, i8, i9, i10, i11⟩ := hI0
  have t0 := own_tn2 (y := sz) (by omega)
  have t1 := own_tn2 (y := sz + 1) (by omega)
  have t2 := own_tn2 (y := zs) (by omega)
  have t3 := own_tn2 (y := zd) (by omega)
  have t4 := own_tn2 (y := sz * 2) (by omega)
  have t5 := own_tn2 (y := sz * 2 + 1) (by omega)
  have ce := own_x2 (own_eb hI (x := ls.getD sz.toNatClampNeg 0) rfl)
  unfold own_p5_size at h1; unfold own_z5_db at h2; unfold own_p5_db at h3; unfold own_z5_sb at h4; unfold own_p5_sb at h5; unfold own_z5_pb at h6; unfold own_p5_pb at h7
  -- the new entry, no growth
  have newN : ∀ (hg : ¬ sz + 1 = zs), (sz = 0 ∨ ¬ ld.getD (sz - 1).toNatClampNeg 0 = d) → sz' = sz + 1 → zd' = zd → ld' = ld.set sz.toNatClampNeg d → zs' = zs → ls' = (ls.set (sz + 1).toNatClampNeg (ls.getD sz.toNatClampNeg 0)).set (sz + 1).toNatClampNeg ((ls.set (sz + 1).toNatClampNeg (ls.getD sz.toNatClampNeg 0)).getD (sz + 1).toNatClampNeg 0 + 1) →
      (zp' = if (ls.set (sz + 1).toNatClampNeg (ls.getD sz.toNatClampNeg 0)).getD (sz + 1).toNatClampNeg 0 = zp then (ls.set (sz + 1).toNatClampNeg (ls.getD sz.toNatClampNeg 0)).getD (sz + 1).toNatClampNeg 0 * 2 else zp) →
      (lp' = if (ls.set (sz + 1).toNatClampNeg (ls.getD sz.toNatClampNeg 0)).getD (sz + 1).toNatClampNeg 0 = zp then (own_cp lp zp ((ls.set (sz + 1).toNatClampNeg (ls.getD sz.toNatClampNeg 0)).getD (sz + 1).toNatClampNeg 0 * 2)).set ((ls.set (sz + 1).toNatClampNeg (ls.getD sz.toNatClampNeg 0)).getD (sz + 1).toNatClampNeg 0).toNatClampNeg p else lp.set ((ls.set (sz + 1).toNatClampNeg (ls.getD sz.toNatClampNeg 0)).getD (sz + 1).toNatClampNeg 0).toNatClampNeg p) →
      own_S sz zd zs zp ld ls lp d p sz' zd' zs' zp' ld' ls' lp' := by
    intro hg hw e1 e2 e3 e4 e5 e6 e7
    rw [own_xN hI hg] at e5 e6 e7
    obtain ⟨p1, p2, p5, p3, p4⟩ := own_pos hI rfl e6 e7
    have b := own_i101 hI hg
    rw [(own_ty _ _).1, (own_ty _ _).1] at b
    subst e1 e2 e3 e4 e5
    refine ⟨⟨i3, i4, by omega, by omega, p1, by rw [List.length_set]; exact i9, by rw [List.length_set, List.length_set]; exact i10, p2⟩, ?_, fun _ => ⟨a2, own_sets _ _ _ (by omega), ?_⟩, fun n0 s0 => ?_, fun i hi => ⟨own_seto _ _ _ _ (by omega), ?_⟩, p5, p3, p4⟩
    · rw [own_sets _ _ _ (by rw [List.length_set]; omega)]; exact ce.2
    · rw [own_seto _ _ _ _ (by omega), own_seto _ _ _ _ (by omega)]
    · rcases hw with hw | hw
      · exact absurd hw n0
      · exact absurd s0 hw
    · rw [own_seto _ _ _ _ (by omega), own_seto _ _ _ _ (by omega)]
  by_cases z0 : sz = 0
  · have hg := own_i33 hI z0
    simp only [if_pos z0] at h1 h2 h3 h4 h5 h6 h7
    exact newN hg (Or.inl z0) h1 h2 h3 h4 h5 h6 h7
  by_cases sd : ld.getD (sz - 1).toNatClampNeg 0 = d
  · simp only [if_neg z0, if_pos sd] at h1 h2 h3 h4 h5 h6 h7
    obtain ⟨p1, p2, p5, p3, p4⟩ := own_pos hI rfl h6 h7
    subst h1 h2 h3 h4 h5
    refine ⟨⟨i3, i4, i1, i5, p1, i9, by rw [List.length_set]; exact i10, p2⟩, ?_, fun hw => ?_, fun _ _ => rfl, fun i hi => ⟨rfl, own_seto _ _ _ _ (by omega)⟩, p5, p3, p4⟩
    · rw [own_sets _ _ _ (by omega)]; exact ce.2
    · rcases hw with hw | hw
      · exact absurd hw z0
      · exact absurd sd hw
  by_cases hg : sz + 1 = zs
  · simp only [if_neg z0, if_neg sd, if_pos hg] at h1 h2 h3 h4 h5 h6 h7
    rw [own_xG hI hg] at h5 h6 h7
    obtain ⟨p1, p2, p5, p3, p4⟩ := own_pos hI rfl h6 h7
    have hg' := hg
    rw [(own_ty _ _).2] at hg'
    subst h1 h2 h3 h4 h5
    refine ⟨⟨by omega, by omega, by omega, by omega, p1, by rw [List.length_set, own_cp_len]; exact Nat.le_refl _, by rw [List.length_set, List.length_set, own_cp_len]; exact Nat.le_refl _, p2⟩, ?_, fun _ => ⟨a2, own_sets _ _ _ (by rw [own_cp_len]; omega), ?_⟩, fun _ s0 => absurd s0 sd, fun i hi => ⟨?_, ?_⟩, p5, p3, p4⟩
    · rw [own_sets _ _ _ (by rw [List.length_set, own_cp_len]; omega)]; exact ce.2
    · rw [own_seto _ _ _ _ (by omega), own_seto _ _ _ _ (by omega), own_cp_get, if_pos (by omega)]
    · rw [own_seto _ _ _ _ (by omega), own_cp_get, if_pos (by omega)]
    · rw [own_seto _ _ _ _ (by omega), own_seto _ _ _ _ (by omega), own_cp_get, if_pos (by omega)]
  · simp only [if_neg z0, if_neg sd, if_neg hg] at h1 h2 h3 h4 h5 h6 h7
    exact newN hg (Or.inr sd) h1 h2 h3 h4 h5 h6 h7
/-- the builder holds the first t occurrences -/
abbrev own_Rel (t : Nat) (dL pL nL rL : List Int32) (sz zd zs zp : Int32) (ld ls lp : List Int32) : Prop := ((zd.toInt = 2 ∨ zd.toInt = 4 ∨ zd.toInt = 8) ∧ zs.toInt = zd.toInt + 1 ∧ 0 ≤ sz.toInt ∧ sz.toInt ≤ zd.toInt ∧ (zp.toInt = 4 ∨ zp.toInt = 8) ∧ zd.toNatClampNeg ≤ ld.length ∧ zs.toNatClampNeg ≤ ls.length ∧ zp.toNatClampNeg ≤ lp.length) ∧ (0 < t → sz.toInt = (rL.getD (t - 1) 0).toInt + 1) ∧ (t = 0 → sz = 0) ∧ (∀ j, j < t → ld.getD (rL.getD j 0).toNatClampNeg 0 = dL.getD j 0) ∧ (∀ j, j < t → lp.getD j 0 = pL.getD j 0) ∧ (∀ j, j < t → nL.getD j 0 = 1 → (ls.getD (rL.getD j 0).toNatClampNeg 0).toInt = j) ∧ ((ls.getD sz.toNatClampNeg 0).toInt = t) ∧ ((t : Int) ≤ zp.toInt)
theorem own_Rel.sh {t : Nat} {dL pL nL rL : List Int32} {sz zd zs zp : Int32} {ld ls lp : List Int32} (hyp : own_Rel t dL pL nL rL sz zd zs zp ld ls lp) : (zd.toInt = 2 ∨ zd.toInt = 4 ∨ zd.toInt = 8) ∧ zs.toInt = zd.toInt + 1 ∧ 0 ≤ sz.toInt ∧ sz.toInt ≤ zd.toInt ∧ (zp.toInt = 4 ∨ zp.toInt = 8) ∧ zd.toNatClampNeg ≤ ld.length ∧ zs.toNatClampNeg ≤ ls.length ∧ zp.toNatClampNeg ≤ lp.length := hyp.1
theorem own_Rel.s {t : Nat} {dL pL nL rL : List Int32} {sz zd zs zp : Int32} {ld ls lp : List Int32} (hyp : own_Rel t dL pL nL rL sz zd zs zp ld ls lp) : 0 < t → sz.toInt = (rL.getD (t - 1) 0).toInt + 1 := hyp.2.1
theorem own_Rel.s0 {t : Nat} {dL pL nL rL : List Int32} {sz zd zs zp : Int32} {ld ls lp : List Int32} (hyp : own_Rel t dL pL nL rL sz zd zs zp ld ls lp) : t = 0 → sz = 0 := hyp.2.2.1
theorem own_Rel.d {t : Nat} {dL pL nL rL : List Int32} {sz zd zs zp : Int32} {ld ls lp : List Int32} (hyp : own_Rel t dL pL nL rL sz zd zs zp ld ls lp) : ∀ j, j < t → ld.getD (rL.getD j 0).toNatClampNeg 0 = dL.getD j 0 := hyp.2.2.2.1
theorem own_Rel.p {t : Nat} {dL pL nL rL : List Int32} {sz zd zs zp : Int32} {ld ls lp : List Int32} (hyp : own_Rel t dL pL nL rL sz zd zs zp ld ls lp) : ∀ j, j < t → lp.getD j 0 = pL.getD j 0 := hyp.2.2.2.2.1
theorem own_Rel.st {t : Nat} {dL pL nL rL : List Int32} {sz zd zs zp : Int32} {ld ls lp : List Int32} (hyp : own_Rel t dL pL nL rL sz zd zs zp ld ls lp) : ∀ j, j < t → nL.getD j 0 = 1 → (ls.getD (rL.getD j 0).toNatClampNeg 0).toInt = j := hyp.2.2.2.2.2.1
theorem own_Rel.e {t : Nat} {dL pL nL rL : List Int32} {sz zd zs zp : Int32} {ld ls lp : List Int32} (hyp : own_Rel t dL pL nL rL sz zd zs zp ld ls lp) : (ls.getD sz.toNatClampNeg 0).toInt = t := hyp.2.2.2.2.2.2.1
theorem own_Rel.z {t : Nat} {dL pL nL rL : List Int32} {sz zd zs zp : Int32} {ld ls lp : List Int32} (hyp : own_Rel t dL pL nL rL sz zd zs zp ld ls lp) : (t : Int) ≤ zp.toInt := hyp.2.2.2.2.2.2.2
theorem own_Rel.I {t : Nat} {dL pL nL rL : List Int32} {sz zd zs zp : Int32} {ld ls lp : List Int32} (H : own_Ls dL nL rL) (ht : t ≤ 4) (Q : own_Rel t dL pL nL rL sz zd zs zp ld ls lp) : own_I sz zd zs zp ld ls lp := by
  obtain ⟨q1, q2, q3, q4, q5, q6, q7, q8⟩ := Q.sh
  have e := Q.e
  refine ⟨q3, ?_, q1, q2, q4, q5, by omega, by omega, q6, q7, q8⟩
  by_cases z : t = 0
  · rw [Q.s0 z]; decide
  · rw [Q.s (by omega)]; have := H.rk (t - 1) (by omega); omega
theorem own_Rel.next {t : Nat} {dL pL nL rL : List Int32} {sz zd zs zp sz' zd' zs' zp' : Int32} {ld ls lp ld' ls' lp' : List Int32} (H : own_Ls dL nL rL) (ht : t ≤ 4) (Q : own_Rel t dL pL nL rL sz zd zs zp ld ls lp)
    (S : own_S sz zd zs zp ld ls lp (dL.getD t 0) (pL.getD t 0) sz' zd' zs' zp' ld' ls' lp') : own_Rel (t + 1) dL pL nL rL sz' zd' zs' zp' ld' ls' lp' := by
  have hI := Q.I H ht
  have e := Q.e
  have ar := own_arith hI
  obtain ⟨q1, q2, q3, q4, q5, q6, q7, q8⟩ := Q.sh
  have ts := own_tn2 (y := sz) q3
  have te := own_tn2 (y := ls.getD sz.toNatClampNeg 0) (by omega)
  have hp : ∀ j, j < t + 1 → lp'.getD j 0 = pL.getD j 0 := fun j hj => by
    by_cases z : j = t
    · subst z; rw [← S.pos.1]; congr 1; omega
    · rw [S.pos.2 j (by omega)]; exact Q.p j (by omega)
  have ee : (ls'.getD sz'.toNatClampNeg 0).toInt = (t + 1 : Nat) := by rw [S.e, e]; rfl
  have ez : ((t + 1 : Nat) : Int) ≤ zp'.toInt := by have := S.zp; rw [e] at this; exact this
  have rt := H.rk t (by omega)
  have trt := own_tn2 (y := rL.getD t 0) rt.1
  -- the rank of the last one
  by_cases z : t = 0
  · have z0 := Q.s0 z
    obtain ⟨w1, w2, w3⟩ := S.nw (Or.inl z0)
    have r0 := H.r0
    have sz0 : sz.toInt = 0 := by rw [z0]; rfl
    subst z
    have tr : (rL.getD 0 0).toNatClampNeg = sz.toNatClampNeg := by omega
    refine ⟨S.sh, fun _ => by rw [w1]; show _ = (rL.getD 0 0).toInt + 1; omega, fun h => absurd h (by omega), fun j hj => ?_, hp, fun j hj _ => ?_, ee, ez⟩
    · obtain rfl : j = 0 := by omega
      rw [tr]; exact w2
    · obtain rfl : j = 0 := by omega
      rw [tr, w3, e]
  · have hs := Q.s (by omega)
    have rp := H.rk (t - 1) (by omega)
    have tp := own_tn2 (y := rL.getD (t - 1) 0) rp.1
    have tm := own_tn2 (y := sz - 1) (by omega)
    have old : ld.getD (sz - 1).toNatClampNeg 0 = dL.getD (t - 1) 0 := by
      rw [← Q.d (t - 1) (by omega)]; congr 1; omega
    have below : ∀ j, j < t → (rL.getD j 0).toNatClampNeg < sz.toNatClampNeg := fun j hj => by
      have a := H.up j (t - 1) (by omega) (by omega)
      have b := H.rk j (by omega)
      have c := own_tn2 (y := rL.getD j 0) b.1
      omega
    have C := H.c (t - 1) (by omega)
    rw [show t - 1 + 1 = t by omega] at C
    have n0 : ¬ sz = 0 := fun k => by rw [k] at hs; have : (0 : Int32).toInt = 0 := rfl; omega
    rcases C with ⟨c1, c2, c3⟩ | ⟨c1, c2, c3⟩
    · obtain ⟨w1, w2, w3⟩ := S.nw (Or.inr (by rw [old]; exact c2))
      have tr : (rL.getD t 0).toNatClampNeg = sz.toNatClampNeg := by omega
      refine ⟨S.sh, fun _ => by rw [w1]; show _ = (rL.getD t 0).toInt + 1; omega, fun h => absurd h (by omega), fun j hj => ?_, hp, fun j hj hn => ?_, ee, ez⟩
      · by_cases k : j = t
        · subst k; rw [tr]; exact w2
        · rw [(S.lo _ (below j (by omega))).1]; exact Q.d j (by omega)
      · by_cases k : j = t
        · subst k; rw [tr, w3, e]
        · rw [(S.lo _ (below j (by omega))).2]; exact Q.st j (by omega) hn
    · have w := S.sm n0 (by rw [old]; exact c2)
      refine ⟨S.sh, fun _ => by rw [w]; show _ = (rL.getD t 0).toInt + 1; rw [c3]; exact hs, fun h => absurd h (by omega), fun j hj => ?_, hp, fun j hj hn => ?_, ee, ez⟩
      · by_cases k : j = t
        · subst k; rw [c3, (S.lo _ (below (j - 1) (by omega))).1, Q.d (j - 1) (by omega)]; exact c2
        · rw [(S.lo _ (below j (by omega))).1]; exact Q.d j (by omega)
      · by_cases k : j = t
        · subst k; rw [c1] at hn; exact absurd hn (by decide)
        · rw [(S.lo _ (below j (by omega))).2]; exact Q.st j (by omega) hn
theorem own_Rel.J {dL pL nL rL : List Int32} {sz zd zs zp : Int32} {ld ls lp : List Int32} (H : own_Ls dL nL rL) (Q : own_Rel 5 dL pL nL rL sz zd zs zp ld ls lp) : own_J sz zd zs zp ld ls lp := by
  obtain ⟨q1, q2, q3, q4, q5, q6, q7, q8⟩ := Q.sh
  have a := Q.s (by decide)
  have b := H.rk 4 (by decide)
  exact ⟨q3, by rw [a]; show (rL.getD 4 0).toInt + 1 ≤ 5; omega, q2, q4, by omega, Q.e⟩
theorem own_Rel.zero {dL pL nL rL a b c : List Int32} (ha : a = List.replicate 2 (0 : Int32)) (hb : b = List.replicate 3 (0 : Int32)) (hc : c = List.replicate 4 (0 : Int32)) : own_Rel 0 dL pL nL rL 0 2 3 4 a b c := by
  subst ha hb hc
  exact ⟨by decide, fun h => absurd h (by decide), fun _ => rfl, fun _ h => absurd h (by omega), fun _ h => absurd h (by omega), fun _ h => absurd h (by omega), rfl, by decide⟩
theorem own_k {x f : Int32} (h : x = ((f).toUInt32 >>> ((4 : Int32) &&& 31).toUInt32).toInt32 % (5 : Int32)) : 0 ≤ x.toInt ∧ x.toInt ≤ 4 := by
  have a := c_iushr f 4 4 (by decide) (by decide)
  have b := (c_irem ((f).toUInt32 >>> ((4 : Int32) &&& 31).toUInt32).toInt32 5 5 rfl).1 (by omega)
  rw [← h] at b; omega
/-- a place within the five -/
theorem own_in5 {x : Int32} (h : 0 ≤ x.toInt ∧ x.toInt ≤ 4) : ¬ x < (0 : Int32) ∧ x < (5 : Int32) := by
  have e5 : (5 : Int32).toInt = 5 := rfl
  have e0 : (0 : Int32).toInt = 0 := rfl
  simp only [(own_ty _ _).1]; omega
/-- going back to the start of the group -/
abbrev own_B (nL rL : List Int32) (k s : Int32) (j : Int) : Prop := (0 ≤ s.toInt) ∧ (s.toInt ≤ k.toInt) ∧ (rL.getD s.toNatClampNeg 0 = rL.getD k.toNatClampNeg 0) ∧ (nL.getD s.toNatClampNeg 0 = 1 ∨ s.toInt = k.toInt - j)
theorem own_B.lo {nL rL : List Int32} {k s : Int32} {j : Int} (hyp : own_B nL rL k s j) : 0 ≤ s.toInt := hyp.1
theorem own_B.hi {nL rL : List Int32} {k s : Int32} {j : Int} (hyp : own_B nL rL k s j) : s.toInt ≤ k.toInt := hyp.2.1
theorem own_B.r {nL rL : List Int32} {k s : Int32} {j : Int} (hyp : own_B nL rL k s j) : rL.getD s.toNatClampNeg 0 = rL.getD k.toNatClampNeg 0 := hyp.2.2.1
theorem own_B.n {nL rL : List Int32} {k s : Int32} {j : Int} (hyp : own_B nL rL k s j) : nL.getD s.toNatClampNeg 0 = 1 ∨ s.toInt = k.toInt - j := hyp.2.2.2
theorem own_n01 {dL nL rL : List Int32} (H : own_Ls dL nL rL) (i : Nat) (h : i < 5) : nL.getD i 0 = 1 ∨ nL.getD i 0 = 0 := by
  match i, h with
  | 0, _ => exact Or.inl H.n0
  | j + 1, h => rcases H.c j (by omega) with ⟨a, -⟩ | ⟨a, -⟩; exact Or.inl a; exact Or.inr a
theorem own_B.start {nL rL : List Int32} {k : Int32} (hk : 0 ≤ k.toInt) : own_B nL rL k k 0 := ⟨hk, Int.le_refl _, rfl, Or.inr (by omega)⟩
theorem own_B.next {dL nL rL : List Int32} {k s s' : Int32} {j : Int} (H : own_Ls dL nL rL) (hk : k.toInt ≤ 4) (B : own_B nL rL k s j) (e : s' = own_m0_150_l11 nL s) : own_B nL rL k s' (j + 1) := by
  obtain ⟨b1, b2, b3, b4⟩ := B
  unfold own_m0_150_l11 at e
  have ts := own_tn2 (y := s) b1
  by_cases z : nL.getD s.toNatClampNeg 0 = 0
  · rw [if_pos z] at e
    have n0 : ¬ s.toNatClampNeg = 0 := fun q => by rw [q, H.n0] at z; exact absurd z (by decide)
    have em : (-1 : Int32).toInt = -1 := rfl
    have c := c_iadd s (-1); rw [← e, em] at c
    have rg := rng32 s'
    have t' := own_tn2 (y := s') (by omega)
    have cc := H.c (s.toNatClampNeg - 1) (by omega)
    rw [show s.toNatClampNeg - 1 + 1 = s.toNatClampNeg by omega] at cc
    have idx : s'.toNatClampNeg = s.toNatClampNeg - 1 := by omega
    refine ⟨by omega, by omega, ?_, ?_⟩
    · rw [idx]
      rcases cc with ⟨q, -⟩ | ⟨-, -, q⟩
      · rw [z] at q; exact absurd q (by decide)
      · rw [← q]; exact b3
    · rcases b4 with q | q
      · rw [z] at q; exact absurd q (by decide)
      · exact Or.inr (by omega)
  · rw [if_neg z] at e; subst e
    exact ⟨b1, b2, b3, Or.inl ((own_n01 H _ (by omega)).resolve_right z)⟩
theorem own_B.in5 {nL rL : List Int32} {k s : Int32} {j : Int} (hk : k.toInt ≤ 4) (B : own_B nL rL k s j) : ¬ s < (0 : Int32) ∧ s < (5 : Int32) := own_in5 ⟨B.lo, Int.le_trans B.hi hk⟩
/-- going on to the end of the group -/
abbrev own_F (nL rL : List Int32) (k e : Int32) (j : Int) : Prop := (k.toInt < e.toInt) ∧ (e.toInt ≤ 5) ∧ (rL.getD (e.toNatClampNeg - 1) 0 = rL.getD k.toNatClampNeg 0) ∧ (e.toInt = 5 ∨ nL.getD e.toNatClampNeg 0 = 1 ∨ e.toInt = k.toInt + 1 + j)
theorem own_F.lo {nL rL : List Int32} {k e : Int32} {j : Int} (hyp : own_F nL rL k e j) : k.toInt < e.toInt := hyp.1
theorem own_F.hi {nL rL : List Int32} {k e : Int32} {j : Int} (hyp : own_F nL rL k e j) : e.toInt ≤ 5 := hyp.2.1
theorem own_F.r {nL rL : List Int32} {k e : Int32} {j : Int} (hyp : own_F nL rL k e j) : rL.getD (e.toNatClampNeg - 1) 0 = rL.getD k.toNatClampNeg 0 := hyp.2.2.1
theorem own_F.n {nL rL : List Int32} {k e : Int32} {j : Int} (hyp : own_F nL rL k e j) : e.toInt = 5 ∨ nL.getD e.toNatClampNeg 0 = 1 ∨ e.toInt = k.toInt + 1 + j := hyp.2.2.2
theorem own_F.start {nL rL : List Int32} {k e : Int32} (hk : 0 ≤ k.toInt ∧ k.toInt ≤ 4) (h : e = k + 1) : own_F nL rL k e 0 := by
  have e1 : (1 : Int32).toInt = 1 := rfl
  have c := c_iadd k 1; rw [← h] at c
  have rg := rng32 e
  have t1 := own_tn2 (y := e) (by omega)
  have t2 := own_tn2 (y := k) hk.1
  exact ⟨by omega, by omega, by rw [show e.toNatClampNeg - 1 = k.toNatClampNeg by omega], Or.inr (Or.inr (by omega))⟩
theorem own_F.next {dL nL rL : List Int32} {k e e' : Int32} {j : Int} (H : own_Ls dL nL rL) (hk : 0 ≤ k.toInt ∧ k.toInt ≤ 4) (F : own_F nL rL k e j) (h : e' = own_m0_206_l12 e nL) : own_F nL rL k e' (j + 1) := by
  obtain ⟨f1, f2, f3, f4⟩ := F
  unfold own_m0_206_l12 at h
  have te := own_tn2 (y := e) (by omega)
  have e5 : (5 : Int32).toInt = 5 := rfl
  have e1 : (1 : Int32).toInt = 1 := rfl
  by_cases l : e < 5
  · have l' := l
    rw [(own_ty _ _).1] at l'
    rw [if_pos l] at h
    by_cases z : nL.getD e.toNatClampNeg 0 = 0
    · rw [if_pos z] at h
      have c := c_iadd e 1; rw [← h] at c
      have rg := rng32 e'
      have t' := own_tn2 (y := e') (by omega)
      have cc := H.c (e.toNatClampNeg - 1) (by omega)
      rw [show e.toNatClampNeg - 1 + 1 = e.toNatClampNeg by omega] at cc
      refine ⟨by omega, by omega, ?_, ?_⟩
      · rw [show e'.toNatClampNeg - 1 = e.toNatClampNeg by omega]
        rcases cc with ⟨q, -⟩ | ⟨-, -, q⟩
        · rw [z] at q; exact absurd q (by decide)
        · rw [q]; exact f3
      · rcases f4 with q | q | q
        · omega
        · rw [z] at q; exact absurd q (by decide)
        · exact Or.inr (Or.inr (by omega))
    · rw [if_neg z] at h; subst h
      exact ⟨f1, f2, f3, Or.inr (Or.inl ((own_n01 H _ (by omega)).resolve_right z))⟩
  · rw [if_neg l] at h; subst h
    rw [(own_ty _ _).1] at l
    exact ⟨f1, f2, f3, Or.inl (by omega)⟩
theorem own_F.in5 {nL rL : List Int32} {k e : Int32} {j : Int} (hk : 0 ≤ k.toInt) (F : own_F nL rL k e j) (l : e < (5 : Int32)) : ¬ e < (0 : Int32) ∧ e < (5 : Int32) := by
  have e5 : (5 : Int32).toInt = 5 := rfl
  rw [(own_ty _ _).1] at l
  exact own_in5 ⟨by have := F.lo; omega, by omega⟩
/-- the four answers -/
abbrev own_Z (dL pL rL : List Int32) (sz k s e i sz4 : Int32) (l5 l6 l7 : List Int32) (z6 z7 : Int32) : Prop := (sz = sz4) ∧ (¬ i < (0 : Int32) ∧ i < sz) ∧ (l5.getD i.toNatClampNeg 0 = dL.getD k.toNatClampNeg 0) ∧ ((¬ i < (0 : Int32) ∧ i < z6) ∧ (¬ (i + (1 : Int32)) < (0 : Int32) ∧ (i + (1 : Int32)) < z6)) ∧ (own_f11 i l6 = e - s) ∧ (¬ (k - s) < (0 : Int32)) ∧ ((k - s) < own_f11 i l6) ∧ (¬ ((l6.getD (i).toNatClampNeg (0 : Int32)) + (k - s)) < (0 : Int32) ∧ ((l6.getD (i).toNatClampNeg (0 : Int32)) + (k - s)) < z7) ∧ (l7.getD ((l6.getD (i).toNatClampNeg (0 : Int32)) + (k - s)).toNatClampNeg 0 = pL.getD k.toNatClampNeg 0)
theorem own_Z.size {dL pL rL : List Int32} {sz k s e i sz4 : Int32} {l5 l6 l7 : List Int32} {z6 z7 : Int32} (hyp : own_Z dL pL rL sz k s e i sz4 l5 l6 l7 z6 z7) : sz = sz4 := hyp.1
theorem own_Z.hi {dL pL rL : List Int32} {sz k s e i sz4 : Int32} {l5 l6 l7 : List Int32} {z6 z7 : Int32} (hyp : own_Z dL pL rL sz k s e i sz4 l5 l6 l7 z6 z7) : ¬ i < (0 : Int32) ∧ i < sz := hyp.2.1
theorem own_Z.doc {dL pL rL : List Int32} {sz k s e i sz4 : Int32} {l5 l6 l7 : List Int32} {z6 z7 : Int32} (hyp : own_Z dL pL rL sz k s e i sz4 l5 l6 l7 z6 z7) : l5.getD i.toNatClampNeg 0 = dL.getD k.toNatClampNeg 0 := hyp.2.2.1
theorem own_Z.h2 {dL pL rL : List Int32} {sz k s e i sz4 : Int32} {l5 l6 l7 : List Int32} {z6 z7 : Int32} (hyp : own_Z dL pL rL sz k s e i sz4 l5 l6 l7 z6 z7) : (¬ i < (0 : Int32) ∧ i < z6) ∧ (¬ (i + (1 : Int32)) < (0 : Int32) ∧ (i + (1 : Int32)) < z6) := hyp.2.2.2.1
theorem own_Z.freq {dL pL rL : List Int32} {sz k s e i sz4 : Int32} {l5 l6 l7 : List Int32} {z6 z7 : Int32} (hyp : own_Z dL pL rL sz k s e i sz4 l5 l6 l7 z6 z7) : own_f11 i l6 = e - s := hyp.2.2.2.2.1
theorem own_Z.hj {dL pL rL : List Int32} {sz k s e i sz4 : Int32} {l5 l6 l7 : List Int32} {z6 z7 : Int32} (hyp : own_Z dL pL rL sz k s e i sz4 l5 l6 l7 z6 z7) : ¬ (k - s) < (0 : Int32) := hyp.2.2.2.2.2.1
theorem own_Z.hf {dL pL rL : List Int32} {sz k s e i sz4 : Int32} {l5 l6 l7 : List Int32} {z6 z7 : Int32} (hyp : own_Z dL pL rL sz k s e i sz4 l5 l6 l7 z6 z7) : (k - s) < own_f11 i l6 := hyp.2.2.2.2.2.2.1
theorem own_Z.hp {dL pL rL : List Int32} {sz k s e i sz4 : Int32} {l5 l6 l7 : List Int32} {z6 z7 : Int32} (hyp : own_Z dL pL rL sz k s e i sz4 l5 l6 l7 z6 z7) : ¬ ((l6.getD (i).toNatClampNeg (0 : Int32)) + (k - s)) < (0 : Int32) ∧ ((l6.getD (i).toNatClampNeg (0 : Int32)) + (k - s)) < z7 := hyp.2.2.2.2.2.2.2.1
theorem own_Z.at_ {dL pL rL : List Int32} {sz k s e i sz4 : Int32} {l5 l6 l7 : List Int32} {z6 z7 : Int32} (hyp : own_Z dL pL rL sz k s e i sz4 l5 l6 l7 z6 z7) : l7.getD ((l6.getD (i).toNatClampNeg (0 : Int32)) + (k - s)).toNatClampNeg 0 = pL.getD k.toNatClampNeg 0 := hyp.2.2.2.2.2.2.2.2
theorem own_final {dL pL nL rL ld ls lp l5 l6 l7 : List Int32} {sz zd zs zp k s e i sz4 z6 z7 : Int32} (H : own_Ls dL nL rL) (Q : own_Rel 5 dL pL nL rL sz zd zs zp ld ls lp) (hk : 0 ≤ k.toInt ∧ k.toInt ≤ 4) {jb jf : Int} (B : own_B nL rL k s jb) (F : own_F nL rL k e jf) (hjb : 4 ≤ jb) (hjf : 4 ≤ jf)
    (hi : i = rL.getD k.toNatClampNeg 0) (h4 : sz4 = rL.getD 4 0 + 1) (h5 : l5 = own_cp ld zd sz) (h6z : z6 = sz + 1) (h6 : l6 = own_cp ls zs z6) (h7z : z7 = ls.getD sz.toNatClampNeg 0) (h7 : l7 = own_cp lp zp z7) :
    own_Z dL pL rL sz k s e i sz4 l5 l6 l7 z6 z7 := by
  rw [h6z] at h6; rw [h7z] at h7
  obtain ⟨q1, q2, q3, q4, q5, q6, q7, q8⟩ := Q.sh
  have e0 : (0 : Int32).toInt = 0 := rfl
  have e1 : (1 : Int32).toInt = 1 := rfl
  have qs : sz.toInt = (rL.getD 4 0).toInt + 1 := Q.s (by decide)
  have r4 := H.rk 4 (by decide)
  have tk := own_tn2 (y := k) hk.1
  have ts := own_tn2 (y := s) B.lo
  have te := own_tn2 (y := e) (by have := F.lo; omega)
  have rk := H.rk k.toNatClampNeg (by omega)
  have up := H.up k.toNatClampNeg 4 (by omega) (by decide)
  have b2 := B.hi
  have f1 := F.lo
  have f2 := F.hi
  have tsz := own_tn2 (y := sz) q3
  have tzd := own_tn2 (y := zd) (by omega)
  have tzs := own_tn2 (y := zs) (by omega)
  have tzp := own_tn2 (y := zp) (by omega)
  have c1 := c_iadd sz 1; have c1' := rng32 (sz + 1)
  have tsz1 := own_tn2 (y := sz + 1) (by omega)
  have hi0 : 0 ≤ i.toInt := by rw [hi]; exact rk.1
  have ti := own_tn2 (y := i) hi0
  have iv : i.toInt = (rL.getD k.toNatClampNeg 0).toInt := by rw [hi]
  have c2 := c_iadd i 1; have c2' := rng32 (i + 1)
  have ti1 := own_tn2 (y := i + 1) (by omega)
  have ee := Q.e
  have ez := Q.z
  have te5 := own_tn2 (y := ls.getD sz.toNatClampNeg 0) (by omega)
  have c4 := c_iadd (rL.getD 4 0) 1; have c4' := rng32 (rL.getD 4 0 + 1)
  -- where the group begins
  have ns : nL.getD s.toNatClampNeg 0 = 1 := by
    rcases B.n with q | q
    · exact q
    · rw [show s.toNatClampNeg = 0 by omega]; exact H.n0
  have is : rL.getD s.toNatClampNeg 0 = i := B.r.trans hi.symm
  have vs : (ls.getD i.toNatClampNeg 0).toInt = s.toInt := by
    have := Q.st s.toNatClampNeg (by omega) ns
    rw [is] at this; rw [this]; omega
  -- where it ends
  have ve : (ls.getD (i + 1).toNatClampNeg 0).toInt = e.toInt := by
    have re := F.r
    by_cases z : e.toInt = 5
    · rw [show e.toNatClampNeg - 1 = 4 by omega] at re
      have : i.toInt + 1 = sz.toInt := by rw [qs, re]; omega
      rw [show (i + 1).toNatClampNeg = sz.toNatClampNeg by omega, ee, z]; rfl
    · have ne : nL.getD e.toNatClampNeg 0 = 1 := by
        rcases F.n with q | q | q
        · exact absurd q z
        · exact q
        · exfalso; omega
      have cc := H.c (e.toNatClampNeg - 1) (by omega)
      rw [show e.toNatClampNeg - 1 + 1 = e.toNatClampNeg by omega] at cc
      rcases cc with ⟨-, -, q⟩ | ⟨q, -⟩
      · have st := Q.st e.toNatClampNeg (by omega) ne
        have rke := H.rk e.toNatClampNeg (by omega)
        have tre := own_tn2 (y := rL.getD e.toNatClampNeg 0) rke.1
        rw [re] at q
        rw [show (i + 1).toNatClampNeg = (rL.getD e.toNatClampNeg 0).toNatClampNeg by omega, st]; omega
      · rw [ne] at q; exact absurd q (by decide)
  have i1le : i.toInt + 1 ≤ sz.toInt := by omega
  have g6 : ∀ m : Nat, m < (sz + 1).toNatClampNeg → l6.getD m 0 = ls.getD m 0 := fun m hm => by
    rw [h6, own_cp_get, if_pos (by omega)]
  have v6 : (l6.getD i.toNatClampNeg 0).toInt = s.toInt := by rw [g6 _ (by omega)]; exact vs
  have w6 : (l6.getD (i + 1).toNatClampNeg 0).toInt = e.toInt := by rw [g6 _ (by omega)]; exact ve
  have cks := c_isub k s; have cks' := rng32 (k - s)
  have ces := c_isub e s; have ces' := rng32 (e - s)
  have cad := c_iadd (l6.getD i.toNatClampNeg 0) (k - s); have cad' := rng32 (l6.getD i.toNatClampNeg 0 + (k - s))
  have fr : own_f11 i l6 = e - s := by
    unfold own_f11
    have cf := c_isub (l6.getD (i + 1).toNatClampNeg 0) (l6.getD i.toNatClampNeg 0); have cf' := rng32 (l6.getD (i + 1).toNatClampNeg 0 - l6.getD i.toNatClampNeg 0)
    rw [(own_ty _ _).2]; omega
  refine ⟨?_, ?_, ?_, ?_, fr, ?_, ?_, ?_, ?_⟩
  · rw [h4, (own_ty _ _).2]; omega
  · simp only [(own_ty _ _).1]; omega
  · rw [h5, own_cp_get, if_pos (by omega), hi]; exact Q.d k.toNatClampNeg (by omega)
  · rw [h6z]; simp only [(own_ty _ _).1]; omega
  · rw [(own_ty _ _).1]; omega
  · rw [fr, (own_ty _ _).1]; omega
  · rw [h7z]; simp only [(own_ty _ _).1]; omega
  · have tad := own_tn2 (y := l6.getD i.toNatClampNeg 0 + (k - s)) (by omega)
    rw [h7, own_cp_get, if_pos (by omega), show (l6.getD i.toNatClampNeg 0 + (k - s)).toNatClampNeg = k.toNatClampNeg by omega]
    exact Q.p k.toNatClampNeg (by omega)

def Q0 (Z : State) (p0 : Int32) (p1 : Int32) (p2 : Int32) (p3 : Int32) (p4 : Int32) (p5 : Int32) (h0 : Heap) (n0 : Nat) (v : Option Value) (h : Heap) (L : List Loc) : Prop := v = some (.int (1 : Int32)) ∧ Fr n0 L
set_option maxRecDepth 65536 in
set_option maxHeartbeats 40000000 in
theorem rm0 (l : Launch) (Z : State) (aw : Array Value) (hw : ∀ d ∈ tables_1, d.before aw Z = true) (wq : List Jvm.Cond) (p0 : Int32) (p1 : Int32) (p2 : Int32) (p3 : Int32) (p4 : Int32) (p5 : Int32) (h0 : Heap) (n0 : Nat) (Z0 : n0 ≤ h0.size) :
    MetFree l x (head1 (Jvm.Cond.code x code maxLocals ret :: wq) room_1) (fun a U => a = #[(.int p0), (.int p1), (.int p2), (.int p3), (.int p4), (.int p5)] ∧ Z.Warmed39 U.vm ∧ U.heap = h0) (fun _ _ _ _ _ => True) (fun _ U o U' => ∃ v L, o = .returned v ∧ Q0 Z p0 p1 p2 p3 p4 p5 h0 n0 v U'.heap L ∧ FrameEnd U o U' L 27 198) := by
  refine MetFree.of_bodySF (plainFor_of_name pn_2) hisR ?_
  intro p e s m args below meth c s₁ Bd hml0 hP hK
  obtain ⟨rfl, hZ, hh⟩ := hP
  have hx := Bd.exec
  have hby := Bd.bytes
  have hml : c.maxLocals = 17 := hml0
  have hown : s.vm.findClass "com/example/whole_recall/wholerecall/index/PostingsBuilderAddPinLaw" = some m.cls := findClass_of_methodNamed Bd.named
  have hnm := (name_of_methodNamed Bd.named Bd.method).1
  have X0 : Stand p l e room_1 s m #[(.int p0), (.int p1), (.int p2), (.int p3), (.int p4), (.int p5)] below meth c s₁ [] 0 0 := Stand.of_body Bd
  have e0 : s₁.heap = h0 := by rw [← hh, Bd.state]; rfl
  have N0 := Fr.nil n0
  have pre0 : own_Pre p e below (s₁.setTop (entryFrame m #[(.int p0), (.int p1), (.int p2), (.int p3), (.int p4), (.int p5)] maxLocals)) (s₁.setTop (mkF m 0 #[.val (.int p0), .val (.int p1), .val (.int p2), .val (.int p3), .val (.int p4), .val (.int p5), .unset, .unset, .unset, .unset, .unset, .unset, .unset, .unset, .unset, .unset, .unset] [])) := fun t k => castTop (ef_0 m p0 p1 p2 p3 p4 p5) k
  obtain ⟨T1, h1, k1, X1, e1, E1, A1, Ex1, st1⟩ := newPE X0 hx hZ (hw _ (own_w 0 rfl)) e0 (g := (mkF m 1 #[.val (.int p0), .val (.int p1), .val (.int p2), .val (.int p3), .val (.int p4), .val (.int p5), .unset, .unset, .unset, .unset, .unset, .unset, .unset, .unset, .unset, .unset, .unset] [(.int (5 : Int32))])) rfl (hb hby at_1) rfl (by decide) (cap := 5) (by decide) (by decide) (by decide) (by decide) (ad := "[I") (by decide)
  obtain ⟨dA, gq1⟩ : ∃ z, z = (h0).size := ⟨_, rfl⟩
  rw [← gq1] at A1 st1 Ex1
  have g_dA : n0 ≤ dA := Nat.le_trans Z0 (Nat.le_of_eq gq1.symm)
  have V_dA : own_AI Z h1 dA k1 .int (5 : Int32) (List.replicate 5 (0 : Int32)) := own_AI.new 5 A1 (by decide) (by decide) rfl
  have z3 : n0 ≤ (h1).size := (Nat.le_trans Z0 E1.1)
  obtain ⟨T2, h2, k2, X2, e2, E2, A2, Ex2, st2⟩ := newPE X1 hx hZ (hw _ (own_w 0 rfl)) e1 (g := (mkF m 6 #[.val (.int p0), .val (.int p1), .val (.int p2), .val (.int p3), .val (.int p4), .val (.int p5), .val (.ref dA), .unset, .unset, .unset, .unset, .unset, .unset, .unset, .unset, .unset, .unset] [(.int (5 : Int32))])) rfl (hb hby at_6) rfl (by decide) (cap := 5) (by decide) (by decide) (by decide) (by decide) (ad := "[I") (by decide)
  obtain ⟨pA, gq2⟩ : ∃ z, z = (h1).size := ⟨_, rfl⟩
  rw [← gq2] at A2 st2 Ex2
  have ne_dA_pA : dA ≠ pA := Nat.ne_of_lt (Nat.lt_of_lt_of_le V_dA.lt (Nat.le_of_eq gq2.symm))
  have g_pA : n0 ≤ pA := Nat.le_trans z3 (Nat.le_of_eq gq2.symm)
  have V_pA : own_AI Z h2 pA k2 .int (5 : Int32) (List.replicate 5 (0 : Int32)) := own_AI.new 5 A2 (by decide) (by decide) rfl
  have z5 : n0 ≤ (h2).size := (Nat.le_trans z3 E2.1)
  obtain ⟨T4, h4, k4, X4, e4, E4, A4, st4⟩ := newP X2 hx hZ (hw _ (own_w 1 rfl)) e2 (g := (mkF m 11 #[.val (.int p0), .val (.int p1), .val (.int p2), .val (.int p3), .val (.int p4), .val (.int p5), .val (.ref dA), .val (.ref pA), .unset, .unset, .unset, .unset, .unset, .unset, .unset, .unset, .unset] [(.int (5 : Int32))])) rfl (hb hby at_11) rfl (by decide) (cap := 5) (by decide) (by decide) (by decide) (by decide)
  obtain ⟨nA, gq4⟩ : ∃ z, z = (h2).size := ⟨_, rfl⟩
  rw [← gq4] at A4 st4
  have f6 := (V_dA.ext E2)
  have ne_dA_nA : dA ≠ nA := Nat.ne_of_lt (Nat.lt_of_lt_of_le f6.lt (Nat.le_of_eq gq4.symm))
  have ne_pA_nA : pA ≠ nA := Nat.ne_of_lt (Nat.lt_of_lt_of_le V_pA.lt (Nat.le_of_eq gq4.symm))
  have g_nA : n0 ≤ nA := Nat.le_trans z5 (Nat.le_of_eq gq4.symm)
  have V_nA : own_AI Z h4 nA k4 .boolean (5 : Int32) (List.replicate 5 (0 : Int32)) := own_AI.new 5 A4 (by decide) (by decide) rfl
  have z8 : n0 ≤ (h4).size := (Nat.le_trans z5 E4.1)
  obtain ⟨T7, h7, k7, X7, e7, E7, A7, Ex7, st7⟩ := newPE X4 hx hZ (hw _ (own_w 0 rfl)) e4 (g := (mkF m 16 #[.val (.int p0), .val (.int p1), .val (.int p2), .val (.int p3), .val (.int p4), .val (.int p5), .val (.ref dA), .val (.ref pA), .val (.ref nA), .unset, .unset, .unset, .unset, .unset, .unset, .unset, .unset] [(.int (5 : Int32))])) rfl (hb hby at_16) rfl (by decide) (cap := 5) (by decide) (by decide) (by decide) (by decide) (ad := "[I") (by decide)
  obtain ⟨rA, gq7⟩ : ∃ z, z = (h4).size := ⟨_, rfl⟩
  rw [← gq7] at A7 st7 Ex7
  have f9 := (f6.ext E4)
  have ne_dA_rA : dA ≠ rA := Nat.ne_of_lt (Nat.lt_of_lt_of_le f9.lt (Nat.le_of_eq gq7.symm))
  have ne_nA_rA : nA ≠ rA := Nat.ne_of_lt (Nat.lt_of_lt_of_le V_nA.lt (Nat.le_of_eq gq7.symm))
  have f10 := (V_pA.ext E4)
  have ne_pA_rA : pA ≠ rA := Nat.ne_of_lt (Nat.lt_of_lt_of_le f10.lt (Nat.le_of_eq gq7.symm))
  have g_rA : n0 ≤ rA := Nat.le_trans z8 (Nat.le_of_eq gq7.symm)
  have V_rA : own_AI Z h7 rA k7 .int (5 : Int32) (List.replicate 5 (0 : Int32)) := own_AI.new 5 A7 (by decide) (by decide) rfl
  have z12 : n0 ≤ (h7).size := (Nat.le_trans z8 E7.1)
  obtain ⟨_, _, ⟨T11, L11, k11, n11⟩, -, X11, ⟨Lc11, hQ11, l11, y11, z11⟩, st11⟩ := Jvm.LawKit.callS X7 hx (y := (⟨"java/lang/Math", "min", "(II)I"⟩ : MethodName)) hown (mvT hZ (hw _ (own_w 4 rfl))) (mvT hZ (hw _ (own_w 5 rfl))) (mvT hZ (hw _ (own_w 6 rfl))) (mvT hZ (hw _ (own_w 7 rfl))) (by decide) (backOf (W := 2) (rm1 l Z aw hw [] ((p1 &&& (2147483647 : Int32))) ((2147482623 : Int32)) (h7) n0 z12) hZ (hw _ (own_w 7 rfl)) (hw _ (own_w 6 rfl)) (by decide) (by decide)) (g := (mkF m 29 #[.val (.int p0), .val (.int p1), .val (.int p2), .val (.int p3), .val (.int p4), .val (.int p5), .val (.ref dA), .val (.ref pA), .val (.ref nA), .val (.ref rA), .unset, .unset, .unset, .unset, .unset, .unset, .unset] [(.int (2147482623 : Int32)), (.int (p1 &&& (2147483647 : Int32))), (.int (0 : Int32)), (.ref dA)])) rfl (by rw [hml]; rfl) (argsL := [(.int (p1 &&& (2147483647 : Int32))), (.int (2147482623 : Int32))]) (rest := [(.int (0 : Int32)), (.ref dA)]) (lenOf pd_0 rfl) rfl (by show 2 * 0 + _ ≤ _; exact Nat.le_of_eq rfl) (hb hby at_29) (fun _ _ => ⟨rfl, e7, (by decide : 4 + 0 ≤ _), (by decide : 20 + 0 ≤ _)⟩)
  dsimp only [Pt.U, Pt.locs, Pt.cells, Pt.slots] at X11 l11 y11 z11 st11 hQ11
  rw [l11, y11, z11] at X11
  obtain ⟨rfl, Nq11, eq11⟩ := hQ11
  have N11 := Fr.app N0 Nq11
  have f13 := (f9.ext E7)
  obtain ⟨cl14, Ar14, hin14, set14⟩ := own_AI.arr f13 (j := (0 : Int32)) ⟨by decide, by decide⟩
  obtain ⟨T14, h14, X14, e14, W14, st14⟩ := stI X11 hx hZ eq11 Ar14 (j := (0 : Int32)) hin14 (g := (mkF m 32 #[.val (.int p0), .val (.int p1), .val (.int p2), .val (.int p3), .val (.int p4), .val (.int p5), .val (.ref dA), .val (.ref pA), .val (.ref nA), .val (.ref rA), .unset, .unset, .unset, .unset, .unset, .unset, .unset] [(.int (own_f1 ((p1 &&& (2147483647 : Int32))) ((2147482623 : Int32)))), (.int (0 : Int32)), (.ref dA)])) rfl rfl (hb hby at_32)
  have V14 : own_AI Z h14 dA k1 .int (5 : Int32) ((List.replicate 5 (0 : Int32)).set 0 (own_f1 ((p1 &&& (2147483647 : Int32))) ((2147482623 : Int32)))) := set14 _ _ rfl W14
  obtain ⟨ws14, hws14⟩ : ∃ z, z = ((List.replicate 5 (0 : Int32)).set 0 (own_f1 ((p1 &&& (2147483647 : Int32))) ((2147482623 : Int32)))) := ⟨_, rfl⟩
  rw [← hws14] at V14
  have N14 := Fr.snoc X14 N11 g_dA
  have z16 : n0 ≤ (h14).size := (Nat.le_trans z12 (Keep.of_wr W14).1)
  obtain ⟨_, _, ⟨T15, L15, k15, n15⟩, -, X15, ⟨Lc15, hQ15, l15, y15, z15⟩, st15⟩ := Jvm.LawKit.callS X14 hx (y := (⟨"java/lang/Math", "min", "(II)I"⟩ : MethodName)) hown (mvT hZ (hw _ (own_w 4 rfl))) (mvT hZ (hw _ (own_w 5 rfl))) (mvT hZ (hw _ (own_w 6 rfl))) (mvT hZ (hw _ (own_w 7 rfl))) (by decide) (backOf (W := 2) (rm1 l Z aw hw [] ((p3 &&& (2147483647 : Int32))) ((2147482623 : Int32)) (h14) n0 z16) hZ (hw _ (own_w 7 rfl)) (hw _ (own_w 6 rfl)) (by decide) (by decide)) (g := (mkF m 42 #[.val (.int p0), .val (.int p1), .val (.int p2), .val (.int p3), .val (.int p4), .val (.int p5), .val (.ref dA), .val (.ref pA), .val (.ref nA), .val (.ref rA), .unset, .unset, .unset, .unset, .unset, .unset, .unset] [(.int (2147482623 : Int32)), (.int (p3 &&& (2147483647 : Int32))), (.int (0 : Int32)), (.ref pA)])) rfl (by rw [hml]; rfl) (argsL := [(.int (p3 &&& (2147483647 : Int32))), (.int (2147482623 : Int32))]) (rest := [(.int (0 : Int32)), (.ref pA)]) (lenOf pd_0 rfl) rfl (by show 2 * 0 + _ ≤ _; exact Nat.le_of_eq rfl) (hb hby at_42) (fun _ _ => ⟨rfl, e14, (by decide : 4 + 0 ≤ _), (by decide : 20 + 0 ≤ _)⟩)
  dsimp only [Pt.U, Pt.locs, Pt.cells, Pt.slots] at X15 l15 y15 z15 st15 hQ15
  rw [l15, y15, z15] at X15
  obtain ⟨rfl, Nq15, eq15⟩ := hQ15
  have N15 := Fr.app N14 Nq15
  have f17 := ((f10.ext E7).other W14 (Ne.symm ne_dA_pA))
  obtain ⟨cl18, Ar18, hin18, set18⟩ := own_AI.arr f17 (j := (0 : Int32)) ⟨by decide, by decide⟩
  obtain ⟨T18, h18, X18, e18, W18, st18⟩ := stI X15 hx hZ eq15 Ar18 (j := (0 : Int32)) hin18 (g := (mkF m 45 #[.val (.int p0), .val (.int p1), .val (.int p2), .val (.int p3), .val (.int p4), .val (.int p5), .val (.ref dA), .val (.ref pA), .val (.ref nA), .val (.ref rA), .unset, .unset, .unset, .unset, .unset, .unset, .unset] [(.int (own_f1 ((p3 &&& (2147483647 : Int32))) ((2147482623 : Int32)))), (.int (0 : Int32)), (.ref pA)])) rfl rfl (hb hby at_45)
  have V18 : own_AI Z h18 pA k2 .int (5 : Int32) ((List.replicate 5 (0 : Int32)).set 0 (own_f1 ((p3 &&& (2147483647 : Int32))) ((2147482623 : Int32)))) := set18 _ _ rfl W18
  obtain ⟨ws18, hws18⟩ : ∃ z, z = ((List.replicate 5 (0 : Int32)).set 0 (own_f1 ((p3 &&& (2147483647 : Int32))) ((2147482623 : Int32)))) := ⟨_, rfl⟩
  rw [← hws18] at V18
  have N18 := Fr.snoc X18 N15 g_pA
  have f19 := (((V_nA.ext E7).other W14 (Ne.symm ne_dA_nA)).other W18 (Ne.symm ne_pA_nA))
  obtain ⟨cl20, Ar20, hin20, set20⟩ := own_AI.arr f19 (j := (0 : Int32)) ⟨by decide, by decide⟩
  obtain ⟨T20, h20, X20, e20, W20, st20⟩ := stZ X18 hx hZ e18 Ar20 (j := (0 : Int32)) hin20 (g := (mkF m 50 #[.val (.int p0), .val (.int p1), .val (.int p2), .val (.int p3), .val (.int p4), .val (.int p5), .val (.ref dA), .val (.ref pA), .val (.ref nA), .val (.ref rA), .unset, .unset, .unset, .unset, .unset, .unset, .unset] [(.int (1 : Int32)), (.int (0 : Int32)), (.ref nA)])) rfl rfl (hb hby at_50)
  have V20 : own_AI Z h20 nA k4 .boolean (5 : Int32) ((List.replicate 5 (0 : Int32)).set 0 (1 : Int32)) := set20 _ _ rfl W20
  obtain ⟨ws20, hws20⟩ : ∃ z, z = ((List.replicate 5 (0 : Int32)).set 0 (1 : Int32)) := ⟨_, rfl⟩
  rw [← hws20] at V20
  have N20 := Fr.snoc X20 N18 g_nA
  have f21 := (((V_rA.other W14 (Ne.symm ne_dA_rA)).other W18 (Ne.symm ne_pA_rA)).other W20 (Ne.symm ne_nA_rA))
  obtain ⟨cl22, Ar22, hin22, set22⟩ := own_AI.arr f21 (j := (0 : Int32)) ⟨by decide, by decide⟩
  obtain ⟨T22, h22, X22, e22, W22, st22⟩ := stI X20 hx hZ e20 Ar22 (j := (0 : Int32)) hin22 (g := (mkF m 55 #[.val (.int p0), .val (.int p1), .val (.int p2), .val (.int p3), .val (.int p4), .val (.int p5), .val (.ref dA), .val (.ref pA), .val (.ref nA), .val (.ref rA), .unset, .unset, .unset, .unset, .unset, .unset, .unset] [(.int (0 : Int32)), (.int (0 : Int32)), (.ref rA)])) rfl rfl (hb hby at_55)
  have V22 : own_AI Z h22 rA k7 .int (5 : Int32) ((List.replicate 5 (0 : Int32)).set 0 (0 : Int32)) := set22 _ _ rfl W22
  obtain ⟨ws22, hws22⟩ : ∃ z, z = ((List.replicate 5 (0 : Int32)).set 0 (0 : Int32)) := ⟨_, rfl⟩
  rw [← hws22] at V22
  have N22 := Fr.snoc X22 N20 g_rA
  have f24 := (((V14.other W18 ne_dA_pA).other W20 ne_dA_nA).other W22 ne_dA_rA)
  have f25 := ((V18.other W20 ne_pA_nA).other W22 ne_pA_rA)
  have f26 := (V20.other W22 ne_nA_rA)
  have z27 : n0 ≤ (h22).size := (Nat.le_trans (Nat.le_trans (Nat.le_trans z16 (Keep.of_wr W18).1) (Keep.of_wr W20).1) (Keep.of_wr W22).1)
  obtain ⟨_, _, ⟨T23, L23, k23, n23⟩, -, X23, ⟨Lc23, hQ23, l23, y23, z23⟩, st23⟩ := Jvm.LawKit.callS X22 hx (y := (⟨"com/example/whole_recall/wholerecall/index/PostingsBuilderAddPinLaw", "step", "(IIIII[I[I[Z[I)V"⟩ : MethodName)) hown (mvT hZ (hw _ (own_w 8 rfl))) (mvT hZ (hw _ (own_w 9 rfl))) (mvT hZ (hw _ (own_w 10 rfl))) (mvT hZ (hw _ (own_w 11 rfl))) (by decide) (backOf (W := 0) (rm2 l Z aw hw [] ((1 : Int32)) (p0) (p2) (p4) (p5) (dA) (pA) (nA) (rA) (k1) (k2) (k4) (k7) (ws14) (ws18) (ws20) (ws22) (h22) n0 z27 f24 f25 f26 V22 ne_dA_pA ne_dA_nA ne_dA_rA ne_pA_nA ne_pA_rA ne_nA_rA g_dA g_pA g_nA g_rA own_T1) hZ (hw _ (own_w 11 rfl)) (hw _ (own_w 10 rfl)) (by decide) (by decide)) (g := (mkF m 71 #[.val (.int p0), .val (.int p1), .val (.int p2), .val (.int p3), .val (.int p4), .val (.int p5), .val (.ref dA), .val (.ref pA), .val (.ref nA), .val (.ref rA), .unset, .unset, .unset, .unset, .unset, .unset, .unset] [(.ref rA), (.ref nA), (.ref pA), (.ref dA), (.int p5), (.int p4), (.int p2), (.int p0), (.int (1 : Int32))])) rfl (by rw [hml]; rfl) (argsL := [(.int (1 : Int32)), (.int p0), (.int p2), (.int p4), (.int p5), (.ref dA), (.ref pA), (.ref nA), (.ref rA)]) (rest := []) (lenOf pd_4 rfl) rfl (by show 2 * 0 + _ ≤ _; exact Nat.le_of_eq rfl) (hb hby at_71) (fun _ _ => ⟨rfl, e22, (by decide : 4 + 0 ≤ _), (by decide : 20 + 0 ≤ _)⟩)
  dsimp only [Pt.U, Pt.locs, Pt.cells, Pt.slots] at X23 l23 y23 z23 st23 hQ23
  rw [l23, y23, z23] at X23
  obtain ⟨rfl, Nq23, K23, po23_0, po23_1, po23_2, po23_3⟩ := hQ23
  have N23 := Fr.app N22 Nq23
  obtain ⟨u23_l0, hu23_l0⟩ : ∃ z, z = (own_p2_a5 ((1 : Int32)) p0 p2 ws14) := ⟨_, rfl⟩
  rw [← hu23_l0] at po23_0
  obtain ⟨u23_l1, hu23_l1⟩ : ∃ z, z = (own_p2_a6 ((1 : Int32)) p0 p4 p5 ws18) := ⟨_, rfl⟩
  rw [← hu23_l1] at po23_1
  obtain ⟨u23_l2, hu23_l2⟩ : ∃ z, z = (own_p2_a7 ((1 : Int32)) p0 ws20) := ⟨_, rfl⟩
  rw [← hu23_l2] at po23_2
  obtain ⟨u23_l3, hu23_l3⟩ : ∃ z, z = (own_p2_a8 ((1 : Int32)) p0 ws22) := ⟨_, rfl⟩
  rw [← hu23_l3] at po23_3
  have z29 : n0 ≤ (T23.heap).size := (Nat.le_trans z27 K23.1)
  obtain ⟨_, _, ⟨T28, L28, k28, n28⟩, -, X28, ⟨Lc28, hQ28, l28, y28, z28⟩, st28⟩ := Jvm.LawKit.callS X23 hx (y := (⟨"com/example/whole_recall/wholerecall/index/PostingsBuilderAddPinLaw", "step", "(IIIII[I[I[Z[I)V"⟩ : MethodName)) hown (mvT hZ (hw _ (own_w 8 rfl))) (mvT hZ (hw _ (own_w 9 rfl))) (mvT hZ (hw _ (own_w 10 rfl))) (mvT hZ (hw _ (own_w 11 rfl))) (by decide) (backOf (W := 0) (rm2 l Z aw hw [] ((2 : Int32)) (p0) (p2) (p4) (p5) (dA) (pA) (nA) (rA) (k1) (k2) (k4) (k7) (u23_l0) (u23_l1) (u23_l2) (u23_l3) (T23.heap) n0 z29 po23_0 po23_1 po23_2 po23_3 ne_dA_pA ne_dA_nA ne_dA_rA ne_pA_nA ne_pA_rA ne_nA_rA g_dA g_pA g_nA g_rA own_T2) hZ (hw _ (own_w 11 rfl)) (hw _ (own_w 10 rfl)) (by decide) (by decide)) (g := (mkF m 89 #[.val (.int p0), .val (.int p1), .val (.int p2), .val (.int p3), .val (.int p4), .val (.int p5), .val (.ref dA), .val (.ref pA), .val (.ref nA), .val (.ref rA), .unset, .unset, .unset, .unset, .unset, .unset, .unset] [(.ref rA), (.ref nA), (.ref pA), (.ref dA), (.int p5), (.int p4), (.int p2), (.int p0), (.int (2 : Int32))])) rfl (by rw [hml]; rfl) (argsL := [(.int (2 : Int32)), (.int p0), (.int p2), (.int p4), (.int p5), (.ref dA), (.ref pA), (.ref nA), (.ref rA)]) (rest := []) (lenOf pd_4 rfl) rfl (by show 2 * 0 + _ ≤ _; exact Nat.le_of_eq rfl) (hb hby at_89) (fun _ _ => ⟨rfl, rfl, (by decide : 4 + 0 ≤ _), (by decide : 20 + 0 ≤ _)⟩)
  dsimp only [Pt.U, Pt.locs, Pt.cells, Pt.slots] at X28 l28 y28 z28 st28 hQ28
  rw [l28, y28, z28] at X28
  obtain ⟨rfl, Nq28, K28, po28_0, po28_1, po28_2, po28_3⟩ := hQ28
  have N28 := Fr.app N23 Nq28
  obtain ⟨u28_l0, hu28_l0⟩ : ∃ z, z = (own_p2_a5 ((2 : Int32)) p0 p2 u23_l0) := ⟨_, rfl⟩
  rw [← hu28_l0] at po28_0
  obtain ⟨u28_l1, hu28_l1⟩ : ∃ z, z = (own_p2_a6 ((2 : Int32)) p0 p4 p5 u23_l1) := ⟨_, rfl⟩
  rw [← hu28_l1] at po28_1
  obtain ⟨u28_l2, hu28_l2⟩ : ∃ z, z = (own_p2_a7 ((2 : Int32)) p0 u23_l2) := ⟨_, rfl⟩
  rw [← hu28_l2] at po28_2
  obtain ⟨u28_l3, hu28_l3⟩ : ∃ z, z = (own_p2_a8 ((2 : Int32)) p0 u23_l3) := ⟨_, rfl⟩
  rw [← hu28_l3] at po28_3
  have z31 : n0 ≤ (T28.heap).size := (Nat.le_trans z29 K28.1)
  obtain ⟨_, _, ⟨T30, L30, k30, n30⟩, -, X30, ⟨Lc30, hQ30, l30, y30, z30⟩, st30⟩ := Jvm.LawKit.callS X28 hx (y := (⟨"com/example/whole_recall/wholerecall/index/PostingsBuilderAddPinLaw", "step", "(IIIII[I[I[Z[I)V"⟩ : MethodName)) hown (mvT hZ (hw _ (own_w 8 rfl))) (mvT hZ (hw _ (own_w 9 rfl))) (mvT hZ (hw _ (own_w 10 rfl))) (mvT hZ (hw _ (own_w 11 rfl))) (by decide) (backOf (W := 0) (rm2 l Z aw hw [] ((3 : Int32)) (p0) (p2) (p4) (p5) (dA) (pA) (nA) (rA) (k1) (k2) (k4) (k7) (u28_l0) (u28_l1) (u28_l2) (u28_l3) (T28.heap) n0 z31 po28_0 po28_1 po28_2 po28_3 ne_dA_pA ne_dA_nA ne_dA_rA ne_pA_nA ne_pA_rA ne_nA_rA g_dA g_pA g_nA g_rA own_T3) hZ (hw _ (own_w 11 rfl)) (hw _ (own_w 10 rfl)) (by decide) (by decide)) (g := (mkF m 107 #[.val (.int p0), .val (.int p1), .val (.int p2), .val (.int p3), .val (.int p4), .val (.int p5), .val (.ref dA), .val (.ref pA), .val (.ref nA), .val (.ref rA), .unset, .unset, .unset, .unset, .unset, .unset, .unset] [(.ref rA), (.ref nA), (.ref pA), (.ref dA), (.int p5), (.int p4), (.int p2), (.int p0), (.int (3 : Int32))])) rfl (by rw [hml]; rfl) (argsL := [(.int (3 : Int32)), (.int p0), (.int p2), (.int p4), (.int p5), (.ref dA), (.ref pA), (.ref nA), (.ref rA)]) (rest := []) (lenOf pd_4 rfl) rfl (by show 2 * 0 + _ ≤ _; exact Nat.le_of_eq rfl) (hb hby at_107) (fun _ _ => ⟨rfl, rfl, (by decide : 4 + 0 ≤ _), (by decide : 20 + 0 ≤ _)⟩)
  dsimp only [Pt.U, Pt.locs, Pt.cells, Pt.slots] at X30 l30 y30 z30 st30 hQ30
  rw [l30, y30, z30] at X30
  obtain ⟨rfl, Nq30, K30, po30_0, po30_1, po30_2, po30_3⟩ := hQ30
  have N30 := Fr.app N28 Nq30
  obtain ⟨u30_l0, hu30_l0⟩ : ∃ z, z = (own_p2_a5 ((3 : Int32)) p0 p2 u28_l0) := ⟨_, rfl⟩
  rw [← hu30_l0] at po30_0
  obtain ⟨u30_l1, hu30_l1⟩ : ∃ z, z = (own_p2_a6 ((3 : Int32)) p0 p4 p5 u28_l1) := ⟨_, rfl⟩
  rw [← hu30_l1] at po30_1
  obtain ⟨u30_l2, hu30_l2⟩ : ∃ z, z = (own_p2_a7 ((3 : Int32)) p0 u28_l2) := ⟨_, rfl⟩
  rw [← hu30_l2] at po30_2
  obtain ⟨u30_l3, hu30_l3⟩ : ∃ z, z = (own_p2_a8 ((3 : Int32)) p0 u28_l3) := ⟨_, rfl⟩
  rw [← hu30_l3] at po30_3
  have z33 : n0 ≤ (T30.heap).size := (Nat.le_trans z31 K30.1)
  obtain ⟨_, _, ⟨T32, L32, k32, n32⟩, -, X32, ⟨Lc32, hQ32, l32, y32, z32⟩, st32⟩ := Jvm.LawKit.callS X30 hx (y := (⟨"com/example/whole_recall/wholerecall/index/PostingsBuilderAddPinLaw", "step", "(IIIII[I[I[Z[I)V"⟩ : MethodName)) hown (mvT hZ (hw _ (own_w 8 rfl))) (mvT hZ (hw _ (own_w 9 rfl))) (mvT hZ (hw _ (own_w 10 rfl))) (mvT hZ (hw _ (own_w 11 rfl))) (by decide) (backOf (W := 0) (rm2 l Z aw hw [] ((4 : Int32)) (p0) (p2) (p4) (p5) (dA) (pA) (nA) (rA) (k1) (k2) (k4) (k7) (u30_l0) (u30_l1) (u30_l2) (u30_l3) (T30.heap) n0 z33 po30_0 po30_1 po30_2 po30_3 ne_dA_pA ne_dA_nA ne_dA_rA ne_pA_nA ne_pA_rA ne_nA_rA g_dA g_pA g_nA g_rA own_T4) hZ (hw _ (own_w 11 rfl)) (hw _ (own_w 10 rfl)) (by decide) (by decide)) (g := (mkF m 125 #[.val (.int p0), .val (.int p1), .val (.int p2), .val (.int p3), .val (.int p4), .val (.int p5), .val (.ref dA), .val (.ref pA), .val (.ref nA), .val (.ref rA), .unset, .unset, .unset, .unset, .unset, .unset, .unset] [(.ref rA), (.ref nA), (.ref pA), (.ref dA), (.int p5), (.int p4), (.int p2), (.int p0), (.int (4 : Int32))])) rfl (by rw [hml]; rfl) (argsL := [(.int (4 : Int32)), (.int p0), (.int p2), (.int p4), (.int p5), (.ref dA), (.ref pA), (.ref nA), (.ref rA)]) (rest := []) (lenOf pd_4 rfl) rfl (by show 2 * 0 + _ ≤ _; exact Nat.le_of_eq rfl) (hb hby at_125) (fun _ _ => ⟨rfl, rfl, (by decide : 4 + 0 ≤ _), (by decide : 20 + 0 ≤ _)⟩)
  dsimp only [Pt.U, Pt.locs, Pt.cells, Pt.slots] at X32 l32 y32 z32 st32 hQ32
  rw [l32, y32, z32] at X32
  obtain ⟨rfl, Nq32, K32, po32_0, po32_1, po32_2, po32_3⟩ := hQ32
  have N32 := Fr.app N30 Nq32
  obtain ⟨u32_l0, hu32_l0⟩ : ∃ z, z = (own_p2_a5 ((4 : Int32)) p0 p2 u30_l0) := ⟨_, rfl⟩
  rw [← hu32_l0] at po32_0
  obtain ⟨u32_l1, hu32_l1⟩ : ∃ z, z = (own_p2_a6 ((4 : Int32)) p0 p4 p5 u30_l1) := ⟨_, rfl⟩
  rw [← hu32_l1] at po32_1
  obtain ⟨u32_l2, hu32_l2⟩ : ∃ z, z = (own_p2_a7 ((4 : Int32)) p0 u30_l2) := ⟨_, rfl⟩
  rw [← hu32_l2] at po32_2
  obtain ⟨u32_l3, hu32_l3⟩ : ∃ z, z = (own_p2_a8 ((4 : Int32)) p0 u30_l3) := ⟨_, rfl⟩
  rw [← hu32_l3] at po32_3
  have HL := own_steps hws14 hws20 hws22 hu23_l0 hu23_l2 hu23_l3 hu28_l0 hu28_l2 hu28_l3 hu30_l0 hu30_l2 hu30_l3 hu32_l0 hu32_l2 hu32_l3
  obtain ⟨x10_135, hx10_135, pre34⟩ : ∃ z : Int32, z = (((p0).toUInt32 >>> ((4 : Int32) &&& 31).toUInt32).toInt32 % (5 : Int32)) ∧ own_Pre p e below (s₁.setTop (entryFrame m #[(.int p0), (.int p1), (.int p2), (.int p3), (.int p4), (.int p5)] maxLocals)) (T32.setTop (mkF m 135 #[.val (.int p0), .val (.int p1), .val (.int p2), .val (.int p3), .val (.int p4), .val (.int p5), .val (.ref dA), .val (.ref pA), .val (.ref nA), .val (.ref rA), .val (.int z), .unset, .unset, .unset, .unset, .unset, .unset] [])) := ⟨_, rfl, fun t k => pre0 t (by
      show Steps p.tables e below (s₁.setTop (mkF m 0 #[.val (.int p0), .val (.int p1), .val (.int p2), .val (.int p3), .val (.int p4), .val (.int p5), .unset, .unset, .unset, .unset, .unset, .unset, .unset, .unset, .unset, .unset, .unset] [])) _
      refine XS.iconst X0.here hx rfl (hb hby at_0) ?_
      refine st1 _ ?_
      refine XS.astore X1.here hx rfl (hb hby at_3) rfl rfl (l' := #[.val (.int p0), .val (.int p1), .val (.int p2), .val (.int p3), .val (.int p4), .val (.int p5), .val (.ref dA), .unset, .unset, .unset, .unset, .unset, .unset, .unset, .unset, .unset, .unset]) rfl ?_
      refine XS.iconst X1.here hx rfl (hb hby at_5) ?_
      refine st2 _ ?_
      show Steps p.tables e below (T2.setTop (mkF m 8 #[.val (.int p0), .val (.int p1), .val (.int p2), .val (.int p3), .val (.int p4), .val (.int p5), .val (.ref dA), .unset, .unset, .unset, .unset, .unset, .unset, .unset, .unset, .unset, .unset] [(.ref pA)])) _
      refine XS.astore X2.here hx rfl (hb hby at_8) rfl rfl (l' := #[.val (.int p0), .val (.int p1), .val (.int p2), .val (.int p3), .val (.int p4), .val (.int p5), .val (.ref dA), .val (.ref pA), .unset, .unset, .unset, .unset, .unset, .unset, .unset, .unset, .unset]) rfl ?_
      refine XS.iconst X2.here hx rfl (hb hby at_10) ?_
      refine st4 _ ?_
      refine XS.astore X4.here hx rfl (hb hby at_13) rfl rfl (l' := #[.val (.int p0), .val (.int p1), .val (.int p2), .val (.int p3), .val (.int p4), .val (.int p5), .val (.ref dA), .val (.ref pA), .val (.ref nA), .unset, .unset, .unset, .unset, .unset, .unset, .unset, .unset]) rfl ?_
      refine XS.iconst X4.here hx rfl (hb hby at_15) ?_
      show Steps p.tables e below (T4.setTop (mkF m 16 #[.val (.int p0), .val (.int p1), .val (.int p2), .val (.int p3), .val (.int p4), .val (.int p5), .val (.ref dA), .val (.ref pA), .val (.ref nA), .unset, .unset, .unset, .unset, .unset, .unset, .unset, .unset] [(.int (5 : Int32))])) _
      refine st7 _ ?_
      refine XS.astore X7.here hx rfl (hb hby at_18) rfl rfl (l' := #[.val (.int p0), .val (.int p1), .val (.int p2), .val (.int p3), .val (.int p4), .val (.int p5), .val (.ref dA), .val (.ref pA), .val (.ref nA), .val (.ref rA), .unset, .unset, .unset, .unset, .unset, .unset, .unset]) rfl ?_
      refine XS.aload X7.here hx rfl (hb hby at_20) rfl rfl ?_
      refine XS.iconst X7.here hx rfl (hb hby at_22) ?_
      refine XS.iloadN X7.here hx rfl (hb hby at_23) rfl ?_
      show Steps p.tables e below (T7.setTop (mkF m 24 #[.val (.int p0), .val (.int p1), .val (.int p2), .val (.int p3), .val (.int p4), .val (.int p5), .val (.ref dA), .val (.ref pA), .val (.ref nA), .val (.ref rA), .unset, .unset, .unset, .unset, .unset, .unset, .unset] [(.int p1), (.int (0 : Int32)), (.ref dA)])) _
      refine X7.ldcInt hx hown (mvT hZ (hw _ (own_w 2 rfl))) (g := (mkF m 24 #[.val (.int p0), .val (.int p1), .val (.int p2), .val (.int p3), .val (.int p4), .val (.int p5), .val (.ref dA), .val (.ref pA), .val (.ref nA), .val (.ref rA), .unset, .unset, .unset, .unset, .unset, .unset, .unset] [(.int p1), (.int (0 : Int32)), (.ref dA)])) rfl (hb hby at_24) _ ?_
      refine XS.iand X7.here hx rfl (hb hby at_26) rfl ?_
      refine X7.ldcInt hx hown (mvT hZ (hw _ (own_w 3 rfl))) (g := (mkF m 27 #[.val (.int p0), .val (.int p1), .val (.int p2), .val (.int p3), .val (.int p4), .val (.int p5), .val (.ref dA), .val (.ref pA), .val (.ref nA), .val (.ref rA), .unset, .unset, .unset, .unset, .unset, .unset, .unset] [(.int (p1 &&& (2147483647 : Int32))), (.int (0 : Int32)), (.ref dA)])) rfl (hb hby at_27) _ ?_
      refine st11 _ ?_
      refine st14 _ ?_
      show Steps p.tables e below (T14.setTop (mkF m 33 #[.val (.int p0), .val (.int p1), .val (.int p2), .val (.int p3), .val (.int p4), .val (.int p5), .val (.ref dA), .val (.ref pA), .val (.ref nA), .val (.ref rA), .unset, .unset, .unset, .unset, .unset, .unset, .unset] [])) _
      refine XS.aload X14.here hx rfl (hb hby at_33) rfl rfl ?_
      refine XS.iconst X14.here hx rfl (hb hby at_35) ?_
      refine XS.iloadN X14.here hx rfl (hb hby at_36) rfl ?_
      refine X14.ldcInt hx hown (mvT hZ (hw _ (own_w 2 rfl))) (g := (mkF m 37 #[.val (.int p0), .val (.int p1), .val (.int p2), .val (.int p3), .val (.int p4), .val (.int p5), .val (.ref dA), .val (.ref pA), .val (.ref nA), .val (.ref rA), .unset, .unset, .unset, .unset, .unset, .unset, .unset] [(.int p3), (.int (0 : Int32)), (.ref pA)])) rfl (hb hby at_37) _ ?_
      refine XS.iand X14.here hx rfl (hb hby at_39) rfl ?_
      show Steps p.tables e below (T14.setTop (mkF m 40 #[.val (.int p0), .val (.int p1), .val (.int p2), .val (.int p3), .val (.int p4), .val (.int p5), .val (.ref dA), .val (.ref pA), .val (.ref nA), .val (.ref rA), .unset, .unset, .unset, .unset, .unset, .unset, .unset] [(.int (p3 &&& (2147483647 : Int32))), (.int (0 : Int32)), (.ref pA)])) _
      refine X14.ldcInt hx hown (mvT hZ (hw _ (own_w 3 rfl))) (g := (mkF m 40 #[.val (.int p0), .val (.int p1), .val (.int p2), .val (.int p3), .val (.int p4), .val (.int p5), .val (.ref dA), .val (.ref pA), .val (.ref nA), .val (.ref rA), .unset, .unset, .unset, .unset, .unset, .unset, .unset] [(.int (p3 &&& (2147483647 : Int32))), (.int (0 : Int32)), (.ref pA)])) rfl (hb hby at_40) _ ?_
      refine st15 _ ?_
      refine st18 _ ?_
      refine XS.aload X18.here hx rfl (hb hby at_46) rfl rfl ?_
      refine XS.iconst X18.here hx rfl (hb hby at_48) ?_
      show Steps p.tables e below (T18.setTop (mkF m 49 #[.val (.int p0), .val (.int p1), .val (.int p2), .val (.int p3), .val (.int p4), .val (.int p5), .val (.ref dA), .val (.ref pA), .val (.ref nA), .val (.ref rA), .unset, .unset, .unset, .unset, .unset, .unset, .unset] [(.int (0 : Int32)), (.ref nA)])) _
      refine XS.iconst X18.here hx rfl (hb hby at_49) ?_
      refine st20 _ ?_
      refine XS.aload X20.here hx rfl (hb hby at_51) rfl rfl ?_
      refine XS.iconst X20.here hx rfl (hb hby at_53) ?_
      refine XS.iconst X20.here hx rfl (hb hby at_54) ?_
      show Steps p.tables e below (T20.setTop (mkF m 55 #[.val (.int p0), .val (.int p1), .val (.int p2), .val (.int p3), .val (.int p4), .val (.int p5), .val (.ref dA), .val (.ref pA), .val (.ref nA), .val (.ref rA), .unset, .unset, .unset, .unset, .unset, .unset, .unset] [(.int (0 : Int32)), (.int (0 : Int32)), (.ref rA)])) _
      refine st22 _ ?_
      refine XS.iconst X22.here hx rfl (hb hby at_56) ?_
      refine XS.iloadN X22.here hx rfl (hb hby at_57) rfl ?_
      refine XS.iloadN X22.here hx rfl (hb hby at_58) rfl ?_
      refine XS.iload X22.here hx rfl (hb hby at_59) rfl ?_
      show Steps p.tables e below (T22.setTop (mkF m 61 #[.val (.int p0), .val (.int p1), .val (.int p2), .val (.int p3), .val (.int p4), .val (.int p5), .val (.ref dA), .val (.ref pA), .val (.ref nA), .val (.ref rA), .unset, .unset, .unset, .unset, .unset, .unset, .unset] [(.int p4), (.int p2), (.int p0), (.int (1 : Int32))])) _
      refine XS.iload X22.here hx rfl (hb hby at_61) rfl ?_
      refine XS.aload X22.here hx rfl (hb hby at_63) rfl rfl ?_
      refine XS.aload X22.here hx rfl (hb hby at_65) rfl rfl ?_
      refine XS.aload X22.here hx rfl (hb hby at_67) rfl rfl ?_
      refine XS.aload X22.here hx rfl (hb hby at_69) rfl rfl ?_
      show Steps p.tables e below (T22.setTop (mkF m 71 #[.val (.int p0), .val (.int p1), .val (.int p2), .val (.int p3), .val (.int p4), .val (.int p5), .val (.ref dA), .val (.ref pA), .val (.ref nA), .val (.ref rA), .unset, .unset, .unset, .unset, .unset, .unset, .unset] [(.ref rA), (.ref nA), (.ref pA), (.ref dA), (.int p5), (.int p4), (.int p2), (.int p0), (.int (1 : Int32))])) _
      refine st23 _ ?_
      refine XS.iconst X23.here hx rfl (hb hby at_74) ?_
      refine XS.iloadN X23.here hx rfl (hb hby at_75) rfl ?_
      refine XS.iloadN X23.here hx rfl (hb hby at_76) rfl ?_
      refine XS.iload X23.here hx rfl (hb hby at_77) rfl ?_
      show Steps p.tables e below (T23.setTop (mkF m 79 #[.val (.int p0), .val (.int p1), .val (.int p2), .val (.int p3), .val (.int p4), .val (.int p5), .val (.ref dA), .val (.ref pA), .val (.ref nA), .val (.ref rA), .unset, .unset, .unset, .unset, .unset, .unset, .unset] [(.int p4), (.int p2), (.int p0), (.int (2 : Int32))])) _
      refine XS.iload X23.here hx rfl (hb hby at_79) rfl ?_
      refine XS.aload X23.here hx rfl (hb hby at_81) rfl rfl ?_
      refine XS.aload X23.here hx rfl (hb hby at_83) rfl rfl ?_
      refine XS.aload X23.here hx rfl (hb hby at_85) rfl rfl ?_
      refine XS.aload X23.here hx rfl (hb hby at_87) rfl rfl ?_
      show Steps p.tables e below (T23.setTop (mkF m 89 #[.val (.int p0), .val (.int p1), .val (.int p2), .val (.int p3), .val (.int p4), .val (.int p5), .val (.ref dA), .val (.ref pA), .val (.ref nA), .val (.ref rA), .unset, .unset, .unset, .unset, .unset, .unset, .unset] [(.ref rA), (.ref nA), (.ref pA), (.ref dA), (.int p5), (.int p4), (.int p2), (.int p0), (.int (2 : Int32))])) _
      refine st28 _ ?_
      refine XS.iconst X28.here hx rfl (hb hby at_92) ?_
      refine XS.iloadN X28.here hx rfl (hb hby at_93) rfl ?_
      refine XS.iloadN X28.here hx rfl (hb hby at_94) rfl ?_
      refine XS.iload X28.here hx rfl (hb hby at_95) rfl ?_
      show Steps p.tables e below (T28.setTop (mkF m 97 #[.val (.int p0), .val (.int p1), .val (.int p2), .val (.int p3), .val (.int p4), .val (.int p5), .val (.ref dA), .val (.ref pA), .val (.ref nA), .val (.ref rA), .unset, .unset, .unset, .unset, .unset, .unset, .unset] [(.int p4), (.int p2), (.int p0), (.int (3 : Int32))])) _
      refine XS.iload X28.here hx rfl (hb hby at_97) rfl ?_
      refine XS.aload X28.here hx rfl (hb hby at_99) rfl rfl ?_
      refine XS.aload X28.here hx rfl (hb hby at_101) rfl rfl ?_
      refine XS.aload X28.here hx rfl (hb hby at_103) rfl rfl ?_
      refine XS.aload X28.here hx rfl (hb hby at_105) rfl rfl ?_
      show Steps p.tables e below (T28.setTop (mkF m 107 #[.val (.int p0), .val (.int p1), .val (.int p2), .val (.int p3), .val (.int p4), .val (.int p5), .val (.ref dA), .val (.ref pA), .val (.ref nA), .val (.ref rA), .unset, .unset, .unset, .unset, .unset, .unset, .unset] [(.ref rA), (.ref nA), (.ref pA), (.ref dA), (.int p5), (.int p4), (.int p2), (.int p0), (.int (3 : Int32))])) _
      refine st30 _ ?_
      refine XS.iconst X30.here hx rfl (hb hby at_110) ?_
      refine XS.iloadN X30.here hx rfl (hb hby at_111) rfl ?_
      refine XS.iloadN X30.here hx rfl (hb hby at_112) rfl ?_
      refine XS.iload X30.here hx rfl (hb hby at_113) rfl ?_
      show Steps p.tables e below (T30.setTop (mkF m 115 #[.val (.int p0), .val (.int p1), .val (.int p2), .val (.int p3), .val (.int p4), .val (.int p5), .val (.ref dA), .val (.ref pA), .val (.ref nA), .val (.ref rA), .unset, .unset, .unset, .unset, .unset, .unset, .unset] [(.int p4), (.int p2), (.int p0), (.int (4 : Int32))])) _
      refine XS.iload X30.here hx rfl (hb hby at_115) rfl ?_
      refine XS.aload X30.here hx rfl (hb hby at_117) rfl rfl ?_
      refine XS.aload X30.here hx rfl (hb hby at_119) rfl rfl ?_
      refine XS.aload X30.here hx rfl (hb hby at_121) rfl rfl ?_
      refine XS.aload X30.here hx rfl (hb hby at_123) rfl rfl ?_
      show Steps p.tables e below (T30.setTop (mkF m 125 #[.val (.int p0), .val (.int p1), .val (.int p2), .val (.int p3), .val (.int p4), .val (.int p5), .val (.ref dA), .val (.ref pA), .val (.ref nA), .val (.ref rA), .unset, .unset, .unset, .unset, .unset, .unset, .unset] [(.ref rA), (.ref nA), (.ref pA), (.ref dA), (.int p5), (.int p4), (.int p2), (.int p0), (.int (4 : Int32))])) _
      refine st32 _ ?_
      refine XS.iloadN X32.here hx rfl (hb hby at_128) rfl ?_
      refine XS.iconst X32.here hx rfl (hb hby at_129) ?_
      refine XS.iushr X32.here hx rfl (hb hby at_130) rfl ?_
      refine XS.iconst X32.here hx rfl (hb hby at_131) ?_
      show Steps p.tables e below (T32.setTop (mkF m 132 #[.val (.int p0), .val (.int p1), .val (.int p2), .val (.int p3), .val (.int p4), .val (.int p5), .val (.ref dA), .val (.ref pA), .val (.ref nA), .val (.ref rA), .unset, .unset, .unset, .unset, .unset, .unset, .unset] [(.int (5 : Int32)), (.int ((p0).toUInt32 >>> ((4 : Int32) &&& 31).toUInt32).toInt32)])) _
      refine iremM X32 hx rfl (hb hby at_132) rfl (by decide) ?_
      refine XS.istore X32.here hx rfl (hb hby at_133) rfl (l' := #[.val (.int p0), .val (.int p1), .val (.int p2), .val (.int p3), .val (.int p4), .val (.int p5), .val (.ref dA), .val (.ref pA), .val (.ref nA), .val (.ref rA), .val (.int (((p0).toUInt32 >>> ((4 : Int32) &&& 31).toUInt32).toInt32 % (5 : Int32))), .unset, .unset, .unset, .unset, .unset, .unset]) rfl ?_
      exact k)⟩
  have hK := own_k hx10_135
  have B0 : own_B u32_l2 u32_l3 x10_135 x10_135 0 := own_B.start hK.1
  obtain ⟨cl35, Ar35, hin35, hat35⟩ := own_AI.at po32_2 (j := x10_135) (own_in5 hK)
  have pre38 : own_Pre p e below (s₁.setTop (entryFrame m #[(.int p0), (.int p1), (.int p2), (.int p3), (.int p4), (.int p5)] maxLocals)) (T32.setTop (mkF m 144 #[.val (.int p0), .val (.int p1), .val (.int p2), .val (.int p3), .val (.int p4), .val (.int p5), .val (.ref dA), .val (.ref pA), .val (.ref nA), .val (.ref rA), .val (.int x10_135), .val (.int x10_135), .unset, .unset, .unset, .unset, .unset] [(.int (u32_l2.getD (x10_135).toNatClampNeg (0 : Int32)))])) := fun t k => pre34 t (by
      show Steps p.tables e below (T32.setTop (mkF m 135 #[.val (.int p0), .val (.int p1), .val (.int p2), .val (.int p3), .val (.int p4), .val (.int p5), .val (.ref dA), .val (.ref pA), .val (.ref nA), .val (.ref rA), .val (.int x10_135), .unset, .unset, .unset, .unset, .unset, .unset] [])) _
      refine XS.iload X32.here hx rfl (hb hby at_135) rfl ?_
      refine XS.istore X32.here hx rfl (hb hby at_137) rfl (l' := #[.val (.int p0), .val (.int p1), .val (.int p2), .val (.int p3), .val (.int p4), .val (.int p5), .val (.ref dA), .val (.ref pA), .val (.ref nA), .val (.ref rA), .val (.int x10_135), .val (.int x10_135), .unset, .unset, .unset, .unset, .unset]) rfl ?_
      refine XS.aload X32.here hx rfl (hb hby at_139) rfl rfl ?_
      refine XS.iload X32.here hx rfl (hb hby at_141) rfl ?_
      refine X32.baloadBooleans hx (j := x10_135) (v := (.int (u32_l2.getD (x10_135).toNatClampNeg (0 : Int32)))) Ar35.1 (State.isArrayOf_alike hZ.alike Ar35.2.1) Ar35.2.2 hin35 hat35 (g := (mkF m 143 #[.val (.int p0), .val (.int p1), .val (.int p2), .val (.int p3), .val (.int p4), .val (.int p5), .val (.ref dA), .val (.ref pA), .val (.ref nA), .val (.ref rA), .val (.int x10_135), .val (.int x10_135), .unset, .unset, .unset, .unset, .unset] [(.int x10_135), (.ref nA)])) rfl rfl (hb hby at_143) _ ?_
      exact k)
  obtain ⟨m150_l11, hm150_l11, pre37⟩ : ∃ (m150_l11 : Int32), m150_l11 = (own_m0_150_l11 u32_l2 x10_135) ∧ own_Pre p e below (s₁.setTop (entryFrame m #[(.int p0), (.int p1), (.int p2), (.int p3), (.int p4), (.int p5)] maxLocals)) (T32.setTop (mkF m 150 #[.val (.int p0), .val (.int p1), .val (.int p2), .val (.int p3), .val (.int p4), .val (.int p5), .val (.ref dA), .val (.ref pA), .val (.ref nA), .val (.ref rA), .val (.int x10_135), .val (.int m150_l11), .unset, .unset, .unset, .unset, .unset] [])) := by
    by_cases hc144 : (u32_l2.getD (x10_135).toNatClampNeg (0 : Int32)) = (0 : Int32)
    · obtain ⟨x11_150, hx11_150, pre39⟩ : ∃ z : Int32, z = (x10_135 + (-1 : Int32)) ∧ own_Pre p e below (s₁.setTop (entryFrame m #[(.int p0), (.int p1), (.int p2), (.int p3), (.int p4), (.int p5)] maxLocals)) (T32.setTop (mkF m 150 #[.val (.int p0), .val (.int p1), .val (.int p2), .val (.int p3), .val (.int p4), .val (.int p5), .val (.ref dA), .val (.ref pA), .val (.ref nA), .val (.ref rA), .val (.int x10_135), .val (.int z), .unset, .unset, .unset, .unset, .unset] [])) := ⟨_, rfl, fun t k => pre38 t (by
          show Steps p.tables e below (T32.setTop (mkF m 144 #[.val (.int p0), .val (.int p1), .val (.int p2), .val (.int p3), .val (.int p4), .val (.int p5), .val (.ref dA), .val (.ref pA), .val (.ref nA), .val (.ref rA), .val (.int x10_135), .val (.int x10_135), .unset, .unset, .unset, .unset, .unset] [(.int (u32_l2.getD (x10_135).toNatClampNeg (0 : Int32)))])) _
          refine XS.ifNo X32.here hx rfl (hb hby at_144) rfl ((if0 _ _).trans (teq hc144).2) ?_
          refine XS.iinc X32.here hx rfl (hb hby at_147) rfl (l' := #[.val (.int p0), .val (.int p1), .val (.int p2), .val (.int p3), .val (.int p4), .val (.int p5), .val (.ref dA), .val (.ref pA), .val (.ref nA), .val (.ref rA), .val (.int x10_135), .val (.int (x10_135 + (-1 : Int32))), .unset, .unset, .unset, .unset, .unset]) rfl ?_
          exact k)⟩
      refine ⟨_, ?_, pre39⟩
      all_goals (subst hx11_150; first | (simp only [own_m0_150_l11, if_pos hc144]; done) | (simp [own_m0_150_l11, if_pos hc144]; done))
    · have pre40 : own_Pre p e below (s₁.setTop (entryFrame m #[(.int p0), (.int p1), (.int p2), (.int p3), (.int p4), (.int p5)] maxLocals)) (T32.setTop (mkF m 150 #[.val (.int p0), .val (.int p1), .val (.int p2), .val (.int p3), .val (.int p4), .val (.int p5), .val (.ref dA), .val (.ref pA), .val (.ref nA), .val (.ref rA), .val (.int x10_135), .val (.int x10_135), .unset, .unset, .unset, .unset, .unset] [])) := fun t k => pre38 t (by
          show Steps p.tables e below (T32.setTop (mkF m 144 #[.val (.int p0), .val (.int p1), .val (.int p2), .val (.int p3), .val (.int p4), .val (.int p5), .val (.ref dA), .val (.ref pA), .val (.ref nA), .val (.ref rA), .val (.int x10_135), .val (.int x10_135), .unset, .unset, .unset, .unset, .unset] [(.int (u32_l2.getD (x10_135).toNatClampNeg (0 : Int32)))])) _
          refine XS.ifYes X32.here hx rfl (pc0 := 144) (pc' := 150) rfl (hb hby at_144) rfl ((if0 _ _).trans (feq hc144).2) (by decide) (by decide) ?_
          exact k)
      refine ⟨_, ?_, pre40⟩
      all_goals (first | (simp only [own_m0_150_l11, if_neg hc144]; done) | (simp [own_m0_150_l11, if_neg hc144]; done))
  have B1 := B0.next HL hK.2 hm150_l11
  obtain ⟨cl41, Ar41, hin41, hat41⟩ := own_AI.at po32_2 (j := m150_l11) (B1.in5 hK.2)
  have pre44 : own_Pre p e below (s₁.setTop (entryFrame m #[(.int p0), (.int p1), (.int p2), (.int p3), (.int p4), (.int p5)] maxLocals)) (T32.setTop (mkF m 155 #[.val (.int p0), .val (.int p1), .val (.int p2), .val (.int p3), .val (.int p4), .val (.int p5), .val (.ref dA), .val (.ref pA), .val (.ref nA), .val (.ref rA), .val (.int x10_135), .val (.int m150_l11), .unset, .unset, .unset, .unset, .unset] [(.int (u32_l2.getD (m150_l11).toNatClampNeg (0 : Int32)))])) := fun t k => pre37 t (by
      show Steps p.tables e below (T32.setTop (mkF m 150 #[.val (.int p0), .val (.int p1), .val (.int p2), .val (.int p3), .val (.int p4), .val (.int p5), .val (.ref dA), .val (.ref pA), .val (.ref nA), .val (.ref rA), .val (.int x10_135), .val (.int m150_l11), .unset, .unset, .unset, .unset, .unset] [])) _
      refine XS.aload X32.here hx rfl (hb hby at_150) rfl rfl ?_
      refine XS.iload X32.here hx rfl (hb hby at_152) rfl ?_
      refine X32.baloadBooleans hx (j := m150_l11) (v := (.int (u32_l2.getD (m150_l11).toNatClampNeg (0 : Int32)))) Ar41.1 (State.isArrayOf_alike hZ.alike Ar41.2.1) Ar41.2.2 hin41 hat41 (g := (mkF m 154 #[.val (.int p0), .val (.int p1), .val (.int p2), .val (.int p3), .val (.int p4), .val (.int p5), .val (.ref dA), .val (.ref pA), .val (.ref nA), .val (.ref rA), .val (.int x10_135), .val (.int m150_l11), .unset, .unset, .unset, .unset, .unset] [(.int m150_l11), (.ref nA)])) rfl rfl (hb hby at_154) _ ?_
      exact k)
  obtain ⟨m161_l11, hm161_l11, pre43⟩ : ∃ (m161_l11 : Int32), m161_l11 = (own_m0_150_l11 u32_l2 m150_l11) ∧ own_Pre p e below (s₁.setTop (entryFrame m #[(.int p0), (.int p1), (.int p2), (.int p3), (.int p4), (.int p5)] maxLocals)) (T32.setTop (mkF m 161 #[.val (.int p0), .val (.int p1), .val (.int p2), .val (.int p3), .val (.int p4), .val (.int p5), .val (.ref dA), .val (.ref pA), .val (.ref nA), .val (.ref rA), .val (.int x10_135), .val (.int m161_l11), .unset, .unset, .unset, .unset, .unset] [])) := by
    by_cases hc155 : (u32_l2.getD (m150_l11).toNatClampNeg (0 : Int32)) = (0 : Int32)
    · obtain ⟨x11_161, hx11_161, pre45⟩ : ∃ z : Int32, z = (m150_l11 + (-1 : Int32)) ∧ own_Pre p e below (s₁.setTop (entryFrame m #[(.int p0), (.int p1), (.int p2), (.int p3), (.int p4), (.int p5)] maxLocals)) (T32.setTop (mkF m 161 #[.val (.int p0), .val (.int p1), .val (.int p2), .val (.int p3), .val (.int p4), .val (.int p5), .val (.ref dA), .val (.ref pA), .val (.ref nA), .val (.ref rA), .val (.int x10_135), .val (.int z), .unset, .unset, .unset, .unset, .unset] [])) := ⟨_, rfl, fun t k => pre44 t (by
          show Steps p.tables e below (T32.setTop (mkF m 155 #[.val (.int p0), .val (.int p1), .val (.int p2), .val (.int p3), .val (.int p4), .val (.int p5), .val (.ref dA), .val (.ref pA), .val (.ref nA), .val (.ref rA), .val (.int x10_135), .val (.int m150_l11), .unset, .unset, .unset, .unset, .unset] [(.int (u32_l2.getD (m150_l11).toNatClampNeg (0 : Int32)))])) _
          refine XS.ifNo X32.here hx rfl (hb hby at_155) rfl ((if0 _ _).trans (teq hc155).2) ?_
          refine XS.iinc X32.here hx rfl (hb hby at_158) rfl (l' := #[.val (.int p0), .val (.int p1), .val (.int p2), .val (.int p3), .val (.int p4), .val (.int p5), .val (.ref dA), .val (.ref pA), .val (.ref nA), .val (.ref rA), .val (.int x10_135), .val (.int (m150_l11 + (-1 : Int32))), .unset, .unset, .unset, .unset, .unset]) rfl ?_
          exact k)⟩
      refine ⟨_, ?_, pre45⟩
      all_goals (subst hx11_161; first | (simp only [own_m0_150_l11, if_pos hc155]; done) | (simp [own_m0_150_l11, if_pos hc155]; done))
    · have pre46 : own_Pre p e below (s₁.setTop (entryFrame m #[(.int p0), (.int p1), (.int p2), (.int p3), (.int p4), (.int p5)] maxLocals)) (T32.setTop (mkF m 161 #[.val (.int p0), .val (.int p1), .val (.int p2), .val (.int p3), .val (.int p4), .val (.int p5), .val (.ref dA), .val (.ref pA), .val (.ref nA), .val (.ref rA), .val (.int x10_135), .val (.int m150_l11), .unset, .unset, .unset, .unset, .unset] [])) := fun t k => pre44 t (by
          show Steps p.tables e below (T32.setTop (mkF m 155 #[.val (.int p0), .val (.int p1), .val (.int p2), .val (.int p3), .val (.int p4), .val (.int p5), .val (.ref dA), .val (.ref pA), .val (.ref nA), .val (.ref rA), .val (.int x10_135), .val (.int m150_l11), .unset, .unset, .unset, .unset, .unset] [(.int (u32_l2.getD (m150_l11).toNatClampNeg (0 : Int32)))])) _
          refine XS.ifYes X32.here hx rfl (pc0 := 155) (pc' := 161) rfl (hb hby at_155) rfl ((if0 _ _).trans (feq hc155).2) (by decide) (by decide) ?_
          exact k)
      refine ⟨_, ?_, pre46⟩
      all_goals (first | (simp only [own_m0_150_l11, if_neg hc155]; done) | (simp [own_m0_150_l11, if_neg hc155]; done))
  have B2 := B1.next HL hK.2 hm161_l11
  obtain ⟨cl47, Ar47, hin47, hat47⟩ := own_AI.at po32_2 (j := m161_l11) (B2.in5 hK.2)
  have pre50 : own_Pre p e below (s₁.setTop (entryFrame m #[(.int p0), (.int p1), (.int p2), (.int p3), (.int p4), (.int p5)] maxLocals)) (T32.setTop (mkF m 166 #[.val (.int p0), .val (.int p1), .val (.int p2), .val (.int p3), .val (.int p4), .val (.int p5), .val (.ref dA), .val (.ref pA), .val (.ref nA), .val (.ref rA), .val (.int x10_135), .val (.int m161_l11), .unset, .unset, .unset, .unset, .unset] [(.int (u32_l2.getD (m161_l11).toNatClampNeg (0 : Int32)))])) := fun t k => pre43 t (by
      show Steps p.tables e below (T32.setTop (mkF m 161 #[.val (.int p0), .val (.int p1), .val (.int p2), .val (.int p3), .val (.int p4), .val (.int p5), .val (.ref dA), .val (.ref pA), .val (.ref nA), .val (.ref rA), .val (.int x10_135), .val (.int m161_l11), .unset, .unset, .unset, .unset, .unset] [])) _
      refine XS.aload X32.here hx rfl (hb hby at_161) rfl rfl ?_
      refine XS.iload X32.here hx rfl (hb hby at_163) rfl ?_
      refine X32.baloadBooleans hx (j := m161_l11) (v := (.int (u32_l2.getD (m161_l11).toNatClampNeg (0 : Int32)))) Ar47.1 (State.isArrayOf_alike hZ.alike Ar47.2.1) Ar47.2.2 hin47 hat47 (g := (mkF m 165 #[.val (.int p0), .val (.int p1), .val (.int p2), .val (.int p3), .val (.int p4), .val (.int p5), .val (.ref dA), .val (.ref pA), .val (.ref nA), .val (.ref rA), .val (.int x10_135), .val (.int m161_l11), .unset, .unset, .unset, .unset, .unset] [(.int m161_l11), (.ref nA)])) rfl rfl (hb hby at_165) _ ?_
      exact k)
  obtain ⟨m172_l11, hm172_l11, pre49⟩ : ∃ (m172_l11 : Int32), m172_l11 = (own_m0_150_l11 u32_l2 m161_l11) ∧ own_Pre p e below (s₁.setTop (entryFrame m #[(.int p0), (.int p1), (.int p2), (.int p3), (.int p4), (.int p5)] maxLocals)) (T32.setTop (mkF m 172 #[.val (.int p0), .val (.int p1), .val (.int p2), .val (.int p3), .val (.int p4), .val (.int p5), .val (.ref dA), .val (.ref pA), .val (.ref nA), .val (.ref rA), .val (.int x10_135), .val (.int m172_l11), .unset, .unset, .unset, .unset, .unset] [])) := by
    by_cases hc166 : (u32_l2.getD (m161_l11).toNatClampNeg (0 : Int32)) = (0 : Int32)
    · obtain ⟨x11_172, hx11_172, pre51⟩ : ∃ z : Int32, z = (m161_l11 + (-1 : Int32)) ∧ own_Pre p e below (s₁.setTop (entryFrame m #[(.int p0), (.int p1), (.int p2), (.int p3), (.int p4), (.int p5)] maxLocals)) (T32.setTop (mkF m 172 #[.val (.int p0), .val (.int p1), .val (.int p2), .val (.int p3), .val (.int p4), .val (.int p5), .val (.ref dA), .val (.ref pA), .val (.ref nA), .val (.ref rA), .val (.int x10_135), .val (.int z), .unset, .unset, .unset, .unset, .unset] [])) := ⟨_, rfl, fun t k => pre50 t (by
          show Steps p.tables e below (T32.setTop (mkF m 166 #[.val (.int p0), .val (.int p1), .val (.int p2), .val (.int p3), .val (.int p4), .val (.int p5), .val (.ref dA), .val (.ref pA), .val (.ref nA), .val (.ref rA), .val (.int x10_135), .val (.int m161_l11), .unset, .unset, .unset, .unset, .unset] [(.int (u32_l2.getD (m161_l11).toNatClampNeg (0 : Int32)))])) _
          refine XS.ifNo X32.here hx rfl (hb hby at_166) rfl ((if0 _ _).trans (teq hc166).2) ?_
          refine XS.iinc X32.here hx rfl (hb hby at_169) rfl (l' := #[.val (.int p0), .val (.int p1), .val (.int p2), .val (.int p3), .val (.int p4), .val (.int p5), .val (.ref dA), .val (.ref pA), .val (.ref nA), .val (.ref rA), .val (.int x10_135), .val (.int (m161_l11 + (-1 : Int32))), .unset, .unset, .unset, .unset, .unset]) rfl ?_
          exact k)⟩
      refine ⟨_, ?_, pre51⟩
      all_goals (subst hx11_172; first | (simp only [own_m0_150_l11, if_pos hc166]; done) | (simp [own_m0_150_l11, if_pos hc166]; done))
    · have pre52 : own_Pre p e below (s₁.setTop (entryFrame m #[(.int p0), (.int p1), (.int p2), (.int p3), (.int p4), (.int p5)] maxLocals)) (T32.setTop (mkF m 172 #[.val (.int p0), .val (.int p1), .val (.int p2), .val (.int p3), .val (.int p4), .val (.int p5), .val (.ref dA), .val (.ref pA), .val (.ref nA), .val (.ref rA), .val (.int x10_135), .val (.int m161_l11), .unset, .unset, .unset, .unset, .unset] [])) := fun t k => pre50 t (by
          show Steps p.tables e below (T32.setTop (mkF m 166 #[.val (.int p0), .val (.int p1), .val (.int p2), .val (.int p3), .val (.int p4), .val (.int p5), .val (.ref dA), .val (.ref pA), .val (.ref nA), .val (.ref rA), .val (.int x10_135), .val (.int m161_l11), .unset, .unset, .unset, .unset, .unset] [(.int (u32_l2.getD (m161_l11).toNatClampNeg (0 : Int32)))])) _
          refine XS.ifYes X32.here hx rfl (pc0 := 166) (pc' := 172) rfl (hb hby at_166) rfl ((if0 _ _).trans (feq hc166).2) (by decide) (by decide) ?_
          exact k)
      refine ⟨_, ?_, pre52⟩
      all_goals (first | (simp only [own_m0_150_l11, if_neg hc166]; done) | (simp [own_m0_150_l11, if_neg hc166]; done))
  have B3 := B2.next HL hK.2 hm172_l11
  obtain ⟨cl53, Ar53, hin53, hat53⟩ := own_AI.at po32_2 (j := m172_l11) (B3.in5 hK.2)
  have pre56 : own_Pre p e below (s₁.setTop (entryFrame m #[(.int p0), (.int p1), (.int p2), (.int p3), (.int p4), (.int p5)] maxLocals)) (T32.setTop (mkF m 177 #[.val (.int p0), .val (.int p1), .val (.int p2), .val (.int p3), .val (.int p4), .val (.int p5), .val (.ref dA), .val (.ref pA), .val (.ref nA), .val (.ref rA), .val (.int x10_135), .val (.int m172_l11), .unset, .unset, .unset, .unset, .unset] [(.int (u32_l2.getD (m172_l11).toNatClampNeg (0 : Int32)))])) := fun t k => pre49 t (by
      show Steps p.tables e below (T32.setTop (mkF m 172 #[.val (.int p0), .val (.int p1), .val (.int p2), .val (.int p3), .val (.int p4), .val (.int p5), .val (.ref dA), .val (.ref pA), .val (.ref nA), .val (.ref rA), .val (.int x10_135), .val (.int m172_l11), .unset, .unset, .unset, .unset, .unset] [])) _
      refine XS.aload X32.here hx rfl (hb hby at_172) rfl rfl ?_
      refine XS.iload X32.here hx rfl (hb hby at_174) rfl ?_
      refine X32.baloadBooleans hx (j := m172_l11) (v := (.int (u32_l2.getD (m172_l11).toNatClampNeg (0 : Int32)))) Ar53.1 (State.isArrayOf_alike hZ.alike Ar53.2.1) Ar53.2.2 hin53 hat53 (g := (mkF m 176 #[.val (.int p0), .val (.int p1), .val (.int p2), .val (.int p3), .val (.int p4), .val (.int p5), .val (.ref dA), .val (.ref pA), .val (.ref nA), .val (.ref rA), .val (.int x10_135), .val (.int m172_l11), .unset, .unset, .unset, .unset, .unset] [(.int m172_l11), (.ref nA)])) rfl rfl (hb hby at_176) _ ?_
      exact k)
  obtain ⟨m183_l11, hm183_l11, pre55⟩ : ∃ (m183_l11 : Int32), m183_l11 = (own_m0_150_l11 u32_l2 m172_l11) ∧ own_Pre p e below (s₁.setTop (entryFrame m #[(.int p0), (.int p1), (.int p2), (.int p3), (.int p4), (.int p5)] maxLocals)) (T32.setTop (mkF m 183 #[.val (.int p0), .val (.int p1), .val (.int p2), .val (.int p3), .val (.int p4), .val (.int p5), .val (.ref dA), .val (.ref pA), .val (.ref nA), .val (.ref rA), .val (.int x10_135), .val (.int m183_l11), .unset, .unset, .unset, .unset, .unset] [])) := by
    by_cases hc177 : (u32_l2.getD (m172_l11).toNatClampNeg (0 : Int32)) = (0 : Int32)
    · obtain ⟨x11_183, hx11_183, pre57⟩ : ∃ z : Int32, z = (m172_l11 + (-1 : Int32)) ∧ own_Pre p e below (s₁.setTop (entryFrame m #[(.int p0), (.int p1), (.int p2), (.int p3), (.int p4), (.int p5)] maxLocals)) (T32.setTop (mkF m 183 #[.val (.int p0), .val (.int p1), .val (.int p2), .val (.int p3), .val (.int p4), .val (.int p5), .val (.ref dA), .val (.ref pA), .val (.ref nA), .val (.ref rA), .val (.int x10_135), .val (.int z), .unset, .unset, .unset, .unset, .unset] [])) := ⟨_, rfl, fun t k => pre56 t (by
          show Steps p.tables e below (T32.setTop (mkF m 177 #[.val (.int p0), .val (.int p1), .val (.int p2), .val (.int p3), .val (.int p4), .val (.int p5), .val (.ref dA), .val (.ref pA), .val (.ref nA), .val (.ref rA), .val (.int x10_135), .val (.int m172_l11), .unset, .unset, .unset, .unset, .unset] [(.int (u32_l2.getD (m172_l11).toNatClampNeg (0 : Int32)))])) _
          refine XS.ifNo X32.here hx rfl (hb hby at_177) rfl ((if0 _ _).trans (teq hc177).2) ?_
          refine XS.iinc X32.here hx rfl (hb hby at_180) rfl (l' := #[.val (.int p0), .val (.int p1), .val (.int p2), .val (.int p3), .val (.int p4), .val (.int p5), .val (.ref dA), .val (.ref pA), .val (.ref nA), .val (.ref rA), .val (.int x10_135), .val (.int (m172_l11 + (-1 : Int32))), .unset, .unset, .unset, .unset, .unset]) rfl ?_
          exact k)⟩
      refine ⟨_, ?_, pre57⟩
      all_goals (subst hx11_183; first | (simp only [own_m0_150_l11, if_pos hc177]; done) | (simp [own_m0_150_l11, if_pos hc177]; done))
    · have pre58 : own_Pre p e below (s₁.setTop (entryFrame m #[(.int p0), (.int p1), (.int p2), (.int p3), (.int p4), (.int p5)] maxLocals)) (T32.setTop (mkF m 183 #[.val (.int p0), .val (.int p1), .val (.int p2), .val (.int p3), .val (.int p4), .val (.int p5), .val (.ref dA), .val (.ref pA), .val (.ref nA), .val (.ref rA), .val (.int x10_135), .val (.int m172_l11), .unset, .unset, .unset, .unset, .unset] [])) := fun t k => pre56 t (by
          show Steps p.tables e below (T32.setTop (mkF m 177 #[.val (.int p0), .val (.int p1), .val (.int p2), .val (.int p3), .val (.int p4), .val (.int p5), .val (.ref dA), .val (.ref pA), .val (.ref nA), .val (.ref rA), .val (.int x10_135), .val (.int m172_l11), .unset, .unset, .unset, .unset, .unset] [(.int (u32_l2.getD (m172_l11).toNatClampNeg (0 : Int32)))])) _
          refine XS.ifYes X32.here hx rfl (pc0 := 177) (pc' := 183) rfl (hb hby at_177) rfl ((if0 _ _).trans (feq hc177).2) (by decide) (by decide) ?_
          exact k)
      refine ⟨_, ?_, pre58⟩
      all_goals (first | (simp only [own_m0_150_l11, if_neg hc177]; done) | (simp [own_m0_150_l11, if_neg hc177]; done))
  have B4 := B3.next HL hK.2 hm183_l11
  obtain ⟨x12_189, hx12_189, pre59⟩ : ∃ z : Int32, z = (x10_135 + (1 : Int32)) ∧ own_Pre p e below (s₁.setTop (entryFrame m #[(.int p0), (.int p1), (.int p2), (.int p3), (.int p4), (.int p5)] maxLocals)) (T32.setTop (mkF m 189 #[.val (.int p0), .val (.int p1), .val (.int p2), .val (.int p3), .val (.int p4), .val (.int p5), .val (.ref dA), .val (.ref pA), .val (.ref nA), .val (.ref rA), .val (.int x10_135), .val (.int m183_l11), .val (.int z), .unset, .unset, .unset, .unset] [])) := ⟨_, rfl, fun t k => pre55 t (by
      show Steps p.tables e below (T32.setTop (mkF m 183 #[.val (.int p0), .val (.int p1), .val (.int p2), .val (.int p3), .val (.int p4), .val (.int p5), .val (.ref dA), .val (.ref pA), .val (.ref nA), .val (.ref rA), .val (.int x10_135), .val (.int m183_l11), .unset, .unset, .unset, .unset, .unset] [])) _
      refine XS.iload X32.here hx rfl (hb hby at_183) rfl ?_
      refine XS.iconst X32.here hx rfl (hb hby at_185) ?_
      refine XS.iadd X32.here hx rfl (hb hby at_186) rfl ?_
      refine XS.istore X32.here hx rfl (hb hby at_187) rfl (l' := #[.val (.int p0), .val (.int p1), .val (.int p2), .val (.int p3), .val (.int p4), .val (.int p5), .val (.ref dA), .val (.ref pA), .val (.ref nA), .val (.ref rA), .val (.int x10_135), .val (.int m183_l11), .val (.int (x10_135 + (1 : Int32))), .unset, .unset, .unset, .unset]) rfl ?_
      exact k)⟩
  have F0 : own_F u32_l2 u32_l3 x10_135 x12_189 0 := own_F.start hK hx12_189
  have pre62 : own_Pre p e below (s₁.setTop (entryFrame m #[(.int p0), (.int p1), (.int p2), (.int p3), (.int p4), (.int p5)] maxLocals)) (T32.setTop (mkF m 192 #[.val (.int p0), .val (.int p1), .val (.int p2), .val (.int p3), .val (.int p4), .val (.int p5), .val (.ref dA), .val (.ref pA), .val (.ref nA), .val (.ref rA), .val (.int x10_135), .val (.int m183_l11), .val (.int x12_189), .unset, .unset, .unset, .unset] [(.int (5 : Int32)), (.int x12_189)])) := fun t k => pre59 t (by
      show Steps p.tables e below (T32.setTop (mkF m 189 #[.val (.int p0), .val (.int p1), .val (.int p2), .val (.int p3), .val (.int p4), .val (.int p5), .val (.ref dA), .val (.ref pA), .val (.ref nA), .val (.ref rA), .val (.int x10_135), .val (.int m183_l11), .val (.int x12_189), .unset, .unset, .unset, .unset] [])) _
      refine XS.iload X32.here hx rfl (hb hby at_189) rfl ?_
      refine XS.iconst X32.here hx rfl (hb hby at_191) ?_
      exact k)
  obtain ⟨m206_l12, hm206_l12, pre61⟩ : ∃ (m206_l12 : Int32), m206_l12 = (own_m0_206_l12 x12_189 u32_l2) ∧ own_Pre p e below (s₁.setTop (entryFrame m #[(.int p0), (.int p1), (.int p2), (.int p3), (.int p4), (.int p5)] maxLocals)) (T32.setTop (mkF m 206 #[.val (.int p0), .val (.int p1), .val (.int p2), .val (.int p3), .val (.int p4), .val (.int p5), .val (.ref dA), .val (.ref pA), .val (.ref nA), .val (.ref rA), .val (.int x10_135), .val (.int m183_l11), .val (.int m206_l12), .unset, .unset, .unset, .unset] [])) := by
    by_cases hc192 : x12_189 < (5 : Int32)
    · obtain ⟨cl63, Ar63, hin63, hat63⟩ := own_AI.at po32_2 (j := x12_189) (F0.in5 hK.1 hc192)
      have pre64 : own_Pre p e below (s₁.setTop (entryFrame m #[(.int p0), (.int p1), (.int p2), (.int p3), (.int p4), (.int p5)] maxLocals)) (T32.setTop (mkF m 200 #[.val (.int p0), .val (.int p1), .val (.int p2), .val (.int p3), .val (.int p4), .val (.int p5), .val (.ref dA), .val (.ref pA), .val (.ref nA), .val (.ref rA), .val (.int x10_135), .val (.int m183_l11), .val (.int x12_189), .unset, .unset, .unset, .unset] [(.int (u32_l2.getD (x12_189).toNatClampNeg (0 : Int32)))])) := fun t k => pre62 t (by
          show Steps p.tables e below (T32.setTop (mkF m 192 #[.val (.int p0), .val (.int p1), .val (.int p2), .val (.int p3), .val (.int p4), .val (.int p5), .val (.ref dA), .val (.ref pA), .val (.ref nA), .val (.ref rA), .val (.int x10_135), .val (.int m183_l11), .val (.int x12_189), .unset, .unset, .unset, .unset] [(.int (5 : Int32)), (.int x12_189)])) _
          refine XS.icmpNo X32.here hx rfl (hb hby at_192) rfl (tlt hc192).2.1 ?_
          refine XS.aload X32.here hx rfl (hb hby at_195) rfl rfl ?_
          refine XS.iload X32.here hx rfl (hb hby at_197) rfl ?_
          refine X32.baloadBooleans hx (j := x12_189) (v := (.int (u32_l2.getD (x12_189).toNatClampNeg (0 : Int32)))) Ar63.1 (State.isArrayOf_alike hZ.alike Ar63.2.1) Ar63.2.2 hin63 hat63 (g := (mkF m 199 #[.val (.int p0), .val (.int p1), .val (.int p2), .val (.int p3), .val (.int p4), .val (.int p5), .val (.ref dA), .val (.ref pA), .val (.ref nA), .val (.ref rA), .val (.int x10_135), .val (.int m183_l11), .val (.int x12_189), .unset, .unset, .unset, .unset] [(.int x12_189), (.ref nA)])) rfl rfl (hb hby at_199) _ ?_
          exact k)
      by_cases hc200 : (u32_l2.getD (x12_189).toNatClampNeg (0 : Int32)) = (0 : Int32)
      · obtain ⟨x12_206, hx12_206, pre65⟩ : ∃ z : Int32, z = (x12_189 + (1 : Int32)) ∧ own_Pre p e below (s₁.setTop (entryFrame m #[(.int p0), (.int p1), (.int p2), (.int p3), (.int p4), (.int p5)] maxLocals)) (T32.setTop (mkF m 206 #[.val (.int p0), .val (.int p1), .val (.int p2), .val (.int p3), .val (.int p4), .val (.int p5), .val (.ref dA), .val (.ref pA), .val (.ref nA), .val (.ref rA), .val (.int x10_135), .val (.int m183_l11), .val (.int z), .unset, .unset, .unset, .unset] [])) := ⟨_, rfl, fun t k => pre64 t (by
            show Steps p.tables e below (T32.setTop (mkF m 200 #[.val (.int p0), .val (.int p1), .val (.int p2), .val (.int p3), .val (.int p4), .val (.int p5), .val (.ref dA), .val (.ref pA), .val (.ref nA), .val (.ref rA), .val (.int x10_135), .val (.int m183_l11), .val (.int x12_189), .unset, .unset, .unset, .unset] [(.int (u32_l2.getD (x12_189).toNatClampNeg (0 : Int32)))])) _
            refine XS.ifNo X32.here hx rfl (hb hby at_200) rfl ((if0 _ _).trans (teq hc200).2) ?_
            refine XS.iinc X32.here hx rfl (hb hby at_203) rfl (l' := #[.val (.int p0), .val (.int p1), .val (.int p2), .val (.int p3), .val (.int p4), .val (.int p5), .val (.ref dA), .val (.ref pA), .val (.ref nA), .val (.ref rA), .val (.int x10_135), .val (.int m183_l11), .val (.int (x12_189 + (1 : Int32))), .unset, .unset, .unset, .unset]) rfl ?_
            exact k)⟩
        refine ⟨_, ?_, pre65⟩
        all_goals (subst hx12_206; first | (simp only [own_m0_206_l12, if_pos hc192, if_pos hc200]; done) | (simp [own_m0_206_l12, if_pos hc192, if_pos hc200]; done))
      · have pre66 : own_Pre p e below (s₁.setTop (entryFrame m #[(.int p0), (.int p1), (.int p2), (.int p3), (.int p4), (.int p5)] maxLocals)) (T32.setTop (mkF m 206 #[.val (.int p0), .val (.int p1), .val (.int p2), .val (.int p3), .val (.int p4), .val (.int p5), .val (.ref dA), .val (.ref pA), .val (.ref nA), .val (.ref rA), .val (.int x10_135), .val (.int m183_l11), .val (.int x12_189), .unset, .unset, .unset, .unset] [])) := fun t k => pre64 t (by
            show Steps p.tables e below (T32.setTop (mkF m 200 #[.val (.int p0), .val (.int p1), .val (.int p2), .val (.int p3), .val (.int p4), .val (.int p5), .val (.ref dA), .val (.ref pA), .val (.ref nA), .val (.ref rA), .val (.int x10_135), .val (.int m183_l11), .val (.int x12_189), .unset, .unset, .unset, .unset] [(.int (u32_l2.getD (x12_189).toNatClampNeg (0 : Int32)))])) _
            refine XS.ifYes X32.here hx rfl (pc0 := 200) (pc' := 206) rfl (hb hby at_200) rfl ((if0 _ _).trans (feq hc200).2) (by decide) (by decide) ?_
            exact k)
        refine ⟨_, ?_, pre66⟩
        all_goals (first | (simp only [own_m0_206_l12, if_pos hc192, if_neg hc200]; done) | (simp [own_m0_206_l12, if_pos hc192, if_neg hc200]; done))
    · have pre67 : own_Pre p e below (s₁.setTop (entryFrame m #[(.int p0), (.int p1), (.int p2), (.int p3), (.int p4), (.int p5)] maxLocals)) (T32.setTop (mkF m 206 #[.val (.int p0), .val (.int p1), .val (.int p2), .val (.int p3), .val (.int p4), .val (.int p5), .val (.ref dA), .val (.ref pA), .val (.ref nA), .val (.ref rA), .val (.int x10_135), .val (.int m183_l11), .val (.int x12_189), .unset, .unset, .unset, .unset] [])) := fun t k => pre62 t (by
          show Steps p.tables e below (T32.setTop (mkF m 192 #[.val (.int p0), .val (.int p1), .val (.int p2), .val (.int p3), .val (.int p4), .val (.int p5), .val (.ref dA), .val (.ref pA), .val (.ref nA), .val (.ref rA), .val (.int x10_135), .val (.int m183_l11), .val (.int x12_189), .unset, .unset, .unset, .unset] [(.int (5 : Int32)), (.int x12_189)])) _
          refine XS.icmpYes X32.here hx rfl (pc0 := 192) (pc' := 206) rfl (hb hby at_192) rfl (flt hc192).2.1 (by decide) (by decide) ?_
          exact k)
      refine ⟨_, ?_, pre67⟩
      all_goals (first | (simp only [own_m0_206_l12, if_neg hc192]; done) | (simp [own_m0_206_l12, if_neg hc192]; done))
  have F1 := F0.next HL hK hm206_l12
  have pre70 : own_Pre p e below (s₁.setTop (entryFrame m #[(.int p0), (.int p1), (.int p2), (.int p3), (.int p4), (.int p5)] maxLocals)) (T32.setTop (mkF m 209 #[.val (.int p0), .val (.int p1), .val (.int p2), .val (.int p3), .val (.int p4), .val (.int p5), .val (.ref dA), .val (.ref pA), .val (.ref nA), .val (.ref rA), .val (.int x10_135), .val (.int m183_l11), .val (.int m206_l12), .unset, .unset, .unset, .unset] [(.int (5 : Int32)), (.int m206_l12)])) := fun t k => pre61 t (by
      show Steps p.tables e below (T32.setTop (mkF m 206 #[.val (.int p0), .val (.int p1), .val (.int p2), .val (.int p3), .val (.int p4), .val (.int p5), .val (.ref dA), .val (.ref pA), .val (.ref nA), .val (.ref rA), .val (.int x10_135), .val (.int m183_l11), .val (.int m206_l12), .unset, .unset, .unset, .unset] [])) _
      refine XS.iload X32.here hx rfl (hb hby at_206) rfl ?_
      refine XS.iconst X32.here hx rfl (hb hby at_208) ?_
      exact k)
  obtain ⟨m223_l12, hm223_l12, pre69⟩ : ∃ (m223_l12 : Int32), m223_l12 = (own_m0_206_l12 m206_l12 u32_l2) ∧ own_Pre p e below (s₁.setTop (entryFrame m #[(.int p0), (.int p1), (.int p2), (.int p3), (.int p4), (.int p5)] maxLocals)) (T32.setTop (mkF m 223 #[.val (.int p0), .val (.int p1), .val (.int p2), .val (.int p3), .val (.int p4), .val (.int p5), .val (.ref dA), .val (.ref pA), .val (.ref nA), .val (.ref rA), .val (.int x10_135), .val (.int m183_l11), .val (.int m223_l12), .unset, .unset, .unset, .unset] [])) := by
    by_cases hc209 : m206_l12 < (5 : Int32)
    · obtain ⟨cl71, Ar71, hin71, hat71⟩ := own_AI.at po32_2 (j := m206_l12) (F1.in5 hK.1 hc209)
      have pre72 : own_Pre p e below (s₁.setTop (entryFrame m #[(.int p0), (.int p1), (.int p2), (.int p3), (.int p4), (.int p5)] maxLocals)) (T32.setTop (mkF m 217 #[.val (.int p0), .val (.int p1), .val (.int p2), .val (.int p3), .val (.int p4), .val (.int p5), .val (.ref dA), .val (.ref pA), .val (.ref nA), .val (.ref rA), .val (.int x10_135), .val (.int m183_l11), .val (.int m206_l12), .unset, .unset, .unset, .unset] [(.int (u32_l2.getD (m206_l12).toNatClampNeg (0 : Int32)))])) := fun t k => pre70 t (by
          show Steps p.tables e below (T32.setTop (mkF m 209 #[.val (.int p0), .val (.int p1), .val (.int p2), .val (.int p3), .val (.int p4), .val (.int p5), .val (.ref dA), .val (.ref pA), .val (.ref nA), .val (.ref rA), .val (.int x10_135), .val (.int m183_l11), .val (.int m206_l12), .unset, .unset, .unset, .unset] [(.int (5 : Int32)), (.int m206_l12)])) _
          refine XS.icmpNo X32.here hx rfl (hb hby at_209) rfl (tlt hc209).2.1 ?_
          refine XS.aload X32.here hx rfl (hb hby at_212) rfl rfl ?_
          refine XS.iload X32.here hx rfl (hb hby at_214) rfl ?_
          refine X32.baloadBooleans hx (j := m206_l12) (v := (.int (u32_l2.getD (m206_l12).toNatClampNeg (0 : Int32)))) Ar71.1 (State.isArrayOf_alike hZ.alike Ar71.2.1) Ar71.2.2 hin71 hat71 (g := (mkF m 216 #[.val (.int p0), .val (.int p1), .val (.int p2), .val (.int p3), .val (.int p4), .val (.int p5), .val (.ref dA), .val (.ref pA), .val (.ref nA), .val (.ref rA), .val (.int x10_135), .val (.int m183_l11), .val (.int m206_l12), .unset, .unset, .unset, .unset] [(.int m206_l12), (.ref nA)])) rfl rfl (hb hby at_216) _ ?_
          exact k)
      by_cases hc217 : (u32_l2.getD (m206_l12).toNatClampNeg (0 : Int32)) = (0 : Int32)
      · obtain ⟨x12_223, hx12_223, pre73⟩ : ∃ z : Int32, z = (m206_l12 + (1 : Int32)) ∧ own_Pre p e below (s₁.setTop (entryFrame m #[(.int p0), (.int p1), (.int p2), (.int p3), (.int p4), (.int p5)] maxLocals)) (T32.setTop (mkF m 223 #[.val (.int p0), .val (.int p1), .val (.int p2), .val (.int p3), .val (.int p4), .val (.int p5), .val (.ref dA), .val (.ref pA), .val (.ref nA), .val (.ref rA), .val (.int x10_135), .val (.int m183_l11), .val (.int z), .unset, .unset, .unset, .unset] [])) := ⟨_, rfl, fun t k => pre72 t (by
            show Steps p.tables e below (T32.setTop (mkF m 217 #[.val (.int p0), .val (.int p1), .val (.int p2), .val (.int p3), .val (.int p4), .val (.int p5), .val (.ref dA), .val (.ref pA), .val (.ref nA), .val (.ref rA), .val (.int x10_135), .val (.int m183_l11), .val (.int m206_l12), .unset, .unset, .unset, .unset] [(.int (u32_l2.getD (m206_l12).toNatClampNeg (0 : Int32)))])) _
            refine XS.ifNo X32.here hx rfl (hb hby at_217) rfl ((if0 _ _).trans (teq hc217).2) ?_
            refine XS.iinc X32.here hx rfl (hb hby at_220) rfl (l' := #[.val (.int p0), .val (.int p1), .val (.int p2), .val (.int p3), .val (.int p4), .val (.int p5), .val (.ref dA), .val (.ref pA), .val (.ref nA), .val (.ref rA), .val (.int x10_135), .val (.int m183_l11), .val (.int (m206_l12 + (1 : Int32))), .unset, .unset, .unset, .unset]) rfl ?_
            exact k)⟩
        refine ⟨_, ?_, pre73⟩
        all_goals (subst hx12_223; first | (simp only [own_m0_206_l12, if_pos hc209, if_pos hc217]; done) | (simp [own_m0_206_l12, if_pos hc209, if_pos hc217]; done))
      · have pre74 : own_Pre p e below (s₁.setTop (entryFrame m #[(.int p0), (.int p1), (.int p2), (.int p3), (.int p4), (.int p5)] maxLocals)) (T32.setTop (mkF m 223 #[.val (.int p0), .val (.int p1), .val (.int p2), .val (.int p3), .val (.int p4), .val (.int p5), .val (.ref dA), .val (.ref pA), .val (.ref nA), .val (.ref rA), .val (.int x10_135), .val (.int m183_l11), .val (.int m206_l12), .unset, .unset, .unset, .unset] [])) := fun t k => pre72 t (by
            show Steps p.tables e below (T32.setTop (mkF m 217 #[.val (.int p0), .val (.int p1), .val (.int p2), .val (.int p3), .val (.int p4), .val (.int p5), .val (.ref dA), .val (.ref pA), .val (.ref nA), .val (.ref rA), .val (.int x10_135), .val (.int m183_l11), .val (.int m206_l12), .unset, .unset, .unset, .unset] [(.int (u32_l2.getD (m206_l12).toNatClampNeg (0 : Int32)))])) _
            refine XS.ifYes X32.here hx rfl (pc0 := 217) (pc' := 223) rfl (hb hby at_217) rfl ((if0 _ _).trans (feq hc217).2) (by decide) (by decide) ?_
            exact k)
        refine ⟨_, ?_, pre74⟩
        all_goals (first | (simp only [own_m0_206_l12, if_pos hc209, if_neg hc217]; done) | (simp [own_m0_206_l12, if_pos hc209, if_neg hc217]; done))
    · have pre75 : own_Pre p e below (s₁.setTop (entryFrame m #[(.int p0), (.int p1), (.int p2), (.int p3), (.int p4), (.int p5)] maxLocals)) (T32.setTop (mkF m 223 #[.val (.int p0), .val (.int p1), .val (.int p2), .val (.int p3), .val (.int p4), .val (.int p5), .val (.ref dA), .val (.ref pA), .val (.ref nA), .val (.ref rA), .val (.int x10_135), .val (.int m183_l11), .val (.int m206_l12), .unset, .unset, .unset, .unset] [])) := fun t k => pre70 t (by
          show Steps p.tables e below (T32.setTop (mkF m 209 #[.val (.int p0), .val (.int p1), .val (.int p2), .val (.int p3), .val (.int p4), .val (.int p5), .val (.ref dA), .val (.ref pA), .val (.ref nA), .val (.ref rA), .val (.int x10_135), .val (.int m183_l11), .val (.int m206_l12), .unset, .unset, .unset, .unset] [(.int (5 : Int32)), (.int m206_l12)])) _
          refine XS.icmpYes X32.here hx rfl (pc0 := 209) (pc' := 223) rfl (hb hby at_209) rfl (flt hc209).2.1 (by decide) (by decide) ?_
          exact k)
      refine ⟨_, ?_, pre75⟩
      all_goals (first | (simp only [own_m0_206_l12, if_neg hc209]; done) | (simp [own_m0_206_l12, if_neg hc209]; done))
  have F2 := F1.next HL hK hm223_l12
  have pre78 : own_Pre p e below (s₁.setTop (entryFrame m #[(.int p0), (.int p1), (.int p2), (.int p3), (.int p4), (.int p5)] maxLocals)) (T32.setTop (mkF m 226 #[.val (.int p0), .val (.int p1), .val (.int p2), .val (.int p3), .val (.int p4), .val (.int p5), .val (.ref dA), .val (.ref pA), .val (.ref nA), .val (.ref rA), .val (.int x10_135), .val (.int m183_l11), .val (.int m223_l12), .unset, .unset, .unset, .unset] [(.int (5 : Int32)), (.int m223_l12)])) := fun t k => pre69 t (by
      show Steps p.tables e below (T32.setTop (mkF m 223 #[.val (.int p0), .val (.int p1), .val (.int p2), .val (.int p3), .val (.int p4), .val (.int p5), .val (.ref dA), .val (.ref pA), .val (.ref nA), .val (.ref rA), .val (.int x10_135), .val (.int m183_l11), .val (.int m223_l12), .unset, .unset, .unset, .unset] [])) _
      refine XS.iload X32.here hx rfl (hb hby at_223) rfl ?_
      refine XS.iconst X32.here hx rfl (hb hby at_225) ?_
      exact k)
  obtain ⟨m240_l12, hm240_l12, pre77⟩ : ∃ (m240_l12 : Int32), m240_l12 = (own_m0_206_l12 m223_l12 u32_l2) ∧ own_Pre p e below (s₁.setTop (entryFrame m #[(.int p0), (.int p1), (.int p2), (.int p3), (.int p4), (.int p5)] maxLocals)) (T32.setTop (mkF m 240 #[.val (.int p0), .val (.int p1), .val (.int p2), .val (.int p3), .val (.int p4), .val (.int p5), .val (.ref dA), .val (.ref pA), .val (.ref nA), .val (.ref rA), .val (.int x10_135), .val (.int m183_l11), .val (.int m240_l12), .unset, .unset, .unset, .unset] [])) := by
    by_cases hc226 : m223_l12 < (5 : Int32)
    · obtain ⟨cl79, Ar79, hin79, hat79⟩ := own_AI.at po32_2 (j := m223_l12) (F2.in5 hK.1 hc226)
      have pre80 : own_Pre p e below (s₁.setTop (entryFrame m #[(.int p0), (.int p1), (.int p2), (.int p3), (.int p4), (.int p5)] maxLocals)) (T32.setTop (mkF m 234 #[.val (.int p0), .val (.int p1), .val (.int p2), .val (.int p3), .val (.int p4), .val (.int p5), .val (.ref dA), .val (.ref pA), .val (.ref nA), .val (.ref rA), .val (.int x10_135), .val (.int m183_l11), .val (.int m223_l12), .unset, .unset, .unset, .unset] [(.int (u32_l2.getD (m223_l12).toNatClampNeg (0 : Int32)))])) := fun t k => pre78 t (by
          show Steps p.tables e below (T32.setTop (mkF m 226 #[.val (.int p0), .val (.int p1), .val (.int p2), .val (.int p3), .val (.int p4), .val (.int p5), .val (.ref dA), .val (.ref pA), .val (.ref nA), .val (.ref rA), .val (.int x10_135), .val (.int m183_l11), .val (.int m223_l12), .unset, .unset, .unset, .unset] [(.int (5 : Int32)), (.int m223_l12)])) _
          refine XS.icmpNo X32.here hx rfl (hb hby at_226) rfl (tlt hc226).2.1 ?_
          refine XS.aload X32.here hx rfl (hb hby at_229) rfl rfl ?_
          refine XS.iload X32.here hx rfl (hb hby at_231) rfl ?_
          refine X32.baloadBooleans hx (j := m223_l12) (v := (.int (u32_l2.getD (m223_l12).toNatClampNeg (0 : Int32)))) Ar79.1 (State.isArrayOf_alike hZ.alike Ar79.2.1) Ar79.2.2 hin79 hat79 (g := (mkF m 233 #[.val (.int p0), .val (.int p1), .val (.int p2), .val (.int p3), .val (.int p4), .val (.int p5), .val (.ref dA), .val (.ref pA), .val (.ref nA), .val (.ref rA), .val (.int x10_135), .val (.int m183_l11), .val (.int m223_l12), .unset, .unset, .unset, .unset] [(.int m223_l12), (.ref nA)])) rfl rfl (hb hby at_233) _ ?_
          exact k)
      by_cases hc234 : (u32_l2.getD (m223_l12).toNatClampNeg (0 : Int32)) = (0 : Int32)
      · obtain ⟨x12_240, hx12_240, pre81⟩ : ∃ z : Int32, z = (m223_l12 + (1 : Int32)) ∧ own_Pre p e below (s₁.setTop (entryFrame m #[(.int p0), (.int p1), (.int p2), (.int p3), (.int p4), (.int p5)] maxLocals)) (T32.setTop (mkF m 240 #[.val (.int p0), .val (.int p1), .val (.int p2), .val (.int p3), .val (.int p4), .val (.int p5), .val (.ref dA), .val (.ref pA), .val (.ref nA), .val (.ref rA), .val (.int x10_135), .val (.int m183_l11), .val (.int z), .unset, .unset, .unset, .unset] [])) := ⟨_, rfl, fun t k => pre80 t (by
            show Steps p.tables e below (T32.setTop (mkF m 234 #[.val (.int p0), .val (.int p1), .val (.int p2), .val (.int p3), .val (.int p4), .val (.int p5), .val (.ref dA), .val (.ref pA), .val (.ref nA), .val (.ref rA), .val (.int x10_135), .val (.int m183_l11), .val (.int m223_l12), .unset, .unset, .unset, .unset] [(.int (u32_l2.getD (m223_l12).toNatClampNeg (0 : Int32)))])) _
            refine XS.ifNo X32.here hx rfl (hb hby at_234) rfl ((if0 _ _).trans (teq hc234).2) ?_
            refine XS.iinc X32.here hx rfl (hb hby at_237) rfl (l' := #[.val (.int p0), .val (.int p1), .val (.int p2), .val (.int p3), .val (.int p4), .val (.int p5), .val (.ref dA), .val (.ref pA), .val (.ref nA), .val (.ref rA), .val (.int x10_135), .val (.int m183_l11), .val (.int (m223_l12 + (1 : Int32))), .unset, .unset, .unset, .unset]) rfl ?_
            exact k)⟩
        refine ⟨_, ?_, pre81⟩
        all_goals (subst hx12_240; first | (simp only [own_m0_206_l12, if_pos hc226, if_pos hc234]; done) | (simp [own_m0_206_l12, if_pos hc226, if_pos hc234]; done))
      · have pre82 : own_Pre p e below (s₁.setTop (entryFrame m #[(.int p0), (.int p1), (.int p2), (.int p3), (.int p4), (.int p5)] maxLocals)) (T32.setTop (mkF m 240 #[.val (.int p0), .val (.int p1), .val (.int p2), .val (.int p3), .val (.int p4), .val (.int p5), .val (.ref dA), .val (.ref pA), .val (.ref nA), .val (.ref rA), .val (.int x10_135), .val (.int m183_l11), .val (.int m223_l12), .unset, .unset, .unset, .unset] [])) := fun t k => pre80 t (by
            show Steps p.tables e below (T32.setTop (mkF m 234 #[.val (.int p0), .val (.int p1), .val (.int p2), .val (.int p3), .val (.int p4), .val (.int p5), .val (.ref dA), .val (.ref pA), .val (.ref nA), .val (.ref rA), .val (.int x10_135), .val (.int m183_l11), .val (.int m223_l12), .unset, .unset, .unset, .unset] [(.int (u32_l2.getD (m223_l12).toNatClampNeg (0 : Int32)))])) _
            refine XS.ifYes X32.here hx rfl (pc0 := 234) (pc' := 240) rfl (hb hby at_234) rfl ((if0 _ _).trans (feq hc234).2) (by decide) (by decide) ?_
            exact k)
        refine ⟨_, ?_, pre82⟩
        all_goals (first | (simp only [own_m0_206_l12, if_pos hc226, if_neg hc234]; done) | (simp [own_m0_206_l12, if_pos hc226, if_neg hc234]; done))
    · have pre83 : own_Pre p e below (s₁.setTop (entryFrame m #[(.int p0), (.int p1), (.int p2), (.int p3), (.int p4), (.int p5)] maxLocals)) (T32.setTop (mkF m 240 #[.val (.int p0), .val (.int p1), .val (.int p2), .val (.int p3), .val (.int p4), .val (.int p5), .val (.ref dA), .val (.ref pA), .val (.ref nA), .val (.ref rA), .val (.int x10_135), .val (.int m183_l11), .val (.int m223_l12), .unset, .unset, .unset, .unset] [])) := fun t k => pre78 t (by
          show Steps p.tables e below (T32.setTop (mkF m 226 #[.val (.int p0), .val (.int p1), .val (.int p2), .val (.int p3), .val (.int p4), .val (.int p5), .val (.ref dA), .val (.ref pA), .val (.ref nA), .val (.ref rA), .val (.int x10_135), .val (.int m183_l11), .val (.int m223_l12), .unset, .unset, .unset, .unset] [(.int (5 : Int32)), (.int m223_l12)])) _
          refine XS.icmpYes X32.here hx rfl (pc0 := 226) (pc' := 240) rfl (hb hby at_226) rfl (flt hc226).2.1 (by decide) (by decide) ?_
          exact k)
      refine ⟨_, ?_, pre83⟩
      all_goals (first | (simp only [own_m0_206_l12, if_neg hc226]; done) | (simp [own_m0_206_l12, if_neg hc226]; done))
  have F3 := F2.next HL hK hm240_l12
  have pre86 : own_Pre p e below (s₁.setTop (entryFrame m #[(.int p0), (.int p1), (.int p2), (.int p3), (.int p4), (.int p5)] maxLocals)) (T32.setTop (mkF m 243 #[.val (.int p0), .val (.int p1), .val (.int p2), .val (.int p3), .val (.int p4), .val (.int p5), .val (.ref dA), .val (.ref pA), .val (.ref nA), .val (.ref rA), .val (.int x10_135), .val (.int m183_l11), .val (.int m240_l12), .unset, .unset, .unset, .unset] [(.int (5 : Int32)), (.int m240_l12)])) := fun t k => pre77 t (by
      show Steps p.tables e below (T32.setTop (mkF m 240 #[.val (.int p0), .val (.int p1), .val (.int p2), .val (.int p3), .val (.int p4), .val (.int p5), .val (.ref dA), .val (.ref pA), .val (.ref nA), .val (.ref rA), .val (.int x10_135), .val (.int m183_l11), .val (.int m240_l12), .unset, .unset, .unset, .unset] [])) _
      refine XS.iload X32.here hx rfl (hb hby at_240) rfl ?_
      refine XS.iconst X32.here hx rfl (hb hby at_242) ?_
      exact k)
  obtain ⟨m257_l12, hm257_l12, pre85⟩ : ∃ (m257_l12 : Int32), m257_l12 = (own_m0_206_l12 m240_l12 u32_l2) ∧ own_Pre p e below (s₁.setTop (entryFrame m #[(.int p0), (.int p1), (.int p2), (.int p3), (.int p4), (.int p5)] maxLocals)) (T32.setTop (mkF m 257 #[.val (.int p0), .val (.int p1), .val (.int p2), .val (.int p3), .val (.int p4), .val (.int p5), .val (.ref dA), .val (.ref pA), .val (.ref nA), .val (.ref rA), .val (.int x10_135), .val (.int m183_l11), .val (.int m257_l12), .unset, .unset, .unset, .unset] [])) := by
    by_cases hc243 : m240_l12 < (5 : Int32)
    · obtain ⟨cl87, Ar87, hin87, hat87⟩ := own_AI.at po32_2 (j := m240_l12) (F3.in5 hK.1 hc243)
      have pre88 : own_Pre p e below (s₁.setTop (entryFrame m #[(.int p0), (.int p1), (.int p2), (.int p3), (.int p4), (.int p5)] maxLocals)) (T32.setTop (mkF m 251 #[.val (.int p0), .val (.int p1), .val (.int p2), .val (.int p3), .val (.int p4), .val (.int p5), .val (.ref dA), .val (.ref pA), .val (.ref nA), .val (.ref rA), .val (.int x10_135), .val (.int m183_l11), .val (.int m240_l12), .unset, .unset, .unset, .unset] [(.int (u32_l2.getD (m240_l12).toNatClampNeg (0 : Int32)))])) := fun t k => pre86 t (by
          show Steps p.tables e below (T32.setTop (mkF m 243 #[.val (.int p0), .val (.int p1), .val (.int p2), .val (.int p3), .val (.int p4), .val (.int p5), .val (.ref dA), .val (.ref pA), .val (.ref nA), .val (.ref rA), .val (.int x10_135), .val (.int m183_l11), .val (.int m240_l12), .unset, .unset, .unset, .unset] [(.int (5 : Int32)), (.int m240_l12)])) _
          refine XS.icmpNo X32.here hx rfl (hb hby at_243) rfl (tlt hc243).2.1 ?_
          refine XS.aload X32.here hx rfl (hb hby at_246) rfl rfl ?_
          refine XS.iload X32.here hx rfl (hb hby at_248) rfl ?_
          refine X32.baloadBooleans hx (j := m240_l12) (v := (.int (u32_l2.getD (m240_l12).toNatClampNeg (0 : Int32)))) Ar87.1 (State.isArrayOf_alike hZ.alike Ar87.2.1) Ar87.2.2 hin87 hat87 (g := (mkF m 250 #[.val (.int p0), .val (.int p1), .val (.int p2), .val (.int p3), .val (.int p4), .val (.int p5), .val (.ref dA), .val (.ref pA), .val (.ref nA), .val (.ref rA), .val (.int x10_135), .val (.int m183_l11), .val (.int m240_l12), .unset, .unset, .unset, .unset] [(.int m240_l12), (.ref nA)])) rfl rfl (hb hby at_250) _ ?_
          exact k)
      by_cases hc251 : (u32_l2.getD (m240_l12).toNatClampNeg (0 : Int32)) = (0 : Int32)
      · obtain ⟨x12_257, hx12_257, pre89⟩ : ∃ z : Int32, z = (m240_l12 + (1 : Int32)) ∧ own_Pre p e below (s₁.setTop (entryFrame m #[(.int p0), (.int p1), (.int p2), (.int p3), (.int p4), (.int p5)] maxLocals)) (T32.setTop (mkF m 257 #[.val (.int p0), .val (.int p1), .val (.int p2), .val (.int p3), .val (.int p4), .val (.int p5), .val (.ref dA), .val (.ref pA), .val (.ref nA), .val (.ref rA), .val (.int x10_135), .val (.int m183_l11), .val (.int z), .unset, .unset, .unset, .unset] [])) := ⟨_, rfl, fun t k => pre88 t (by
            show Steps p.tables e below (T32.setTop (mkF m 251 #[.val (.int p0), .val (.int p1), .val (.int p2), .val (.int p3), .val (.int p4), .val (.int p5), .val (.ref dA), .val (.ref pA), .val (.ref nA), .val (.ref rA), .val (.int x10_135), .val (.int m183_l11), .val (.int m240_l12), .unset, .unset, .unset, .unset] [(.int (u32_l2.getD (m240_l12).toNatClampNeg (0 : Int32)))])) _
            refine XS.ifNo X32.here hx rfl (hb hby at_251) rfl ((if0 _ _).trans (teq hc251).2) ?_
            refine XS.iinc X32.here hx rfl (hb hby at_254) rfl (l' := #[.val (.int p0), .val (.int p1), .val (.int p2), .val (.int p3), .val (.int p4), .val (.int p5), .val (.ref dA), .val (.ref pA), .val (.ref nA), .val (.ref rA), .val (.int x10_135), .val (.int m183_l11), .val (.int (m240_l12 + (1 : Int32))), .unset, .unset, .unset, .unset]) rfl ?_
            exact k)⟩
        refine ⟨_, ?_, pre89⟩
        all_goals (subst hx12_257; first | (simp only [own_m0_206_l12, if_pos hc243, if_pos hc251]; done) | (simp [own_m0_206_l12, if_pos hc243, if_pos hc251]; done))
      · have pre90 : own_Pre p e below (s₁.setTop (entryFrame m #[(.int p0), (.int p1), (.int p2), (.int p3), (.int p4), (.int p5)] maxLocals)) (T32.setTop (mkF m 257 #[.val (.int p0), .val (.int p1), .val (.int p2), .val (.int p3), .val (.int p4), .val (.int p5), .val (.ref dA), .val (.ref pA), .val (.ref nA), .val (.ref rA), .val (.int x10_135), .val (.int m183_l11), .val (.int m240_l12), .unset, .unset, .unset, .unset] [])) := fun t k => pre88 t (by
            show Steps p.tables e below (T32.setTop (mkF m 251 #[.val (.int p0), .val (.int p1), .val (.int p2), .val (.int p3), .val (.int p4), .val (.int p5), .val (.ref dA), .val (.ref pA), .val (.ref nA), .val (.ref rA), .val (.int x10_135), .val (.int m183_l11), .val (.int m240_l12), .unset, .unset, .unset, .unset] [(.int (u32_l2.getD (m240_l12).toNatClampNeg (0 : Int32)))])) _
            refine XS.ifYes X32.here hx rfl (pc0 := 251) (pc' := 257) rfl (hb hby at_251) rfl ((if0 _ _).trans (feq hc251).2) (by decide) (by decide) ?_
            exact k)
        refine ⟨_, ?_, pre90⟩
        all_goals (first | (simp only [own_m0_206_l12, if_pos hc243, if_neg hc251]; done) | (simp [own_m0_206_l12, if_pos hc243, if_neg hc251]; done))
    · have pre91 : own_Pre p e below (s₁.setTop (entryFrame m #[(.int p0), (.int p1), (.int p2), (.int p3), (.int p4), (.int p5)] maxLocals)) (T32.setTop (mkF m 257 #[.val (.int p0), .val (.int p1), .val (.int p2), .val (.int p3), .val (.int p4), .val (.int p5), .val (.ref dA), .val (.ref pA), .val (.ref nA), .val (.ref rA), .val (.int x10_135), .val (.int m183_l11), .val (.int m240_l12), .unset, .unset, .unset, .unset] [])) := fun t k => pre86 t (by
          show Steps p.tables e below (T32.setTop (mkF m 243 #[.val (.int p0), .val (.int p1), .val (.int p2), .val (.int p3), .val (.int p4), .val (.int p5), .val (.ref dA), .val (.ref pA), .val (.ref nA), .val (.ref rA), .val (.int x10_135), .val (.int m183_l11), .val (.int m240_l12), .unset, .unset, .unset, .unset] [(.int (5 : Int32)), (.int m240_l12)])) _
          refine XS.icmpYes X32.here hx rfl (pc0 := 243) (pc' := 257) rfl (hb hby at_243) rfl (flt hc243).2.1 (by decide) (by decide) ?_
          exact k)
      refine ⟨_, ?_, pre91⟩
      all_goals (first | (simp only [own_m0_206_l12, if_neg hc243]; done) | (simp [own_m0_206_l12, if_neg hc243]; done))
  have F4 := F3.next HL hK hm257_l12
  obtain ⟨cl92, Ar92, hin92, hat92⟩ := own_AI.at po32_3 (j := x10_135) (own_in5 hK)
  obtain ⟨x13_264, hx13_264, pre93⟩ : ∃ z : Int32, z = (u32_l3.getD (x10_135).toNatClampNeg (0 : Int32)) ∧ own_Pre p e below (s₁.setTop (entryFrame m #[(.int p0), (.int p1), (.int p2), (.int p3), (.int p4), (.int p5)] maxLocals)) (T32.setTop (mkF m 264 #[.val (.int p0), .val (.int p1), .val (.int p2), .val (.int p3), .val (.int p4), .val (.int p5), .val (.ref dA), .val (.ref pA), .val (.ref nA), .val (.ref rA), .val (.int x10_135), .val (.int m183_l11), .val (.int m257_l12), .val (.int z), .unset, .unset, .unset] [])) := ⟨_, rfl, fun t k => pre85 t (by
      show Steps p.tables e below (T32.setTop (mkF m 257 #[.val (.int p0), .val (.int p1), .val (.int p2), .val (.int p3), .val (.int p4), .val (.int p5), .val (.ref dA), .val (.ref pA), .val (.ref nA), .val (.ref rA), .val (.int x10_135), .val (.int m183_l11), .val (.int m257_l12), .unset, .unset, .unset, .unset] [])) _
      refine XS.aload X32.here hx rfl (hb hby at_257) rfl rfl ?_
      refine XS.iload X32.here hx rfl (hb hby at_259) rfl ?_
      refine X32.iaload hx (j := x10_135) (v := (.int (u32_l3.getD (x10_135).toNatClampNeg (0 : Int32)))) Ar92.1 (State.isArrayOf_alike hZ.alike Ar92.2.1) Ar92.2.2 hin92 hat92 (g := (mkF m 261 #[.val (.int p0), .val (.int p1), .val (.int p2), .val (.int p3), .val (.int p4), .val (.int p5), .val (.ref dA), .val (.ref pA), .val (.ref nA), .val (.ref rA), .val (.int x10_135), .val (.int m183_l11), .val (.int m257_l12), .unset, .unset, .unset, .unset] [(.int x10_135), (.ref rA)])) rfl rfl (hb hby at_261) _ ?_
      refine XS.istore X32.here hx rfl (hb hby at_262) rfl (l' := #[.val (.int p0), .val (.int p1), .val (.int p2), .val (.int p3), .val (.int p4), .val (.int p5), .val (.ref dA), .val (.ref pA), .val (.ref nA), .val (.ref rA), .val (.int x10_135), .val (.int m183_l11), .val (.int m257_l12), .val (.int (u32_l3.getD (x10_135).toNatClampNeg (0 : Int32))), .unset, .unset, .unset]) rfl ?_
      exact k)⟩
  obtain ⟨cl94, Ar94, hin94, hat94⟩ := own_AI.at po32_3 (j := (4 : Int32)) ⟨by decide, by decide⟩
  obtain ⟨x14_272, hx14_272, pre95⟩ : ∃ z : Int32, z = ((u32_l3.getD 4 (0 : Int32)) + (1 : Int32)) ∧ own_Pre p e below (s₁.setTop (entryFrame m #[(.int p0), (.int p1), (.int p2), (.int p3), (.int p4), (.int p5)] maxLocals)) (T32.setTop (mkF m 272 #[.val (.int p0), .val (.int p1), .val (.int p2), .val (.int p3), .val (.int p4), .val (.int p5), .val (.ref dA), .val (.ref pA), .val (.ref nA), .val (.ref rA), .val (.int x10_135), .val (.int m183_l11), .val (.int m257_l12), .val (.int x13_264), .val (.int z), .unset, .unset] [])) := ⟨_, rfl, fun t k => pre93 t (by
      show Steps p.tables e below (T32.setTop (mkF m 264 #[.val (.int p0), .val (.int p1), .val (.int p2), .val (.int p3), .val (.int p4), .val (.int p5), .val (.ref dA), .val (.ref pA), .val (.ref nA), .val (.ref rA), .val (.int x10_135), .val (.int m183_l11), .val (.int m257_l12), .val (.int x13_264), .unset, .unset, .unset] [])) _
      refine XS.aload X32.here hx rfl (hb hby at_264) rfl rfl ?_
      refine XS.iconst X32.here hx rfl (hb hby at_266) ?_
      refine X32.iaload hx (j := (4 : Int32)) (v := (.int (u32_l3.getD 4 (0 : Int32)))) Ar94.1 (State.isArrayOf_alike hZ.alike Ar94.2.1) Ar94.2.2 hin94 hat94 (g := (mkF m 267 #[.val (.int p0), .val (.int p1), .val (.int p2), .val (.int p3), .val (.int p4), .val (.int p5), .val (.ref dA), .val (.ref pA), .val (.ref nA), .val (.ref rA), .val (.int x10_135), .val (.int m183_l11), .val (.int m257_l12), .val (.int x13_264), .unset, .unset, .unset] [(.int (4 : Int32)), (.ref rA)])) rfl rfl (hb hby at_267) _ ?_
      refine XS.iconst X32.here hx rfl (hb hby at_268) ?_
      refine XS.iadd X32.here hx rfl (hb hby at_269) rfl ?_
      show Steps p.tables e below (T32.setTop (mkF m 270 #[.val (.int p0), .val (.int p1), .val (.int p2), .val (.int p3), .val (.int p4), .val (.int p5), .val (.ref dA), .val (.ref pA), .val (.ref nA), .val (.ref rA), .val (.int x10_135), .val (.int m183_l11), .val (.int m257_l12), .val (.int x13_264), .unset, .unset, .unset] [(.int ((u32_l3.getD 4 (0 : Int32)) + (1 : Int32)))])) _
      refine XS.istore X32.here hx rfl (hb hby at_270) rfl (l' := #[.val (.int p0), .val (.int p1), .val (.int p2), .val (.int p3), .val (.int p4), .val (.int p5), .val (.ref dA), .val (.ref pA), .val (.ref nA), .val (.ref rA), .val (.int x10_135), .val (.int m183_l11), .val (.int m257_l12), .val (.int x13_264), .val (.int ((u32_l3.getD 4 (0 : Int32)) + (1 : Int32))), .unset, .unset]) rfl ?_
      exact k)⟩
  have z97 : n0 ≤ (T32.heap).size := (Nat.le_trans z33 K32.1)
  obtain ⟨T96, h96, X96, e96, E96, A96, D96, -, st96⟩ := newO X32 hx hZ hown (hw _ (own_w 12 rfl)) (hw _ (own_w 13 rfl)) (hw _ (own_w 14 rfl)) rfl (g := (mkF m 272 #[.val (.int p0), .val (.int p1), .val (.int p2), .val (.int p3), .val (.int p4), .val (.int p5), .val (.ref dA), .val (.ref pA), .val (.ref nA), .val (.ref rA), .val (.int x10_135), .val (.int m183_l11), .val (.int m257_l12), .val (.int x13_264), .val (.int x14_272), .unset, .unset] [])) rfl (hb hby at_272) (by decide) (by decide)
  obtain ⟨b96, gq96⟩ : ∃ z, z = (T32.heap).size := ⟨_, rfl⟩
  rw [← gq96] at A96 D96 st96
  have f98 := (((((((((((Ex1.ext E2).ext E4).ext E7).wr W14).wr W18).wr W20).wr W22).keep K23).keep K28).keep K30).keep K32)
  have ne_dA_b96 : dA ≠ b96 := Nat.ne_of_lt (Nat.lt_of_lt_of_le f98.lt (Nat.le_of_eq gq96.symm))
  have ne_nA_b96 : nA ≠ b96 := Nat.ne_of_lt (Nat.lt_of_lt_of_le po32_2.lt (Nat.le_of_eq gq96.symm))
  have f99 := ((((((((((Ex2.ext E4).ext E7).wr W14).wr W18).wr W20).wr W22).keep K23).keep K28).keep K30).keep K32)
  have ne_pA_b96 : pA ≠ b96 := Nat.ne_of_lt (Nat.lt_of_lt_of_le f99.lt (Nat.le_of_eq gq96.symm))
  have f100 := ((((((((Ex7.wr W14).wr W18).wr W20).wr W22).keep K23).keep K28).keep K30).keep K32)
  have ne_rA_b96 : rA ≠ b96 := Nat.ne_of_lt (Nat.lt_of_lt_of_le f100.lt (Nat.le_of_eq gq96.symm))
  have g_b96 : n0 ≤ b96 := Nat.le_trans z97 (Nat.le_of_eq gq96.symm)
  have F_b96_documents : Fld Z h96 b96 "com/example/whole_recall/wholerecall/index/PostingsBuilder" "documents" "[I" .null := D96 (Or.inl (hw _ (own_w 22 rfl))) (ty := (.array .int)) (by decide)
  have F_b96_starts : Fld Z h96 b96 "com/example/whole_recall/wholerecall/index/PostingsBuilder" "starts" "[I" .null := D96 (Or.inl (hw _ (own_w 24 rfl))) (ty := (.array .int)) (by decide)
  have F_b96_positions : Fld Z h96 b96 "com/example/whole_recall/wholerecall/index/PostingsBuilder" "positions" "[I" .null := D96 (Or.inl (hw _ (own_w 26 rfl))) (ty := (.array .int)) (by decide)
  have F_b96_size : Fld Z h96 b96 "com/example/whole_recall/wholerecall/index/PostingsBuilder" "size" "I" (.int (0 : Int32)) := D96 (Or.inl (hw _ (own_w 33 rfl))) (ty := .int) (by decide)
  have z102 : n0 ≤ (h96).size := (Nat.le_trans z97 E96.1)
  have f103 := (f98.ext E96)
  have f104 := (po32_2.ext E96)
  have f105 := (f99.ext E96)
  have f106 := (f100.ext E96)
  obtain ⟨_, _, ⟨T101, L101, k101, n101⟩, -, X101, ⟨Lc101, hQ101, l101, y101, z101⟩, st101⟩ := X96.specialBack hx (y := (⟨"com/example/whole_recall/wholerecall/index/PostingsBuilder", "<init>", "()V"⟩ : MethodName)) rfl hown (mvT hZ (hw _ (own_w 15 rfl))) (mvT hZ (hw _ (own_w 16 rfl))) (mvT hZ (hw _ (own_w 17 rfl))) (by decide) (backOf (W := 1) (rm3 l Z aw hw [] (b96) (h96) n0 z102 A96 F_b96_documents F_b96_starts F_b96_positions F_b96_size g_b96) hZ (hw _ (own_w 17 rfl)) (hw _ (own_w 14 rfl)) (by decide) (by decide)) (g := (mkF m 276 #[.val (.int p0), .val (.int p1), .val (.int p2), .val (.int p3), .val (.int p4), .val (.int p5), .val (.ref dA), .val (.ref pA), .val (.ref nA), .val (.ref rA), .val (.int x10_135), .val (.int m183_l11), .val (.int m257_l12), .val (.int x13_264), .val (.int x14_272), .unset, .unset] [(.ref b96), (.ref b96)])) rfl (by rw [hml]; rfl) (Steps.refl _) (a := b96) (argsL := []) (rest := [(.ref b96)]) (lenOf pd_5 rfl) rfl (by show 2 * 0 + _ ≤ _; exact Nat.le_of_eq rfl) (hb hby at_276) (fun _ _ => ⟨rfl, e96, (by decide : 5 + 3 ≤ _), (by decide : 24 + 9 ≤ _)⟩)
  dsimp only [Pt.U, Pt.locs, Pt.cells, Pt.slots] at X101 l101 y101 z101 st101 hQ101
  rw [l101, y101, z101] at X101
  obtain ⟨da101, sa101, pa101, kd101, ks101, kp101, rfl, Nq101, K101, po101_0, po101_1, po101_2, po101_3, po101_4, po101_5, po101_6, po101_7, po101_8, po101_9, po101_10, po101_11, po101_12, po101_13, po101_14, po101_15, po101_16⟩ := hQ101
  have N101 := Fr.app N32 Nq101
  have ne_b96_da101 : b96 ≠ da101 := Nat.ne_of_lt (Nat.lt_of_lt_of_le A96.lt po101_1)
  have ne_dA_da101 : dA ≠ da101 := Nat.ne_of_lt (Nat.lt_of_lt_of_le f103.lt po101_1)
  have ne_nA_da101 : nA ≠ da101 := Nat.ne_of_lt (Nat.lt_of_lt_of_le f104.lt po101_1)
  have ne_pA_da101 : pA ≠ da101 := Nat.ne_of_lt (Nat.lt_of_lt_of_le f105.lt po101_1)
  have ne_rA_da101 : rA ≠ da101 := Nat.ne_of_lt (Nat.lt_of_lt_of_le f106.lt po101_1)
  have g_da101 : n0 ≤ da101 := Nat.le_trans z102 po101_1
  have ne_b96_sa101 : b96 ≠ sa101 := Nat.ne_of_lt (Nat.lt_of_lt_of_le A96.lt po101_2)
  have ne_dA_sa101 : dA ≠ sa101 := Nat.ne_of_lt (Nat.lt_of_lt_of_le f103.lt po101_2)
  have ne_nA_sa101 : nA ≠ sa101 := Nat.ne_of_lt (Nat.lt_of_lt_of_le f104.lt po101_2)
  have ne_pA_sa101 : pA ≠ sa101 := Nat.ne_of_lt (Nat.lt_of_lt_of_le f105.lt po101_2)
  have ne_rA_sa101 : rA ≠ sa101 := Nat.ne_of_lt (Nat.lt_of_lt_of_le f106.lt po101_2)
  have g_sa101 : n0 ≤ sa101 := Nat.le_trans z102 po101_2
  have ne_b96_pa101 : b96 ≠ pa101 := Nat.ne_of_lt (Nat.lt_of_lt_of_le A96.lt po101_3)
  have ne_dA_pa101 : dA ≠ pa101 := Nat.ne_of_lt (Nat.lt_of_lt_of_le f103.lt po101_3)
  have ne_nA_pa101 : nA ≠ pa101 := Nat.ne_of_lt (Nat.lt_of_lt_of_le f104.lt po101_3)
  have ne_pA_pa101 : pA ≠ pa101 := Nat.ne_of_lt (Nat.lt_of_lt_of_le f105.lt po101_3)
  have ne_rA_pa101 : rA ≠ pa101 := Nat.ne_of_lt (Nat.lt_of_lt_of_le f106.lt po101_3)
  have g_pa101 : n0 ≤ pa101 := Nat.le_trans z102 po101_3
  obtain ⟨u101_l14, hu101_l14⟩ : ∃ z, z = (List.replicate 2 (0 : Int32)) := ⟨_, rfl⟩
  rw [← hu101_l14] at po101_14
  obtain ⟨u101_l15, hu101_l15⟩ : ∃ z, z = (List.replicate 3 (0 : Int32)) := ⟨_, rfl⟩
  rw [← hu101_l15] at po101_15
  obtain ⟨u101_l16, hu101_l16⟩ : ∃ z, z = (List.replicate 4 (0 : Int32)) := ⟨_, rfl⟩
  rw [← hu101_l16] at po101_16
  have f107 := ((po32_0.ext E96).keep K101 (ninS ne_dA_b96 nin0))
  obtain ⟨cl108, Ar108, hin108, hat108⟩ := own_AI.at f107 (j := (0 : Int32)) ⟨by decide, by decide⟩
  have f109 := ((po32_1.ext E96).keep K101 (ninS ne_pA_b96 nin0))
  obtain ⟨cl110, Ar110, hin110, hat110⟩ := own_AI.at f109 (j := (0 : Int32)) ⟨by decide, by decide⟩
  have Rq0 : own_Rel 0 u32_l0 u32_l1 u32_l2 u32_l3 0 2 3 4 u101_l14 u101_l15 u101_l16 := own_Rel.zero hu101_l14 hu101_l15 hu101_l16
  have z112 : n0 ≤ (T101.heap).size := (Nat.le_trans z102 K101.1)
  have f113 := (f103.keep K101)
  have f114 := (f104.keep K101 (ninS ne_nA_b96 nin0))
  have f115 := (f105.keep K101)
  have f116 := (f106.keep K101)
  obtain ⟨cq111, kq111, q111a, q111b, q111c⟩ := isOf hZ rfl po101_0
  obtain ⟨_, _, ⟨T111, L111, k111, n111⟩, -, X111, ⟨Lc111, hQ111, l111, y111, z111⟩, st111⟩ := X101.virtualBack hx (y := (⟨"com/example/whole_recall/wholerecall/index/PostingsBuilder", "add", "(II)V"⟩ : MethodName)) (z := (⟨"com/example/whole_recall/wholerecall/index/PostingsBuilder", "add", "(II)V"⟩ : MethodName)) hown (mvT hZ (hw _ (own_w 27 rfl))) (mvT hZ (hw _ (own_w 28 rfl))) (notFace_of_selects (args := #[]) (mvT hZ (hw _ (own_w 30 rfl)))) (mvT hZ (hw _ (own_w 30 rfl))) (mvT hZ (hw _ (own_w 29 rfl))) (by decide) (backOf (W := 0) (rm5 l Z aw hw [] (b96) ((u32_l0.getD 0 (0 : Int32))) ((u32_l1.getD 0 (0 : Int32))) (da101) (sa101) (pa101) (kd101) (ks101) (kp101) ((2 : Int32)) ((3 : Int32)) ((4 : Int32)) (u101_l14) (u101_l15) (u101_l16) ((0 : Int32)) (T101.heap) n0 z112 po101_0 po101_7 po101_8 po101_9 po101_10 po101_11 po101_12 po101_13 po101_14 po101_15 po101_16 po101_4 po101_5 po101_6 ne_b96_da101 ne_b96_sa101 ne_b96_pa101 g_b96 g_da101 g_sa101 g_pa101 (Rq0.I HL (by decide))) hZ (hw _ (own_w 31 rfl)) (hw _ (own_w 14 rfl)) (by decide) (by decide)) q111a q111c (g := (mkF m 291 #[.val (.int p0), .val (.int p1), .val (.int p2), .val (.int p3), .val (.int p4), .val (.int p5), .val (.ref dA), .val (.ref pA), .val (.ref nA), .val (.ref rA), .val (.int x10_135), .val (.int m183_l11), .val (.int m257_l12), .val (.int x13_264), .val (.int x14_272), .val (.ref b96), .unset] [(.int (u32_l1.getD 0 (0 : Int32))), (.int (u32_l0.getD 0 (0 : Int32))), (.ref b96)])) rfl (by rw [hml]; rfl) (Steps.refl _) (argsL := [(.int (u32_l0.getD 0 (0 : Int32))), (.int (u32_l1.getD 0 (0 : Int32)))]) (rest := []) (lenOf pd_6 rfl) rfl (by show 2 * 0 + _ ≤ _; exact Nat.le_of_eq rfl) (hb hby at_291) (fun _ _ => ⟨rfl, rfl, (by decide : 8 + 3 ≤ _), (by decide : 33 + 27 ≤ _)⟩)
  dsimp only [Pt.U, Pt.locs, Pt.cells, Pt.slots] at X111 l111 y111 z111 st111 hQ111
  rw [l111, y111, z111] at X111
  obtain ⟨db111, sb111, pb111, kdb111, ksb111, kpb111, rfl, Nq111, K111, po111_0, po111_1, po111_2, po111_3, po111_4, po111_5, po111_6, po111_7, po111_8, po111_9, po111_10, po111_11, po111_12, po111_13, po111_14, po111_15, po111_16, po111_17, po111_18, po111_19, po111_20, po111_21, po111_22⟩ := hQ111
  have N111 := Fr.app N101 Nq111
  have ne_dA_db111 : dA ≠ db111 := own_ne po111_20 ne_dA_da101 f113.lt
  have ne_nA_db111 : nA ≠ db111 := own_ne po111_20 ne_nA_da101 f114.lt
  have ne_pA_db111 : pA ≠ db111 := own_ne po111_20 ne_pA_da101 f115.lt
  have ne_pa101_db111 : pa101 ≠ db111 := own_ne po111_20 (Ne.symm po101_5) po101_13.lt
  have ne_rA_db111 : rA ≠ db111 := own_ne po111_20 ne_rA_da101 f116.lt
  have ne_sa101_db111 : sa101 ≠ db111 := own_ne po111_20 (Ne.symm po101_4) po101_12.lt
  have ne_dA_sb111 : dA ≠ sb111 := own_ne po111_21 ne_dA_sa101 f113.lt
  have ne_da101_sb111 : da101 ≠ sb111 := own_ne po111_21 po101_4 po101_11.lt
  have ne_nA_sb111 : nA ≠ sb111 := own_ne po111_21 ne_nA_sa101 f114.lt
  have ne_pA_sb111 : pA ≠ sb111 := own_ne po111_21 ne_pA_sa101 f115.lt
  have ne_pa101_sb111 : pa101 ≠ sb111 := own_ne po111_21 (Ne.symm po101_6) po101_13.lt
  have ne_rA_sb111 : rA ≠ sb111 := own_ne po111_21 ne_rA_sa101 f116.lt
  have ne_dA_pb111 : dA ≠ pb111 := own_ne po111_22 ne_dA_pa101 f113.lt
  have ne_da101_pb111 : da101 ≠ pb111 := own_ne po111_22 po101_5 po101_11.lt
  have ne_nA_pb111 : nA ≠ pb111 := own_ne po111_22 ne_nA_pa101 f114.lt
  have ne_pA_pb111 : pA ≠ pb111 := own_ne po111_22 ne_pA_pa101 f115.lt
  have ne_rA_pb111 : rA ≠ pb111 := own_ne po111_22 ne_rA_pa101 f116.lt
  have ne_sa101_pb111 : sa101 ≠ pb111 := own_ne po111_22 po101_6 po101_12.lt
  obtain ⟨u111_size, hu111_size⟩ : ∃ z, z = (own_p5_size ((u32_l0.getD 0 (0 : Int32))) u101_l14 (0 : Int32)) := ⟨_, rfl⟩
  rw [← hu111_size] at po111_4
  obtain ⟨u111_z8, hu111_z8⟩ : ∃ z, z = (own_z5_db ((u32_l0.getD 0 (0 : Int32))) ((2 : Int32)) ((3 : Int32)) u101_l14 ((0 : Int32))) := ⟨_, rfl⟩
  rw [← hu111_z8] at po111_8
  obtain ⟨u111_l8, hu111_l8⟩ : ∃ z, z = (own_p5_db ((u32_l0.getD 0 (0 : Int32))) ((2 : Int32)) ((3 : Int32)) u101_l14 ((0 : Int32))) := ⟨_, rfl⟩
  rw [← hu111_l8] at po111_8
  obtain ⟨u111_z9, hu111_z9⟩ : ∃ z, z = (own_z5_sb ((u32_l0.getD 0 (0 : Int32))) ((3 : Int32)) u101_l14 ((0 : Int32))) := ⟨_, rfl⟩
  rw [← hu111_z9] at po111_9
  obtain ⟨u111_l9, hu111_l9⟩ : ∃ z, z = (own_p5_sb ((u32_l0.getD 0 (0 : Int32))) ((3 : Int32)) u101_l14 u101_l15 ((0 : Int32))) := ⟨_, rfl⟩
  rw [← hu111_l9] at po111_9
  obtain ⟨u111_z10, hu111_z10⟩ : ∃ z, z = (own_z5_pb ((u32_l0.getD 0 (0 : Int32))) ((3 : Int32)) ((4 : Int32)) u101_l14 u101_l15 ((0 : Int32))) := ⟨_, rfl⟩
  rw [← hu111_z10] at po111_10
  obtain ⟨u111_l10, hu111_l10⟩ : ∃ z, z = (own_p5_pb ((u32_l0.getD 0 (0 : Int32))) ((u32_l1.getD 0 (0 : Int32))) ((3 : Int32)) ((4 : Int32)) u101_l14 u101_l15 u101_l16 ((0 : Int32))) := ⟨_, rfl⟩
  rw [← hu111_l10] at po111_10
  have Rq1 := Rq0.next HL (by decide) (own_addS (Rq0.I HL (by decide)) hu111_size hu111_z8 hu111_l8 hu111_z9 hu111_l9 hu111_z10 hu111_l10)
  have f117 := (f107.keep K111 (ninS ne_dA_b96 (ninS ne_dA_da101 (ninS ne_dA_sa101 (ninS ne_dA_pa101 nin0)))))
  obtain ⟨cl118, Ar118, hin118, hat118⟩ := own_AI.at f117 (j := (1 : Int32)) ⟨by decide, by decide⟩
  have f119 := (f109.keep K111 (ninS ne_pA_b96 (ninS ne_pA_da101 (ninS ne_pA_sa101 (ninS ne_pA_pa101 nin0)))))
  obtain ⟨cl120, Ar120, hin120, hat120⟩ := own_AI.at f119 (j := (1 : Int32)) ⟨by decide, by decide⟩
  have z122 : n0 ≤ (T111.heap).size := (Nat.le_trans z112 K111.1)
  have f123 := (f113.keep K111)
  have f124 := (po101_11.keep K111)
  have f125 := (f114.keep K111 (ninS ne_nA_b96 (ninS ne_nA_da101 (ninS ne_nA_sa101 (ninS ne_nA_pa101 nin0)))))
  have f126 := (f115.keep K111)
  have f127 := (po101_13.keep K111)
  have f128 := (f116.keep K111)
  have f129 := (po101_12.keep K111)
  obtain ⟨cq121, kq121, q121a, q121b, q121c⟩ := isOf hZ rfl po111_0
  obtain ⟨_, _, ⟨T121, L121, k121, n121⟩, -, X121, ⟨Lc121, hQ121, l121, y121, z121⟩, st121⟩ := X111.virtualBack hx (y := (⟨"com/example/whole_recall/wholerecall/index/PostingsBuilder", "add", "(II)V"⟩ : MethodName)) (z := (⟨"com/example/whole_recall/wholerecall/index/PostingsBuilder", "add", "(II)V"⟩ : MethodName)) hown (mvT hZ (hw _ (own_w 27 rfl))) (mvT hZ (hw _ (own_w 28 rfl))) (notFace_of_selects (args := #[]) (mvT hZ (hw _ (own_w 30 rfl)))) (mvT hZ (hw _ (own_w 30 rfl))) (mvT hZ (hw _ (own_w 29 rfl))) (by decide) (backOf (W := 0) (rm5 l Z aw hw [] (b96) ((u32_l0.getD 1 (0 : Int32))) ((u32_l1.getD 1 (0 : Int32))) (db111) (sb111) (pb111) (kdb111) (ksb111) (kpb111) (u111_z8) (u111_z9) (u111_z10) (u111_l8) (u111_l9) (u111_l10) (u111_size) (T111.heap) n0 z122 po111_0 po111_1 po111_2 po111_3 po111_4 po111_5 po111_6 po111_7 po111_8 po111_9 po111_10 po111_11 po111_12 po111_13 po111_14 po111_15 po111_16 g_b96 po111_17 po111_18 po111_19 (Rq1.I HL (by decide))) hZ (hw _ (own_w 31 rfl)) (hw _ (own_w 14 rfl)) (by decide) (by decide)) q121a q121c (g := (mkF m 304 #[.val (.int p0), .val (.int p1), .val (.int p2), .val (.int p3), .val (.int p4), .val (.int p5), .val (.ref dA), .val (.ref pA), .val (.ref nA), .val (.ref rA), .val (.int x10_135), .val (.int m183_l11), .val (.int m257_l12), .val (.int x13_264), .val (.int x14_272), .val (.ref b96), .unset] [(.int (u32_l1.getD 1 (0 : Int32))), (.int (u32_l0.getD 1 (0 : Int32))), (.ref b96)])) rfl (by rw [hml]; rfl) (Steps.refl _) (argsL := [(.int (u32_l0.getD 1 (0 : Int32))), (.int (u32_l1.getD 1 (0 : Int32)))]) (rest := []) (lenOf pd_6 rfl) rfl (by show 2 * 0 + _ ≤ _; exact Nat.le_of_eq rfl) (hb hby at_304) (fun _ _ => ⟨rfl, rfl, (by decide : 11 + 3 ≤ _), (by decide : 60 + 27 ≤ _)⟩)
  dsimp only [Pt.U, Pt.locs, Pt.cells, Pt.slots] at X121 l121 y121 z121 st121 hQ121
  rw [l121, y121, z121] at X121
  obtain ⟨db121, sb121, pb121, kdb121, ksb121, kpb121, rfl, Nq121, K121, po121_0, po121_1, po121_2, po121_3, po121_4, po121_5, po121_6, po121_7, po121_8, po121_9, po121_10, po121_11, po121_12, po121_13, po121_14, po121_15, po121_16, po121_17, po121_18, po121_19, po121_20, po121_21, po121_22⟩ := hQ121
  have N121 := Fr.app N111 Nq121
  have ne_dA_db121 : dA ≠ db121 := own_ne po121_20 ne_dA_db111 f123.lt
  have ne_nA_db121 : nA ≠ db121 := own_ne po121_20 ne_nA_db111 f125.lt
  have ne_pA_db121 : pA ≠ db121 := own_ne po121_20 ne_pA_db111 f126.lt
  have ne_pa101_db121 : pa101 ≠ db121 := own_ne po121_20 ne_pa101_db111 f127.lt
  have ne_pb111_db121 : pb111 ≠ db121 := own_ne po121_20 (Ne.symm po111_12) po111_7.lt
  have ne_rA_db121 : rA ≠ db121 := own_ne po121_20 ne_rA_db111 f128.lt
  have ne_sa101_db121 : sa101 ≠ db121 := own_ne po121_20 ne_sa101_db111 f129.lt
  have ne_sb111_db121 : sb111 ≠ db121 := own_ne po121_20 (Ne.symm po111_11) po111_6.lt
  have ne_dA_sb121 : dA ≠ sb121 := own_ne po121_21 ne_dA_sb111 f123.lt
  have ne_da101_sb121 : da101 ≠ sb121 := own_ne po121_21 ne_da101_sb111 f124.lt
  have ne_db111_sb121 : db111 ≠ sb121 := own_ne po121_21 po111_11 po111_5.lt
  have ne_nA_sb121 : nA ≠ sb121 := own_ne po121_21 ne_nA_sb111 f125.lt
  have ne_pA_sb121 : pA ≠ sb121 := own_ne po121_21 ne_pA_sb111 f126.lt
  have ne_pa101_sb121 : pa101 ≠ sb121 := own_ne po121_21 ne_pa101_sb111 f127.lt
  have ne_pb111_sb121 : pb111 ≠ sb121 := own_ne po121_21 (Ne.symm po111_13) po111_7.lt
  have ne_rA_sb121 : rA ≠ sb121 := own_ne po121_21 ne_rA_sb111 f128.lt
  have ne_dA_pb121 : dA ≠ pb121 := own_ne po121_22 ne_dA_pb111 f123.lt
  have ne_da101_pb121 : da101 ≠ pb121 := own_ne po121_22 ne_da101_pb111 f124.lt
  have ne_db111_pb121 : db111 ≠ pb121 := own_ne po121_22 po111_12 po111_5.lt
  have ne_nA_pb121 : nA ≠ pb121 := own_ne po121_22 ne_nA_pb111 f125.lt
  have ne_pA_pb121 : pA ≠ pb121 := own_ne po121_22 ne_pA_pb111 f126.lt
  have ne_rA_pb121 : rA ≠ pb121 := own_ne po121_22 ne_rA_pb111 f128.lt
  have ne_sa101_pb121 : sa101 ≠ pb121 := own_ne po121_22 ne_sa101_pb111 f129.lt
  have ne_sb111_pb121 : sb111 ≠ pb121 := own_ne po121_22 po111_13 po111_6.lt
  obtain ⟨u121_size, hu121_size⟩ : ∃ z, z = (own_p5_size ((u32_l0.getD 1 (0 : Int32))) u111_l8 u111_size) := ⟨_, rfl⟩
  rw [← hu121_size] at po121_4
  obtain ⟨u121_z8, hu121_z8⟩ : ∃ z, z = (own_z5_db ((u32_l0.getD 1 (0 : Int32))) u111_z8 u111_z9 u111_l8 u111_size) := ⟨_, rfl⟩
  rw [← hu121_z8] at po121_8
  obtain ⟨u121_l8, hu121_l8⟩ : ∃ z, z = (own_p5_db ((u32_l0.getD 1 (0 : Int32))) u111_z8 u111_z9 u111_l8 u111_size) := ⟨_, rfl⟩
  rw [← hu121_l8] at po121_8
  obtain ⟨u121_z9, hu121_z9⟩ : ∃ z, z = (own_z5_sb ((u32_l0.getD 1 (0 : Int32))) u111_z9 u111_l8 u111_size) := ⟨_, rfl⟩
  rw [← hu121_z9] at po121_9
  obtain ⟨u121_l9, hu121_l9⟩ : ∃ z, z = (own_p5_sb ((u32_l0.getD 1 (0 : Int32))) u111_z9 u111_l8 u111_l9 u111_size) := ⟨_, rfl⟩
  rw [← hu121_l9] at po121_9
  obtain ⟨u121_z10, hu121_z10⟩ : ∃ z, z = (own_z5_pb ((u32_l0.getD 1 (0 : Int32))) u111_z9 u111_z10 u111_l8 u111_l9 u111_size) := ⟨_, rfl⟩
  rw [← hu121_z10] at po121_10
  obtain ⟨u121_l10, hu121_l10⟩ : ∃ z, z = (own_p5_pb ((u32_l0.getD 1 (0 : Int32))) ((u32_l1.getD 1 (0 : Int32))) u111_z9 u111_z10 u111_l8 u111_l9 u111_l10 u111_size) := ⟨_, rfl⟩
  rw [← hu121_l10] at po121_10
  have Rq2 := Rq1.next HL (by decide) (own_addS (Rq1.I HL (by decide)) hu121_size hu121_z8 hu121_l8 hu121_z9 hu121_l9 hu121_z10 hu121_l10)
  have f130 := (f117.keep K121 (ninS ne_dA_b96 (ninS ne_dA_db111 (ninS ne_dA_sb111 (ninS ne_dA_pb111 nin0)))))
  obtain ⟨cl131, Ar131, hin131, hat131⟩ := own_AI.at f130 (j := (2 : Int32)) ⟨by decide, by decide⟩
  have f132 := (f119.keep K121 (ninS ne_pA_b96 (ninS ne_pA_db111 (ninS ne_pA_sb111 (ninS ne_pA_pb111 nin0)))))
  obtain ⟨cl133, Ar133, hin133, hat133⟩ := own_AI.at f132 (j := (2 : Int32)) ⟨by decide, by decide⟩
  have z135 : n0 ≤ (T121.heap).size := (Nat.le_trans z122 K121.1)
  have f136 := (f123.keep K121)
  have f137 := (f124.keep K121)
  have f138 := (po111_5.keep K121)
  have f139 := (f125.keep K121 (ninS ne_nA_b96 (ninS ne_nA_db111 (ninS ne_nA_sb111 (ninS ne_nA_pb111 nin0)))))
  have f140 := (f126.keep K121)
  have f141 := (f127.keep K121)
  have f142 := (po111_7.keep K121)
  have f143 := (f128.keep K121)
  have f144 := (f129.keep K121)
  have f145 := (po111_6.keep K121)
  obtain ⟨cq134, kq134, q134a, q134b, q134c⟩ := isOf hZ rfl po121_0
  obtain ⟨_, _, ⟨T134, L134, k134, n134⟩, -, X134, ⟨Lc134, hQ134, l134, y134, z134⟩, st134⟩ := X121.virtualBack hx (y := (⟨"com/example/whole_recall/wholerecall/index/PostingsBuilder", "add", "(II)V"⟩ : MethodName)) (z := (⟨"com/example/whole_recall/wholerecall/index/PostingsBuilder", "add", "(II)V"⟩ : MethodName)) hown (mvT hZ (hw _ (own_w 27 rfl))) (mvT hZ (hw _ (own_w 28 rfl))) (notFace_of_selects (args := #[]) (mvT hZ (hw _ (own_w 30 rfl)))) (mvT hZ (hw _ (own_w 30 rfl))) (mvT hZ (hw _ (own_w 29 rfl))) (by decide) (backOf (W := 0) (rm5 l Z aw hw [] (b96) ((u32_l0.getD 2 (0 : Int32))) ((u32_l1.getD 2 (0 : Int32))) (db121) (sb121) (pb121) (kdb121) (ksb121) (kpb121) (u121_z8) (u121_z9) (u121_z10) (u121_l8) (u121_l9) (u121_l10) (u121_size) (T121.heap) n0 z135 po121_0 po121_1 po121_2 po121_3 po121_4 po121_5 po121_6 po121_7 po121_8 po121_9 po121_10 po121_11 po121_12 po121_13 po121_14 po121_15 po121_16 g_b96 po121_17 po121_18 po121_19 (Rq2.I HL (by decide))) hZ (hw _ (own_w 31 rfl)) (hw _ (own_w 14 rfl)) (by decide) (by decide)) q134a q134c (g := (mkF m 317 #[.val (.int p0), .val (.int p1), .val (.int p2), .val (.int p3), .val (.int p4), .val (.int p5), .val (.ref dA), .val (.ref pA), .val (.ref nA), .val (.ref rA), .val (.int x10_135), .val (.int m183_l11), .val (.int m257_l12), .val (.int x13_264), .val (.int x14_272), .val (.ref b96), .unset] [(.int (u32_l1.getD 2 (0 : Int32))), (.int (u32_l0.getD 2 (0 : Int32))), (.ref b96)])) rfl (by rw [hml]; rfl) (Steps.refl _) (argsL := [(.int (u32_l0.getD 2 (0 : Int32))), (.int (u32_l1.getD 2 (0 : Int32)))]) (rest := []) (lenOf pd_6 rfl) rfl (by show 2 * 0 + _ ≤ _; exact Nat.le_of_eq rfl) (hb hby at_317) (fun _ _ => ⟨rfl, rfl, (by decide : 14 + 3 ≤ _), (by decide : 87 + 27 ≤ _)⟩)
  dsimp only [Pt.U, Pt.locs, Pt.cells, Pt.slots] at X134 l134 y134 z134 st134 hQ134
  rw [l134, y134, z134] at X134
  obtain ⟨db134, sb134, pb134, kdb134, ksb134, kpb134, rfl, Nq134, K134, po134_0, po134_1, po134_2, po134_3, po134_4, po134_5, po134_6, po134_7, po134_8, po134_9, po134_10, po134_11, po134_12, po134_13, po134_14, po134_15, po134_16, po134_17, po134_18, po134_19, po134_20, po134_21, po134_22⟩ := hQ134
  have N134 := Fr.app N121 Nq134
  have ne_dA_db134 : dA ≠ db134 := own_ne po134_20 ne_dA_db121 f136.lt
  have ne_nA_db134 : nA ≠ db134 := own_ne po134_20 ne_nA_db121 f139.lt
  have ne_pA_db134 : pA ≠ db134 := own_ne po134_20 ne_pA_db121 f140.lt
  have ne_pa101_db134 : pa101 ≠ db134 := own_ne po134_20 ne_pa101_db121 f141.lt
  have ne_pb111_db134 : pb111 ≠ db134 := own_ne po134_20 ne_pb111_db121 f142.lt
  have ne_pb121_db134 : pb121 ≠ db134 := own_ne po134_20 (Ne.symm po121_12) po121_7.lt
  have ne_rA_db134 : rA ≠ db134 := own_ne po134_20 ne_rA_db121 f143.lt
  have ne_sa101_db134 : sa101 ≠ db134 := own_ne po134_20 ne_sa101_db121 f144.lt
  have ne_sb111_db134 : sb111 ≠ db134 := own_ne po134_20 ne_sb111_db121 f145.lt
  have ne_sb121_db134 : sb121 ≠ db134 := own_ne po134_20 (Ne.symm po121_11) po121_6.lt
  have ne_dA_sb134 : dA ≠ sb134 := own_ne po134_21 ne_dA_sb121 f136.lt
  have ne_da101_sb134 : da101 ≠ sb134 := own_ne po134_21 ne_da101_sb121 f137.lt
  have ne_db111_sb134 : db111 ≠ sb134 := own_ne po134_21 ne_db111_sb121 f138.lt
  have ne_db121_sb134 : db121 ≠ sb134 := own_ne po134_21 po121_11 po121_5.lt
  have ne_nA_sb134 : nA ≠ sb134 := own_ne po134_21 ne_nA_sb121 f139.lt
  have ne_pA_sb134 : pA ≠ sb134 := own_ne po134_21 ne_pA_sb121 f140.lt
  have ne_pa101_sb134 : pa101 ≠ sb134 := own_ne po134_21 ne_pa101_sb121 f141.lt
  have ne_pb111_sb134 : pb111 ≠ sb134 := own_ne po134_21 ne_pb111_sb121 f142.lt
  have ne_pb121_sb134 : pb121 ≠ sb134 := own_ne po134_21 (Ne.symm po121_13) po121_7.lt
  have ne_rA_sb134 : rA ≠ sb134 := own_ne po134_21 ne_rA_sb121 f143.lt
  have ne_dA_pb134 : dA ≠ pb134 := own_ne po134_22 ne_dA_pb121 f136.lt
  have ne_da101_pb134 : da101 ≠ pb134 := own_ne po134_22 ne_da101_pb121 f137.lt
  have ne_db111_pb134 : db111 ≠ pb134 := own_ne po134_22 ne_db111_pb121 f138.lt
  have ne_db121_pb134 : db121 ≠ pb134 := own_ne po134_22 po121_12 po121_5.lt
  have ne_nA_pb134 : nA ≠ pb134 := own_ne po134_22 ne_nA_pb121 f139.lt
  have ne_pA_pb134 : pA ≠ pb134 := own_ne po134_22 ne_pA_pb121 f140.lt
  have ne_rA_pb134 : rA ≠ pb134 := own_ne po134_22 ne_rA_pb121 f143.lt
  have ne_sa101_pb134 : sa101 ≠ pb134 := own_ne po134_22 ne_sa101_pb121 f144.lt
  have ne_sb111_pb134 : sb111 ≠ pb134 := own_ne po134_22 ne_sb111_pb121 f145.lt
  have ne_sb121_pb134 : sb121 ≠ pb134 := own_ne po134_22 po121_13 po121_6.lt
  obtain ⟨u134_size, hu134_size⟩ : ∃ z, z = (own_p5_size ((u32_l0.getD 2 (0 : Int32))) u121_l8 u121_size) := ⟨_, rfl⟩
  rw [← hu134_size] at po134_4
  obtain ⟨u134_z8, hu134_z8⟩ : ∃ z, z = (own_z5_db ((u32_l0.getD 2 (0 : Int32))) u121_z8 u121_z9 u121_l8 u121_size) := ⟨_, rfl⟩
  rw [← hu134_z8] at po134_8
  obtain ⟨u134_l8, hu134_l8⟩ : ∃ z, z = (own_p5_db ((u32_l0.getD 2 (0 : Int32))) u121_z8 u121_z9 u121_l8 u121_size) := ⟨_, rfl⟩
  rw [← hu134_l8] at po134_8
  obtain ⟨u134_z9, hu134_z9⟩ : ∃ z, z = (own_z5_sb ((u32_l0.getD 2 (0 : Int32))) u121_z9 u121_l8 u121_size) := ⟨_, rfl⟩
  rw [← hu134_z9] at po134_9
  obtain ⟨u134_l9, hu134_l9⟩ : ∃ z, z = (own_p5_sb ((u32_l0.getD 2 (0 : Int32))) u121_z9 u121_l8 u121_l9 u121_size) := ⟨_, rfl⟩
  rw [← hu134_l9] at po134_9
  obtain ⟨u134_z10, hu134_z10⟩ : ∃ z, z = (own_z5_pb ((u32_l0.getD 2 (0 : Int32))) u121_z9 u121_z10 u121_l8 u121_l9 u121_size) := ⟨_, rfl⟩
  rw [← hu134_z10] at po134_10
  obtain ⟨u134_l10, hu134_l10⟩ : ∃ z, z = (own_p5_pb ((u32_l0.getD 2 (0 : Int32))) ((u32_l1.getD 2 (0 : Int32))) u121_z9 u121_z10 u121_l8 u121_l9 u121_l10 u121_size) := ⟨_, rfl⟩
  rw [← hu134_l10] at po134_10
  have Rq3 := Rq2.next HL (by decide) (own_addS (Rq2.I HL (by decide)) hu134_size hu134_z8 hu134_l8 hu134_z9 hu134_l9 hu134_z10 hu134_l10)
  have f146 := (f130.keep K134 (ninS ne_dA_b96 (ninS ne_dA_db121 (ninS ne_dA_sb121 (ninS ne_dA_pb121 nin0)))))
  obtain ⟨cl147, Ar147, hin147, hat147⟩ := own_AI.at f146 (j := (3 : Int32)) ⟨by decide, by decide⟩
  have f148 := (f132.keep K134 (ninS ne_pA_b96 (ninS ne_pA_db121 (ninS ne_pA_sb121 (ninS ne_pA_pb121 nin0)))))
  obtain ⟨cl149, Ar149, hin149, hat149⟩ := own_AI.at f148 (j := (3 : Int32)) ⟨by decide, by decide⟩
  have z151 : n0 ≤ (T134.heap).size := (Nat.le_trans z135 K134.1)
  have f152 := (f136.keep K134)
  have f153 := (f137.keep K134)
  have f154 := (f138.keep K134)
  have f155 := (po121_5.keep K134)
  have f156 := (f139.keep K134 (ninS ne_nA_b96 (ninS ne_nA_db121 (ninS ne_nA_sb121 (ninS ne_nA_pb121 nin0)))))
  have f157 := (f140.keep K134)
  have f158 := (f141.keep K134)
  have f159 := (f142.keep K134)
  have f160 := (po121_7.keep K134)
  have f161 := (f143.keep K134)
  have f162 := (f144.keep K134)
  have f163 := (f145.keep K134)
  have f164 := (po121_6.keep K134)
  obtain ⟨cq150, kq150, q150a, q150b, q150c⟩ := isOf hZ rfl po134_0
  obtain ⟨_, _, ⟨T150, L150, k150, n150⟩, -, X150, ⟨Lc150, hQ150, l150, y150, z150⟩, st150⟩ := X134.virtualBack hx (y := (⟨"com/example/whole_recall/wholerecall/index/PostingsBuilder", "add", "(II)V"⟩ : MethodName)) (z := (⟨"com/example/whole_recall/wholerecall/index/PostingsBuilder", "add", "(II)V"⟩ : MethodName)) hown (mvT hZ (hw _ (own_w 27 rfl))) (mvT hZ (hw _ (own_w 28 rfl))) (notFace_of_selects (args := #[]) (mvT hZ (hw _ (own_w 30 rfl)))) (mvT hZ (hw _ (own_w 30 rfl))) (mvT hZ (hw _ (own_w 29 rfl))) (by decide) (backOf (W := 0) (rm5 l Z aw hw [] (b96) ((u32_l0.getD 3 (0 : Int32))) ((u32_l1.getD 3 (0 : Int32))) (db134) (sb134) (pb134) (kdb134) (ksb134) (kpb134) (u134_z8) (u134_z9) (u134_z10) (u134_l8) (u134_l9) (u134_l10) (u134_size) (T134.heap) n0 z151 po134_0 po134_1 po134_2 po134_3 po134_4 po134_5 po134_6 po134_7 po134_8 po134_9 po134_10 po134_11 po134_12 po134_13 po134_14 po134_15 po134_16 g_b96 po134_17 po134_18 po134_19 (Rq3.I HL (by decide))) hZ (hw _ (own_w 31 rfl)) (hw _ (own_w 14 rfl)) (by decide) (by decide)) q150a q150c (g := (mkF m 330 #[.val (.int p0), .val (.int p1), .val (.int p2), .val (.int p3), .val (.int p4), .val (.int p5), .val (.ref dA), .val (.ref pA), .val (.ref nA), .val (.ref rA), .val (.int x10_135), .val (.int m183_l11), .val (.int m257_l12), .val (.int x13_264), .val (.int x14_272), .val (.ref b96), .unset] [(.int (u32_l1.getD 3 (0 : Int32))), (.int (u32_l0.getD 3 (0 : Int32))), (.ref b96)])) rfl (by rw [hml]; rfl) (Steps.refl _) (argsL := [(.int (u32_l0.getD 3 (0 : Int32))), (.int (u32_l1.getD 3 (0 : Int32)))]) (rest := []) (lenOf pd_6 rfl) rfl (by show 2 * 0 + _ ≤ _; exact Nat.le_of_eq rfl) (hb hby at_330) (fun _ _ => ⟨rfl, rfl, (by decide : 17 + 3 ≤ _), (by decide : 114 + 27 ≤ _)⟩)
  dsimp only [Pt.U, Pt.locs, Pt.cells, Pt.slots] at X150 l150 y150 z150 st150 hQ150
  rw [l150, y150, z150] at X150
  obtain ⟨db150, sb150, pb150, kdb150, ksb150, kpb150, rfl, Nq150, K150, po150_0, po150_1, po150_2, po150_3, po150_4, po150_5, po150_6, po150_7, po150_8, po150_9, po150_10, po150_11, po150_12, po150_13, po150_14, po150_15, po150_16, po150_17, po150_18, po150_19, po150_20, po150_21, po150_22⟩ := hQ150
  have N150 := Fr.app N134 Nq150
  have ne_dA_db150 : dA ≠ db150 := own_ne po150_20 ne_dA_db134 f152.lt
  have ne_nA_db150 : nA ≠ db150 := own_ne po150_20 ne_nA_db134 f156.lt
  have ne_pA_db150 : pA ≠ db150 := own_ne po150_20 ne_pA_db134 f157.lt
  have ne_pa101_db150 : pa101 ≠ db150 := own_ne po150_20 ne_pa101_db134 f158.lt
  have ne_pb111_db150 : pb111 ≠ db150 := own_ne po150_20 ne_pb111_db134 f159.lt
  have ne_pb121_db150 : pb121 ≠ db150 := own_ne po150_20 ne_pb121_db134 f160.lt
  have ne_pb134_db150 : pb134 ≠ db150 := own_ne po150_20 (Ne.symm po134_12) po134_7.lt
  have ne_rA_db150 : rA ≠ db150 := own_ne po150_20 ne_rA_db134 f161.lt
  have ne_sa101_db150 : sa101 ≠ db150 := own_ne po150_20 ne_sa101_db134 f162.lt
  have ne_sb111_db150 : sb111 ≠ db150 := own_ne po150_20 ne_sb111_db134 f163.lt
  have ne_sb121_db150 : sb121 ≠ db150 := own_ne po150_20 ne_sb121_db134 f164.lt
  have ne_sb134_db150 : sb134 ≠ db150 := own_ne po150_20 (Ne.symm po134_11) po134_6.lt
  have ne_dA_sb150 : dA ≠ sb150 := own_ne po150_21 ne_dA_sb134 f152.lt
  have ne_da101_sb150 : da101 ≠ sb150 := own_ne po150_21 ne_da101_sb134 f153.lt
  have ne_db111_sb150 : db111 ≠ sb150 := own_ne po150_21 ne_db111_sb134 f154.lt
  have ne_db121_sb150 : db121 ≠ sb150 := own_ne po150_21 ne_db121_sb134 f155.lt
  have ne_db134_sb150 : db134 ≠ sb150 := own_ne po150_21 po134_11 po134_5.lt
  have ne_nA_sb150 : nA ≠ sb150 := own_ne po150_21 ne_nA_sb134 f156.lt
  have ne_pA_sb150 : pA ≠ sb150 := own_ne po150_21 ne_pA_sb134 f157.lt
  have ne_pa101_sb150 : pa101 ≠ sb150 := own_ne po150_21 ne_pa101_sb134 f158.lt
  have ne_pb111_sb150 : pb111 ≠ sb150 := own_ne po150_21 ne_pb111_sb134 f159.lt
  have ne_pb121_sb150 : pb121 ≠ sb150 := own_ne po150_21 ne_pb121_sb134 f160.lt
  have ne_pb134_sb150 : pb134 ≠ sb150 := own_ne po150_21 (Ne.symm po134_13) po134_7.lt
  have ne_rA_sb150 : rA ≠ sb150 := own_ne po150_21 ne_rA_sb134 f161.lt
  have ne_dA_pb150 : dA ≠ pb150 := own_ne po150_22 ne_dA_pb134 f152.lt
  have ne_da101_pb150 : da101 ≠ pb150 := own_ne po150_22 ne_da101_pb134 f153.lt
  have ne_db111_pb150 : db111 ≠ pb150 := own_ne po150_22 ne_db111_pb134 f154.lt
  have ne_db121_pb150 : db121 ≠ pb150 := own_ne po150_22 ne_db121_pb134 f155.lt
  have ne_db134_pb150 : db134 ≠ pb150 := own_ne po150_22 po134_12 po134_5.lt
  have ne_nA_pb150 : nA ≠ pb150 := own_ne po150_22 ne_nA_pb134 f156.lt
  have ne_pA_pb150 : pA ≠ pb150 := own_ne po150_22 ne_pA_pb134 f157.lt
  have ne_rA_pb150 : rA ≠ pb150 := own_ne po150_22 ne_rA_pb134 f161.lt
  have ne_sa101_pb150 : sa101 ≠ pb150 := own_ne po150_22 ne_sa101_pb134 f162.lt
  have ne_sb111_pb150 : sb111 ≠ pb150 := own_ne po150_22 ne_sb111_pb134 f163.lt
  have ne_sb121_pb150 : sb121 ≠ pb150 := own_ne po150_22 ne_sb121_pb134 f164.lt
  have ne_sb134_pb150 : sb134 ≠ pb150 := own_ne po150_22 po134_13 po134_6.lt
  obtain ⟨u150_size, hu150_size⟩ : ∃ z, z = (own_p5_size ((u32_l0.getD 3 (0 : Int32))) u134_l8 u134_size) := ⟨_, rfl⟩
  rw [← hu150_size] at po150_4
  obtain ⟨u150_z8, hu150_z8⟩ : ∃ z, z = (own_z5_db ((u32_l0.getD 3 (0 : Int32))) u134_z8 u134_z9 u134_l8 u134_size) := ⟨_, rfl⟩
  rw [← hu150_z8] at po150_8
  obtain ⟨u150_l8, hu150_l8⟩ : ∃ z, z = (own_p5_db ((u32_l0.getD 3 (0 : Int32))) u134_z8 u134_z9 u134_l8 u134_size) := ⟨_, rfl⟩
  rw [← hu150_l8] at po150_8
  obtain ⟨u150_z9, hu150_z9⟩ : ∃ z, z = (own_z5_sb ((u32_l0.getD 3 (0 : Int32))) u134_z9 u134_l8 u134_size) := ⟨_, rfl⟩
  rw [← hu150_z9] at po150_9
  obtain ⟨u150_l9, hu150_l9⟩ : ∃ z, z = (own_p5_sb ((u32_l0.getD 3 (0 : Int32))) u134_z9 u134_l8 u134_l9 u134_size) := ⟨_, rfl⟩
  rw [← hu150_l9] at po150_9
  obtain ⟨u150_z10, hu150_z10⟩ : ∃ z, z = (own_z5_pb ((u32_l0.getD 3 (0 : Int32))) u134_z9 u134_z10 u134_l8 u134_l9 u134_size) := ⟨_, rfl⟩
  rw [← hu150_z10] at po150_10
  obtain ⟨u150_l10, hu150_l10⟩ : ∃ z, z = (own_p5_pb ((u32_l0.getD 3 (0 : Int32))) ((u32_l1.getD 3 (0 : Int32))) u134_z9 u134_z10 u134_l8 u134_l9 u134_l10 u134_size) := ⟨_, rfl⟩
  rw [← hu150_l10] at po150_10
  have Rq4 := Rq3.next HL (by decide) (own_addS (Rq3.I HL (by decide)) hu150_size hu150_z8 hu150_l8 hu150_z9 hu150_l9 hu150_z10 hu150_l10)
  have f165 := (f146.keep K150 (ninS ne_dA_b96 (ninS ne_dA_db134 (ninS ne_dA_sb134 (ninS ne_dA_pb134 nin0)))))
  obtain ⟨cl166, Ar166, hin166, hat166⟩ := own_AI.at f165 (j := (4 : Int32)) ⟨by decide, by decide⟩
  have f167 := (f148.keep K150 (ninS ne_pA_b96 (ninS ne_pA_db134 (ninS ne_pA_sb134 (ninS ne_pA_pb134 nin0)))))
  obtain ⟨cl168, Ar168, hin168, hat168⟩ := own_AI.at f167 (j := (4 : Int32)) ⟨by decide, by decide⟩
  have z170 : n0 ≤ (T150.heap).size := (Nat.le_trans z151 K150.1)
  have f171 := (f152.keep K150)
  have f172 := (f153.keep K150)
  have f173 := (f154.keep K150)
  have f174 := (f155.keep K150)
  have f175 := (po134_5.keep K150)
  have f176 := (f156.keep K150 (ninS ne_nA_b96 (ninS ne_nA_db134 (ninS ne_nA_sb134 (ninS ne_nA_pb134 nin0)))))
  have f177 := (f157.keep K150)
  have f178 := (f158.keep K150)
  have f179 := (f159.keep K150)
  have f180 := (f160.keep K150)
  have f181 := (po134_7.keep K150)
  have f182 := (f161.keep K150)
  have f183 := (f162.keep K150)
  have f184 := (f163.keep K150)
  have f185 := (f164.keep K150)
  have f186 := (po134_6.keep K150)
  obtain ⟨cq169, kq169, q169a, q169b, q169c⟩ := isOf hZ rfl po150_0
  obtain ⟨_, _, ⟨T169, L169, k169, n169⟩, -, X169, ⟨Lc169, hQ169, l169, y169, z169⟩, st169⟩ := X150.virtualBack hx (y := (⟨"com/example/whole_recall/wholerecall/index/PostingsBuilder", "add", "(II)V"⟩ : MethodName)) (z := (⟨"com/example/whole_recall/wholerecall/index/PostingsBuilder", "add", "(II)V"⟩ : MethodName)) hown (mvT hZ (hw _ (own_w 27 rfl))) (mvT hZ (hw _ (own_w 28 rfl))) (notFace_of_selects (args := #[]) (mvT hZ (hw _ (own_w 30 rfl)))) (mvT hZ (hw _ (own_w 30 rfl))) (mvT hZ (hw _ (own_w 29 rfl))) (by decide) (backOf (W := 0) (rm5 l Z aw hw [] (b96) ((u32_l0.getD 4 (0 : Int32))) ((u32_l1.getD 4 (0 : Int32))) (db150) (sb150) (pb150) (kdb150) (ksb150) (kpb150) (u150_z8) (u150_z9) (u150_z10) (u150_l8) (u150_l9) (u150_l10) (u150_size) (T150.heap) n0 z170 po150_0 po150_1 po150_2 po150_3 po150_4 po150_5 po150_6 po150_7 po150_8 po150_9 po150_10 po150_11 po150_12 po150_13 po150_14 po150_15 po150_16 g_b96 po150_17 po150_18 po150_19 (Rq4.I HL (by decide))) hZ (hw _ (own_w 31 rfl)) (hw _ (own_w 14 rfl)) (by decide) (by decide)) q169a q169c (g := (mkF m 343 #[.val (.int p0), .val (.int p1), .val (.int p2), .val (.int p3), .val (.int p4), .val (.int p5), .val (.ref dA), .val (.ref pA), .val (.ref nA), .val (.ref rA), .val (.int x10_135), .val (.int m183_l11), .val (.int m257_l12), .val (.int x13_264), .val (.int x14_272), .val (.ref b96), .unset] [(.int (u32_l1.getD 4 (0 : Int32))), (.int (u32_l0.getD 4 (0 : Int32))), (.ref b96)])) rfl (by rw [hml]; rfl) (Steps.refl _) (argsL := [(.int (u32_l0.getD 4 (0 : Int32))), (.int (u32_l1.getD 4 (0 : Int32)))]) (rest := []) (lenOf pd_6 rfl) rfl (by show 2 * 0 + _ ≤ _; exact Nat.le_of_eq rfl) (hb hby at_343) (fun _ _ => ⟨rfl, rfl, (by decide : 20 + 3 ≤ _), (by decide : 141 + 27 ≤ _)⟩)
  dsimp only [Pt.U, Pt.locs, Pt.cells, Pt.slots] at X169 l169 y169 z169 st169 hQ169
  rw [l169, y169, z169] at X169
  obtain ⟨db169, sb169, pb169, kdb169, ksb169, kpb169, rfl, Nq169, K169, po169_0, po169_1, po169_2, po169_3, po169_4, po169_5, po169_6, po169_7, po169_8, po169_9, po169_10, po169_11, po169_12, po169_13, po169_14, po169_15, po169_16, po169_17, po169_18, po169_19, po169_20, po169_21, po169_22⟩ := hQ169
  have N169 := Fr.app N150 Nq169
  have ne_dA_db169 : dA ≠ db169 := own_ne po169_20 ne_dA_db150 f171.lt
  have ne_nA_db169 : nA ≠ db169 := own_ne po169_20 ne_nA_db150 f176.lt
  have ne_pA_db169 : pA ≠ db169 := own_ne po169_20 ne_pA_db150 f177.lt
  have ne_pa101_db169 : pa101 ≠ db169 := own_ne po169_20 ne_pa101_db150 f178.lt
  have ne_pb111_db169 : pb111 ≠ db169 := own_ne po169_20 ne_pb111_db150 f179.lt
  have ne_pb121_db169 : pb121 ≠ db169 := own_ne po169_20 ne_pb121_db150 f180.lt
  have ne_pb134_db169 : pb134 ≠ db169 := own_ne po169_20 ne_pb134_db150 f181.lt
  have ne_pb150_db169 : pb150 ≠ db169 := own_ne po169_20 (Ne.symm po150_12) po150_7.lt
  have ne_rA_db169 : rA ≠ db169 := own_ne po169_20 ne_rA_db150 f182.lt
  have ne_sa101_db169 : sa101 ≠ db169 := own_ne po169_20 ne_sa101_db150 f183.lt
  have ne_sb111_db169 : sb111 ≠ db169 := own_ne po169_20 ne_sb111_db150 f184.lt
  have ne_sb121_db169 : sb121 ≠ db169 := own_ne po169_20 ne_sb121_db150 f185.lt
  have ne_sb134_db169 : sb134 ≠ db169 := own_ne po169_20 ne_sb134_db150 f186.lt
  have ne_sb150_db169 : sb150 ≠ db169 := own_ne po169_20 (Ne.symm po150_11) po150_6.lt
  have ne_dA_sb169 : dA ≠ sb169 := own_ne po169_21 ne_dA_sb150 f171.lt
  have ne_da101_sb169 : da101 ≠ sb169 := own_ne po169_21 ne_da101_sb150 f172.lt
  have ne_db111_sb169 : db111 ≠ sb169 := own_ne po169_21 ne_db111_sb150 f173.lt
  have ne_db121_sb169 : db121 ≠ sb169 := own_ne po169_21 ne_db121_sb150 f174.lt
  have ne_db134_sb169 : db134 ≠ sb169 := own_ne po169_21 ne_db134_sb150 f175.lt
  have ne_db150_sb169 : db150 ≠ sb169 := own_ne po169_21 po150_11 po150_5.lt
  have ne_nA_sb169 : nA ≠ sb169 := own_ne po169_21 ne_nA_sb150 f176.lt
  have ne_pA_sb169 : pA ≠ sb169 := own_ne po169_21 ne_pA_sb150 f177.lt
  have ne_pa101_sb169 : pa101 ≠ sb169 := own_ne po169_21 ne_pa101_sb150 f178.lt
  have ne_pb111_sb169 : pb111 ≠ sb169 := own_ne po169_21 ne_pb111_sb150 f179.lt
  have ne_pb121_sb169 : pb121 ≠ sb169 := own_ne po169_21 ne_pb121_sb150 f180.lt
  have ne_pb134_sb169 : pb134 ≠ sb169 := own_ne po169_21 ne_pb134_sb150 f181.lt
  have ne_pb150_sb169 : pb150 ≠ sb169 := own_ne po169_21 (Ne.symm po150_13) po150_7.lt
  have ne_rA_sb169 : rA ≠ sb169 := own_ne po169_21 ne_rA_sb150 f182.lt
  have ne_dA_pb169 : dA ≠ pb169 := own_ne po169_22 ne_dA_pb150 f171.lt
  have ne_da101_pb169 : da101 ≠ pb169 := own_ne po169_22 ne_da101_pb150 f172.lt
  have ne_db111_pb169 : db111 ≠ pb169 := own_ne po169_22 ne_db111_pb150 f173.lt
  have ne_db121_pb169 : db121 ≠ pb169 := own_ne po169_22 ne_db121_pb150 f174.lt
  have ne_db134_pb169 : db134 ≠ pb169 := own_ne po169_22 ne_db134_pb150 f175.lt
  have ne_db150_pb169 : db150 ≠ pb169 := own_ne po169_22 po150_12 po150_5.lt
  have ne_nA_pb169 : nA ≠ pb169 := own_ne po169_22 ne_nA_pb150 f176.lt
  have ne_pA_pb169 : pA ≠ pb169 := own_ne po169_22 ne_pA_pb150 f177.lt
  have ne_rA_pb169 : rA ≠ pb169 := own_ne po169_22 ne_rA_pb150 f182.lt
  have ne_sa101_pb169 : sa101 ≠ pb169 := own_ne po169_22 ne_sa101_pb150 f183.lt
  have ne_sb111_pb169 : sb111 ≠ pb169 := own_ne po169_22 ne_sb111_pb150 f184.lt
  have ne_sb121_pb169 : sb121 ≠ pb169 := own_ne po169_22 ne_sb121_pb150 f185.lt
  have ne_sb134_pb169 : sb134 ≠ pb169 := own_ne po169_22 ne_sb134_pb150 f186.lt
  have ne_sb150_pb169 : sb150 ≠ pb169 := own_ne po169_22 po150_13 po150_6.lt
  obtain ⟨u169_size, hu169_size⟩ : ∃ z, z = (own_p5_size ((u32_l0.getD 4 (0 : Int32))) u150_l8 u150_size) := ⟨_, rfl⟩
  rw [← hu169_size] at po169_4
  obtain ⟨u169_z8, hu169_z8⟩ : ∃ z, z = (own_z5_db ((u32_l0.getD 4 (0 : Int32))) u150_z8 u150_z9 u150_l8 u150_size) := ⟨_, rfl⟩
  rw [← hu169_z8] at po169_8
  obtain ⟨u169_l8, hu169_l8⟩ : ∃ z, z = (own_p5_db ((u32_l0.getD 4 (0 : Int32))) u150_z8 u150_z9 u150_l8 u150_size) := ⟨_, rfl⟩
  rw [← hu169_l8] at po169_8
  obtain ⟨u169_z9, hu169_z9⟩ : ∃ z, z = (own_z5_sb ((u32_l0.getD 4 (0 : Int32))) u150_z9 u150_l8 u150_size) := ⟨_, rfl⟩
  rw [← hu169_z9] at po169_9
  obtain ⟨u169_l9, hu169_l9⟩ : ∃ z, z = (own_p5_sb ((u32_l0.getD 4 (0 : Int32))) u150_z9 u150_l8 u150_l9 u150_size) := ⟨_, rfl⟩
  rw [← hu169_l9] at po169_9
  obtain ⟨u169_z10, hu169_z10⟩ : ∃ z, z = (own_z5_pb ((u32_l0.getD 4 (0 : Int32))) u150_z9 u150_z10 u150_l8 u150_l9 u150_size) := ⟨_, rfl⟩
  rw [← hu169_z10] at po169_10
  obtain ⟨u169_l10, hu169_l10⟩ : ∃ z, z = (own_p5_pb ((u32_l0.getD 4 (0 : Int32))) ((u32_l1.getD 4 (0 : Int32))) u150_z9 u150_z10 u150_l8 u150_l9 u150_l10 u150_size) := ⟨_, rfl⟩
  rw [← hu169_l10] at po169_10
  have Rq5 := Rq4.next HL (by decide) (own_addS (Rq4.I HL (by decide)) hu169_size hu169_z8 hu169_l8 hu169_z9 hu169_l9 hu169_z10 hu169_l10)
  have z188 : n0 ≤ (T169.heap).size := (Nat.le_trans z170 K169.1)
  have f189 := (f171.keep K169)
  have f190 := (f172.keep K169)
  have f191 := (f173.keep K169)
  have f192 := (f174.keep K169)
  have f193 := (f175.keep K169)
  have f194 := (po150_5.keep K169)
  have f195 := (f176.keep K169 (ninS ne_nA_b96 (ninS ne_nA_db150 (ninS ne_nA_sb150 (ninS ne_nA_pb150 nin0)))))
  have f196 := (f177.keep K169)
  have f197 := (f178.keep K169)
  have f198 := (f179.keep K169)
  have f199 := (f180.keep K169)
  have f200 := (f181.keep K169)
  have f201 := (po150_7.keep K169)
  have f202 := (f182.keep K169)
  have f203 := (f183.keep K169)
  have f204 := (f184.keep K169)
  have f205 := (f185.keep K169)
  have f206 := (f186.keep K169)
  have f207 := (po150_6.keep K169)
  obtain ⟨cq187, kq187, q187a, q187b, q187c⟩ := isOf hZ rfl po169_0
  obtain ⟨_, _, ⟨T187, L187, k187, n187⟩, -, X187, ⟨Lc187, hQ187, l187, y187, z187⟩, st187⟩ := X169.virtualBack hx (y := (⟨"com/example/whole_recall/wholerecall/index/PostingsBuilder", "build", "()Lcom/example/whole_recall/wholerecall/index/Postings;"⟩ : MethodName)) (z := (⟨"com/example/whole_recall/wholerecall/index/PostingsBuilder", "build", "()Lcom/example/whole_recall/wholerecall/index/Postings;"⟩ : MethodName)) hown (mvT hZ (hw _ (own_w 43 rfl))) (mvT hZ (hw _ (own_w 44 rfl))) (notFace_of_selects (args := #[]) (mvT hZ (hw _ (own_w 46 rfl)))) (mvT hZ (hw _ (own_w 46 rfl))) (mvT hZ (hw _ (own_w 45 rfl))) (by decide) (backOf (W := 0) (rm7 l Z aw hw [] (b96) (db169) (sb169) (pb169) (kdb169) (ksb169) (kpb169) (u169_z8) (u169_z9) (u169_z10) (u169_l8) (u169_l9) (u169_l10) (u169_size) (T169.heap) n0 z188 po169_0 po169_1 po169_2 po169_3 po169_4 po169_5 po169_6 po169_7 po169_8 po169_9 po169_10 po169_11 po169_12 po169_13 po169_14 po169_15 po169_16 (Rq5.J HL)) hZ (hw _ (own_w 47 rfl)) (hw _ (own_w 14 rfl)) (by decide) (by decide)) q187a q187c (g := (mkF m 348 #[.val (.int p0), .val (.int p1), .val (.int p2), .val (.int p3), .val (.int p4), .val (.int p5), .val (.ref dA), .val (.ref pA), .val (.ref nA), .val (.ref rA), .val (.int x10_135), .val (.int m183_l11), .val (.int m257_l12), .val (.int x13_264), .val (.int x14_272), .val (.ref b96), .unset] [(.ref b96)])) rfl (by rw [hml]; rfl) (Steps.refl _) (argsL := []) (rest := []) (lenOf pd_7 rfl) rfl (by show 2 * 0 + _ ≤ _; exact Nat.le_of_eq rfl) (hb hby at_348) (fun _ _ => ⟨rfl, rfl, (by decide : 23 + 4 ≤ _), (by decide : 168 + 30 ≤ _)⟩)
  dsimp only [Pt.U, Pt.locs, Pt.cells, Pt.slots] at X187 l187 y187 z187 st187 hQ187
  rw [l187, y187, z187] at X187
  obtain ⟨po187, dc187, sc187, pc187, kdc187, ksc187, kpc187, rfl, Nq187, K187, po187_0, po187_1, po187_2, po187_3, po187_4, po187_5, po187_6, po187_7⟩ := hQ187
  have N187 := Fr.app N169 Nq187
  have ne_b96_po187 : b96 ≠ po187 := Nat.ne_of_lt (Nat.lt_of_lt_of_le po169_0.lt po187_0)
  have ne_dA_po187 : dA ≠ po187 := Nat.ne_of_lt (Nat.lt_of_lt_of_le f189.lt po187_0)
  have ne_da101_po187 : da101 ≠ po187 := Nat.ne_of_lt (Nat.lt_of_lt_of_le f190.lt po187_0)
  have ne_db111_po187 : db111 ≠ po187 := Nat.ne_of_lt (Nat.lt_of_lt_of_le f191.lt po187_0)
  have ne_db121_po187 : db121 ≠ po187 := Nat.ne_of_lt (Nat.lt_of_lt_of_le f192.lt po187_0)
  have ne_db134_po187 : db134 ≠ po187 := Nat.ne_of_lt (Nat.lt_of_lt_of_le f193.lt po187_0)
  have ne_db150_po187 : db150 ≠ po187 := Nat.ne_of_lt (Nat.lt_of_lt_of_le f194.lt po187_0)
  have ne_db169_po187 : db169 ≠ po187 := Nat.ne_of_lt (Nat.lt_of_lt_of_le po169_5.lt po187_0)
  have ne_nA_po187 : nA ≠ po187 := Nat.ne_of_lt (Nat.lt_of_lt_of_le f195.lt po187_0)
  have ne_pA_po187 : pA ≠ po187 := Nat.ne_of_lt (Nat.lt_of_lt_of_le f196.lt po187_0)
  have ne_pa101_po187 : pa101 ≠ po187 := Nat.ne_of_lt (Nat.lt_of_lt_of_le f197.lt po187_0)
  have ne_pb111_po187 : pb111 ≠ po187 := Nat.ne_of_lt (Nat.lt_of_lt_of_le f198.lt po187_0)
  have ne_pb121_po187 : pb121 ≠ po187 := Nat.ne_of_lt (Nat.lt_of_lt_of_le f199.lt po187_0)
  have ne_pb134_po187 : pb134 ≠ po187 := Nat.ne_of_lt (Nat.lt_of_lt_of_le f200.lt po187_0)
  have ne_pb150_po187 : pb150 ≠ po187 := Nat.ne_of_lt (Nat.lt_of_lt_of_le f201.lt po187_0)
  have ne_pb169_po187 : pb169 ≠ po187 := Nat.ne_of_lt (Nat.lt_of_lt_of_le po169_7.lt po187_0)
  have ne_rA_po187 : rA ≠ po187 := Nat.ne_of_lt (Nat.lt_of_lt_of_le f202.lt po187_0)
  have ne_sa101_po187 : sa101 ≠ po187 := Nat.ne_of_lt (Nat.lt_of_lt_of_le f203.lt po187_0)
  have ne_sb111_po187 : sb111 ≠ po187 := Nat.ne_of_lt (Nat.lt_of_lt_of_le f204.lt po187_0)
  have ne_sb121_po187 : sb121 ≠ po187 := Nat.ne_of_lt (Nat.lt_of_lt_of_le f205.lt po187_0)
  have ne_sb134_po187 : sb134 ≠ po187 := Nat.ne_of_lt (Nat.lt_of_lt_of_le f206.lt po187_0)
  have ne_sb150_po187 : sb150 ≠ po187 := Nat.ne_of_lt (Nat.lt_of_lt_of_le f207.lt po187_0)
  have ne_sb169_po187 : sb169 ≠ po187 := Nat.ne_of_lt (Nat.lt_of_lt_of_le po169_6.lt po187_0)
  have g_po187 : n0 ≤ po187 := Nat.le_trans z188 po187_0
  obtain ⟨u187_l5, hu187_l5⟩ : ∃ z, z = (own_cp u169_l8 u169_z8 u169_size) := ⟨_, rfl⟩
  rw [← hu187_l5] at po187_5
  obtain ⟨u187_z6, hu187_z6⟩ : ∃ z, z = (u169_size + (1 : Int32)) := ⟨_, rfl⟩
  rw [← hu187_z6] at po187_6
  obtain ⟨u187_l6, hu187_l6⟩ : ∃ z, z = (own_cp u169_l9 u169_z9 u187_z6) := ⟨_, rfl⟩
  rw [← hu187_l6] at po187_6
  obtain ⟨u187_z7, hu187_z7⟩ : ∃ z, z = (u169_l9.getD (u169_size).toNatClampNeg (0 : Int32)) := ⟨_, rfl⟩
  rw [← hu187_z7] at po187_7
  obtain ⟨u187_l7, hu187_l7⟩ : ∃ z, z = (own_cp u169_l10 u169_z10 u187_z7) := ⟨_, rfl⟩
  rw [← hu187_l7] at po187_7
  have ZZ := own_final HL Rq5 hK B4 F4 (by decide) (by decide) hx13_264 hx14_272 hu187_l5 hu187_z6 hu187_l6 hu187_z7 hu187_l7
  have z209 : n0 ≤ (T187.heap).size := (Nat.le_trans z188 K187.1)
  obtain ⟨cq208, kq208, q208a, q208b, q208c⟩ := isOf hZ rfl po187_1
  obtain ⟨_, _, ⟨T208, L208, k208, n208⟩, -, X208, ⟨Lc208, hQ208, l208, y208, z208⟩, st208⟩ := X187.virtualBack hx (y := (⟨"com/example/whole_recall/wholerecall/index/Postings", "size", "()I"⟩ : MethodName)) (z := (⟨"com/example/whole_recall/wholerecall/index/Postings", "size", "()I"⟩ : MethodName)) hown (mvT hZ (hw _ (own_w 61 rfl))) (mvT hZ (hw _ (own_w 62 rfl))) (notFace_of_selects (args := #[]) (mvT hZ (hw _ (own_w 64 rfl)))) (mvT hZ (hw _ (own_w 64 rfl))) (mvT hZ (hw _ (own_w 63 rfl))) (by decide) (backOf (W := 0) (rm9 l Z aw hw [] (po187) (dc187) (kdc187) (u169_size) (u187_l5) (T187.heap) n0 z209 po187_1 po187_2 po187_5) hZ (hw _ (own_w 65 rfl)) (hw _ (own_w 50 rfl)) (by decide) (by decide)) q208a q208c (g := (mkF m 355 #[.val (.int p0), .val (.int p1), .val (.int p2), .val (.int p3), .val (.int p4), .val (.int p5), .val (.ref dA), .val (.ref pA), .val (.ref nA), .val (.ref rA), .val (.int x10_135), .val (.int m183_l11), .val (.int m257_l12), .val (.int x13_264), .val (.int x14_272), .val (.ref b96), .val (.ref po187)] [(.ref po187)])) rfl (by rw [hml]; rfl) (Steps.refl _) (argsL := []) (rest := []) (lenOf pd_8 rfl) rfl (by show 2 * 0 + _ ≤ _; exact Nat.le_of_eq rfl) (hb hby at_355) (fun _ _ => ⟨rfl, rfl, (by decide : 27 + 0 ≤ _), (by decide : 198 + 0 ≤ _)⟩)
  dsimp only [Pt.U, Pt.locs, Pt.cells, Pt.slots] at X208 l208 y208 z208 st208 hQ208
  rw [l208, y208, z208] at X208
  obtain ⟨rfl, Nq208, eq208⟩ := hQ208
  have N208 := Fr.app N187 Nq208
  have hc360 : (u169_size = x14_272) := ZZ.size
  obtain ⟨cq210, kq210, q210a, q210b, q210c⟩ := isOf hZ eq208 po187_1
  obtain ⟨_, _, ⟨T210, L210, k210, n210⟩, -, X210, ⟨Lc210, hQ210, l210, y210, z210⟩, st210⟩ := X208.virtualBack hx (y := (⟨"com/example/whole_recall/wholerecall/index/Postings", "document", "(I)I"⟩ : MethodName)) (z := (⟨"com/example/whole_recall/wholerecall/index/Postings", "document", "(I)I"⟩ : MethodName)) hown (mvT hZ (hw _ (own_w 66 rfl))) (mvT hZ (hw _ (own_w 67 rfl))) (notFace_of_selects (args := #[]) (mvT hZ (hw _ (own_w 69 rfl)))) (mvT hZ (hw _ (own_w 69 rfl))) (mvT hZ (hw _ (own_w 68 rfl))) (by decide) (backOf (W := 0) (rm10 l Z aw hw [] (po187) (x13_264) (dc187) (kdc187) (u169_size) (u187_l5) (T187.heap) n0 z209 po187_1 po187_2 po187_5 (ZZ.hi)) hZ (hw _ (own_w 70 rfl)) (hw _ (own_w 50 rfl)) (by decide) (by decide)) q210a q210c (g := (mkF m 367 #[.val (.int p0), .val (.int p1), .val (.int p2), .val (.int p3), .val (.int p4), .val (.int p5), .val (.ref dA), .val (.ref pA), .val (.ref nA), .val (.ref rA), .val (.int x10_135), .val (.int m183_l11), .val (.int m257_l12), .val (.int x13_264), .val (.int x14_272), .val (.ref b96), .val (.ref po187)] [(.int x13_264), (.ref po187)])) rfl (by rw [hml]; rfl) (Steps.refl _) (argsL := [(.int x13_264)]) (rest := []) (lenOf pd_3 rfl) rfl (by show 2 * 0 + _ ≤ _; exact Nat.le_of_eq rfl) (hb hby at_367) (fun _ _ => ⟨rfl, eq208, (by decide : 27 + 0 ≤ _), (by decide : 198 + 0 ≤ _)⟩)
  dsimp only [Pt.U, Pt.locs, Pt.cells, Pt.slots] at X210 l210 y210 z210 st210 hQ210
  rw [l210, y210, z210] at X210
  obtain ⟨rfl, Nq210, eq210⟩ := hQ210
  have N210 := Fr.app N208 Nq210
  have f211 := ((f165.keep K169 (ninS ne_dA_b96 (ninS ne_dA_db150 (ninS ne_dA_sb150 (ninS ne_dA_pb150 nin0))))).keep K187 nin0)
  obtain ⟨cl212, Ar212, hin212, hat212⟩ := own_AI.at f211 (j := x10_135) (own_in5 hK)
  have hc375 : ((u187_l5.getD (x13_264).toNatClampNeg (0 : Int32)) = (u32_l0.getD (x10_135).toNatClampNeg (0 : Int32))) := ZZ.doc
  obtain ⟨cq213, kq213, q213a, q213b, q213c⟩ := isOf hZ eq210 po187_1
  obtain ⟨_, _, ⟨T213, L213, k213, n213⟩, -, X213, ⟨Lc213, hQ213, l213, y213, z213⟩, st213⟩ := X210.virtualBack hx (y := (⟨"com/example/whole_recall/wholerecall/index/Postings", "frequency", "(I)I"⟩ : MethodName)) (z := (⟨"com/example/whole_recall/wholerecall/index/Postings", "frequency", "(I)I"⟩ : MethodName)) hown (mvT hZ (hw _ (own_w 71 rfl))) (mvT hZ (hw _ (own_w 72 rfl))) (notFace_of_selects (args := #[]) (mvT hZ (hw _ (own_w 74 rfl)))) (mvT hZ (hw _ (own_w 74 rfl))) (mvT hZ (hw _ (own_w 73 rfl))) (by decide) (backOf (W := 0) (rm11 l Z aw hw [] (po187) (x13_264) (sc187) (ksc187) (u187_z6) (u187_l6) (T187.heap) n0 z209 po187_1 po187_3 po187_6 (ZZ.h2)) hZ (hw _ (own_w 75 rfl)) (hw _ (own_w 50 rfl)) (by decide) (by decide)) q213a q213c (g := (mkF m 382 #[.val (.int p0), .val (.int p1), .val (.int p2), .val (.int p3), .val (.int p4), .val (.int p5), .val (.ref dA), .val (.ref pA), .val (.ref nA), .val (.ref rA), .val (.int x10_135), .val (.int m183_l11), .val (.int m257_l12), .val (.int x13_264), .val (.int x14_272), .val (.ref b96), .val (.ref po187)] [(.int x13_264), (.ref po187)])) rfl (by rw [hml]; rfl) (Steps.refl _) (argsL := [(.int x13_264)]) (rest := []) (lenOf pd_3 rfl) rfl (by show 2 * 0 + _ ≤ _; exact Nat.le_of_eq rfl) (hb hby at_382) (fun _ _ => ⟨rfl, eq210, (by decide : 27 + 0 ≤ _), (by decide : 198 + 0 ≤ _)⟩)
  dsimp only [Pt.U, Pt.locs, Pt.cells, Pt.slots] at X213 l213 y213 z213 st213 hQ213
  rw [l213, y213, z213] at X213
  obtain ⟨rfl, Nq213, eq213⟩ := hQ213
  have N213 := Fr.app N210 Nq213
  have hc390 : ((own_f11 x13_264 u187_l6) = (m257_l12 - m183_l11)) := ZZ.freq
  obtain ⟨cq214, kq214, q214a, q214b, q214c⟩ := isOf hZ eq213 po187_1
  obtain ⟨_, _, ⟨T214, L214, k214, n214⟩, -, X214, ⟨Lc214, hQ214, l214, y214, z214⟩, st214⟩ := X213.virtualBack hx (y := (⟨"com/example/whole_recall/wholerecall/index/Postings", "position", "(II)I"⟩ : MethodName)) (z := (⟨"com/example/whole_recall/wholerecall/index/Postings", "position", "(II)I"⟩ : MethodName)) hown (mvT hZ (hw _ (own_w 76 rfl))) (mvT hZ (hw _ (own_w 77 rfl))) (notFace_of_selects (args := #[]) (mvT hZ (hw _ (own_w 79 rfl)))) (mvT hZ (hw _ (own_w 79 rfl))) (mvT hZ (hw _ (own_w 78 rfl))) (by decide) (backOf (W := 0) (rm12 l Z aw hw [] (po187) (x13_264) ((x10_135 - m183_l11)) (sc187) (pc187) (ksc187) (kpc187) (u187_z6) (u187_z7) (u187_l6) (u187_l7) (T187.heap) n0 z209 po187_1 po187_3 po187_4 po187_6 po187_7 (ZZ.h2) (ZZ.hj) (ZZ.hf) (ZZ.hp)) hZ (hw _ (own_w 80 rfl)) (hw _ (own_w 50 rfl)) (by decide) (by decide)) q214a q214c (g := (mkF m 402 #[.val (.int p0), .val (.int p1), .val (.int p2), .val (.int p3), .val (.int p4), .val (.int p5), .val (.ref dA), .val (.ref pA), .val (.ref nA), .val (.ref rA), .val (.int x10_135), .val (.int m183_l11), .val (.int m257_l12), .val (.int x13_264), .val (.int x14_272), .val (.ref b96), .val (.ref po187)] [(.int (x10_135 - m183_l11)), (.int x13_264), (.ref po187)])) rfl (by rw [hml]; rfl) (Steps.refl _) (argsL := [(.int x13_264), (.int (x10_135 - m183_l11))]) (rest := []) (lenOf pd_0 rfl) rfl (by show 2 * 0 + _ ≤ _; exact Nat.le_of_eq rfl) (hb hby at_402) (fun _ _ => ⟨rfl, eq213, (by decide : 27 + 0 ≤ _), (by decide : 198 + 0 ≤ _)⟩)
  dsimp only [Pt.U, Pt.locs, Pt.cells, Pt.slots] at X214 l214 y214 z214 st214 hQ214
  rw [l214, y214, z214] at X214
  obtain ⟨rfl, Nq214, eq214⟩ := hQ214
  have N214 := Fr.app N213 Nq214
  have f215 := ((f167.keep K169 (ninS ne_pA_b96 (ninS ne_pA_db150 (ninS ne_pA_sb150 (ninS ne_pA_pb150 nin0))))).keep K187 nin0)
  obtain ⟨cl216, Ar216, hin216, hat216⟩ := own_AI.at f215 (j := x10_135) (own_in5 hK)
  have hc410 : ((u187_l7.getD ((u187_l6.getD (x13_264).toNatClampNeg (0 : Int32)) + ((x10_135 - m183_l11))).toNatClampNeg (0 : Int32)) = (u32_l1.getD (x10_135).toNatClampNeg (0 : Int32))) := ZZ.at_
  obtain ⟨fs, hr, hrun, hended, hW, hsame⟩ := X214.leave (v := some (.int (1 : Int32))) (fun h => by rw [Bd.returns] at h; cases h)
  refine ⟨_, _, pre95 _ ?_, hrun, hended, _, _, rfl, ?_, ⟨_, rfl⟩, hW, hsame.mono (by decide) (by decide)⟩
  · show Steps p.tables e below (T32.setTop (mkF m 272 #[.val (.int p0), .val (.int p1), .val (.int p2), .val (.int p3), .val (.int p4), .val (.int p5), .val (.ref dA), .val (.ref pA), .val (.ref nA), .val (.ref rA), .val (.int x10_135), .val (.int m183_l11), .val (.int m257_l12), .val (.int x13_264), .val (.int x14_272), .unset, .unset] [])) _
    refine st96 _ ?_
    refine XS.dup X96.here hx rfl (hb hby at_275) rfl rfl ?_
    refine st101.trans ?_
    refine XS.astore X101.here hx rfl (hb hby at_279) rfl rfl (l' := #[.val (.int p0), .val (.int p1), .val (.int p2), .val (.int p3), .val (.int p4), .val (.int p5), .val (.ref dA), .val (.ref pA), .val (.ref nA), .val (.ref rA), .val (.int x10_135), .val (.int m183_l11), .val (.int m257_l12), .val (.int x13_264), .val (.int x14_272), .val (.ref b96), .unset]) rfl ?_
    refine XS.aload X101.here hx rfl (hb hby at_281) rfl rfl ?_
    show Steps p.tables e below (T101.setTop (mkF m 283 #[.val (.int p0), .val (.int p1), .val (.int p2), .val (.int p3), .val (.int p4), .val (.int p5), .val (.ref dA), .val (.ref pA), .val (.ref nA), .val (.ref rA), .val (.int x10_135), .val (.int m183_l11), .val (.int m257_l12), .val (.int x13_264), .val (.int x14_272), .val (.ref b96), .unset] [(.ref b96)])) _
    refine XS.aload X101.here hx rfl (hb hby at_283) rfl rfl ?_
    refine XS.iconst X101.here hx rfl (hb hby at_285) ?_
    refine X101.iaload hx (j := (0 : Int32)) (v := (.int (u32_l0.getD 0 (0 : Int32)))) Ar108.1 (State.isArrayOf_alike hZ.alike Ar108.2.1) Ar108.2.2 hin108 hat108 (g := (mkF m 286 #[.val (.int p0), .val (.int p1), .val (.int p2), .val (.int p3), .val (.int p4), .val (.int p5), .val (.ref dA), .val (.ref pA), .val (.ref nA), .val (.ref rA), .val (.int x10_135), .val (.int m183_l11), .val (.int m257_l12), .val (.int x13_264), .val (.int x14_272), .val (.ref b96), .unset] [(.int (0 : Int32)), (.ref dA), (.ref b96)])) rfl rfl (hb hby at_286) _ ?_
    refine XS.aload X101.here hx rfl (hb hby at_287) rfl rfl ?_
    refine XS.iconst X101.here hx rfl (hb hby at_289) ?_
    show Steps p.tables e below (T101.setTop (mkF m 290 #[.val (.int p0), .val (.int p1), .val (.int p2), .val (.int p3), .val (.int p4), .val (.int p5), .val (.ref dA), .val (.ref pA), .val (.ref nA), .val (.ref rA), .val (.int x10_135), .val (.int m183_l11), .val (.int m257_l12), .val (.int x13_264), .val (.int x14_272), .val (.ref b96), .unset] [(.int (0 : Int32)), (.ref pA), (.int (u32_l0.getD 0 (0 : Int32))), (.ref b96)])) _
    refine X101.iaload hx (j := (0 : Int32)) (v := (.int (u32_l1.getD 0 (0 : Int32)))) Ar110.1 (State.isArrayOf_alike hZ.alike Ar110.2.1) Ar110.2.2 hin110 hat110 (g := (mkF m 290 #[.val (.int p0), .val (.int p1), .val (.int p2), .val (.int p3), .val (.int p4), .val (.int p5), .val (.ref dA), .val (.ref pA), .val (.ref nA), .val (.ref rA), .val (.int x10_135), .val (.int m183_l11), .val (.int m257_l12), .val (.int x13_264), .val (.int x14_272), .val (.ref b96), .unset] [(.int (0 : Int32)), (.ref pA), (.int (u32_l0.getD 0 (0 : Int32))), (.ref b96)])) rfl rfl (hb hby at_290) _ ?_
    refine st111.trans ?_
    refine XS.aload X111.here hx rfl (hb hby at_294) rfl rfl ?_
    refine XS.aload X111.here hx rfl (hb hby at_296) rfl rfl ?_
    refine XS.iconst X111.here hx rfl (hb hby at_298) ?_
    show Steps p.tables e below (T111.setTop (mkF m 299 #[.val (.int p0), .val (.int p1), .val (.int p2), .val (.int p3), .val (.int p4), .val (.int p5), .val (.ref dA), .val (.ref pA), .val (.ref nA), .val (.ref rA), .val (.int x10_135), .val (.int m183_l11), .val (.int m257_l12), .val (.int x13_264), .val (.int x14_272), .val (.ref b96), .unset] [(.int (1 : Int32)), (.ref dA), (.ref b96)])) _
    refine X111.iaload hx (j := (1 : Int32)) (v := (.int (u32_l0.getD 1 (0 : Int32)))) Ar118.1 (State.isArrayOf_alike hZ.alike Ar118.2.1) Ar118.2.2 hin118 hat118 (g := (mkF m 299 #[.val (.int p0), .val (.int p1), .val (.int p2), .val (.int p3), .val (.int p4), .val (.int p5), .val (.ref dA), .val (.ref pA), .val (.ref nA), .val (.ref rA), .val (.int x10_135), .val (.int m183_l11), .val (.int m257_l12), .val (.int x13_264), .val (.int x14_272), .val (.ref b96), .unset] [(.int (1 : Int32)), (.ref dA), (.ref b96)])) rfl rfl (hb hby at_299) _ ?_
    refine XS.aload X111.here hx rfl (hb hby at_300) rfl rfl ?_
    refine XS.iconst X111.here hx rfl (hb hby at_302) ?_
    refine X111.iaload hx (j := (1 : Int32)) (v := (.int (u32_l1.getD 1 (0 : Int32)))) Ar120.1 (State.isArrayOf_alike hZ.alike Ar120.2.1) Ar120.2.2 hin120 hat120 (g := (mkF m 303 #[.val (.int p0), .val (.int p1), .val (.int p2), .val (.int p3), .val (.int p4), .val (.int p5), .val (.ref dA), .val (.ref pA), .val (.ref nA), .val (.ref rA), .val (.int x10_135), .val (.int m183_l11), .val (.int m257_l12), .val (.int x13_264), .val (.int x14_272), .val (.ref b96), .unset] [(.int (1 : Int32)), (.ref pA), (.int (u32_l0.getD 1 (0 : Int32))), (.ref b96)])) rfl rfl (hb hby at_303) _ ?_
    refine st121.trans ?_
    show Steps p.tables e below (T121.setTop (mkF m 307 #[.val (.int p0), .val (.int p1), .val (.int p2), .val (.int p3), .val (.int p4), .val (.int p5), .val (.ref dA), .val (.ref pA), .val (.ref nA), .val (.ref rA), .val (.int x10_135), .val (.int m183_l11), .val (.int m257_l12), .val (.int x13_264), .val (.int x14_272), .val (.ref b96), .unset] [])) _
    refine XS.aload X121.here hx rfl (hb hby at_307) rfl rfl ?_
    refine XS.aload X121.here hx rfl (hb hby at_309) rfl rfl ?_
    refine XS.iconst X121.here hx rfl (hb hby at_311) ?_
    refine X121.iaload hx (j := (2 : Int32)) (v := (.int (u32_l0.getD 2 (0 : Int32)))) Ar131.1 (State.isArrayOf_alike hZ.alike Ar131.2.1) Ar131.2.2 hin131 hat131 (g := (mkF m 312 #[.val (.int p0), .val (.int p1), .val (.int p2), .val (.int p3), .val (.int p4), .val (.int p5), .val (.ref dA), .val (.ref pA), .val (.ref nA), .val (.ref rA), .val (.int x10_135), .val (.int m183_l11), .val (.int m257_l12), .val (.int x13_264), .val (.int x14_272), .val (.ref b96), .unset] [(.int (2 : Int32)), (.ref dA), (.ref b96)])) rfl rfl (hb hby at_312) _ ?_
    refine XS.aload X121.here hx rfl (hb hby at_313) rfl rfl ?_
    show Steps p.tables e below (T121.setTop (mkF m 315 #[.val (.int p0), .val (.int p1), .val (.int p2), .val (.int p3), .val (.int p4), .val (.int p5), .val (.ref dA), .val (.ref pA), .val (.ref nA), .val (.ref rA), .val (.int x10_135), .val (.int m183_l11), .val (.int m257_l12), .val (.int x13_264), .val (.int x14_272), .val (.ref b96), .unset] [(.ref pA), (.int (u32_l0.getD 2 (0 : Int32))), (.ref b96)])) _
    refine XS.iconst X121.here hx rfl (hb hby at_315) ?_
    refine X121.iaload hx (j := (2 : Int32)) (v := (.int (u32_l1.getD 2 (0 : Int32)))) Ar133.1 (State.isArrayOf_alike hZ.alike Ar133.2.1) Ar133.2.2 hin133 hat133 (g := (mkF m 316 #[.val (.int p0), .val (.int p1), .val (.int p2), .val (.int p3), .val (.int p4), .val (.int p5), .val (.ref dA), .val (.ref pA), .val (.ref nA), .val (.ref rA), .val (.int x10_135), .val (.int m183_l11), .val (.int m257_l12), .val (.int x13_264), .val (.int x14_272), .val (.ref b96), .unset] [(.int (2 : Int32)), (.ref pA), (.int (u32_l0.getD 2 (0 : Int32))), (.ref b96)])) rfl rfl (hb hby at_316) _ ?_
    refine st134.trans ?_
    refine XS.aload X134.here hx rfl (hb hby at_320) rfl rfl ?_
    refine XS.aload X134.here hx rfl (hb hby at_322) rfl rfl ?_
    show Steps p.tables e below (T134.setTop (mkF m 324 #[.val (.int p0), .val (.int p1), .val (.int p2), .val (.int p3), .val (.int p4), .val (.int p5), .val (.ref dA), .val (.ref pA), .val (.ref nA), .val (.ref rA), .val (.int x10_135), .val (.int m183_l11), .val (.int m257_l12), .val (.int x13_264), .val (.int x14_272), .val (.ref b96), .unset] [(.ref dA), (.ref b96)])) _
    refine XS.iconst X134.here hx rfl (hb hby at_324) ?_
    refine X134.iaload hx (j := (3 : Int32)) (v := (.int (u32_l0.getD 3 (0 : Int32)))) Ar147.1 (State.isArrayOf_alike hZ.alike Ar147.2.1) Ar147.2.2 hin147 hat147 (g := (mkF m 325 #[.val (.int p0), .val (.int p1), .val (.int p2), .val (.int p3), .val (.int p4), .val (.int p5), .val (.ref dA), .val (.ref pA), .val (.ref nA), .val (.ref rA), .val (.int x10_135), .val (.int m183_l11), .val (.int m257_l12), .val (.int x13_264), .val (.int x14_272), .val (.ref b96), .unset] [(.int (3 : Int32)), (.ref dA), (.ref b96)])) rfl rfl (hb hby at_325) _ ?_
    refine XS.aload X134.here hx rfl (hb hby at_326) rfl rfl ?_
    refine XS.iconst X134.here hx rfl (hb hby at_328) ?_
    refine X134.iaload hx (j := (3 : Int32)) (v := (.int (u32_l1.getD 3 (0 : Int32)))) Ar149.1 (State.isArrayOf_alike hZ.alike Ar149.2.1) Ar149.2.2 hin149 hat149 (g := (mkF m 329 #[.val (.int p0), .val (.int p1), .val (.int p2), .val (.int p3), .val (.int p4), .val (.int p5), .val (.ref dA), .val (.ref pA), .val (.ref nA), .val (.ref rA), .val (.int x10_135), .val (.int m183_l11), .val (.int m257_l12), .val (.int x13_264), .val (.int x14_272), .val (.ref b96), .unset] [(.int (3 : Int32)), (.ref pA), (.int (u32_l0.getD 3 (0 : Int32))), (.ref b96)])) rfl rfl (hb hby at_329) _ ?_
    show Steps p.tables e below (T134.setTop (mkF m 330 #[.val (.int p0), .val (.int p1), .val (.int p2), .val (.int p3), .val (.int p4), .val (.int p5), .val (.ref dA), .val (.ref pA), .val (.ref nA), .val (.ref rA), .val (.int x10_135), .val (.int m183_l11), .val (.int m257_l12), .val (.int x13_264), .val (.int x14_272), .val (.ref b96), .unset] [(.int (u32_l1.getD 3 (0 : Int32))), (.int (u32_l0.getD 3 (0 : Int32))), (.ref b96)])) _
    refine st150.trans ?_
    refine XS.aload X150.here hx rfl (hb hby at_333) rfl rfl ?_
    refine XS.aload X150.here hx rfl (hb hby at_335) rfl rfl ?_
    refine XS.iconst X150.here hx rfl (hb hby at_337) ?_
    refine X150.iaload hx (j := (4 : Int32)) (v := (.int (u32_l0.getD 4 (0 : Int32)))) Ar166.1 (State.isArrayOf_alike hZ.alike Ar166.2.1) Ar166.2.2 hin166 hat166 (g := (mkF m 338 #[.val (.int p0), .val (.int p1), .val (.int p2), .val (.int p3), .val (.int p4), .val (.int p5), .val (.ref dA), .val (.ref pA), .val (.ref nA), .val (.ref rA), .val (.int x10_135), .val (.int m183_l11), .val (.int m257_l12), .val (.int x13_264), .val (.int x14_272), .val (.ref b96), .unset] [(.int (4 : Int32)), (.ref dA), (.ref b96)])) rfl rfl (hb hby at_338) _ ?_
    show Steps p.tables e below (T150.setTop (mkF m 339 #[.val (.int p0), .val (.int p1), .val (.int p2), .val (.int p3), .val (.int p4), .val (.int p5), .val (.ref dA), .val (.ref pA), .val (.ref nA), .val (.ref rA), .val (.int x10_135), .val (.int m183_l11), .val (.int m257_l12), .val (.int x13_264), .val (.int x14_272), .val (.ref b96), .unset] [(.int (u32_l0.getD 4 (0 : Int32))), (.ref b96)])) _
    refine XS.aload X150.here hx rfl (hb hby at_339) rfl rfl ?_
    refine XS.iconst X150.here hx rfl (hb hby at_341) ?_
    refine X150.iaload hx (j := (4 : Int32)) (v := (.int (u32_l1.getD 4 (0 : Int32)))) Ar168.1 (State.isArrayOf_alike hZ.alike Ar168.2.1) Ar168.2.2 hin168 hat168 (g := (mkF m 342 #[.val (.int p0), .val (.int p1), .val (.int p2), .val (.int p3), .val (.int p4), .val (.int p5), .val (.ref dA), .val (.ref pA), .val (.ref nA), .val (.ref rA), .val (.int x10_135), .val (.int m183_l11), .val (.int m257_l12), .val (.int x13_264), .val (.int x14_272), .val (.ref b96), .unset] [(.int (4 : Int32)), (.ref pA), (.int (u32_l0.getD 4 (0 : Int32))), (.ref b96)])) rfl rfl (hb hby at_342) _ ?_
    refine st169.trans ?_
    refine XS.aload X169.here hx rfl (hb hby at_346) rfl rfl ?_
    show Steps p.tables e below (T169.setTop (mkF m 348 #[.val (.int p0), .val (.int p1), .val (.int p2), .val (.int p3), .val (.int p4), .val (.int p5), .val (.ref dA), .val (.ref pA), .val (.ref nA), .val (.ref rA), .val (.int x10_135), .val (.int m183_l11), .val (.int m257_l12), .val (.int x13_264), .val (.int x14_272), .val (.ref b96), .unset] [(.ref b96)])) _
    refine st187.trans ?_
    refine XS.astore X187.here hx rfl (hb hby at_351) rfl rfl (l' := #[.val (.int p0), .val (.int p1), .val (.int p2), .val (.int p3), .val (.int p4), .val (.int p5), .val (.ref dA), .val (.ref pA), .val (.ref nA), .val (.ref rA), .val (.int x10_135), .val (.int m183_l11), .val (.int m257_l12), .val (.int x13_264), .val (.int x14_272), .val (.ref b96), .val (.ref po187)]) rfl ?_
    refine XS.aload X187.here hx rfl (hb hby at_353) rfl rfl ?_
    refine st208.trans ?_
    refine XS.iload X208.here hx rfl (hb hby at_358) rfl ?_
    show Steps p.tables e below (T208.setTop (mkF m 360 #[.val (.int p0), .val (.int p1), .val (.int p2), .val (.int p3), .val (.int p4), .val (.int p5), .val (.ref dA), .val (.ref pA), .val (.ref nA), .val (.ref rA), .val (.int x10_135), .val (.int m183_l11), .val (.int m257_l12), .val (.int x13_264), .val (.int x14_272), .val (.ref b96), .val (.ref po187)] [(.int x14_272), (.int u169_size)])) _
    refine XS.icmpNo X208.here hx rfl (hb hby at_360) rfl (teq hc360).2 ?_
    refine XS.aload X208.here hx rfl (hb hby at_363) rfl rfl ?_
    refine XS.iload X208.here hx rfl (hb hby at_365) rfl ?_
    refine st210.trans ?_
    refine XS.aload X210.here hx rfl (hb hby at_370) rfl rfl ?_
    show Steps p.tables e below (T210.setTop (mkF m 372 #[.val (.int p0), .val (.int p1), .val (.int p2), .val (.int p3), .val (.int p4), .val (.int p5), .val (.ref dA), .val (.ref pA), .val (.ref nA), .val (.ref rA), .val (.int x10_135), .val (.int m183_l11), .val (.int m257_l12), .val (.int x13_264), .val (.int x14_272), .val (.ref b96), .val (.ref po187)] [(.ref dA), (.int (u187_l5.getD (x13_264).toNatClampNeg (0 : Int32)))])) _
    refine XS.iload X210.here hx rfl (hb hby at_372) rfl ?_
    refine X210.iaload hx (j := x10_135) (v := (.int (u32_l0.getD (x10_135).toNatClampNeg (0 : Int32)))) (by rw [eq210]; exact Ar212.1) (State.isArrayOf_alike hZ.alike Ar212.2.1) Ar212.2.2 hin212 hat212 (g := (mkF m 374 #[.val (.int p0), .val (.int p1), .val (.int p2), .val (.int p3), .val (.int p4), .val (.int p5), .val (.ref dA), .val (.ref pA), .val (.ref nA), .val (.ref rA), .val (.int x10_135), .val (.int m183_l11), .val (.int m257_l12), .val (.int x13_264), .val (.int x14_272), .val (.ref b96), .val (.ref po187)] [(.int x10_135), (.ref dA), (.int (u187_l5.getD (x13_264).toNatClampNeg (0 : Int32)))])) rfl rfl (hb hby at_374) _ ?_
    refine XS.icmpNo X210.here hx rfl (hb hby at_375) rfl (teq hc375).2 ?_
    refine XS.aload X210.here hx rfl (hb hby at_378) rfl rfl ?_
    refine XS.iload X210.here hx rfl (hb hby at_380) rfl ?_
    show Steps p.tables e below (T210.setTop (mkF m 382 #[.val (.int p0), .val (.int p1), .val (.int p2), .val (.int p3), .val (.int p4), .val (.int p5), .val (.ref dA), .val (.ref pA), .val (.ref nA), .val (.ref rA), .val (.int x10_135), .val (.int m183_l11), .val (.int m257_l12), .val (.int x13_264), .val (.int x14_272), .val (.ref b96), .val (.ref po187)] [(.int x13_264), (.ref po187)])) _
    refine st213.trans ?_
    refine XS.iload X213.here hx rfl (hb hby at_385) rfl ?_
    refine XS.iload X213.here hx rfl (hb hby at_387) rfl ?_
    refine XS.isub X213.here hx rfl (hb hby at_389) rfl ?_
    refine XS.icmpNo X213.here hx rfl (hb hby at_390) rfl (teq hc390).2 ?_
    show Steps p.tables e below (T213.setTop (mkF m 393 #[.val (.int p0), .val (.int p1), .val (.int p2), .val (.int p3), .val (.int p4), .val (.int p5), .val (.ref dA), .val (.ref pA), .val (.ref nA), .val (.ref rA), .val (.int x10_135), .val (.int m183_l11), .val (.int m257_l12), .val (.int x13_264), .val (.int x14_272), .val (.ref b96), .val (.ref po187)] [])) _
    refine XS.aload X213.here hx rfl (hb hby at_393) rfl rfl ?_
    refine XS.iload X213.here hx rfl (hb hby at_395) rfl ?_
    refine XS.iload X213.here hx rfl (hb hby at_397) rfl ?_
    refine XS.iload X213.here hx rfl (hb hby at_399) rfl ?_
    refine XS.isub X213.here hx rfl (hb hby at_401) rfl ?_
    show Steps p.tables e below (T213.setTop (mkF m 402 #[.val (.int p0), .val (.int p1), .val (.int p2), .val (.int p3), .val (.int p4), .val (.int p5), .val (.ref dA), .val (.ref pA), .val (.ref nA), .val (.ref rA), .val (.int x10_135), .val (.int m183_l11), .val (.int m257_l12), .val (.int x13_264), .val (.int x14_272), .val (.ref b96), .val (.ref po187)] [(.int (x10_135 - m183_l11)), (.int x13_264), (.ref po187)])) _
    refine st214.trans ?_
    refine XS.aload X214.here hx rfl (hb hby at_405) rfl rfl ?_
    refine XS.iload X214.here hx rfl (hb hby at_407) rfl ?_
    refine X214.iaload hx (j := x10_135) (v := (.int (u32_l1.getD (x10_135).toNatClampNeg (0 : Int32)))) (by rw [eq214]; exact Ar216.1) (State.isArrayOf_alike hZ.alike Ar216.2.1) Ar216.2.2 hin216 hat216 (g := (mkF m 409 #[.val (.int p0), .val (.int p1), .val (.int p2), .val (.int p3), .val (.int p4), .val (.int p5), .val (.ref dA), .val (.ref pA), .val (.ref nA), .val (.ref rA), .val (.int x10_135), .val (.int m183_l11), .val (.int m257_l12), .val (.int x13_264), .val (.int x14_272), .val (.ref b96), .val (.ref po187)] [(.int x10_135), (.ref pA), (.int (u187_l7.getD ((u187_l6.getD (x13_264).toNatClampNeg (0 : Int32)) + ((x10_135 - m183_l11))).toNatClampNeg (0 : Int32)))])) rfl rfl (hb hby at_409) _ ?_
    refine XS.icmpNo X214.here hx rfl (hb hby at_410) rfl (teq hc410).2 ?_
    show Steps p.tables e below (T214.setTop (mkF m 413 #[.val (.int p0), .val (.int p1), .val (.int p2), .val (.int p3), .val (.int p4), .val (.int p5), .val (.ref dA), .val (.ref pA), .val (.ref nA), .val (.ref rA), .val (.int x10_135), .val (.int m183_l11), .val (.int m257_l12), .val (.int x13_264), .val (.int x14_272), .val (.ref b96), .val (.ref po187)] [])) _
    refine XS.iconst X214.here hx rfl (hb hby at_413) ?_
    refine XS.goto X214.here hx rfl (pc0 := 414) (pc' := 418) rfl (hb hby at_414) (by decide) (by decide) ?_
    show Steps p.tables e below (T214.setTop (mkF m 418 #[.val (.int p0), .val (.int p1), .val (.int p2), .val (.int p3), .val (.int p4), .val (.int p5), .val (.ref dA), .val (.ref pA), .val (.ref nA), .val (.ref rA), .val (.int x10_135), .val (.int m183_l11), .val (.int m257_l12), .val (.int x13_264), .val (.int x14_272), .val (.ref b96), .val (.ref po187)] [(.int (1 : Int32))])) _
    exact retN X214 hx (t := .boolean) Bd.returns (by simp) (hb hby at_418) hr
  · show Q0 Z p0 p1 p2 p3 p4 p5 h0 n0 _ T214.heap _
    rw [eq214]
    unfold Q0
    refine ⟨rfl, N214⟩
set_option maxRecDepth 65536 in
set_option maxHeartbeats 40000000 in
theorem comes_1 {Post : Tables → Env → Array Value → State → Outcome → State → Prop} (hpost : ∀ tb e args s v u, (limb_1_1.after args s (.returned v) u = true ∧ limb_1_2.after args s (.returned v) u = true ∧ True) → FrameEnd s (.returned v) u (Jvm.fieldLocs frame_1_writes args s ++ Jvm.arrayLocs frame_1_arrays args s ++ Jvm.staticLocs frame_1_statics s) 48 256 → Post tb e args s (.returned v) u) :
    ArmFor flags0 classFile x code maxLocals ret World_1 tables_1 room_1 Calls_1 rest_1 Pre_1 Post := by
  intro l hfl _ _ p e ha hc hk s m args below hf hA hF happ hP
  obtain ⟨hcalls, hrest, hpre⟩ := hP
  obtain ⟨-, -, -, hnamed, -, -, -, hat⟩ := (Spec.applies_iff hf).mp happ
  obtain ⟨hg, hn⟩ := and_e (Cond.before_iff.mp (show (Jvm.Cond.and given_1 narrow_1).before args s = true from hpre))
  obtain ⟨gv1, gv2⟩ := and_e hg
  obtain ⟨gv3, gv4⟩ := and_e gv2
  obtain ⟨gv5, gv6⟩ := and_e gv4
  obtain ⟨gv7, gv8⟩ := and_e gv6
  obtain ⟨gv9, gv10⟩ := and_e gv8
  obtain ⟨gv11, gv12⟩ := and_e gv10
  obtain ⟨w0, w1, w2, w3, w4, w5, rfl⟩ : ∃ w0 w1 w2 w3 w4 w5 : Value, args = #[w0, w1, w2, w3, w4, w5] := by
    have hs : args.size = 6 := by simpa [Cond.value, given_1] using gv1
    obtain ⟨L⟩ := args
    match L, hs with
    | [w0, w1, w2, w3, w4, w5], _ => exact ⟨w0, w1, w2, w3, w4, w5, rfl⟩
  have hw := fun d (hd : d ∈ tables_1) => atoms_spec (ws := Jvm.Cond.code x code maxLocals ret :: tables_1) hat d (List.mem_cons_of_mem _ hd)
  obtain ⟨i0, ei0⟩ := is_v gv3
  obtain rfl : w0 = (.int i0) := Option.some.inj ei0
  obtain ⟨i1, ei1⟩ := is_v gv5
  obtain rfl : w1 = (.int i1) := Option.some.inj ei1
  obtain ⟨i2, ei2⟩ := is_v gv7
  obtain rfl : w2 = (.int i2) := Option.some.inj ei2
  obtain ⟨i3, ei3⟩ := is_v gv9
  obtain rfl : w3 = (.int i3) := Option.some.inj ei3
  obtain ⟨i4, ei4⟩ := is_v gv11
  obtain rfl : w4 = (.int i4) := Option.some.inj ei4
  obtain ⟨i5, ei5⟩ := is_v gv12
  obtain rfl : w5 = (.int i5) := Option.some.inj ei5
  obtain ⟨n, o, h1, h2, h3, _, L, rfl, ⟨rfl, N⟩, hq⟩ := rm0 l s _ hw tables_1 i0 i1 i2 i3 i4 i5 s.heap s.heap.size (Nat.le_refl _) p e ha hc hk s m _ below hf ((Spec.applies_iff_loose hf).mp happ).1 ⟨rfl, State.Warmed39.refl s, rfl⟩ trivial
  refine ⟨n, _, h1, h2, h3, hpost _ _ _ _ _ _ ⟨Cond.after_iff.mpr rfl, Cond.after_iff.mpr (eq_i res_at (Term.int_eval (1)) rfl), trivial⟩ ⟨hq.1, hq.2.1, (hq.2.2.sift fun y hy => Or.inr (N y hy)).mono (by decide) (by decide)⟩⟩
theorem main_1_1 : Claimed_1_1 := comes_1 fun _ _ _ _ _ _ h hF => ⟨h.1, hF⟩
theorem main_1_2 : Claimed_1_2 := comes_1 fun _ _ _ _ _ _ h hF => ⟨h.2.1, hF⟩
end Jvm.Pilot.@@N@@
namespace Jvm.Pilot.@@N@@
open Jvm Jvm.ClassFile Sem Op Lib Jvm.Free Jvm.Stand Jvm.Pilot.@@N@@.Jvm.D
/-! MADE BY PROGRAM (witnessworld.py) out of the Statement's table words and the real class files: 15 classes; the members and pool entries that the words name. The judged class is class 1, her method 2. -/
namespace start1
open Jvm.ClassFile
def u (s : String) : CpInfo := .utf8 (stringToUtf16 s)
/-- a pool by its gaps: so many unusable entries, then the entry; so many at the end -/
def gap : Nat → List CpInfo → List CpInfo
  | 0, r => r
  | n + 1, r => .unusable :: gap n r
def poolList (es : List (Nat × CpInfo)) (last : Nat) : List CpInfo := es.foldr (fun e r => gap e.1 (e.2 :: r)) (gap last [])
def pool (es : List (Nat × CpInfo)) (last : Nat) : Array CpInfo := ⟨poolList es last⟩
def fileOf (pool : Array CpInfo) (this : Nat) (attrs : Array Attribute := #[]) (ms : Array MethodInfo := #[]) (fl : Nat := 33) (sup : Nat := 0) (ifs : Array Nat := #[]) (fds : Array FieldInfo := #[]) : ClassFile where
  minorVersion := 0
  majorVersion := 65
  constantPool := pool
  accessFlags := fl
  thisClass := this
  superClass := sup
  interfaces := ifs
  fields := fds
  methods := ms
  attributes := attrs
def plain (name : String) (sup : Option ClassId) : Class where
  name := name
  kind := .ordinary
  loader := none
  accessFlags := 33
  super := sup
  interfaces := #[]
  cf := none
  fields := #[]
  methods := #[]
  instanceTypes := #[]
  staticTypes := #[]
  resolved := #[]
  callSites := []
  init := .initialized
  statics := none
  mirror := none

def pool0 : Array CpInfo := pool [(5, u "<init>"), (0, u "()V"), (1, .class_ 10), (1, u "java/lang/Object"), (85, u "clone"), (0, u "()Ljava/lang/Object;")] 26

def k0c0 : Code := { maxStack := 0, maxLocals := 1, code := object_method_1_code, exceptionTable := #[], attributes := #[] }
def k0m0 : Method := { name := "<init>", desc := "()V", sig := { parameters := [], returnType := none }, accessFlags := 1, code := some k0c0 }
def k0m1 : Method := { name := "clone", desc := "()Ljava/lang/Object;", sig := { parameters := [], returnType := some (.object "java/lang/Object") }, accessFlags := 260, code := none }
/-- java/lang/Object -/
def k0 : Class := { plain "java/lang/Object" none with
  accessFlags := 33
  interfaces := #[]
  cf := some (fileOf pool0 8 #[] #[{ accessFlags := 1, nameIndex := 5, descriptorIndex := 6, attributes := #[] }, { accessFlags := 260, nameIndex := 96, descriptorIndex := 97, attributes := #[] }] 33 0 #[] #[])
  fields := #[]
  methods := #[k0m0, k0m1]
  instanceTypes := #[]
  staticTypes := #[]
  resolved := Array.replicate 124 none
  statics := none }

def pool1 : Array CpInfo := pool [(2, .class_ 4), (0, .nameAndType 5 6), (0, u "java/lang/Object"), (0, u "<init>"), (0, u "()V"), (0, .integer 8388607), (0, .integer 2147483647), (0, .integer 2147482623), (0, .methodref 11 12), (0, .class_ 13), (0, .nameAndType 14 15), (0, u "java/lang/Math"), (0, u "min"), (0, u "(II)I"), (0, .methodref 17 18), (0, .class_ 19), (0, .nameAndType 20 21), (0, u "com/example/whole_recall/wholerecall/index/PostingsBuilderAddPinLaw"), (0, u "step"), (0, u "(IIIII[I[I[Z[I)V"), (0, .class_ 23), (0, u "com/example/whole_recall/wholerecall/index/PostingsBuilder"), (0, .methodref 22 3), (0, .methodref 22 26), (0, .nameAndType 27 28), (0, u "add"), (0, u "(II)V"), (0, .methodref 22 30), (0, .nameAndType 31 32), (0, u "build"), (0, u "()Lcom/example/whole_recall/wholerecall/index/Postings;"), (0, .methodref 34 35), (0, .class_ 36), (0, .nameAndType 37 38), (0, u "com/example/whole_recall/wholerecall/index/Postings"), (0, u "size"), (0, u "()I"), (0, .methodref 34 40), (0, .nameAndType 41 42), (0, u "document"), (0, u "(I)I"), (0, .methodref 34 44), (0, .nameAndType 45 42), (0, u "frequency"), (0, .methodref 34 47), (0, .nameAndType 48 15), (0, u "position"), (3, u "law"), (0, u "(IIIIII)Z")] 6

def k1m0 : Method := { name := "<init>", desc := "()V", sig := { parameters := [], returnType := none }, accessFlags := 2, code := none }
def k1c1 : Code := { maxStack := 5, maxLocals := 11, code := method_2_code, exceptionTable := #[], attributes := #[] }
def k1m1 : Method := { name := "step", desc := "(IIIII[I[I[Z[I)V", sig := { parameters := [.int, .int, .int, .int, .int, (.array .int), (.array .int), (.array .boolean), (.array .int)], returnType := none }, accessFlags := 10, code := some k1c1 }
def k1c2 : Code := { maxStack := 9, maxLocals := 17, code := code, exceptionTable := #[], attributes := #[] }
def k1m2 : Method := { name := "law", desc := "(IIIIII)Z", sig := { parameters := [.int, .int, .int, .int, .int, .int], returnType := some .boolean }, accessFlags := 9, code := some k1c2 }
/-- com/example/whole_recall/wholerecall/index/PostingsBuilderAddPinLaw -/
def k1 : Class := { plain "com/example/whole_recall/wholerecall/index/PostingsBuilderAddPinLaw" (some 0) with
  accessFlags := 49
  interfaces := #[]
  cf := some (fileOf pool1 17 #[] #[{ accessFlags := 2, nameIndex := 5, descriptorIndex := 6, attributes := #[] }, { accessFlags := 10, nameIndex := 20, descriptorIndex := 21, attributes := #[] }, { accessFlags := 9, nameIndex := 52, descriptorIndex := 53, attributes := #[] }] 49 2 #[] #[])
  fields := #[]
  methods := #[k1m0, k1m1, k1m2]
  instanceTypes := #[]
  staticTypes := #[]
  resolved := Array.replicate 60 none
  statics := none }

def pool2 : Array CpInfo := pool [(1, .class_ 2), (0, u "java/lang/Math"), (1, .class_ 6), (1, u "java/lang/Object"), (0, u "<init>"), (0, u "()V"), (89, .class_ 100), (1, u "java/lang/Math$RandomNumberGeneratorHolder"), (71, u "negativeZeroFloatBits"), (0, u "J"), (2, u "negativeZeroDoubleBits"), (24, u "min"), (43, u "$assertionsDisabled"), (0, u "Z"), (88, u "(II)I"), (2, u "twoToTheDoubleScaleDown"), (0, u "D"), (4, u "twoToTheDoubleScaleUp"), (9, u "E"), (3, u "PI"), (2, u "TAU"), (2, u "DEGREES_TO_RADIANS"), (0, u "RADIANS_TO_DEGREES")] 94

def k2m0 : Method := { name := "<init>", desc := "()V", sig := { parameters := [], returnType := none }, accessFlags := 2, code := none }
def k2c1 : Code := { maxStack := 2, maxLocals := 2, code := jdk_29_method_69_code, exceptionTable := #[], attributes := #[] }
def k2m1 : Method := { name := "min", desc := "(II)I", sig := { parameters := [.int, .int], returnType := some .int }, accessFlags := 9, code := some k2c1 }
/-- java/lang/Math -/
def k2 : Class := { plain "java/lang/Math" (some 0) with
  accessFlags := 49
  interfaces := #[]
  cf := some (fileOf pool2 1 #[.nestMembers #[98]] #[{ accessFlags := 2, nameIndex := 7, descriptorIndex := 8, attributes := #[] }, { accessFlags := 9, nameIndex := 201, descriptorIndex := 335, attributes := #[] }] 49 4 #[] #[{ accessFlags := 25, nameIndex := 354, descriptorIndex := 339, attributes := #[] }, { accessFlags := 25, nameIndex := 358, descriptorIndex := 339, attributes := #[] }, { accessFlags := 25, nameIndex := 361, descriptorIndex := 339, attributes := #[] }, { accessFlags := 26, nameIndex := 364, descriptorIndex := 339, attributes := #[] }, { accessFlags := 26, nameIndex := 365, descriptorIndex := 339, attributes := #[] }, { accessFlags := 26, nameIndex := 172, descriptorIndex := 173, attributes := #[] }, { accessFlags := 26, nameIndex := 176, descriptorIndex := 173, attributes := #[] }, { accessFlags := 8, nameIndex := 344, descriptorIndex := 339, attributes := #[] }, { accessFlags := 8, nameIndex := 338, descriptorIndex := 339, attributes := #[] }, { accessFlags := 4120, nameIndex := 245, descriptorIndex := 246, attributes := #[] }])
  fields := #[{ name := "E", type := .double, accessFlags := 25, slot := 0, constantValue := 0 }, { name := "PI", type := .double, accessFlags := 25, slot := 1, constantValue := 0 }, { name := "TAU", type := .double, accessFlags := 25, slot := 2, constantValue := 0 }, { name := "DEGREES_TO_RADIANS", type := .double, accessFlags := 26, slot := 3, constantValue := 0 }, { name := "RADIANS_TO_DEGREES", type := .double, accessFlags := 26, slot := 4, constantValue := 0 }, { name := "negativeZeroFloatBits", type := .long, accessFlags := 26, slot := 5, constantValue := 0 }, { name := "negativeZeroDoubleBits", type := .long, accessFlags := 26, slot := 6, constantValue := 0 }, { name := "twoToTheDoubleScaleUp", type := .double, accessFlags := 8, slot := 7, constantValue := 0 }, { name := "twoToTheDoubleScaleDown", type := .double, accessFlags := 8, slot := 8, constantValue := 0 }, { name := "$assertionsDisabled", type := .boolean, accessFlags := 4120, slot := 9, constantValue := 0 }]
  methods := #[k2m0, k2m1]
  instanceTypes := #[]
  staticTypes := #[.double, .double, .double, .double, .double, .long, .long, .double, .double, .boolean]
  resolved := Array.replicate 460 none
  statics := none }

def pool3 : Array CpInfo := pool [(1, .methodref 2 3), (0, .class_ 4), (0, .nameAndType 5 6), (0, u "java/lang/Object"), (0, u "<init>"), (0, u "()V"), (0, .fieldref 8 9), (0, .class_ 10), (0, .nameAndType 11 12), (0, u "com/example/whole_recall/wholerecall/index/PostingsBuilder"), (0, u "documents"), (0, u "[I"), (0, .fieldref 8 14), (0, .nameAndType 15 12), (0, u "starts"), (0, .fieldref 8 17), (0, .nameAndType 18 12), (0, u "positions"), (0, .fieldref 8 20), (0, .nameAndType 21 22), (0, u "size"), (0, u "I"), (0, .methodref 24 25), (0, .class_ 26), (0, .nameAndType 27 28), (0, u "java/util/Arrays"), (0, u "copyOf"), (0, u "([II)[I"), (0, .class_ 30), (0, u "com/example/whole_recall/wholerecall/index/Postings"), (0, .methodref 29 32), (0, .nameAndType 5 33), (0, u "([I[I[I)V"), (2, u "add"), (0, u "(II)V"), (1, u "build"), (0, u "()Lcom/example/whole_recall/wholerecall/index/Postings;")] 2

def k3c0 : Code := { maxStack := 2, maxLocals := 1, code := prog_40_method_1_code, exceptionTable := #[], attributes := #[] }
def k3m0 : Method := { name := "<init>", desc := "()V", sig := { parameters := [], returnType := none }, accessFlags := 0, code := some k3c0 }
def k3c1 : Code := { maxStack := 4, maxLocals := 4, code := prog_40_method_2_code, exceptionTable := #[], attributes := #[] }
def k3m1 : Method := { name := "add", desc := "(II)V", sig := { parameters := [.int, .int], returnType := none }, accessFlags := 0, code := some k3c1 }
def k3c2 : Code := { maxStack := 7, maxLocals := 1, code := prog_40_method_3_code, exceptionTable := #[], attributes := #[] }
def k3m2 : Method := { name := "build", desc := "()Lcom/example/whole_recall/wholerecall/index/Postings;", sig := { parameters := [], returnType := some (.object "com/example/whole_recall/wholerecall/index/Postings") }, accessFlags := 0, code := some k3c2 }
/-- com/example/whole_recall/wholerecall/index/PostingsBuilder -/
def k3 : Class := { plain "com/example/whole_recall/wholerecall/index/PostingsBuilder" (some 0) with
  accessFlags := 48
  interfaces := #[]
  cf := some (fileOf pool3 8 #[] #[{ accessFlags := 0, nameIndex := 5, descriptorIndex := 6, attributes := #[] }, { accessFlags := 0, nameIndex := 36, descriptorIndex := 37, attributes := #[] }, { accessFlags := 0, nameIndex := 39, descriptorIndex := 40, attributes := #[] }] 48 2 #[] #[{ accessFlags := 2, nameIndex := 11, descriptorIndex := 12, attributes := #[] }, { accessFlags := 2, nameIndex := 15, descriptorIndex := 12, attributes := #[] }, { accessFlags := 2, nameIndex := 18, descriptorIndex := 12, attributes := #[] }, { accessFlags := 2, nameIndex := 21, descriptorIndex := 22, attributes := #[] }])
  fields := #[{ name := "documents", type := (.array .int), accessFlags := 2, slot := 0, constantValue := 0 }, { name := "starts", type := (.array .int), accessFlags := 2, slot := 1, constantValue := 0 }, { name := "positions", type := (.array .int), accessFlags := 2, slot := 2, constantValue := 0 }, { name := "size", type := .int, accessFlags := 2, slot := 3, constantValue := 0 }]
  methods := #[k3m0, k3m1, k3m2]
  instanceTypes := #[(.array .int), (.array .int), (.array .int), .int]
  staticTypes := #[]
  resolved := Array.replicate 43 none
  statics := none }

def pool4 : Array CpInfo := pool [(2, .class_ 4), (1, u "java/lang/Object"), (0, u "<init>"), (0, u "()V"), (7, .class_ 16), (1, u "java/util/Arrays"), (57, .class_ 76), (1, u "java/util/Arrays$NaturalOrder"), (32, u "()Ljava/lang/Object;"), (3, .class_ 115), (1, u "java/util/Arrays$LegacyMergeSort"), (1, u "Z"), (10, .nameAndType 129 109), (0, u "clone"), (20, .methodref 151 152), (0, .class_ 153), (0, .nameAndType 154 155), (0, u "java/lang/System"), (0, u "arraycopy"), (0, u "(Ljava/lang/Object;ILjava/lang/Object;II)V"), (146, u "copyOf"), (1, .methodref 305 306), (0, .class_ 307), (0, .nameAndType 308 309), (0, u "java/lang/Math"), (0, u "min"), (0, u "(II)I"), (6, .methodref 317 128), (0, .class_ 318), (0, u "[I"), (56, .class_ 376), (0, u "java/util/Arrays$ArrayList"), (68, u "$assertionsDisabled"), (269, u "MIN_ARRAY_SORT_GRAN"), (0, u "I"), (2, u "INSERTIONSORT_THRESHOLD"), (151, u "([II)[I"), (103, .class_ 976), (0, u "java/util/Arrays$ArrayItr")] 52

def k4m0 : Method := { name := "<init>", desc := "()V", sig := { parameters := [], returnType := none }, accessFlags := 2, code := none }
def k4c1 : Code := { maxStack := 6, maxLocals := 3, code := jdk_65_method_123_code, exceptionTable := #[], attributes := #[] }
def k4m1 : Method := { name := "copyOf", desc := "([II)[I", sig := { parameters := [(.array .int), .int], returnType := some (.array .int) }, accessFlags := 9, code := some k4c1 }
/-- java/util/Arrays -/
def k4 : Class := { plain "java/util/Arrays" (some 0) with
  accessFlags := 49
  interfaces := #[]
  cf := some (fileOf pool4 14 #[.nestMembers #[975, 375, 113, 74]] #[{ accessFlags := 2, nameIndex := 5, descriptorIndex := 6, attributes := #[] }, { accessFlags := 9, nameIndex := 302, descriptorIndex := 871, attributes := #[] }] 49 2 #[] #[{ accessFlags := 26, nameIndex := 715, descriptorIndex := 716, attributes := #[] }, { accessFlags := 26, nameIndex := 719, descriptorIndex := 716, attributes := #[] }, { accessFlags := 4120, nameIndex := 445, descriptorIndex := 117, attributes := #[] }])
  fields := #[{ name := "MIN_ARRAY_SORT_GRAN", type := .int, accessFlags := 26, slot := 0, constantValue := 0 }, { name := "INSERTIONSORT_THRESHOLD", type := .int, accessFlags := 26, slot := 1, constantValue := 0 }, { name := "$assertionsDisabled", type := .boolean, accessFlags := 4120, slot := 2, constantValue := 0 }]
  methods := #[k4m0, k4m1]
  instanceTypes := #[]
  staticTypes := #[.int, .int, .boolean]
  resolved := Array.replicate 1029 none
  statics := none }

def pool5 : Array CpInfo := pool [(2, .class_ 4), (1, u "java/lang/Object"), (0, u "<init>"), (0, u "()V"), (1, .class_ 10), (1, u "java/lang/System"), (0, u "allowSecurityManager"), (0, u "I"), (16, u "cons"), (0, u "Ljava/io/Console;"), (77, .class_ 110), (1, u "java/lang/System$CallersHolder"), (43, u "initialErrStream"), (0, u "Ljava/io/PrintStream;"), (19, u "security"), (0, u "Ljava/lang/SecurityManager;"), (31, .class_ 209), (0, u "java/lang/System$1"), (7, u "props"), (0, u "Ljava/util/Properties;"), (2, u "lineSeparator"), (0, u "Ljava/lang/String;"), (96, .class_ 321), (1, u "java/lang/System$LoggerFinder"), (5, .class_ 328), (0, u "java/lang/System$Logger"), (67, u "err"), (2, u "out"), (91, u "notSupportedJnuEncoding"), (15, u "in"), (17, u "initialIn"), (0, u "Ljava/io/InputStream;"), (35, u "bootLayer"), (0, u "Ljava/lang/ModuleLayer;"), (99, .class_ 664), (0, u "java/lang/System$2"), (9, u "NEVER"), (2, u "MAYBE"), (49, u "arraycopy"), (0, u "(Ljava/lang/Object;ILjava/lang/Object;II)V"), (72, .class_ 802), (0, u "java/lang/System$Logger$Level")] 31

def k5m0 : Method := { name := "<init>", desc := "()V", sig := { parameters := [], returnType := none }, accessFlags := 2, code := none }
def k5m1 : Method := { name := "arraycopy", desc := "(Ljava/lang/Object;ILjava/lang/Object;II)V", sig := { parameters := [(.object "java/lang/Object"), .int, (.object "java/lang/Object"), .int, .int], returnType := none }, accessFlags := 265, code := none }
/-- java/lang/System -/
def k5 : Class := { plain "java/lang/System" (some 0) with
  accessFlags := 49
  interfaces := #[]
  cf := some (fileOf pool5 8 #[.nestMembers #[319, 327, 801, 108, 663, 208]] #[{ accessFlags := 2, nameIndex := 5, descriptorIndex := 6, attributes := #[] }, { accessFlags := 265, nameIndex := 727, descriptorIndex := 728, attributes := #[] }] 49 2 #[] #[{ accessFlags := 25, nameIndex := 507, descriptorIndex := 526, attributes := #[] }, { accessFlags := 25, nameIndex := 399, descriptorIndex := 155, attributes := #[] }, { accessFlags := 25, nameIndex := 396, descriptorIndex := 155, attributes := #[] }, { accessFlags := 10, nameIndex := 525, descriptorIndex := 526, attributes := #[] }, { accessFlags := 26, nameIndex := 674, descriptorIndex := 12, attributes := #[] }, { accessFlags := 26, nameIndex := 677, descriptorIndex := 12, attributes := #[] }, { accessFlags := 10, nameIndex := 11, descriptorIndex := 12, attributes := #[] }, { accessFlags := 74, nameIndex := 175, descriptorIndex := 176, attributes := #[] }, { accessFlags := 10, nameIndex := 491, descriptorIndex := 222, attributes := #[] }, { accessFlags := 74, nameIndex := 29, descriptorIndex := 30, attributes := #[] }, { accessFlags := 74, nameIndex := 154, descriptorIndex := 155, attributes := #[] }, { accessFlags := 10, nameIndex := 217, descriptorIndex := 218, attributes := #[] }, { accessFlags := 10, nameIndex := 221, descriptorIndex := 222, attributes := #[] }, { accessFlags := 8, nameIndex := 562, descriptorIndex := 563, attributes := #[] }])
  fields := #[{ name := "in", type := (.object "java/io/InputStream"), accessFlags := 25, slot := 0, constantValue := 0 }, { name := "out", type := (.object "java/io/PrintStream"), accessFlags := 25, slot := 1, constantValue := 0 }, { name := "err", type := (.object "java/io/PrintStream"), accessFlags := 25, slot := 2, constantValue := 0 }, { name := "initialIn", type := (.object "java/io/InputStream"), accessFlags := 10, slot := 3, constantValue := 0 }, { name := "NEVER", type := .int, accessFlags := 26, slot := 4, constantValue := 0 }, { name := "MAYBE", type := .int, accessFlags := 26, slot := 5, constantValue := 0 }, { name := "allowSecurityManager", type := .int, accessFlags := 10, slot := 6, constantValue := 0 }, { name := "security", type := (.object "java/lang/SecurityManager"), accessFlags := 74, slot := 7, constantValue := 0 }, { name := "notSupportedJnuEncoding", type := (.object "java/lang/String"), accessFlags := 10, slot := 8, constantValue := 0 }, { name := "cons", type := (.object "java/io/Console"), accessFlags := 74, slot := 9, constantValue := 0 }, { name := "initialErrStream", type := (.object "java/io/PrintStream"), accessFlags := 74, slot := 10, constantValue := 0 }, { name := "props", type := (.object "java/util/Properties"), accessFlags := 10, slot := 11, constantValue := 0 }, { name := "lineSeparator", type := (.object "java/lang/String"), accessFlags := 10, slot := 12, constantValue := 0 }, { name := "bootLayer", type := (.object "java/lang/ModuleLayer"), accessFlags := 8, slot := 13, constantValue := 0 }]
  methods := #[k5m0, k5m1]
  instanceTypes := #[]
  staticTypes := #[(.object "java/io/InputStream"), (.object "java/io/PrintStream"), (.object "java/io/PrintStream"), (.object "java/io/InputStream"), .int, .int, .int, (.object "java/lang/SecurityManager"), (.object "java/lang/String"), (.object "java/io/Console"), (.object "java/io/PrintStream"), (.object "java/util/Properties"), (.object "java/lang/String"), (.object "java/lang/ModuleLayer")]
  resolved := Array.replicate 834 none
  statics := none }

def pool6 : Array CpInfo := pool [(1, .methodref 2 3), (0, .class_ 4), (0, .nameAndType 5 6), (0, u "java/lang/Object"), (0, u "<init>"), (0, u "()V"), (0, .fieldref 8 9), (0, .class_ 10), (0, .nameAndType 11 12), (0, u "com/example/whole_recall/wholerecall/index/Postings"), (0, u "documents"), (0, u "[I"), (0, .fieldref 8 14), (0, .nameAndType 15 12), (0, u "starts"), (0, .fieldref 8 17), (0, .nameAndType 18 12), (0, u "positions"), (0, .methodref 8 20), (0, .nameAndType 21 22), (0, u "frequency"), (0, u "(I)I"), (11, u "([I[I[I)V"), (2, u "EMPTY"), (0, u "Lcom/example/whole_recall/wholerecall/index/Postings;"), (2, u "size"), (0, u "()I"), (0, u "document"), (0, u "position"), (0, u "(II)I")] 19

def k6c0 : Code := { maxStack := 2, maxLocals := 4, code := prog_39_method_1_code, exceptionTable := #[], attributes := #[] }
def k6m0 : Method := { name := "<init>", desc := "([I[I[I)V", sig := { parameters := [(.array .int), (.array .int), (.array .int)], returnType := none }, accessFlags := 0, code := some k6c0 }
def k6c1 : Code := { maxStack := 1, maxLocals := 1, code := prog_39_method_2_code, exceptionTable := #[], attributes := #[] }
def k6m1 : Method := { name := "size", desc := "()I", sig := { parameters := [], returnType := some .int }, accessFlags := 1, code := some k6c1 }
def k6c2 : Code := { maxStack := 2, maxLocals := 2, code := prog_39_method_3_code, exceptionTable := #[], attributes := #[] }
def k6m2 : Method := { name := "document", desc := "(I)I", sig := { parameters := [.int], returnType := some .int }, accessFlags := 1, code := some k6c2 }
def k6c3 : Code := { maxStack := 3, maxLocals := 2, code := prog_39_method_4_code, exceptionTable := #[], attributes := #[] }
def k6m3 : Method := { name := "frequency", desc := "(I)I", sig := { parameters := [.int], returnType := some .int }, accessFlags := 1, code := some k6c3 }
def k6c4 : Code := { maxStack := 5, maxLocals := 3, code := prog_39_method_5_code, exceptionTable := #[], attributes := #[] }
def k6m4 : Method := { name := "position", desc := "(II)I", sig := { parameters := [.int, .int], returnType := some .int }, accessFlags := 1, code := some k6c4 }
/-- com/example/whole_recall/wholerecall/index/Postings -/
def k6 : Class := { plain "com/example/whole_recall/wholerecall/index/Postings" (some 0) with
  accessFlags := 49
  interfaces := #[]
  cf := some (fileOf pool6 8 #[] #[{ accessFlags := 0, nameIndex := 5, descriptorIndex := 34, attributes := #[] }, { accessFlags := 1, nameIndex := 41, descriptorIndex := 42, attributes := #[] }, { accessFlags := 1, nameIndex := 43, descriptorIndex := 22, attributes := #[] }, { accessFlags := 1, nameIndex := 21, descriptorIndex := 22, attributes := #[] }, { accessFlags := 1, nameIndex := 44, descriptorIndex := 45, attributes := #[] }] 49 2 #[] #[{ accessFlags := 24, nameIndex := 37, descriptorIndex := 38, attributes := #[] }, { accessFlags := 18, nameIndex := 11, descriptorIndex := 12, attributes := #[] }, { accessFlags := 18, nameIndex := 15, descriptorIndex := 12, attributes := #[] }, { accessFlags := 18, nameIndex := 18, descriptorIndex := 12, attributes := #[] }])
  fields := #[{ name := "EMPTY", type := (.object "com/example/whole_recall/wholerecall/index/Postings"), accessFlags := 24, slot := 0, constantValue := 0 }, { name := "documents", type := (.array .int), accessFlags := 18, slot := 0, constantValue := 0 }, { name := "starts", type := (.array .int), accessFlags := 18, slot := 1, constantValue := 0 }, { name := "positions", type := (.array .int), accessFlags := 18, slot := 2, constantValue := 0 }]
  methods := #[k6m0, k6m1, k6m2, k6m3, k6m4]
  instanceTypes := #[(.array .int), (.array .int), (.array .int)]
  staticTypes := #[(.object "com/example/whole_recall/wholerecall/index/Postings")]
  resolved := Array.replicate 65 none
  statics := none }

def pool7 : Array CpInfo := pool [(1, .class_ 2), (0, u "java/lang/Cloneable"), (0, .class_ 4), (0, u "java/lang/Object")] 2

/-- java/lang/Cloneable -/
def k7 : Class := { plain "java/lang/Cloneable" (some 0) with
  accessFlags := 1537
  interfaces := #[]
  cf := some (fileOf pool7 1 #[] #[] 1537 3 #[] #[])
  fields := #[]
  methods := #[]
  instanceTypes := #[]
  staticTypes := #[]
  resolved := Array.replicate 7 none
  statics := none }

def pool8 : Array CpInfo := pool [(1, u "java/io/Serializable"), (0, .class_ 1), (0, u "java/lang/Object"), (0, .class_ 3)] 3

/-- java/io/Serializable -/
def k8 : Class := { plain "java/io/Serializable" (some 0) with
  accessFlags := 1537
  interfaces := #[]
  cf := some (fileOf pool8 2 #[] #[] 1537 4 #[] #[])
  fields := #[]
  methods := #[]
  instanceTypes := #[]
  staticTypes := #[]
  resolved := Array.replicate 8 none
  statics := none }

/-- the primitive boolean -/
def k9 : Class := { plain "boolean" none with kind := .primitive 'Z', accessFlags := 0x411 }
/-- [Z -/
def k10 : Class := { plain "[Z" (some 0) with kind := .array 9 .boolean, interfaces := #[7, 8], accessFlags := 1041 }

/-- the primitive byte -/
def k11 : Class := { plain "byte" none with kind := .primitive 'B', accessFlags := 0x411 }
/-- [B -/
def k12 : Class := { plain "[B" (some 0) with kind := .array 11 .byte, interfaces := #[7, 8], accessFlags := 1041 }

/-- the primitive int -/
def k13 : Class := { plain "int" none with kind := .primitive 'I', accessFlags := 0x411 }
/-- [I -/
def k14 : Class := { plain "[I" (some 0) with kind := .array 13 .int, interfaces := #[7, 8], accessFlags := 1041 }

def heap : Heap := #[]
def classes : Array Class := #[k0, k1, k2, k3, k4, k5, k6, k7, k8, k9, k10, k11, k12, k13, k14]
def interned : List (Array UInt16 × Addr) := []
def slotsUsed : Nat := 0
def theMethod : MethodId := ⟨1, 2⟩
def args0 : Array Value := #[.int 5, .int 6, .int 7, .int 8, .int 9, .int 10]
def aboutOver (below : List Frame) : State where
  vm := { classes := classes, interned := interned.toArray }
  heap := heap
  slotsUsed := slotsUsed
  threads := #[{ frames := .invoking theMethod args0 :: below }]
def below0 : List Frame := [.native { method := ⟨0, 0⟩, args := #[] }]
def about1 : State := aboutOver below0
def p0 : Program := .bare "" "" ""
def e0 : Env := launch0.env 0 0 0
theorem w_frames : about1.frames = Frame.invoking theMethod args0 :: below0 := rfl
set_option maxRecDepth 65536 in
theorem w_args : argsFit about1.vm theMethod args0 = true := by decide +kernel
set_option maxRecDepth 65536 in
theorem w_heap : heapFits about1 = true := by decide +kernel
set_option maxRecDepth 65536 in
theorem w_runnable : about1.curStatus? = some .runnable := by decide +kernel
set_option maxRecDepth 65536 in
theorem w_alone : about1.alone = true := by decide +kernel
set_option maxRecDepth 65536 in
theorem w_named : about1.methodNamed? x = some theMethod := by decide +kernel
set_option maxRecDepth 65536 in
theorem w_hears : about1.hears theMethod below0 = true := by decide +kernel
set_option maxRecDepth 65536 in
theorem w_ripe : about1.ripe theMethod args0 below0 = true := by decide +kernel
theorem w_running : about1.status = .running := rfl
set_option maxRecDepth 65536 in
theorem w_room : about1.hasRoom e0.platform room_1 = true :=
  launch0.hasRoom_least _ room_1 (by decide +kernel) (by decide +kernel) (by decide +kernel) (by decide +kernel) (by decide +kernel) (by decide +kernel)
theorem allAtoms_all (ts : List Jvm.Cond) (a : Array Jvm.Value) (st : Jvm.State) : (allAtoms ts).before a st = ts.all (fun c => c.before a st) := by
  induction ts with
  | nil => rfl
  | cons c t ih =>
    show (Jvm.Cond.and c (allAtoms t)).before a st = _
    rw [Jvm.Cond.before_and, ih, List.all_cons]
def words1 : List Jvm.Cond := Jvm.Cond.code x code maxLocals ret :: tables_1
/-- a 'code' word, met by the world's own term for the bytes: nothing is compared byte by byte -/
theorem code_word {y : MethodName} {bytes : ByteArray} {mx : Nat} {rt : Option FieldType} {a : Array Value} {s : State} {m : MethodId} {meth : Method} {c : Code} (h1 : s.methodNamed? y = some m) (h2 : s.vm.method? m = some meth) (h3 : meth.code = some c) (h4 : c.code = bytes)
    (h5 : (c.maxLocals == mx && c.exceptionTable.isEmpty && decide (c.maxStack ≤ mostOperands) && decide (meth.sig.returnType = rt) && !meth.locks && decide (parseMethodDescriptor y.desc = some meth.sig)) = true) : (Jvm.Cond.code y bytes mx rt).before a s = true := by
  simp only [Bool.and_eq_true, beq_iff_eq, Bool.not_eq_true', decide_eq_true_eq] at h5
  obtain ⟨⟨⟨⟨⟨g1, g2⟩, g3⟩, g4⟩, g5⟩, g6⟩ := h5
  simp [Cond.before, Cond.holds, Cond.value, h1, h2, h3, h4, g1, g2, g3, g4, g5, g6]
def isCode : Jvm.Cond → Bool
  | .code _ _ _ _ => true
  | _ => false
theorem all_split {L : List Jvm.Cond} {P : Jvm.Cond → Bool} (h1 : L.all (fun c => isCode c || P c) = true) (h2 : ∀ c ∈ L.filter isCode, P c = true) : L.all P = true := by
  refine List.all_eq_true.mpr fun c hc => ?_
  have h := List.all_eq_true.mp h1 c hc
  rcases Bool.eq_false_or_eq_true (isCode c) with hi | hi
  · exact h2 c (List.mem_filter.mpr ⟨hc, hi⟩)
  · simpa [hi] using h
set_option maxRecDepth 65536 in
theorem w_c0 : (Jvm.Cond.code x code maxLocals ret).before args0 about1 = true := code_word (m := ⟨1, 2⟩) (meth := k1m2) (c := k1c2) (by decide +kernel) rfl rfl rfl (by decide +kernel)
set_option maxRecDepth 65536 in
theorem w_c1 : (Jvm.Cond.code ({ cls := "java/lang/Math", name := "min", desc := "(II)I" } : Jvm.MethodName) jdk_29_method_69_code (2 : Nat) (Option.some Jvm.ClassFile.FieldType.int)).before args0 about1 = true := code_word (m := ⟨2, 1⟩) (meth := k2m1) (c := k2c1) (by decide +kernel) rfl rfl rfl (by decide +kernel)
set_option maxRecDepth 65536 in
theorem w_c2 : (Jvm.Cond.code ({ cls := "com/example/whole_recall/wholerecall/index/PostingsBuilderAddPinLaw", name := "step", desc := "(IIIII[I[I[Z[I)V" } : Jvm.MethodName) method_2_code (11 : Nat) (Option.none : Option Jvm.ClassFile.FieldType)).before args0 about1 = true := code_word (m := ⟨1, 1⟩) (meth := k1m1) (c := k1c1) (by decide +kernel) rfl rfl rfl (by decide +kernel)
set_option maxRecDepth 65536 in
theorem w_c3 : (Jvm.Cond.code ({ cls := "com/example/whole_recall/wholerecall/index/PostingsBuilder", name := "<init>", desc := "()V" } : Jvm.MethodName) prog_40_method_1_code (1 : Nat) (Option.none : Option Jvm.ClassFile.FieldType)).before args0 about1 = true := code_word (m := ⟨3, 0⟩) (meth := k3m0) (c := k3c0) (by decide +kernel) rfl rfl rfl (by decide +kernel)
set_option maxRecDepth 65536 in
theorem w_c4 : (Jvm.Cond.code ({ cls := "java/lang/Object", name := "<init>", desc := "()V" } : Jvm.MethodName) object_method_1_code (1 : Nat) (Option.none : Option Jvm.ClassFile.FieldType)).before args0 about1 = true := code_word (m := ⟨0, 0⟩) (meth := k0m0) (c := k0c0) (by decide +kernel) rfl rfl rfl (by decide +kernel)
set_option maxRecDepth 65536 in
theorem w_c5 : (Jvm.Cond.code ({ cls := "com/example/whole_recall/wholerecall/index/PostingsBuilder", name := "add", desc := "(II)V" } : Jvm.MethodName) prog_40_method_2_code (4 : Nat) (Option.none : Option Jvm.ClassFile.FieldType)).before args0 about1 = true := code_word (m := ⟨3, 1⟩) (meth := k3m1) (c := k3c1) (by decide +kernel) rfl rfl rfl (by decide +kernel)
set_option maxRecDepth 65536 in
theorem w_c6 : (Jvm.Cond.code ({ cls := "java/util/Arrays", name := "copyOf", desc := "([II)[I" } : Jvm.MethodName) jdk_65_method_123_code (3 : Nat) (Option.some (Jvm.ClassFile.FieldType.array Jvm.ClassFile.FieldType.int))).before args0 about1 = true := code_word (m := ⟨4, 1⟩) (meth := k4m1) (c := k4c1) (by decide +kernel) rfl rfl rfl (by decide +kernel)
set_option maxRecDepth 65536 in
theorem w_c7 : (Jvm.Cond.code ({ cls := "com/example/whole_recall/wholerecall/index/PostingsBuilder", name := "build", desc := "()Lcom/example/whole_recall/wholerecall/index/Postings;" } : Jvm.MethodName) prog_40_method_3_code (1 : Nat) (Option.some (Jvm.ClassFile.FieldType.object "com/example/whole_recall/wholerecall/index/Postings"))).before args0 about1 = true := code_word (m := ⟨3, 2⟩) (meth := k3m2) (c := k3c2) (by decide +kernel) rfl rfl rfl (by decide +kernel)
set_option maxRecDepth 65536 in
theorem w_c8 : (Jvm.Cond.code ({ cls := "com/example/whole_recall/wholerecall/index/Postings", name := "<init>", desc := "([I[I[I)V" } : Jvm.MethodName) prog_39_method_1_code (4 : Nat) (Option.none : Option Jvm.ClassFile.FieldType)).before args0 about1 = true := code_word (m := ⟨6, 0⟩) (meth := k6m0) (c := k6c0) (by decide +kernel) rfl rfl rfl (by decide +kernel)
set_option maxRecDepth 65536 in
theorem w_c9 : (Jvm.Cond.code ({ cls := "com/example/whole_recall/wholerecall/index/Postings", name := "size", desc := "()I" } : Jvm.MethodName) prog_39_method_2_code (1 : Nat) (Option.some Jvm.ClassFile.FieldType.int)).before args0 about1 = true := code_word (m := ⟨6, 1⟩) (meth := k6m1) (c := k6c1) (by decide +kernel) rfl rfl rfl (by decide +kernel)
set_option maxRecDepth 65536 in
theorem w_c10 : (Jvm.Cond.code ({ cls := "com/example/whole_recall/wholerecall/index/Postings", name := "document", desc := "(I)I" } : Jvm.MethodName) prog_39_method_3_code (2 : Nat) (Option.some Jvm.ClassFile.FieldType.int)).before args0 about1 = true := code_word (m := ⟨6, 2⟩) (meth := k6m2) (c := k6c2) (by decide +kernel) rfl rfl rfl (by decide +kernel)
set_option maxRecDepth 65536 in
theorem w_c11 : (Jvm.Cond.code ({ cls := "com/example/whole_recall/wholerecall/index/Postings", name := "frequency", desc := "(I)I" } : Jvm.MethodName) prog_39_method_4_code (2 : Nat) (Option.some Jvm.ClassFile.FieldType.int)).before args0 about1 = true := code_word (m := ⟨6, 3⟩) (meth := k6m3) (c := k6c3) (by decide +kernel) rfl rfl rfl (by decide +kernel)
set_option maxRecDepth 65536 in
theorem w_c12 : (Jvm.Cond.code ({ cls := "com/example/whole_recall/wholerecall/index/Postings", name := "position", desc := "(II)I" } : Jvm.MethodName) prog_39_method_5_code (3 : Nat) (Option.some Jvm.ClassFile.FieldType.int)).before args0 about1 = true := code_word (m := ⟨6, 4⟩) (meth := k6m4) (c := k6c4) (by decide +kernel) rfl rfl rfl (by decide +kernel)
def codes1 : List Jvm.Cond := [Jvm.Cond.code x code maxLocals ret, Jvm.Cond.code ({ cls := "java/lang/Math", name := "min", desc := "(II)I" } : Jvm.MethodName) jdk_29_method_69_code (2 : Nat) (Option.some Jvm.ClassFile.FieldType.int), Jvm.Cond.code ({ cls := "com/example/whole_recall/wholerecall/index/PostingsBuilderAddPinLaw", name := "step", desc := "(IIIII[I[I[Z[I)V" } : Jvm.MethodName) method_2_code (11 : Nat) (Option.none : Option Jvm.ClassFile.FieldType), Jvm.Cond.code ({ cls := "com/example/whole_recall/wholerecall/index/PostingsBuilder", name := "<init>", desc := "()V" } : Jvm.MethodName) prog_40_method_1_code (1 : Nat) (Option.none : Option Jvm.ClassFile.FieldType), Jvm.Cond.code ({ cls := "java/lang/Object", name := "<init>", desc := "()V" } : Jvm.MethodName) object_method_1_code (1 : Nat) (Option.none : Option Jvm.ClassFile.FieldType), Jvm.Cond.code ({ cls := "com/example/whole_recall/wholerecall/index/PostingsBuilder", name := "add", desc := "(II)V" } : Jvm.MethodName) prog_40_method_2_code (4 : Nat) (Option.none : Option Jvm.ClassFile.FieldType), Jvm.Cond.code ({ cls := "java/util/Arrays", name := "copyOf", desc := "([II)[I" } : Jvm.MethodName) jdk_65_method_123_code (3 : Nat) (Option.some (Jvm.ClassFile.FieldType.array Jvm.ClassFile.FieldType.int)), Jvm.Cond.code ({ cls := "com/example/whole_recall/wholerecall/index/PostingsBuilder", name := "build", desc := "()Lcom/example/whole_recall/wholerecall/index/Postings;" } : Jvm.MethodName) prog_40_method_3_code (1 : Nat) (Option.some (Jvm.ClassFile.FieldType.object "com/example/whole_recall/wholerecall/index/Postings")), Jvm.Cond.code ({ cls := "com/example/whole_recall/wholerecall/index/Postings", name := "<init>", desc := "([I[I[I)V" } : Jvm.MethodName) prog_39_method_1_code (4 : Nat) (Option.none : Option Jvm.ClassFile.FieldType), Jvm.Cond.code ({ cls := "com/example/whole_recall/wholerecall/index/Postings", name := "size", desc := "()I" } : Jvm.MethodName) prog_39_method_2_code (1 : Nat) (Option.some Jvm.ClassFile.FieldType.int), Jvm.Cond.code ({ cls := "com/example/whole_recall/wholerecall/index/Postings", name := "document", desc := "(I)I" } : Jvm.MethodName) prog_39_method_3_code (2 : Nat) (Option.some Jvm.ClassFile.FieldType.int), Jvm.Cond.code ({ cls := "com/example/whole_recall/wholerecall/index/Postings", name := "frequency", desc := "(I)I" } : Jvm.MethodName) prog_39_method_4_code (2 : Nat) (Option.some Jvm.ClassFile.FieldType.int), Jvm.Cond.code ({ cls := "com/example/whole_recall/wholerecall/index/Postings", name := "position", desc := "(II)I" } : Jvm.MethodName) prog_39_method_5_code (3 : Nat) (Option.some Jvm.ClassFile.FieldType.int)]
set_option maxRecDepth 65536 in
theorem codes_eq : words1.filter isCode = codes1 := rfl
theorem w_codes : ∀ c ∈ words1.filter isCode, c.before args0 about1 = true := by
  rw [codes_eq]
  intro c hc
  simp only [codes1, List.mem_cons, List.not_mem_nil, or_false] at hc
  rcases hc with rfl | rfl | rfl | rfl | rfl | rfl | rfl | rfl | rfl | rfl | rfl | rfl | rfl
  · exact w_c0
  · exact w_c1
  · exact w_c2
  · exact w_c3
  · exact w_c4
  · exact w_c5
  · exact w_c6
  · exact w_c7
  · exact w_c8
  · exact w_c9
  · exact w_c10
  · exact w_c11
  · exact w_c12
set_option maxRecDepth 65536 in
theorem w_t1 : (words1.take 24).all (fun c => isCode c || c.before args0 about1) = true := by decide +kernel
set_option maxRecDepth 65536 in
theorem w_t2 : ((words1.drop 24).take 24).all (fun c => isCode c || c.before args0 about1) = true := by decide +kernel
set_option maxRecDepth 65536 in
theorem w_t3 : (((words1.drop 24).drop 24).take 24).all (fun c => isCode c || c.before args0 about1) = true := by decide +kernel
set_option maxRecDepth 65536 in
theorem w_t4 : (((words1.drop 24).drop 24).drop 24).all (fun c => isCode c || c.before args0 about1) = true := by decide +kernel
theorem w_tables : (allAtoms (Jvm.Cond.code x code maxLocals ret :: tables_1)).before args0 about1 = true := by
  rw [allAtoms_all]
  show words1.all (fun c => c.before args0 about1) = true
  refine all_split ?_ w_codes
  rw [← List.take_append_drop 24 words1, List.all_append, w_t1, ← List.take_append_drop 24 (words1.drop 24), List.all_append, w_t2, ← List.take_append_drop 24 ((words1.drop 24).drop 24), List.all_append, w_t3, w_t4]
  rfl
set_option maxRecDepth 65536 in
theorem w_case : (Jvm.Cond.and given_1 narrow_1).before args0 about1 = true := by decide +kernel
theorem w_applies : (headSpec (Jvm.Cond.code x code maxLocals ret :: tables_1) room_1).applies x e0.platform about1 = true :=
  (Spec.applies_iff w_frames).mpr ⟨w_running, w_runnable, w_alone, w_named, w_hears, w_ripe, w_room, w_tables⟩
theorem atStart : AtStart classFile x code maxLocals ret World_1 tables_1 room_1 Calls_1 rest_1 Pre_1 launch0 p0 e0 about1 theMethod args0 below0 :=
  ⟨lists_1, trivial, launch0.admits_env _ _ _, launch0.least_env, fairChoices_fair.cas, fairChoices_fair.clock, w_frames, w_args, w_heap, w_applies, trivial, trivial, w_case⟩
end start1
theorem witness_1 : WitnessClaimed_1 := ⟨start1.p0, start1.e0, start1.about1, start1.theMethod, start1.args0, start1.below0, start1.atStart⟩
end Jvm.Pilot.@@N@@
