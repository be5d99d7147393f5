import JvmDerived
import JvmDerived.Pilot.@@N@@Statement
import JvmDerived.Pilot.@@N@@Code
set_option linter.unusedVariables false
set_option linter.unusedSimpArgs false
namespace Jvm.RoadKit
open Sem ClassFile Op Lib Jvm.Stand Jvm.Free Jvm.LawKit
section New
variable {p : Program} {l : Launch} {e : Env} {R : Room} {s : State} {m : MethodId} {args : Array Value} {below : List Frame} {meth : Method} {c : Code} {T : State} {locs : List Loc} {cells slots : Nat}
theorem retI (X : Stand p l e R s m args below meth c T locs cells slots) (hx : p.tables.exec = Jvm.exec) {pc : Nat} {Ls : Array Slot} {z : Int32} {rest : List Value} (hret : meth.sig.returnType = some .int) (hd : decode c.code pc = .ok (.ireturn, 1)) {fs : List Frame}
    (hl : ∀ (f : JFrame) (acts : List Action), f.method = m → f.locked = none → f.entered = [] → (doReturn e (T.setTop f) acts (some (.int z))).1 = T.setFrames fs) : Steps p.tables e below (T.setTop (mkF m pc Ls (.int z :: rest))) (T.setFrames fs) := by
  have hm' : T.vm.method? m = some meth := X.method'
  have hn : narrow .int (.int z) = .int z := rfl
  show Steps p.tables e below (T.setTop { method := m, pc := pc, locals := Ls, stack := _ :: rest, locked := none }) _
  jvm_step X.here [X.here.top, hx, hd, hm', hret, hn]
  first | (intro acts; rw [hl _ acts rfl rfl rfl]) | rw [hl _ _ rfl rfl rfl]
  exact Steps.refl _
theorem retJ (X : Stand p l e R s m args below meth c T locs cells slots) (hx : p.tables.exec = Jvm.exec) {pc : Nat} {Ls : Array Slot} {z : Int64} {rest : List Value} (hret : meth.sig.returnType = some .long) (hd : decode c.code pc = .ok (.lreturn, 1)) {fs : List Frame}
    (hl : ∀ (f : JFrame) (acts : List Action), f.method = m → f.locked = none → f.entered = [] → (doReturn e (T.setTop f) acts (some (.long z))).1 = T.setFrames fs) : Steps p.tables e below (T.setTop (mkF m pc Ls (.long z :: rest))) (T.setFrames fs) := by
  have hm' : T.vm.method? m = some meth := X.method'
  have hn : narrow .long (.long z) = .long z := rfl
  show Steps p.tables e below (T.setTop { method := m, pc := pc, locals := Ls, stack := _ :: rest, locked := none }) _
  jvm_step X.here [X.here.top, hx, hd, hm', hret, hn]
  first | (intro acts; rw [hl _ acts rfl rfl rfl]) | rw [hl _ _ rfl rfl rfl]
  exact Steps.refl _
theorem retR (X : Stand p l e R s m args below meth c T locs cells slots) (hx : p.tables.exec = Jvm.exec) {pc : Nat} {Ls : Array Slot} {v : Value} {rest : List Value} (hv : v.isRef = true) {ty : FieldType} (hret : meth.sig.returnType = some ty) (ht : ty.isReference = true) (hd : decode c.code pc = .ok (.areturn, 1)) {fs : List Frame}
    (hl : ∀ (f : JFrame) (acts : List Action), f.method = m → f.locked = none → f.entered = [] → (doReturn e (T.setTop f) acts (some v)).1 = T.setFrames fs) : Steps p.tables e below (T.setTop (mkF m pc Ls (v :: rest))) (T.setFrames fs) := by
  have hm' : T.vm.method? m = some meth := X.method'
  show Steps p.tables e below (T.setTop { method := m, pc := pc, locals := Ls, stack := _ :: rest, locked := none }) _
  jvm_step X.here [X.here.top, hx, hd, hm', hret, hv, ht]
  first | (intro acts; rw [hl _ acts rfl rfl rfl]) | rw [hl _ _ rfl rfl rfl]
  exact Steps.refl _
end New
end Jvm.RoadKit
namespace Jvm.Pilot.@@N@@
open Jvm Jvm.ClassFile Sem Op Lib Jvm.Free Jvm.Stand Jvm.LawKit Jvm.RoadKit Bundle Jvm.Pilot.@@N@@.Jvm.D
/-- from the state 'cur' on is enough -/
def own_Pre (p : Program) (e : Env) (below : List Frame) (start cur : State) : Prop := ∀ t, Steps p.tables e below cur t → Steps p.tables e below start t
/-- an array of ints (bytes, chars, booleans): its length z, its components ws (at least so many) -/
def own_AI (Z : State) (h : Heap) (a : Addr) (k : ClassId) (ty : FieldType) (z : Int32) (ws : List Int32) : Prop := Arv Z h a k ty z (ws.map Value.int) (.int 0) ∧ z.toNatClampNeg ≤ ws.length
def own_AJ (Z : State) (h : Heap) (a : Addr) (k : ClassId) (ty : FieldType) (z : Int32) (ws : List Int64) : Prop := Arv Z h a k ty z (ws.map Value.long) (.long 0) ∧ z.toNatClampNeg ≤ ws.length
section OwnA
variable {Z : State} {h h' : Heap} {a b : Addr} {k : ClassId} {ty : FieldType} {z : Int32} {ws : List Int32} {wl : List Int64} {sl : Nat} {v : Value} {L : List Addr}
theorem own_AI.lt (F : own_AI Z h a k ty z ws) : a < h.size := Arv.lt F.1
theorem own_AI.ext (F : own_AI Z h a k ty z ws) (E : Ext h h') : own_AI Z h' a k ty z ws := ⟨Arv.ext F.1 E, F.2⟩
theorem own_AI.other (F : own_AI Z h b k ty z ws) (W : Wr h h' a sl v) (q : b ≠ a) : own_AI Z h' b k ty z ws := ⟨Arv.other F.1 W q, F.2⟩
theorem own_AI.keep (F : own_AI Z h a k ty z ws) (K : Keep h h' L) (q : a ∉ L) : own_AI Z h' a k ty z ws := ⟨Arv.keep F.1 K q, F.2⟩
theorem own_AJ.lt (F : own_AJ Z h a k ty z wl) : a < h.size := Arv.lt F.1
theorem own_AJ.ext (F : own_AJ Z h a k ty z wl) (E : Ext h h') : own_AJ Z h' a k ty z wl := ⟨Arv.ext F.1 E, F.2⟩
theorem own_AJ.other (F : own_AJ Z h b k ty z wl) (W : Wr h h' a sl v) (q : b ≠ a) : own_AJ Z h' b k ty z wl := ⟨Arv.other F.1 W q, F.2⟩
theorem own_AJ.keep (F : own_AJ Z h a k ty z wl) (K : Keep h h' L) (q : a ∉ L) : own_AJ Z h' a k ty z wl := ⟨Arv.keep F.1 K q, F.2⟩
theorem own_AI.new (n : Nat) (A : Arr Z h a (newA k ty z) ty) (q : ¬ z < 0) (hn : z.toNatClampNeg ≤ n) (hd : defaultValue ty = .int 0) : own_AI Z h a k ty z (List.replicate n (0 : Int32)) := by
  have := Arv.new A q
  rw [hd] at this
  have r := this.pad (pad_rep [] (.int 0) n)
  exact ⟨by simpa [List.map_replicate] using r, by simpa using hn⟩
theorem own_AJ.new (n : Nat) (A : Arr Z h a (newA k ty z) ty) (q : ¬ z < 0) (hn : z.toNatClampNeg ≤ n) (hd : defaultValue ty = .long 0) : own_AJ Z h a k ty z (List.replicate n (0 : Int64)) := by
  have := Arv.new A q
  rw [hd] at this
  have r := this.pad (pad_rep [] (.long 0) n)
  exact ⟨by simpa [List.map_replicate] using r, by simpa using hn⟩
theorem own_getI (ws : List Int32) (i : Nat) : (ws.map Value.int).getD i (.int 0) = .int (ws.getD i 0) := by
  simp only [List.getD_eq_getElem?_getD, List.getElem?_map]
  cases ws[i]? <;> rfl
theorem own_getJ (ws : List Int64) (i : Nat) : (ws.map Value.long).getD i (.long 0) = .long (ws.getD i 0) := by
  simp only [List.getD_eq_getElem?_getD, List.getElem?_map]
  cases ws[i]? <;> rfl
theorem own_AI.at (F : own_AI Z h a k ty z ws) {j : Int32} (q : ¬ j < 0 ∧ j < z) : ∃ cl : Cell, Arr Z h a cl ty ∧ ¬ (j < 0 ∨ cl.slots.size ≤ j.toNatClampNeg) ∧ cl.slots[j.toNatClampNeg]? = some (.int (ws.getD j.toNatClampNeg 0)) := by
  obtain ⟨⟨cl, A, -, S, -, H, -⟩, -⟩ := F
  have hin := inb_of S q
  exact ⟨cl, A, hin, H.at hin (own_getI _ _)⟩
theorem own_AJ.at (F : own_AJ Z h a k ty z wl) {j : Int32} (q : ¬ j < 0 ∧ j < z) : ∃ cl : Cell, Arr Z h a cl ty ∧ ¬ (j < 0 ∨ cl.slots.size ≤ j.toNatClampNeg) ∧ cl.slots[j.toNatClampNeg]? = some (.long (wl.getD j.toNatClampNeg 0)) := by
  obtain ⟨⟨cl, A, -, S, -, H, -⟩, -⟩ := F
  have hin := inb_of S q
  exact ⟨cl, A, hin, H.at hin (own_getJ _ _)⟩
theorem own_AI.arr (F : own_AI Z h a k ty z ws) {j : Int32} (q : ¬ j < 0 ∧ j < z) : ∃ cl : Cell, Arr Z h a cl ty ∧ ¬ (j < 0 ∨ cl.slots.size ≤ j.toNatClampNeg) ∧ ∀ (h' : Heap) (x : Int32), fits ty (.int x) = true → Wr h h' a j.toNatClampNeg (.int x) → own_AI Z h' a k ty z (ws.set j.toNatClampNeg x) := by
  obtain ⟨⟨cl, A, q1, S, q3, H, G⟩, ln⟩ := F
  have hin := inb_of S q
  refine ⟨cl, A, hin, fun h' x hv W => ?_⟩
  have hl : j.toNatClampNeg < ws.length := by
    rcases Nat.lt_or_ge j.toNatClampNeg ws.length with u | u
    · exact u
    · exact absurd (Or.inr (by omega)) hin
  have := Arv.set A q1 S q3 H G hv W _ rfl (by simpa using hl)
  rw [← List.map_set] at this
  exact ⟨this, by simpa using ln⟩
theorem own_AJ.arr (F : own_AJ Z h a k ty z wl) {j : Int32} (q : ¬ j < 0 ∧ j < z) : ∃ cl : Cell, Arr Z h a cl ty ∧ ¬ (j < 0 ∨ cl.slots.size ≤ j.toNatClampNeg) ∧ ∀ (h' : Heap) (x : Int64), fits ty (.long x) = true → Wr h h' a j.toNatClampNeg (.long x) → own_AJ Z h' a k ty z (wl.set j.toNatClampNeg x) := by
  obtain ⟨⟨cl, A, q1, S, q3, H, G⟩, ln⟩ := F
  have hin := inb_of S q
  refine ⟨cl, A, hin, fun h' x hv W => ?_⟩
  have hl : j.toNatClampNeg < wl.length := by
    rcases Nat.lt_or_ge j.toNatClampNeg wl.length with u | u
    · exact u
    · exact absurd (Or.inr (by omega)) hin
  have := Arv.set A q1 S q3 H G hv W _ rfl (by simpa using hl)
  rw [← List.map_set] at this
  exact ⟨this, by simpa using ln⟩
theorem own_AI.len (F : own_AI Z h a k ty z ws) : ∃ cl : Cell, Arr Z h a cl ty ∧ cl.slots.size = z.toNatClampNeg ∧ ¬ z < 0 := by
  obtain ⟨⟨cl, A, -, S, q3, -, -⟩, -⟩ := F
  exact ⟨cl, A, S, q3⟩
theorem own_AJ.len (F : own_AJ Z h a k ty z wl) : ∃ cl : Cell, Arr Z h a cl ty ∧ cl.slots.size = z.toNatClampNeg ∧ ¬ z < 0 := by
  obtain ⟨⟨cl, A, -, S, q3, -, -⟩, -⟩ := F
  exact ⟨cl, A, S, q3⟩
end OwnA
/-- a private method selects itself, where another method of its class is known to be no interface's -/
theorem own_selp {s : State} {args args' : Array Value} {y z : MethodName} (hz : (Cond.selects z.cls z z).before args s = true) (hc : z.cls = y.cls) (hpriv : s.PrivateAt y) (hinst : (Cond.instanceMethod y).before args s = true) (hy : y.cls ≠ "java/lang/invoke/MethodHandle" ∧ y.cls ≠ "java/lang/invoke/VarHandle") : (Cond.selects y.cls y y).before args s = true := by
  obtain ⟨c2, r2, m2, -, -, q3, -, kP, hkP, hkPi⟩ := Cond.selects_spec hz
  have hf := findClass_of_methodNamed q3
  rw [hc] at hf
  exact selects_self_of_private hf hkP hkPi hpriv hinst hy
/-- what holds of every byte -/
theorem own_bytes {P : Int32 → Prop} (H : ∀ i : Fin 256, P (Int32.ofInt ((i.1 : Int) - 128))) (x : Int32) : P x.toInt8.toInt32 := by
  obtain ⟨-, h1, h2⟩ := c_i2b x
  have e : x.toInt8.toInt32 = Int32.ofInt (((⟨(x.toInt8.toInt32.toInt + 128).toNat, by omega⟩ : Fin 256).1 : Int) - 128) := by
    apply Int32.toInt_inj.mp
    show _ = (Int32.ofInt (((x.toInt8.toInt32.toInt + 128).toNat : Int) - 128)).toInt
    rw [Int32.toInt_ofInt_of_le (by omega) (by omega)]
    omega
  rw [e]
  exact H _


theorem d1_0 : decode prog_37_method_1_code 0 = .ok (.aload_n 0, 1) := by decide +kernel
theorem d1_1 : decode prog_37_method_1_code 1 = .ok (.invokespecial 1, 3) := by decide +kernel
theorem d1_4 : decode prog_37_method_1_code 4 = .ok (.aload_n 0, 1) := by decide +kernel
theorem d1_5 : decode prog_37_method_1_code 5 = .ok (.lload_n 1, 1) := by decide +kernel
theorem d1_6 : decode prog_37_method_1_code 6 = .ok (.putfield 7, 3) := by decide +kernel
theorem d1_9 : decode prog_37_method_1_code 9 = .ok (.aload_n 0, 1) := by decide +kernel
theorem d1_10 : decode prog_37_method_1_code 10 = .ok (.lload_n 1, 1) := by decide +kernel
theorem d1_11 : decode prog_37_method_1_code 11 = .ok (.putfield 13, 3) := by decide +kernel
theorem d1_14 : decode prog_37_method_1_code 14 = .ok (.aload_n 0, 1) := by decide +kernel
theorem d1_15 : decode prog_37_method_1_code 15 = .ok (.lload_n 3, 1) := by decide +kernel
theorem d1_16 : decode prog_37_method_1_code 16 = .ok (.putfield 16, 3) := by decide +kernel
theorem d1_19 : decode prog_37_method_1_code 19 = .ok (.return_, 1) := by decide +kernel
theorem pn_0 : plainName "dev/stint/deadline/HoldAllowance" = true := by first | (simp [plainName, overriddenIn]; done) | decide +kernel
theorem ef_1 (m : MethodId) (a0 : Addr) (q1 : Int64) (q2 : Int64) : entryFrame m #[(.ref a0), (.long q1), (.long q2)] 5 = mkF m 0 #[.val (.ref a0), .val (.long q1), .second, .val (.long q2), .second] [] := by first | (simp [entryFrame, mkF, argsToLocals, Value.category]; done) | rfl
def Q1 (Z : State) (a0 : Addr) (q1 : Int64) (q2 : Int64) (h0 : Heap) (n0 : Nat) (v : Option Value) (h : Heap) (L : List Loc) : Prop := v = none ∧ Fr n0 L ∧ Keep h0 h [a0] ∧ Exa Z h a0 "dev/stint/deadline/HoldAllowance" ∧ Fld Z h a0 "dev/stint/deadline/HoldAllowance" "maxNanos" "J" (.long q1) ∧ Fld Z h a0 "dev/stint/deadline/HoldAllowance" "leftNanos" "J" (.long q1) ∧ Fld Z h a0 "dev/stint/deadline/HoldAllowance" "since" "J" (.long q2)
set_option maxRecDepth 65536 in
set_option maxHeartbeats 40000000 in
theorem rm1 (l : Launch) (Z : State) (aw : Array Value) (hw : ∀ d ∈ tables_1, d.before aw Z = true) (wq : List Jvm.Cond) (a0 : Addr) (q1 : Int64) (q2 : Int64) (h0 : Heap) (n0 : Nat) (Z0 : n0 ≤ h0.size) (E_a0 : Exa Z h0 a0 "dev/stint/deadline/HoldAllowance") (F_a0_maxNanos : Fld Z h0 a0 "dev/stint/deadline/HoldAllowance" "maxNanos" "J" (.long (0 : Int64))) (F_a0_leftNanos : Fld Z h0 a0 "dev/stint/deadline/HoldAllowance" "leftNanos" "J" (.long (0 : Int64))) (F_a0_since : Fld Z h0 a0 "dev/stint/deadline/HoldAllowance" "since" "J" (.long (0 : Int64))) (g_a0 : n0 ≤ a0) :
    MetFree l (⟨"dev/stint/deadline/HoldAllowance", "<init>", "(JJ)V"⟩ : MethodName) (head1 (Jvm.Cond.code (⟨"dev/stint/deadline/HoldAllowance", "<init>", "(JJ)V"⟩ : MethodName) prog_37_method_1_code 5 none :: wq) ({ frames := 1, cells := 0, slots := 0, locals := 12 } : Room)) (fun a U => a = #[(.ref a0), (.long q1), (.long q2)] ∧ Z.Warmed39 U.vm ∧ U.heap = h0) (fun _ _ _ _ _ => True) (fun _ U o U' => ∃ v L, o = .returned v ∧ Q1 Z a0 q1 q2 h0 n0 v U'.heap L ∧ FrameEnd U o U' L ({ frames := 1, cells := 0, slots := 0, locals := 12 } : Room).cells ({ frames := 1, cells := 0, slots := 0, locals := 12 } : Room).slots) := by
  refine MetFree.of_bodySF (plainFor_of_name pn_0) hisR ?_
  intro p e s m args below meth c s₁ Bd hml0 hP hK
  obtain ⟨rfl, hZ, hh⟩ := hP
  have hx := Bd.exec
  have hby := Bd.bytes
  have hml : c.maxLocals = 5 := hml0
  have hown : s.vm.findClass "dev/stint/deadline/HoldAllowance" = some m.cls := findClass_of_methodNamed Bd.named
  have hnm := (name_of_methodNamed Bd.named Bd.method).1
  have X0 : Stand p l e ({ frames := 1, cells := 0, slots := 0, locals := 12 } : Room) s m #[(.ref a0), (.long q1), (.long q2)] below meth c s₁ [] 0 0 := Stand.of_body Bd
  have e0 : s₁.heap = h0 := by rw [← hh, Bd.state]; rfl
  have N0 := Fr.nil n0
  have pre0 : own_Pre p e below (s₁.setTop (entryFrame m #[(.ref a0), (.long q1), (.long q2)] 5)) (s₁.setTop (mkF m 0 #[.val (.ref a0), .val (.long q1), .second, .val (.long q2), .second] [])) := fun t k => castTop (ef_1 m a0 q1 q2) k
  obtain ⟨T1, X1, e1, st1⟩ := initO X0 hx hZ hown (hw _ (List.mem_of_getElem? (i := 9) rfl)) (hw _ (List.mem_of_getElem? (i := 10) rfl)) (hw _ (List.mem_of_getElem? (i := 11) rfl)) e0 (g := (mkF m 1 #[.val (.ref a0), .val (.long q1), .second, .val (.long q2), .second] [(.ref a0)])) rfl (by rw [hml]; rfl) rfl (hb hby d1_1) (by decide) (W := 0) (by show 2 * 0 + _ ≤ _; exact Nat.le_of_eq rfl) (by decide)
  obtain ⟨T2, h2, X2, e2, W2, st2⟩ := putF X1 hx hZ hown (host := "") (Or.inl (hw _ (List.mem_of_getElem? (i := 12) rfl))) Via.refl e1 F_a0_maxNanos E_a0 (Or.inr ⟨(hw _ (List.mem_of_getElem? (i := 13) rfl)), rfl, hnm⟩) (hw _ (List.mem_of_getElem? (i := 4) rfl)) (ty := .long) (by decide) rfl rfl (g := (mkF m 6 #[.val (.ref a0), .val (.long q1), .second, .val (.long q2), .second] [(.long q1), (.ref a0)])) rfl rfl (hb hby d1_6)
  have Fw2 := F_a0_maxNanos.same W2
  have N2 := Fr.snoc X2 N0 g_a0
  have kp3 : Keep h0 h2 [a0] := (Keep.refl h0 [a0]).wr W2 (Or.inl (List.mem_of_getElem? (i := 0) rfl))
  have f4 := (E_a0.wr W2)
  have f5 := (F_a0_leftNanos.other W2 (Or.inr (slot_ne (Or.inl (hw _ (List.mem_of_getElem? (i := 15) rfl))) (Or.inr (hw _ (List.mem_of_getElem? (i := 13) rfl))) (by decide) (t := .long) (t' := .long) (by decide) (by decide))))
  obtain ⟨T6, h6, X6, e6, W6, st6⟩ := putF X2 hx hZ hown (host := "") (Or.inl (hw _ (List.mem_of_getElem? (i := 14) rfl))) Via.refl e2 f5 f4 (Or.inl (hw _ (List.mem_of_getElem? (i := 15) rfl))) (hw _ (List.mem_of_getElem? (i := 4) rfl)) (ty := .long) (by decide) rfl rfl (g := (mkF m 11 #[.val (.ref a0), .val (.long q1), .second, .val (.long q2), .second] [(.long q1), (.ref a0)])) rfl rfl (hb hby d1_11)
  have Fw6 := f5.same W6
  have N6 := Fr.snoc X6 N2 g_a0
  have kp7 : Keep h0 h6 [a0] := kp3.wr W6 (Or.inl (List.mem_of_getElem? (i := 0) rfl))
  have f8 := (f4.wr W6)
  have f9 := ((F_a0_since.other W2 (Or.inr (slot_ne (Or.inl (hw _ (List.mem_of_getElem? (i := 17) rfl))) (Or.inr (hw _ (List.mem_of_getElem? (i := 13) rfl))) (by decide) (t := .long) (t' := .long) (by decide) (by decide)))).other W6 (Or.inr (slot_ne (Or.inl (hw _ (List.mem_of_getElem? (i := 17) rfl))) (Or.inl (hw _ (List.mem_of_getElem? (i := 15) rfl))) (by decide) (t := .long) (t' := .long) (by decide) (by decide))))
  obtain ⟨T10, h10, X10, e10, W10, st10⟩ := putF X6 hx hZ hown (host := "") (Or.inl (hw _ (List.mem_of_getElem? (i := 16) rfl))) Via.refl e6 f9 f8 (Or.inl (hw _ (List.mem_of_getElem? (i := 17) rfl))) (hw _ (List.mem_of_getElem? (i := 4) rfl)) (ty := .long) (by decide) rfl rfl (g := (mkF m 16 #[.val (.ref a0), .val (.long q1), .second, .val (.long q2), .second] [(.long q2), (.ref a0)])) rfl rfl (hb hby d1_16)
  have Fw10 := f9.same W10
  have N10 := Fr.snoc X10 N6 g_a0
  have kp11 : Keep h0 h10 [a0] := kp7.wr W10 (Or.inl (List.mem_of_getElem? (i := 0) rfl))
  obtain ⟨fs, hr, hrun, hended, hW, hsame⟩ := X10.leave (v := none) (fun _ => rfl)
  refine ⟨_, _, pre0 _ ?_, hrun, hended, _, _, rfl, ?_, ⟨_, rfl⟩, hW, hsame.mono (by decide) (by decide)⟩
  · show Steps p.tables e below (s₁.setTop (mkF m 0 #[.val (.ref a0), .val (.long q1), .second, .val (.long q2), .second] [])) _
    refine XS.aloadN X0.here hx rfl (hb hby d1_0) rfl rfl ?_
    show Steps p.tables e below (s₁.setTop (mkF m 1 #[.val (.ref a0), .val (.long q1), .second, .val (.long q2), .second] [(.ref a0)])) _
    refine st1 _ ?_
    show Steps p.tables e below (T1.setTop (mkF m 4 #[.val (.ref a0), .val (.long q1), .second, .val (.long q2), .second] [])) _
    refine XS.aloadN X1.here hx rfl (hb hby d1_4) rfl rfl ?_
    show Steps p.tables e below (T1.setTop (mkF m 5 #[.val (.ref a0), .val (.long q1), .second, .val (.long q2), .second] [(.ref a0)])) _
    refine XS.lloadN X1.here hx rfl (hb hby d1_5) rfl ?_
    show Steps p.tables e below (T1.setTop (mkF m 6 #[.val (.ref a0), .val (.long q1), .second, .val (.long q2), .second] [(.long q1), (.ref a0)])) _
    refine st2 _ ?_
    show Steps p.tables e below (T2.setTop (mkF m 9 #[.val (.ref a0), .val (.long q1), .second, .val (.long q2), .second] [])) _
    refine XS.aloadN X2.here hx rfl (hb hby d1_9) rfl rfl ?_
    show Steps p.tables e below (T2.setTop (mkF m 10 #[.val (.ref a0), .val (.long q1), .second, .val (.long q2), .second] [(.ref a0)])) _
    refine XS.lloadN X2.here hx rfl (hb hby d1_10) rfl ?_
    show Steps p.tables e below (T2.setTop (mkF m 11 #[.val (.ref a0), .val (.long q1), .second, .val (.long q2), .second] [(.long q1), (.ref a0)])) _
    refine st6 _ ?_
    show Steps p.tables e below (T6.setTop (mkF m 14 #[.val (.ref a0), .val (.long q1), .second, .val (.long q2), .second] [])) _
    refine XS.aloadN X6.here hx rfl (hb hby d1_14) rfl rfl ?_
    show Steps p.tables e below (T6.setTop (mkF m 15 #[.val (.ref a0), .val (.long q1), .second, .val (.long q2), .second] [(.ref a0)])) _
    refine XS.lloadN X6.here hx rfl (hb hby d1_15) rfl ?_
    show Steps p.tables e below (T6.setTop (mkF m 16 #[.val (.ref a0), .val (.long q1), .second, .val (.long q2), .second] [(.long q2), (.ref a0)])) _
    refine st10 _ ?_
    show Steps p.tables e below (T10.setTop (mkF m 19 #[.val (.ref a0), .val (.long q1), .second, .val (.long q2), .second] [])) _
    exact X10.returnOut hx Bd.returns (hb hby d1_19) hr
  · show Q1 Z a0 q1 q2 h0 n0 _ T10.heap _
    rw [e10]
    unfold Q1
    have f12 := (f8.wr W10)
    have f13 := ((Fw2.other W6 (Or.inr (slot_ne (Or.inr (hw _ (List.mem_of_getElem? (i := 13) rfl))) (Or.inl (hw _ (List.mem_of_getElem? (i := 15) rfl))) (by decide) (t := .long) (t' := .long) (by decide) (by decide)))).other W10 (Or.inr (slot_ne (Or.inr (hw _ (List.mem_of_getElem? (i := 13) rfl))) (Or.inl (hw _ (List.mem_of_getElem? (i := 17) rfl))) (by decide) (t := .long) (t' := .long) (by decide) (by decide))))
    have f14 := (Fw6.other W10 (Or.inr (slot_ne (Or.inl (hw _ (List.mem_of_getElem? (i := 15) rfl))) (Or.inl (hw _ (List.mem_of_getElem? (i := 17) rfl))) (by decide) (t := .long) (t' := .long) (by decide) (by decide))))
    refine ⟨rfl, N10, kp11, f12, ?_, ?_, ?_⟩
    · exact f13
    · exact f14
    · exact Fw10
theorem d4_0 : decode jdk_29_method_70_code 0 = .ok (.lload_n 0, 1) := by decide +kernel
theorem d4_1 : decode jdk_29_method_70_code 1 = .ok (.lload_n 2, 1) := by decide +kernel
theorem d4_2 : decode jdk_29_method_70_code 2 = .ok (.lcmp, 1) := by decide +kernel
theorem d4_3 : decode jdk_29_method_70_code 3 = .ok (.ifCond .gt 7, 3) := by decide +kernel
theorem d4_6 : decode jdk_29_method_70_code 6 = .ok (.lload_n 0, 1) := by decide +kernel
theorem d4_7 : decode jdk_29_method_70_code 7 = .ok (.goto 4, 3) := by decide +kernel
theorem d4_10 : decode jdk_29_method_70_code 10 = .ok (.lload_n 2, 1) := by decide +kernel
theorem d4_11 : decode jdk_29_method_70_code 11 = .ok (.lreturn, 1) := by decide +kernel
theorem ef_4 (m : MethodId) (q0 : Int64) (q1 : Int64) : entryFrame m #[(.long q0), (.long q1)] 4 = mkF m 0 #[.val (.long q0), .second, .val (.long q1), .second] [] := by first | (simp [entryFrame, mkF, argsToLocals, Value.category]; done) | rfl
def own_f4 (q0 : Int64) (q1 : Int64) : Int64 := (if q1 < q0 then q1 else q0)
def Q4 (Z : State) (q0 : Int64) (q1 : Int64) (h0 : Heap) (n0 : Nat) (v : Option Value) (h : Heap) (L : List Loc) : Prop := v = some (.long (own_f4 q0 q1)) ∧ Fr n0 L ∧ h = h0
set_option maxRecDepth 65536 in
set_option maxHeartbeats 40000000 in
theorem rm4 (l : Launch) (Z : State) (aw : Array Value) (hw : ∀ d ∈ tables_1, d.before aw Z = true) (wq : List Jvm.Cond) (q0 : Int64) (q1 : Int64) (h0 : Heap) (n0 : Nat) (Z0 : n0 ≤ h0.size) :
    MetFree l (⟨"java/lang/Math", "min", "(JJ)J"⟩ : MethodName) (head1 (Jvm.Cond.code (⟨"java/lang/Math", "min", "(JJ)J"⟩ : MethodName) jdk_29_method_70_code 4 (some .long) :: wq) ({ frames := 0, cells := 0, slots := 0, locals := 0 } : Room)) (fun a U => a = #[(.long q0), (.long q1)] ∧ Z.Warmed39 U.vm ∧ U.heap = h0) (fun _ _ _ _ _ => True) (fun _ U o U' => ∃ v L, o = .returned v ∧ Q4 Z q0 q1 h0 n0 v U'.heap L ∧ FrameEnd U o U' L ({ frames := 0, cells := 0, slots := 0, locals := 0 } : Room).cells ({ frames := 0, cells := 0, slots := 0, locals := 0 } : Room).slots) := by
  refine MetFree.of_bodySF (Jvm.Free.JP.mathPlain rfl (by decide +kernel)) hisR ?_
  intro p e s m args below meth c s₁ Bd hml0 hP hK
  obtain ⟨rfl, hZ, hh⟩ := hP
  have hx := Bd.exec
  have hby := Bd.bytes
  have hml : c.maxLocals = 4 := hml0
  have hown : s.vm.findClass "java/lang/Math" = some m.cls := findClass_of_methodNamed Bd.named
  have hnm := (name_of_methodNamed Bd.named Bd.method).1
  have X0 : Stand p l e ({ frames := 0, cells := 0, slots := 0, locals := 0 } : Room) s m #[(.long q0), (.long q1)] below meth c s₁ [] 0 0 := Stand.of_body Bd
  have e0 : s₁.heap = h0 := by rw [← hh, Bd.state]; rfl
  have N0 := Fr.nil n0
  have pre0 : own_Pre p e below (s₁.setTop (entryFrame m #[(.long q0), (.long q1)] 4)) (s₁.setTop (mkF m 0 #[.val (.long q0), .second, .val (.long q1), .second] [])) := fun t k => castTop (ef_4 m q0 q1) k
  have pre1 : own_Pre p e below (s₁.setTop (entryFrame m #[(.long q0), (.long q1)] 4)) (s₁.setTop (mkF m 3 #[.val (.long q0), .second, .val (.long q1), .second] [(.int (lcmpW q0 q1))])) := fun t k => pre0 t (by
      show Steps p.tables e below (s₁.setTop (mkF m 0 #[.val (.long q0), .second, .val (.long q1), .second] [])) _
      refine XS.lloadN X0.here hx rfl (hb hby d4_0) rfl ?_
      show Steps p.tables e below (s₁.setTop (mkF m 1 #[.val (.long q0), .second, .val (.long q1), .second] [(.long q0)])) _
      refine XS.lloadN X0.here hx rfl (hb hby d4_1) rfl ?_
      show Steps p.tables e below (s₁.setTop (mkF m 2 #[.val (.long q0), .second, .val (.long q1), .second] [(.long q1), (.long q0)])) _
      refine XS.lcmp X0.here hx rfl (hb hby d4_2) rfl ?_
      exact k)
  by_cases hc3 : q1 < q0
  · obtain ⟨fs, hr, hrun, hended, hW, hsame⟩ := X0.leave (v := some (.long q1)) (fun h => by rw [Bd.returns] at h; cases h)
    refine ⟨_, _, pre1 _ ?_, hrun, hended, _, _, rfl, ?_, ⟨_, rfl⟩, hW, hsame.mono (by decide) (by decide)⟩
    · show Steps p.tables e below (s₁.setTop (mkF m 3 #[.val (.long q0), .second, .val (.long q1), .second] [(.int (lcmpW q0 q1))])) _
      refine XS.ifYes X0.here hx rfl (pc0 := 3) (pc' := 10) rfl (hb hby d4_3) rfl ((if0 _ _).trans (tlt ((lw_gt _ _).mpr hc3)).2.2.1) (by decide) (by decide) ?_
      show Steps p.tables e below (s₁.setTop (mkF m 10 #[.val (.long q0), .second, .val (.long q1), .second] [])) _
      refine XS.lloadN X0.here hx rfl (hb hby d4_10) rfl ?_
      show Steps p.tables e below (s₁.setTop (mkF m 11 #[.val (.long q0), .second, .val (.long q1), .second] [(.long q1)])) _
      exact retJ X0 hx Bd.returns (hb hby d4_11) hr
    · show Q4 Z q0 q1 h0 n0 _ s₁.heap _
      rw [e0]
      unfold Q4
      refine ⟨?_, N0, rfl⟩
      · simp only [own_f4, if_pos hc3]
  · obtain ⟨fs, hr, hrun, hended, hW, hsame⟩ := X0.leave (v := some (.long q0)) (fun h => by rw [Bd.returns] at h; cases h)
    refine ⟨_, _, pre1 _ ?_, hrun, hended, _, _, rfl, ?_, ⟨_, rfl⟩, hW, hsame.mono (by decide) (by decide)⟩
    · show Steps p.tables e below (s₁.setTop (mkF m 3 #[.val (.long q0), .second, .val (.long q1), .second] [(.int (lcmpW q0 q1))])) _
      refine XS.ifNo X0.here hx rfl (hb hby d4_3) rfl ((if0 _ _).trans (flt (mt (lw_gt _ _).mp hc3)).2.2.1) ?_
      show Steps p.tables e below (s₁.setTop (mkF m 6 #[.val (.long q0), .second, .val (.long q1), .second] [])) _
      refine XS.lloadN X0.here hx rfl (hb hby d4_6) rfl ?_
      show Steps p.tables e below (s₁.setTop (mkF m 7 #[.val (.long q0), .second, .val (.long q1), .second] [(.long q0)])) _
      refine XS.goto X0.here hx rfl (pc0 := 7) (pc' := 11) rfl (hb hby d4_7) (by decide) (by decide) ?_
      show Steps p.tables e below (s₁.setTop (mkF m 11 #[.val (.long q0), .second, .val (.long q1), .second] [(.long q0)])) _
      exact retJ X0 hx Bd.returns (hb hby d4_11) hr
    · show Q4 Z q0 q1 h0 n0 _ s₁.heap _
      rw [e0]
      unfold Q4
      refine ⟨?_, N0, rfl⟩
      · simp only [own_f4, if_neg hc3]
theorem d3_0 : decode prog_37_method_2_code 0 = .ok (.aload_n 0, 1) := by decide +kernel
theorem d3_1 : decode prog_37_method_2_code 1 = .ok (.aload_n 0, 1) := by decide +kernel
theorem d3_2 : decode prog_37_method_2_code 2 = .ok (.getfield 7, 3) := by decide +kernel
theorem d3_5 : decode prog_37_method_2_code 5 = .ok (.aload_n 0, 1) := by decide +kernel
theorem d3_6 : decode prog_37_method_2_code 6 = .ok (.getfield 13, 3) := by decide +kernel
theorem d3_9 : decode prog_37_method_2_code 9 = .ok (.lload_n 1, 1) := by decide +kernel
theorem d3_10 : decode prog_37_method_2_code 10 = .ok (.aload_n 0, 1) := by decide +kernel
theorem d3_11 : decode prog_37_method_2_code 11 = .ok (.getfield 16, 3) := by decide +kernel
theorem d3_14 : decode prog_37_method_2_code 14 = .ok (.lsub, 1) := by decide +kernel
theorem d3_15 : decode prog_37_method_2_code 15 = .ok (.ldc2_w 19, 3) := by decide +kernel
theorem d3_18 : decode prog_37_method_2_code 18 = .ok (.ldiv, 1) := by decide +kernel
theorem d3_19 : decode prog_37_method_2_code 19 = .ok (.ladd, 1) := by decide +kernel
theorem d3_20 : decode prog_37_method_2_code 20 = .ok (.invokestatic 21, 3) := by decide +kernel
theorem d3_23 : decode prog_37_method_2_code 23 = .ok (.putfield 13, 3) := by decide +kernel
theorem d3_26 : decode prog_37_method_2_code 26 = .ok (.aload_n 0, 1) := by decide +kernel
theorem d3_27 : decode prog_37_method_2_code 27 = .ok (.lload_n 1, 1) := by decide +kernel
theorem d3_28 : decode prog_37_method_2_code 28 = .ok (.putfield 16, 3) := by decide +kernel
theorem d3_31 : decode prog_37_method_2_code 31 = .ok (.lload_n 1, 1) := by decide +kernel
theorem d3_32 : decode prog_37_method_2_code 32 = .ok (.aload_n 0, 1) := by decide +kernel
theorem d3_33 : decode prog_37_method_2_code 33 = .ok (.getfield 13, 3) := by decide +kernel
theorem d3_36 : decode prog_37_method_2_code 36 = .ok (.ladd, 1) := by decide +kernel
theorem d3_37 : decode prog_37_method_2_code 37 = .ok (.lreturn, 1) := by decide +kernel
theorem pd_0 : parseMethodDescriptor "(JJ)J" = some ⟨[.long, .long], some .long⟩ := by decide +kernel
theorem ef_3 (m : MethodId) (a0 : Addr) (q1 : Int64) : entryFrame m #[(.ref a0), (.long q1)] 3 = mkF m 0 #[.val (.ref a0), .val (.long q1), .second] [] := by first | (simp [entryFrame, mkF, argsToLocals, Value.category]; done) | rfl
def own_f3 (q1 : Int64) (mx : Int64) (lf : Int64) (sn : Int64) : Int64 := (q1 + (own_f4 mx ((lf + ((q1 - sn) / (4 : Int64))))))
def own_p3_leftNanos (q1 : Int64) (mx : Int64) (lf : Int64) (sn : Int64) : Int64 := (own_f4 mx ((lf + ((q1 - sn) / (4 : Int64)))))
def Q3 (Z : State) (a0 : Addr) (q1 : Int64) (mx : Int64) (lf : Int64) (sn : Int64) (h0 : Heap) (n0 : Nat) (v : Option Value) (h : Heap) (L : List Loc) : Prop := v = some (.long (own_f3 q1 mx lf sn)) ∧ Fr n0 L ∧ Keep h0 h [a0] ∧ Exa Z h a0 "dev/stint/deadline/HoldAllowance" ∧ Fld Z h a0 "dev/stint/deadline/HoldAllowance" "maxNanos" "J" (.long mx) ∧ Fld Z h a0 "dev/stint/deadline/HoldAllowance" "leftNanos" "J" (.long (own_p3_leftNanos q1 mx lf sn)) ∧ Fld Z h a0 "dev/stint/deadline/HoldAllowance" "since" "J" (.long q1)
set_option maxRecDepth 65536 in
set_option maxHeartbeats 40000000 in
theorem rm3 (l : Launch) (Z : State) (aw : Array Value) (hw : ∀ d ∈ tables_1, d.before aw Z = true) (wq : List Jvm.Cond) (a0 : Addr) (q1 : Int64) (mx : Int64) (lf : Int64) (sn : Int64) (h0 : Heap) (n0 : Nat) (Z0 : n0 ≤ h0.size) (E_a0 : Exa Z h0 a0 "dev/stint/deadline/HoldAllowance") (F_a0_maxNanos : Fld Z h0 a0 "dev/stint/deadline/HoldAllowance" "maxNanos" "J" (.long mx)) (F_a0_leftNanos : Fld Z h0 a0 "dev/stint/deadline/HoldAllowance" "leftNanos" "J" (.long lf)) (F_a0_since : Fld Z h0 a0 "dev/stint/deadline/HoldAllowance" "since" "J" (.long sn)) (g_a0 : n0 ≤ a0) :
    MetFree l (⟨"dev/stint/deadline/HoldAllowance", "begin", "(J)J"⟩ : MethodName) (head1 (Jvm.Cond.code (⟨"dev/stint/deadline/HoldAllowance", "begin", "(J)J"⟩ : MethodName) prog_37_method_2_code 3 (some .long) :: wq) ({ frames := 1, cells := 0, slots := 0, locals := 16 } : Room)) (fun a U => a = #[(.ref a0), (.long q1)] ∧ Z.Warmed39 U.vm ∧ U.heap = h0) (fun _ _ _ _ _ => True) (fun _ U o U' => ∃ v L, o = .returned v ∧ Q3 Z a0 q1 mx lf sn h0 n0 v U'.heap L ∧ FrameEnd U o U' L ({ frames := 1, cells := 0, slots := 0, locals := 16 } : Room).cells ({ frames := 1, cells := 0, slots := 0, locals := 16 } : Room).slots) := by
  refine MetFree.of_bodySF (plainFor_of_name pn_0) hisR ?_
  intro p e s m args below meth c s₁ Bd hml0 hP hK
  obtain ⟨rfl, hZ, hh⟩ := hP
  have hx := Bd.exec
  have hby := Bd.bytes
  have hml : c.maxLocals = 3 := hml0
  have hown : s.vm.findClass "dev/stint/deadline/HoldAllowance" = some m.cls := findClass_of_methodNamed Bd.named
  have hnm := (name_of_methodNamed Bd.named Bd.method).1
  have X0 : Stand p l e ({ frames := 1, cells := 0, slots := 0, locals := 16 } : Room) s m #[(.ref a0), (.long q1)] below meth c s₁ [] 0 0 := Stand.of_body Bd
  have e0 : s₁.heap = h0 := by rw [← hh, Bd.state]; rfl
  have N0 := Fr.nil n0
  have pre0 : own_Pre p e below (s₁.setTop (entryFrame m #[(.ref a0), (.long q1)] 3)) (s₁.setTop (mkF m 0 #[.val (.ref a0), .val (.long q1), .second] [])) := fun t k => castTop (ef_3 m a0 q1) k
  obtain ⟨T1, X1, e1, st1⟩ := getF X0 hx hZ hown (host := "") (Or.inl (hw _ (List.mem_of_getElem? (i := 12) rfl))) Via.refl e0 F_a0_maxNanos (g := (mkF m 2 #[.val (.ref a0), .val (.long q1), .second] [(.ref a0), (.ref a0)])) rfl rfl (hb hby d3_2)
  obtain ⟨T2, X2, e2, st2⟩ := getF X1 hx hZ hown (host := "") (Or.inl (hw _ (List.mem_of_getElem? (i := 14) rfl))) Via.refl e1 F_a0_leftNanos (g := (mkF m 6 #[.val (.ref a0), .val (.long q1), .second] [(.ref a0), (.long mx), (.ref a0)])) rfl rfl (hb hby d3_6)
  obtain ⟨T3, X3, e3, st3⟩ := getF X2 hx hZ hown (host := "") (Or.inl (hw _ (List.mem_of_getElem? (i := 16) rfl))) Via.refl e2 F_a0_since (g := (mkF m 11 #[.val (.ref a0), .val (.long q1), .second] [(.ref a0), (.long q1), (.long lf), (.long mx), (.ref a0)])) rfl rfl (hb hby d3_11)
  obtain ⟨_, _, ⟨T4, L4, k4, n4⟩, -, X4, ⟨Lc4, hQ4, l4, y4, z4⟩, st4⟩ := Jvm.LawKit.callS X3 hx (y := (⟨"java/lang/Math", "min", "(JJ)J"⟩ : MethodName)) hown (mvT hZ (hw _ (List.mem_of_getElem? (i := 24) rfl))) (mvT hZ (hw _ (List.mem_of_getElem? (i := 25) rfl))) (mvT hZ (hw _ (List.mem_of_getElem? (i := 26) rfl))) (mvT hZ (hw _ (List.mem_of_getElem? (i := 27) rfl))) (by decide) (backOf (W := 1) (rm4 l Z aw hw [] (mx) ((lf + ((q1 - sn) / (4 : Int64)))) (h0) n0 Z0) hZ (hw _ (List.mem_of_getElem? (i := 27) rfl)) (hw _ (List.mem_of_getElem? (i := 26) rfl)) (by decide) (by decide)) (g := (mkF m 20 #[.val (.ref a0), .val (.long q1), .second] [(.long (lf + ((q1 - sn) / (4 : Int64)))), (.long mx), (.ref a0)])) rfl (by rw [hml]; rfl) (argsL := [(.long mx), (.long (lf + ((q1 - sn) / (4 : Int64))))]) (rest := [(.ref a0)]) (lenOf pd_0 rfl) rfl (by show 2 * 0 + _ ≤ _; exact Nat.le_of_eq rfl) (hb hby d3_20) (fun _ _ => ⟨rfl, e3, (by decide : 0 + 0 ≤ _), (by decide : 0 + 0 ≤ _)⟩)
  dsimp only [Pt.U, Pt.locs, Pt.cells, Pt.slots] at X4 l4 y4 z4 st4 hQ4
  subst l4 y4 z4
  obtain ⟨rfl, Nq4, eq4⟩ := hQ4
  have N4 := Fr.app N0 Nq4
  obtain ⟨T5, h5, X5, e5, W5, st5⟩ := putF X4 hx hZ hown (host := "") (Or.inl (hw _ (List.mem_of_getElem? (i := 14) rfl))) Via.refl eq4 F_a0_leftNanos E_a0 (Or.inl (hw _ (List.mem_of_getElem? (i := 15) rfl))) (hw _ (List.mem_of_getElem? (i := 4) rfl)) (ty := .long) (by decide) rfl rfl (g := (mkF m 23 #[.val (.ref a0), .val (.long q1), .second] [(.long (own_f4 mx ((lf + ((q1 - sn) / (4 : Int64)))))), (.ref a0)])) rfl rfl (hb hby d3_23)
  have Fw5 := F_a0_leftNanos.same W5
  have N5 := Fr.snoc X5 N4 g_a0
  have kp6 : Keep h0 h5 [a0] := (Keep.refl h0 [a0]).wr W5 (Or.inl (List.mem_of_getElem? (i := 0) rfl))
  have f7 := (E_a0.wr W5)
  have f8 := (F_a0_since.other W5 (Or.inr (slot_ne (Or.inl (hw _ (List.mem_of_getElem? (i := 17) rfl))) (Or.inl (hw _ (List.mem_of_getElem? (i := 15) rfl))) (by decide) (t := .long) (t' := .long) (by decide) (by decide))))
  obtain ⟨T9, h9, X9, e9, W9, st9⟩ := putF X5 hx hZ hown (host := "") (Or.inl (hw _ (List.mem_of_getElem? (i := 16) rfl))) Via.refl e5 f8 f7 (Or.inl (hw _ (List.mem_of_getElem? (i := 17) rfl))) (hw _ (List.mem_of_getElem? (i := 4) rfl)) (ty := .long) (by decide) rfl rfl (g := (mkF m 28 #[.val (.ref a0), .val (.long q1), .second] [(.long q1), (.ref a0)])) rfl rfl (hb hby d3_28)
  have Fw9 := f8.same W9
  have N9 := Fr.snoc X9 N5 g_a0
  have kp10 : Keep h0 h9 [a0] := kp6.wr W9 (Or.inl (List.mem_of_getElem? (i := 0) rfl))
  have f11 := (Fw5.other W9 (Or.inr (slot_ne (Or.inl (hw _ (List.mem_of_getElem? (i := 15) rfl))) (Or.inl (hw _ (List.mem_of_getElem? (i := 17) rfl))) (by decide) (t := .long) (t' := .long) (by decide) (by decide))))
  obtain ⟨T12, X12, e12, st12⟩ := getF X9 hx hZ hown (host := "") (Or.inl (hw _ (List.mem_of_getElem? (i := 14) rfl))) Via.refl e9 f11 (g := (mkF m 33 #[.val (.ref a0), .val (.long q1), .second] [(.ref a0), (.long q1)])) rfl rfl (hb hby d3_33)
  obtain ⟨fs, hr, hrun, hended, hW, hsame⟩ := X12.leave (v := some (.long (q1 + (own_f4 mx ((lf + ((q1 - sn) / (4 : Int64)))))))) (fun h => by rw [Bd.returns] at h; cases h)
  refine ⟨_, _, pre0 _ ?_, hrun, hended, _, _, rfl, ?_, ⟨_, rfl⟩, hW, hsame.mono (by decide) (by decide)⟩
  · show Steps p.tables e below (s₁.setTop (mkF m 0 #[.val (.ref a0), .val (.long q1), .second] [])) _
    refine XS.aloadN X0.here hx rfl (hb hby d3_0) rfl rfl ?_
    show Steps p.tables e below (s₁.setTop (mkF m 1 #[.val (.ref a0), .val (.long q1), .second] [(.ref a0)])) _
    refine XS.aloadN X0.here hx rfl (hb hby d3_1) rfl rfl ?_
    show Steps p.tables e below (s₁.setTop (mkF m 2 #[.val (.ref a0), .val (.long q1), .second] [(.ref a0), (.ref a0)])) _
    refine st1 _ ?_
    show Steps p.tables e below (T1.setTop (mkF m 5 #[.val (.ref a0), .val (.long q1), .second] [(.long mx), (.ref a0)])) _
    refine XS.aloadN X1.here hx rfl (hb hby d3_5) rfl rfl ?_
    show Steps p.tables e below (T1.setTop (mkF m 6 #[.val (.ref a0), .val (.long q1), .second] [(.ref a0), (.long mx), (.ref a0)])) _
    refine st2 _ ?_
    show Steps p.tables e below (T2.setTop (mkF m 9 #[.val (.ref a0), .val (.long q1), .second] [(.long lf), (.long mx), (.ref a0)])) _
    refine XS.lloadN X2.here hx rfl (hb hby d3_9) rfl ?_
    show Steps p.tables e below (T2.setTop (mkF m 10 #[.val (.ref a0), .val (.long q1), .second] [(.long q1), (.long lf), (.long mx), (.ref a0)])) _
    refine XS.aloadN X2.here hx rfl (hb hby d3_10) rfl rfl ?_
    show Steps p.tables e below (T2.setTop (mkF m 11 #[.val (.ref a0), .val (.long q1), .second] [(.ref a0), (.long q1), (.long lf), (.long mx), (.ref a0)])) _
    refine st3 _ ?_
    show Steps p.tables e below (T3.setTop (mkF m 14 #[.val (.ref a0), .val (.long q1), .second] [(.long sn), (.long q1), (.long lf), (.long mx), (.ref a0)])) _
    refine XS.lsub X3.here hx rfl (hb hby d3_14) rfl ?_
    show Steps p.tables e below (T3.setTop (mkF m 15 #[.val (.ref a0), .val (.long q1), .second] [(.long (q1 - sn)), (.long lf), (.long mx), (.ref a0)])) _
    refine X3.ldc2Long hx hown (mvT hZ (hw _ (List.mem_of_getElem? (i := 23) rfl))) (g := (mkF m 15 #[.val (.ref a0), .val (.long q1), .second] [(.long (q1 - sn)), (.long lf), (.long mx), (.ref a0)])) rfl (hb hby d3_15) _ ?_
    show Steps p.tables e below (T3.setTop (mkF m 18 #[.val (.ref a0), .val (.long q1), .second] [(.long (4 : Int64)), (.long (q1 - sn)), (.long lf), (.long mx), (.ref a0)])) _
    refine XS.ldiv X3.here hx rfl (hb hby d3_18) rfl (by decide) ?_
    show Steps p.tables e below (T3.setTop (mkF m 19 #[.val (.ref a0), .val (.long q1), .second] [(.long ((q1 - sn) / (4 : Int64))), (.long lf), (.long mx), (.ref a0)])) _
    refine XS.ladd X3.here hx rfl (hb hby d3_19) rfl ?_
    show Steps p.tables e below (T3.setTop (mkF m 20 #[.val (.ref a0), .val (.long q1), .second] [(.long (lf + ((q1 - sn) / (4 : Int64)))), (.long mx), (.ref a0)])) _
    refine st4 _ ?_
    show Steps p.tables e below (T4.setTop (mkF m 23 #[.val (.ref a0), .val (.long q1), .second] [(.long (own_f4 mx ((lf + ((q1 - sn) / (4 : Int64)))))), (.ref a0)])) _
    refine st5 _ ?_
    show Steps p.tables e below (T5.setTop (mkF m 26 #[.val (.ref a0), .val (.long q1), .second] [])) _
    refine XS.aloadN X5.here hx rfl (hb hby d3_26) rfl rfl ?_
    show Steps p.tables e below (T5.setTop (mkF m 27 #[.val (.ref a0), .val (.long q1), .second] [(.ref a0)])) _
    refine XS.lloadN X5.here hx rfl (hb hby d3_27) rfl ?_
    show Steps p.tables e below (T5.setTop (mkF m 28 #[.val (.ref a0), .val (.long q1), .second] [(.long q1), (.ref a0)])) _
    refine st9 _ ?_
    show Steps p.tables e below (T9.setTop (mkF m 31 #[.val (.ref a0), .val (.long q1), .second] [])) _
    refine XS.lloadN X9.here hx rfl (hb hby d3_31) rfl ?_
    show Steps p.tables e below (T9.setTop (mkF m 32 #[.val (.ref a0), .val (.long q1), .second] [(.long q1)])) _
    refine XS.aloadN X9.here hx rfl (hb hby d3_32) rfl rfl ?_
    show Steps p.tables e below (T9.setTop (mkF m 33 #[.val (.ref a0), .val (.long q1), .second] [(.ref a0), (.long q1)])) _
    refine st12 _ ?_
    show Steps p.tables e below (T12.setTop (mkF m 36 #[.val (.ref a0), .val (.long q1), .second] [(.long (own_f4 mx ((lf + ((q1 - sn) / (4 : Int64)))))), (.long q1)])) _
    refine XS.ladd X12.here hx rfl (hb hby d3_36) rfl ?_
    show Steps p.tables e below (T12.setTop (mkF m 37 #[.val (.ref a0), .val (.long q1), .second] [(.long (q1 + (own_f4 mx ((lf + ((q1 - sn) / (4 : Int64)))))))])) _
    exact retJ X12 hx Bd.returns (hb hby d3_37) hr
  · show Q3 Z a0 q1 mx lf sn h0 n0 _ T12.heap _
    rw [e12]
    unfold Q3
    have f13 := (f7.wr W9)
    have f14 := ((F_a0_maxNanos.other W5 (Or.inr (slot_ne (Or.inr (hw _ (List.mem_of_getElem? (i := 13) rfl))) (Or.inl (hw _ (List.mem_of_getElem? (i := 15) rfl))) (by decide) (t := .long) (t' := .long) (by decide) (by decide)))).other W9 (Or.inr (slot_ne (Or.inr (hw _ (List.mem_of_getElem? (i := 13) rfl))) (Or.inl (hw _ (List.mem_of_getElem? (i := 17) rfl))) (by decide) (t := .long) (t' := .long) (by decide) (by decide))))
    refine ⟨?_, N9, kp10, f13, ?_, ?_, ?_⟩
    · simp only [own_f3]
    · exact f14
    · rw [show (own_p3_leftNanos q1 mx lf sn) = (own_f4 mx ((lf + ((q1 - sn) / (4 : Int64))))) from (by simp only [own_p3_leftNanos])]; exact f11
    · exact Fw9
theorem d5_0 : decode prog_37_method_3_code 0 = .ok (.aload_n 0, 1) := by decide +kernel
theorem d5_1 : decode prog_37_method_3_code 1 = .ok (.dup, 1) := by decide +kernel
theorem d5_2 : decode prog_37_method_3_code 2 = .ok (.getfield 13, 3) := by decide +kernel
theorem d5_5 : decode prog_37_method_3_code 5 = .ok (.lload_n 1, 1) := by decide +kernel
theorem d5_6 : decode prog_37_method_3_code 6 = .ok (.aload_n 0, 1) := by decide +kernel
theorem d5_7 : decode prog_37_method_3_code 7 = .ok (.getfield 16, 3) := by decide +kernel
theorem d5_10 : decode prog_37_method_3_code 10 = .ok (.lsub, 1) := by decide +kernel
theorem d5_11 : decode prog_37_method_3_code 11 = .ok (.lsub, 1) := by decide +kernel
theorem d5_12 : decode prog_37_method_3_code 12 = .ok (.putfield 13, 3) := by decide +kernel
theorem d5_15 : decode prog_37_method_3_code 15 = .ok (.aload_n 0, 1) := by decide +kernel
theorem d5_16 : decode prog_37_method_3_code 16 = .ok (.lload_n 1, 1) := by decide +kernel
theorem d5_17 : decode prog_37_method_3_code 17 = .ok (.putfield 16, 3) := by decide +kernel
theorem d5_20 : decode prog_37_method_3_code 20 = .ok (.return_, 1) := by decide +kernel
theorem ef_5 (m : MethodId) (a0 : Addr) (q1 : Int64) : entryFrame m #[(.ref a0), (.long q1)] 3 = mkF m 0 #[.val (.ref a0), .val (.long q1), .second] [] := by first | (simp [entryFrame, mkF, argsToLocals, Value.category]; done) | rfl
def own_p5_leftNanos (q1 : Int64) (lf : Int64) (sn : Int64) : Int64 := (lf - (q1 - sn))
def Q5 (Z : State) (a0 : Addr) (q1 : Int64) (mx : Int64) (lf : Int64) (sn : Int64) (h0 : Heap) (n0 : Nat) (v : Option Value) (h : Heap) (L : List Loc) : Prop := v = none ∧ Fr n0 L ∧ Keep h0 h [a0] ∧ Exa Z h a0 "dev/stint/deadline/HoldAllowance" ∧ Fld Z h a0 "dev/stint/deadline/HoldAllowance" "maxNanos" "J" (.long mx) ∧ Fld Z h a0 "dev/stint/deadline/HoldAllowance" "leftNanos" "J" (.long (own_p5_leftNanos q1 lf sn)) ∧ Fld Z h a0 "dev/stint/deadline/HoldAllowance" "since" "J" (.long q1)
set_option maxRecDepth 65536 in
set_option maxHeartbeats 40000000 in
theorem rm5 (l : Launch) (Z : State) (aw : Array Value) (hw : ∀ d ∈ tables_1, d.before aw Z = true) (wq : List Jvm.Cond) (a0 : Addr) (q1 : Int64) (mx : Int64) (lf : Int64) (sn : Int64) (h0 : Heap) (n0 : Nat) (Z0 : n0 ≤ h0.size) (E_a0 : Exa Z h0 a0 "dev/stint/deadline/HoldAllowance") (F_a0_maxNanos : Fld Z h0 a0 "dev/stint/deadline/HoldAllowance" "maxNanos" "J" (.long mx)) (F_a0_leftNanos : Fld Z h0 a0 "dev/stint/deadline/HoldAllowance" "leftNanos" "J" (.long lf)) (F_a0_since : Fld Z h0 a0 "dev/stint/deadline/HoldAllowance" "since" "J" (.long sn)) (g_a0 : n0 ≤ a0) :
    MetFree l (⟨"dev/stint/deadline/HoldAllowance", "end", "(J)V"⟩ : MethodName) (head1 (Jvm.Cond.code (⟨"dev/stint/deadline/HoldAllowance", "end", "(J)V"⟩ : MethodName) prog_37_method_3_code 3 none :: wq) ({ frames := 0, cells := 0, slots := 0, locals := 0 } : Room)) (fun a U => a = #[(.ref a0), (.long q1)] ∧ Z.Warmed39 U.vm ∧ U.heap = h0) (fun _ _ _ _ _ => True) (fun _ U o U' => ∃ v L, o = .returned v ∧ Q5 Z a0 q1 mx lf sn h0 n0 v U'.heap L ∧ FrameEnd U o U' L ({ frames := 0, cells := 0, slots := 0, locals := 0 } : Room).cells ({ frames := 0, cells := 0, slots := 0, locals := 0 } : Room).slots) := by
  refine MetFree.of_bodySF (plainFor_of_name pn_0) hisR ?_
  intro p e s m args below meth c s₁ Bd hml0 hP hK
  obtain ⟨rfl, hZ, hh⟩ := hP
  have hx := Bd.exec
  have hby := Bd.bytes
  have hml : c.maxLocals = 3 := hml0
  have hown : s.vm.findClass "dev/stint/deadline/HoldAllowance" = some m.cls := findClass_of_methodNamed Bd.named
  have hnm := (name_of_methodNamed Bd.named Bd.method).1
  have X0 : Stand p l e ({ frames := 0, cells := 0, slots := 0, locals := 0 } : Room) s m #[(.ref a0), (.long q1)] below meth c s₁ [] 0 0 := Stand.of_body Bd
  have e0 : s₁.heap = h0 := by rw [← hh, Bd.state]; rfl
  have N0 := Fr.nil n0
  have pre0 : own_Pre p e below (s₁.setTop (entryFrame m #[(.ref a0), (.long q1)] 3)) (s₁.setTop (mkF m 0 #[.val (.ref a0), .val (.long q1), .second] [])) := fun t k => castTop (ef_5 m a0 q1) k
  obtain ⟨T1, X1, e1, st1⟩ := getF X0 hx hZ hown (host := "") (Or.inl (hw _ (List.mem_of_getElem? (i := 14) rfl))) Via.refl e0 F_a0_leftNanos (g := (mkF m 2 #[.val (.ref a0), .val (.long q1), .second] [(.ref a0), (.ref a0)])) rfl rfl (hb hby d5_2)
  obtain ⟨T2, X2, e2, st2⟩ := getF X1 hx hZ hown (host := "") (Or.inl (hw _ (List.mem_of_getElem? (i := 16) rfl))) Via.refl e1 F_a0_since (g := (mkF m 7 #[.val (.ref a0), .val (.long q1), .second] [(.ref a0), (.long q1), (.long lf), (.ref a0)])) rfl rfl (hb hby d5_7)
  obtain ⟨T3, h3, X3, e3, W3, st3⟩ := putF X2 hx hZ hown (host := "") (Or.inl (hw _ (List.mem_of_getElem? (i := 14) rfl))) Via.refl e2 F_a0_leftNanos E_a0 (Or.inl (hw _ (List.mem_of_getElem? (i := 15) rfl))) (hw _ (List.mem_of_getElem? (i := 4) rfl)) (ty := .long) (by decide) rfl rfl (g := (mkF m 12 #[.val (.ref a0), .val (.long q1), .second] [(.long (lf - (q1 - sn))), (.ref a0)])) rfl rfl (hb hby d5_12)
  have Fw3 := F_a0_leftNanos.same W3
  have N3 := Fr.snoc X3 N0 g_a0
  have kp4 : Keep h0 h3 [a0] := (Keep.refl h0 [a0]).wr W3 (Or.inl (List.mem_of_getElem? (i := 0) rfl))
  have f5 := (E_a0.wr W3)
  have f6 := (F_a0_since.other W3 (Or.inr (slot_ne (Or.inl (hw _ (List.mem_of_getElem? (i := 17) rfl))) (Or.inl (hw _ (List.mem_of_getElem? (i := 15) rfl))) (by decide) (t := .long) (t' := .long) (by decide) (by decide))))
  obtain ⟨T7, h7, X7, e7, W7, st7⟩ := putF X3 hx hZ hown (host := "") (Or.inl (hw _ (List.mem_of_getElem? (i := 16) rfl))) Via.refl e3 f6 f5 (Or.inl (hw _ (List.mem_of_getElem? (i := 17) rfl))) (hw _ (List.mem_of_getElem? (i := 4) rfl)) (ty := .long) (by decide) rfl rfl (g := (mkF m 17 #[.val (.ref a0), .val (.long q1), .second] [(.long q1), (.ref a0)])) rfl rfl (hb hby d5_17)
  have Fw7 := f6.same W7
  have N7 := Fr.snoc X7 N3 g_a0
  have kp8 : Keep h0 h7 [a0] := kp4.wr W7 (Or.inl (List.mem_of_getElem? (i := 0) rfl))
  obtain ⟨fs, hr, hrun, hended, hW, hsame⟩ := X7.leave (v := none) (fun _ => rfl)
  refine ⟨_, _, pre0 _ ?_, hrun, hended, _, _, rfl, ?_, ⟨_, rfl⟩, hW, hsame.mono (by decide) (by decide)⟩
  · show Steps p.tables e below (s₁.setTop (mkF m 0 #[.val (.ref a0), .val (.long q1), .second] [])) _
    refine XS.aloadN X0.here hx rfl (hb hby d5_0) rfl rfl ?_
    show Steps p.tables e below (s₁.setTop (mkF m 1 #[.val (.ref a0), .val (.long q1), .second] [(.ref a0)])) _
    refine XS.dup X0.here hx rfl (hb hby d5_1) rfl rfl ?_
    show Steps p.tables e below (s₁.setTop (mkF m 2 #[.val (.ref a0), .val (.long q1), .second] [(.ref a0), (.ref a0)])) _
    refine st1 _ ?_
    show Steps p.tables e below (T1.setTop (mkF m 5 #[.val (.ref a0), .val (.long q1), .second] [(.long lf), (.ref a0)])) _
    refine XS.lloadN X1.here hx rfl (hb hby d5_5) rfl ?_
    show Steps p.tables e below (T1.setTop (mkF m 6 #[.val (.ref a0), .val (.long q1), .second] [(.long q1), (.long lf), (.ref a0)])) _
    refine XS.aloadN X1.here hx rfl (hb hby d5_6) rfl rfl ?_
    show Steps p.tables e below (T1.setTop (mkF m 7 #[.val (.ref a0), .val (.long q1), .second] [(.ref a0), (.long q1), (.long lf), (.ref a0)])) _
    refine st2 _ ?_
    show Steps p.tables e below (T2.setTop (mkF m 10 #[.val (.ref a0), .val (.long q1), .second] [(.long sn), (.long q1), (.long lf), (.ref a0)])) _
    refine XS.lsub X2.here hx rfl (hb hby d5_10) rfl ?_
    show Steps p.tables e below (T2.setTop (mkF m 11 #[.val (.ref a0), .val (.long q1), .second] [(.long (q1 - sn)), (.long lf), (.ref a0)])) _
    refine XS.lsub X2.here hx rfl (hb hby d5_11) rfl ?_
    show Steps p.tables e below (T2.setTop (mkF m 12 #[.val (.ref a0), .val (.long q1), .second] [(.long (lf - (q1 - sn))), (.ref a0)])) _
    refine st3 _ ?_
    show Steps p.tables e below (T3.setTop (mkF m 15 #[.val (.ref a0), .val (.long q1), .second] [])) _
    refine XS.aloadN X3.here hx rfl (hb hby d5_15) rfl rfl ?_
    show Steps p.tables e below (T3.setTop (mkF m 16 #[.val (.ref a0), .val (.long q1), .second] [(.ref a0)])) _
    refine XS.lloadN X3.here hx rfl (hb hby d5_16) rfl ?_
    show Steps p.tables e below (T3.setTop (mkF m 17 #[.val (.ref a0), .val (.long q1), .second] [(.long q1), (.ref a0)])) _
    refine st7 _ ?_
    show Steps p.tables e below (T7.setTop (mkF m 20 #[.val (.ref a0), .val (.long q1), .second] [])) _
    exact X7.returnOut hx Bd.returns (hb hby d5_20) hr
  · show Q5 Z a0 q1 mx lf sn h0 n0 _ T7.heap _
    rw [e7]
    unfold Q5
    have f9 := (f5.wr W7)
    have f10 := ((F_a0_maxNanos.other W3 (Or.inr (slot_ne (Or.inr (hw _ (List.mem_of_getElem? (i := 13) rfl))) (Or.inl (hw _ (List.mem_of_getElem? (i := 15) rfl))) (by decide) (t := .long) (t' := .long) (by decide) (by decide)))).other W7 (Or.inr (slot_ne (Or.inr (hw _ (List.mem_of_getElem? (i := 13) rfl))) (Or.inl (hw _ (List.mem_of_getElem? (i := 17) rfl))) (by decide) (t := .long) (t' := .long) (by decide) (by decide))))
    have f11 := (Fw3.other W7 (Or.inr (slot_ne (Or.inl (hw _ (List.mem_of_getElem? (i := 15) rfl))) (Or.inl (hw _ (List.mem_of_getElem? (i := 17) rfl))) (by decide) (t := .long) (t' := .long) (by decide) (by decide))))
    refine ⟨rfl, N7, kp8, f9, ?_, ?_, ?_⟩
    · exact f10
    · rw [show (own_p5_leftNanos q1 lf sn) = (lf - (q1 - sn)) from (by simp only [own_p5_leftNanos])]; exact f11
    · exact Fw7
theorem d6_0 : decode method_2_code 0 = .ok (.lload_n 0, 1) := by decide +kernel
theorem d6_1 : decode method_2_code 1 = .ok (.lload_n 2, 1) := by decide +kernel
theorem d6_2 : decode method_2_code 2 = .ok (.lcmp, 1) := by decide +kernel
theorem d6_3 : decode method_2_code 3 = .ok (.ifCond .le 5, 3) := by decide +kernel
theorem d6_6 : decode method_2_code 6 = .ok (.lload_n 2, 1) := by decide +kernel
theorem d6_7 : decode method_2_code 7 = .ok (.lreturn, 1) := by decide +kernel
theorem d6_8 : decode method_2_code 8 = .ok (.lload_n 0, 1) := by decide +kernel
theorem d6_9 : decode method_2_code 9 = .ok (.lreturn, 1) := by decide +kernel
theorem pn_1 : plainName "dev/stint/deadline/HoldAllowanceEndPinLaw" = true := by first | (simp [plainName, overriddenIn]; done) | decide +kernel
theorem ef_6 (m : MethodId) (q0 : Int64) (q1 : Int64) : entryFrame m #[(.long q0), (.long q1)] 4 = mkF m 0 #[.val (.long q0), .second, .val (.long q1), .second] [] := by first | (simp [entryFrame, mkF, argsToLocals, Value.category]; done) | rfl
def own_f6 (q0 : Int64) (q1 : Int64) : Int64 := (if q1 < q0 then q1 else q0)
def Q6 (Z : State) (q0 : Int64) (q1 : Int64) (h0 : Heap) (n0 : Nat) (v : Option Value) (h : Heap) (L : List Loc) : Prop := v = some (.long (own_f6 q0 q1)) ∧ Fr n0 L ∧ h = h0
set_option maxRecDepth 65536 in
set_option maxHeartbeats 40000000 in
theorem rm6 (l : Launch) (Z : State) (aw : Array Value) (hw : ∀ d ∈ tables_1, d.before aw Z = true) (wq : List Jvm.Cond) (q0 : Int64) (q1 : Int64) (h0 : Heap) (n0 : Nat) (Z0 : n0 ≤ h0.size) :
    MetFree l (⟨"dev/stint/deadline/HoldAllowanceEndPinLaw", "cap", "(JJ)J"⟩ : MethodName) (head1 (Jvm.Cond.code (⟨"dev/stint/deadline/HoldAllowanceEndPinLaw", "cap", "(JJ)J"⟩ : MethodName) method_2_code 4 (some .long) :: wq) ({ frames := 0, cells := 0, slots := 0, locals := 0 } : Room)) (fun a U => a = #[(.long q0), (.long q1)] ∧ Z.Warmed39 U.vm ∧ U.heap = h0) (fun _ _ _ _ _ => True) (fun _ U o U' => ∃ v L, o = .returned v ∧ Q6 Z q0 q1 h0 n0 v U'.heap L ∧ FrameEnd U o U' L ({ frames := 0, cells := 0, slots := 0, locals := 0 } : Room).cells ({ frames := 0, cells := 0, slots := 0, locals := 0 } : Room).slots) := by
  refine MetFree.of_bodySF (plainFor_of_name pn_1) hisR ?_
  intro p e s m args below meth c s₁ Bd hml0 hP hK
  obtain ⟨rfl, hZ, hh⟩ := hP
  have hx := Bd.exec
  have hby := Bd.bytes
  have hml : c.maxLocals = 4 := hml0
  have hown : s.vm.findClass "dev/stint/deadline/HoldAllowanceEndPinLaw" = some m.cls := findClass_of_methodNamed Bd.named
  have hnm := (name_of_methodNamed Bd.named Bd.method).1
  have X0 : Stand p l e ({ frames := 0, cells := 0, slots := 0, locals := 0 } : Room) s m #[(.long q0), (.long q1)] below meth c s₁ [] 0 0 := Stand.of_body Bd
  have e0 : s₁.heap = h0 := by rw [← hh, Bd.state]; rfl
  have N0 := Fr.nil n0
  have pre0 : own_Pre p e below (s₁.setTop (entryFrame m #[(.long q0), (.long q1)] 4)) (s₁.setTop (mkF m 0 #[.val (.long q0), .second, .val (.long q1), .second] [])) := fun t k => castTop (ef_6 m q0 q1) k
  have pre1 : own_Pre p e below (s₁.setTop (entryFrame m #[(.long q0), (.long q1)] 4)) (s₁.setTop (mkF m 3 #[.val (.long q0), .second, .val (.long q1), .second] [(.int (lcmpW q0 q1))])) := fun t k => pre0 t (by
      show Steps p.tables e below (s₁.setTop (mkF m 0 #[.val (.long q0), .second, .val (.long q1), .second] [])) _
      refine XS.lloadN X0.here hx rfl (hb hby d6_0) rfl ?_
      show Steps p.tables e below (s₁.setTop (mkF m 1 #[.val (.long q0), .second, .val (.long q1), .second] [(.long q0)])) _
      refine XS.lloadN X0.here hx rfl (hb hby d6_1) rfl ?_
      show Steps p.tables e below (s₁.setTop (mkF m 2 #[.val (.long q0), .second, .val (.long q1), .second] [(.long q1), (.long q0)])) _
      refine XS.lcmp X0.here hx rfl (hb hby d6_2) rfl ?_
      exact k)
  by_cases hc3 : q1 < q0
  · obtain ⟨fs, hr, hrun, hended, hW, hsame⟩ := X0.leave (v := some (.long q1)) (fun h => by rw [Bd.returns] at h; cases h)
    refine ⟨_, _, pre1 _ ?_, hrun, hended, _, _, rfl, ?_, ⟨_, rfl⟩, hW, hsame.mono (by decide) (by decide)⟩
    · show Steps p.tables e below (s₁.setTop (mkF m 3 #[.val (.long q0), .second, .val (.long q1), .second] [(.int (lcmpW q0 q1))])) _
      refine XS.ifNo X0.here hx rfl (hb hby d6_3) rfl ((if0 _ _).trans (tlt ((lw_gt _ _).mpr hc3)).2.2.2) ?_
      show Steps p.tables e below (s₁.setTop (mkF m 6 #[.val (.long q0), .second, .val (.long q1), .second] [])) _
      refine XS.lloadN X0.here hx rfl (hb hby d6_6) rfl ?_
      show Steps p.tables e below (s₁.setTop (mkF m 7 #[.val (.long q0), .second, .val (.long q1), .second] [(.long q1)])) _
      exact retJ X0 hx Bd.returns (hb hby d6_7) hr
    · show Q6 Z q0 q1 h0 n0 _ s₁.heap _
      rw [e0]
      unfold Q6
      refine ⟨?_, N0, rfl⟩
      · simp only [own_f6, if_pos hc3]
  · obtain ⟨fs, hr, hrun, hended, hW, hsame⟩ := X0.leave (v := some (.long q0)) (fun h => by rw [Bd.returns] at h; cases h)
    refine ⟨_, _, pre1 _ ?_, hrun, hended, _, _, rfl, ?_, ⟨_, rfl⟩, hW, hsame.mono (by decide) (by decide)⟩
    · show Steps p.tables e below (s₁.setTop (mkF m 3 #[.val (.long q0), .second, .val (.long q1), .second] [(.int (lcmpW q0 q1))])) _
      refine XS.ifYes X0.here hx rfl (pc0 := 3) (pc' := 8) rfl (hb hby d6_3) rfl ((if0 _ _).trans (flt (mt (lw_gt _ _).mp hc3)).2.2.2) (by decide) (by decide) ?_
      show Steps p.tables e below (s₁.setTop (mkF m 8 #[.val (.long q0), .second, .val (.long q1), .second] [])) _
      refine XS.lloadN X0.here hx rfl (hb hby d6_8) rfl ?_
      show Steps p.tables e below (s₁.setTop (mkF m 9 #[.val (.long q0), .second, .val (.long q1), .second] [(.long q0)])) _
      exact retJ X0 hx Bd.returns (hb hby d6_9) hr
    · show Q6 Z q0 q1 h0 n0 _ s₁.heap _
      rw [e0]
      unfold Q6
      refine ⟨?_, N0, rfl⟩
      · simp only [own_f6, if_neg hc3]
theorem pd_1 : parseMethodDescriptor "(JJ)V" = some ⟨[.long, .long], none⟩ := by decide +kernel
theorem pd_2 : parseMethodDescriptor "(J)J" = some ⟨[.long], some .long⟩ := by decide +kernel
theorem pd_3 : parseMethodDescriptor "(J)V" = some ⟨[.long], none⟩ := by decide +kernel
theorem ef_0 (m : MethodId) (q0 : Int64) (q1 : Int64) (q2 : Int64) (q3 : Int64) (q4 : Int64) (p5 : Int32) : entryFrame m #[(.long q0), (.long q1), (.long q2), (.long q3), (.long q4), (.int p5)] maxLocals = mkF m 0 #[.val (.long q0), .second, .val (.long q1), .second, .val (.long q2), .second, .val (.long q3), .second, .val (.long q4), .second, .val (.int p5), .unset, .unset, .unset, .unset, .unset, .unset, .unset, .unset, .unset, .unset, .unset, .unset, .unset, .unset, .unset, .unset, .unset, .unset, .unset, .unset, .unset, .unset, .unset, .unset, .unset, .unset, .unset, .unset, .unset, .unset, .unset, .unset, .unset, .unset, .unset, .unset, .unset] [] := by first | (simp [entryFrame, mkF, argsToLocals, Value.category, maxLocals]; done) | rfl
theorem own_sub (a d : Int64) : (a + d) - a = d := by
  rw [Int64.add_comm]; exact Int64.add_sub_cancel _ _
theorem own_min (a b : Int64) : own_f4 a b = own_f6 b a := by
  unfold own_f4 own_f6
  by_cases h : b < a
  · rw [if_pos h]
    by_cases h' : a < b
    · rw [Int64.lt_iff_toInt_lt] at h h'; omega
    · rw [if_neg h']
  · rw [if_neg h]
    by_cases h' : a < b
    · rw [if_pos h']
    · rw [if_neg h']
      apply Int64.toInt_inj.mp
      rw [Int64.lt_iff_toInt_lt] at h h'; omega
theorem own_first (q q' m d : Int64) (hm : m = q &&& (1099511627775 : Int64)) (hd : d = q' &&& (1048575 : Int64)) : own_f4 m (m + d / (4 : Int64)) = m := by
  have h1 := c_maskL q 1099511627775 40 (by decide) (by decide)
  have h2 := c_maskL q' 1048575 20 (by decide) (by decide)
  rw [← hm] at h1; rw [← hd] at h2
  have h3 := (c_ldiv d 4 4 rfl (by decide)).1 (by omega)
  have h4 := c_ladd m (d / 4)
  have h5 := rng64 (m + d / 4)
  unfold own_f4
  rw [if_neg]
  rw [Int64.lt_iff_toInt_lt]; omega
theorem own_all {q0 q2 t0 t1 t2 t3 t4 t5 m d1 d2 d3 d4 d5 u14 u17 u19 u22 x34 x36 x38 x40 x42 x44 x46 : Int64}
    (hm : m = q0 &&& (1099511627775 : Int64)) (hd1 : d1 = q2 &&& (1048575 : Int64)) (h1 : t1 = t0 + d1) (h2 : t2 = t1 + d2) (h3 : t3 = t2 + d3) (h4 : t4 = t3 + d4) (h5 : t5 = t4 + d5)
    (k14 : u14 = own_p3_leftNanos t1 m m t0) (k34 : x34 = own_f3 t1 m m t0 - t1) (k17 : u17 = own_p5_leftNanos t2 u14 t1) (k19 : u19 = own_p3_leftNanos t3 m u17 t2) (k36 : x36 = own_f3 t3 m u17 t2 - t3)
    (k22 : u22 = own_p5_leftNanos t4 u19 t3) (k38 : x38 = own_f3 t5 m u22 t4 - t5) (k40 : x40 = m - d2) (k42 : x42 = own_f6 (x40 + d3 / (4 : Int64)) m) (k44 : x44 = x42 - d4) (k46 : x46 = own_f6 (x44 + d5 / (4 : Int64)) m) :
    x34 = m ∧ x36 = x42 ∧ x38 = x46 := by
  have f : ∀ t m l s : Int64, own_f3 t m l s - t = own_p3_leftNanos t m l s := fun t m l s => by
    unfold own_f3 own_p3_leftNanos; exact own_sub _ _
  have e1 : t1 - t0 = d1 := by rw [h1]; exact own_sub _ _
  have e2 : t2 - t1 = d2 := by rw [h2]; exact own_sub _ _
  have e3 : t3 - t2 = d3 := by rw [h3]; exact own_sub _ _
  have e4 : t4 - t3 = d4 := by rw [h4]; exact own_sub _ _
  have e5 : t5 - t4 = d5 := by rw [h5]; exact own_sub _ _
  have g1 : own_p3_leftNanos t1 m m t0 = m := by
    unfold own_p3_leftNanos; rw [e1]; exact own_first _ _ _ _ hm hd1
  have g2 : u17 = x40 := by rw [k17, k40, k14, g1]; unfold own_p5_leftNanos; rw [e2]
  have g3 : own_p3_leftNanos t3 m u17 t2 = x42 := by
    rw [k42, g2]; unfold own_p3_leftNanos; rw [e3]; exact own_min _ _
  have g4 : u22 = x44 := by rw [k22, k44, k19, g3]; unfold own_p5_leftNanos; rw [e4]
  refine ⟨?_, ?_, ?_⟩
  · rw [k34, f, g1]
  · rw [k36, f, g3]
  · rw [k38, f, k46, g4]; unfold own_p3_leftNanos; rw [e5]; exact own_min _ _

def Q0 (Z : State) (q0 : Int64) (q1 : Int64) (q2 : Int64) (q3 : Int64) (q4 : Int64) (p5 : Int32) (h0 : Heap) (n0 : Nat) (v : Option Value) (h : Heap) (L : List Loc) : Prop := v = some (.int (1 : Int32)) ∧ Fr n0 L
set_option maxRecDepth 65536 in
set_option maxHeartbeats 40000000 in
theorem rm0 (l : Launch) (Z : State) (aw : Array Value) (hw : ∀ d ∈ tables_1, d.before aw Z = true) (wq : List Jvm.Cond) (q0 : Int64) (q1 : Int64) (q2 : Int64) (q3 : Int64) (q4 : Int64) (p5 : Int32) (h0 : Heap) (n0 : Nat) (Z0 : n0 ≤ h0.size) :
    MetFree l x (head1 (Jvm.Cond.code x code maxLocals ret :: wq) room_1) (fun a U => a = #[(.long q0), (.long q1), (.long q2), (.long q3), (.long q4), (.int p5)] ∧ Z.Warmed39 U.vm ∧ U.heap = h0) (fun _ _ _ _ _ => True) (fun _ U o U' => ∃ v L, o = .returned v ∧ Q0 Z q0 q1 q2 q3 q4 p5 h0 n0 v U'.heap L ∧ FrameEnd U o U' L 1 3) := by
  refine MetFree.of_bodySF (plainFor_of_name pn_1) hisR ?_
  intro p e s m args below meth c s₁ Bd hml0 hP hK
  obtain ⟨rfl, hZ, hh⟩ := hP
  have hx := Bd.exec
  have hby := Bd.bytes
  have hml : c.maxLocals = 48 := hml0
  have hown : s.vm.findClass "dev/stint/deadline/HoldAllowanceEndPinLaw" = some m.cls := findClass_of_methodNamed Bd.named
  have hnm := (name_of_methodNamed Bd.named Bd.method).1
  have X0 : Stand p l e room_1 s m #[(.long q0), (.long q1), (.long q2), (.long q3), (.long q4), (.int p5)] below meth c s₁ [] 0 0 := Stand.of_body Bd
  have e0 : s₁.heap = h0 := by rw [← hh, Bd.state]; rfl
  have N0 := Fr.nil n0
  have pre0 : own_Pre p e below (s₁.setTop (entryFrame m #[(.long q0), (.long q1), (.long q2), (.long q3), (.long q4), (.int p5)] maxLocals)) (s₁.setTop (mkF m 0 #[.val (.long q0), .second, .val (.long q1), .second, .val (.long q2), .second, .val (.long q3), .second, .val (.long q4), .second, .val (.int p5), .unset, .unset, .unset, .unset, .unset, .unset, .unset, .unset, .unset, .unset, .unset, .unset, .unset, .unset, .unset, .unset, .unset, .unset, .unset, .unset, .unset, .unset, .unset, .unset, .unset, .unset, .unset, .unset, .unset, .unset, .unset, .unset, .unset, .unset, .unset, .unset, .unset] [])) := fun t k => castTop (ef_0 m q0 q1 q2 q3 q4 p5) k
  obtain ⟨x11_7, hx11_7, pre1⟩ : ∃ z : Int64, z = (q0 &&& (1099511627775 : Int64)) ∧ own_Pre p e below (s₁.setTop (entryFrame m #[(.long q0), (.long q1), (.long q2), (.long q3), (.long q4), (.int p5)] maxLocals)) (s₁.setTop (mkF m 7 #[.val (.long q0), .second, .val (.long q1), .second, .val (.long q2), .second, .val (.long q3), .second, .val (.long q4), .second, .val (.int p5), .val (.long z), .second, .unset, .unset, .unset, .unset, .unset, .unset, .unset, .unset, .unset, .unset, .unset, .unset, .unset, .unset, .unset, .unset, .unset, .unset, .unset, .unset, .unset, .unset, .unset, .unset, .unset, .unset, .unset, .unset, .unset, .unset, .unset, .unset, .unset, .unset, .unset] [])) := ⟨_, rfl, fun t k => pre0 t (by
      show Steps p.tables e below (s₁.setTop (mkF m 0 #[.val (.long q0), .second, .val (.long q1), .second, .val (.long q2), .second, .val (.long q3), .second, .val (.long q4), .second, .val (.int p5), .unset, .unset, .unset, .unset, .unset, .unset, .unset, .unset, .unset, .unset, .unset, .unset, .unset, .unset, .unset, .unset, .unset, .unset, .unset, .unset, .unset, .unset, .unset, .unset, .unset, .unset, .unset, .unset, .unset, .unset, .unset, .unset, .unset, .unset, .unset, .unset, .unset] [])) _
      refine XS.lloadN X0.here hx rfl (hb hby at_0) rfl ?_
      show Steps p.tables e below (s₁.setTop (mkF m 1 #[.val (.long q0), .second, .val (.long q1), .second, .val (.long q2), .second, .val (.long q3), .second, .val (.long q4), .second, .val (.int p5), .unset, .unset, .unset, .unset, .unset, .unset, .unset, .unset, .unset, .unset, .unset, .unset, .unset, .unset, .unset, .unset, .unset, .unset, .unset, .unset, .unset, .unset, .unset, .unset, .unset, .unset, .unset, .unset, .unset, .unset, .unset, .unset, .unset, .unset, .unset, .unset, .unset] [(.long q0)])) _
      refine X0.ldc2Long hx hown (mvT hZ (hw _ (List.mem_of_getElem? (i := 0) rfl))) (g := (mkF m 1 #[.val (.long q0), .second, .val (.long q1), .second, .val (.long q2), .second, .val (.long q3), .second, .val (.long q4), .second, .val (.int p5), .unset, .unset, .unset, .unset, .unset, .unset, .unset, .unset, .unset, .unset, .unset, .unset, .unset, .unset, .unset, .unset, .unset, .unset, .unset, .unset, .unset, .unset, .unset, .unset, .unset, .unset, .unset, .unset, .unset, .unset, .unset, .unset, .unset, .unset, .unset, .unset, .unset] [(.long q0)])) rfl (hb hby at_1) _ ?_
      show Steps p.tables e below (s₁.setTop (mkF m 4 #[.val (.long q0), .second, .val (.long q1), .second, .val (.long q2), .second, .val (.long q3), .second, .val (.long q4), .second, .val (.int p5), .unset, .unset, .unset, .unset, .unset, .unset, .unset, .unset, .unset, .unset, .unset, .unset, .unset, .unset, .unset, .unset, .unset, .unset, .unset, .unset, .unset, .unset, .unset, .unset, .unset, .unset, .unset, .unset, .unset, .unset, .unset, .unset, .unset, .unset, .unset, .unset, .unset] [(.long (1099511627775 : Int64)), (.long q0)])) _
      refine XS.land X0.here hx rfl (hb hby at_4) rfl ?_
      show Steps p.tables e below (s₁.setTop (mkF m 5 #[.val (.long q0), .second, .val (.long q1), .second, .val (.long q2), .second, .val (.long q3), .second, .val (.long q4), .second, .val (.int p5), .unset, .unset, .unset, .unset, .unset, .unset, .unset, .unset, .unset, .unset, .unset, .unset, .unset, .unset, .unset, .unset, .unset, .unset, .unset, .unset, .unset, .unset, .unset, .unset, .unset, .unset, .unset, .unset, .unset, .unset, .unset, .unset, .unset, .unset, .unset, .unset, .unset] [(.long (q0 &&& (1099511627775 : Int64)))])) _
      refine XS.lstore X0.here hx rfl (hb hby at_5) rfl (l' := #[.val (.long q0), .second, .val (.long q1), .second, .val (.long q2), .second, .val (.long q3), .second, .val (.long q4), .second, .val (.int p5), .val (.long (q0 &&& (1099511627775 : Int64))), .second, .unset, .unset, .unset, .unset, .unset, .unset, .unset, .unset, .unset, .unset, .unset, .unset, .unset, .unset, .unset, .unset, .unset, .unset, .unset, .unset, .unset, .unset, .unset, .unset, .unset, .unset, .unset, .unset, .unset, .unset, .unset, .unset, .unset, .unset, .unset]) rfl ?_
      exact k)⟩
  obtain ⟨x13_15, hx13_15, pre2⟩ : ∃ z : Int64, z = (q2 &&& (1048575 : Int64)) ∧ own_Pre p e below (s₁.setTop (entryFrame m #[(.long q0), (.long q1), (.long q2), (.long q3), (.long q4), (.int p5)] maxLocals)) (s₁.setTop (mkF m 15 #[.val (.long q0), .second, .val (.long q1), .second, .val (.long q2), .second, .val (.long q3), .second, .val (.long q4), .second, .val (.int p5), .val (.long x11_7), .second, .val (.long z), .second, .unset, .unset, .unset, .unset, .unset, .unset, .unset, .unset, .unset, .unset, .unset, .unset, .unset, .unset, .unset, .unset, .unset, .unset, .unset, .unset, .unset, .unset, .unset, .unset, .unset, .unset, .unset, .unset, .unset, .unset, .unset, .unset, .unset] [])) := ⟨_, rfl, fun t k => pre1 t (by
      show Steps p.tables e below (s₁.setTop (mkF m 7 #[.val (.long q0), .second, .val (.long q1), .second, .val (.long q2), .second, .val (.long q3), .second, .val (.long q4), .second, .val (.int p5), .val (.long x11_7), .second, .unset, .unset, .unset, .unset, .unset, .unset, .unset, .unset, .unset, .unset, .unset, .unset, .unset, .unset, .unset, .unset, .unset, .unset, .unset, .unset, .unset, .unset, .unset, .unset, .unset, .unset, .unset, .unset, .unset, .unset, .unset, .unset, .unset, .unset, .unset] [])) _
      refine XS.lload X0.here hx rfl (hb hby at_7) rfl ?_
      show Steps p.tables e below (s₁.setTop (mkF m 9 #[.val (.long q0), .second, .val (.long q1), .second, .val (.long q2), .second, .val (.long q3), .second, .val (.long q4), .second, .val (.int p5), .val (.long x11_7), .second, .unset, .unset, .unset, .unset, .unset, .unset, .unset, .unset, .unset, .unset, .unset, .unset, .unset, .unset, .unset, .unset, .unset, .unset, .unset, .unset, .unset, .unset, .unset, .unset, .unset, .unset, .unset, .unset, .unset, .unset, .unset, .unset, .unset, .unset, .unset] [(.long q2)])) _
      refine X0.ldc2Long hx hown (mvT hZ (hw _ (List.mem_of_getElem? (i := 1) rfl))) (g := (mkF m 9 #[.val (.long q0), .second, .val (.long q1), .second, .val (.long q2), .second, .val (.long q3), .second, .val (.long q4), .second, .val (.int p5), .val (.long x11_7), .second, .unset, .unset, .unset, .unset, .unset, .unset, .unset, .unset, .unset, .unset, .unset, .unset, .unset, .unset, .unset, .unset, .unset, .unset, .unset, .unset, .unset, .unset, .unset, .unset, .unset, .unset, .unset, .unset, .unset, .unset, .unset, .unset, .unset, .unset, .unset] [(.long q2)])) rfl (hb hby at_9) _ ?_
      show Steps p.tables e below (s₁.setTop (mkF m 12 #[.val (.long q0), .second, .val (.long q1), .second, .val (.long q2), .second, .val (.long q3), .second, .val (.long q4), .second, .val (.int p5), .val (.long x11_7), .second, .unset, .unset, .unset, .unset, .unset, .unset, .unset, .unset, .unset, .unset, .unset, .unset, .unset, .unset, .unset, .unset, .unset, .unset, .unset, .unset, .unset, .unset, .unset, .unset, .unset, .unset, .unset, .unset, .unset, .unset, .unset, .unset, .unset, .unset, .unset] [(.long (1048575 : Int64)), (.long q2)])) _
      refine XS.land X0.here hx rfl (hb hby at_12) rfl ?_
      show Steps p.tables e below (s₁.setTop (mkF m 13 #[.val (.long q0), .second, .val (.long q1), .second, .val (.long q2), .second, .val (.long q3), .second, .val (.long q4), .second, .val (.int p5), .val (.long x11_7), .second, .unset, .unset, .unset, .unset, .unset, .unset, .unset, .unset, .unset, .unset, .unset, .unset, .unset, .unset, .unset, .unset, .unset, .unset, .unset, .unset, .unset, .unset, .unset, .unset, .unset, .unset, .unset, .unset, .unset, .unset, .unset, .unset, .unset, .unset, .unset] [(.long (q2 &&& (1048575 : Int64)))])) _
      refine XS.lstore X0.here hx rfl (hb hby at_13) rfl (l' := #[.val (.long q0), .second, .val (.long q1), .second, .val (.long q2), .second, .val (.long q3), .second, .val (.long q4), .second, .val (.int p5), .val (.long x11_7), .second, .val (.long (q2 &&& (1048575 : Int64))), .second, .unset, .unset, .unset, .unset, .unset, .unset, .unset, .unset, .unset, .unset, .unset, .unset, .unset, .unset, .unset, .unset, .unset, .unset, .unset, .unset, .unset, .unset, .unset, .unset, .unset, .unset, .unset, .unset, .unset, .unset, .unset, .unset, .unset]) rfl ?_
      exact k)⟩
  obtain ⟨x15_26, hx15_26, pre3⟩ : ∃ z : Int64, z = (((q2).toUInt64 >>> ((20 : Int32) &&& 0x3f).toInt64.toUInt64).toInt64 &&& (1099511627775 : Int64)) ∧ own_Pre p e below (s₁.setTop (entryFrame m #[(.long q0), (.long q1), (.long q2), (.long q3), (.long q4), (.int p5)] maxLocals)) (s₁.setTop (mkF m 26 #[.val (.long q0), .second, .val (.long q1), .second, .val (.long q2), .second, .val (.long q3), .second, .val (.long q4), .second, .val (.int p5), .val (.long x11_7), .second, .val (.long x13_15), .second, .val (.long z), .second, .unset, .unset, .unset, .unset, .unset, .unset, .unset, .unset, .unset, .unset, .unset, .unset, .unset, .unset, .unset, .unset, .unset, .unset, .unset, .unset, .unset, .unset, .unset, .unset, .unset, .unset, .unset, .unset, .unset, .unset, .unset] [])) := ⟨_, rfl, fun t k => pre2 t (by
      show Steps p.tables e below (s₁.setTop (mkF m 15 #[.val (.long q0), .second, .val (.long q1), .second, .val (.long q2), .second, .val (.long q3), .second, .val (.long q4), .second, .val (.int p5), .val (.long x11_7), .second, .val (.long x13_15), .second, .unset, .unset, .unset, .unset, .unset, .unset, .unset, .unset, .unset, .unset, .unset, .unset, .unset, .unset, .unset, .unset, .unset, .unset, .unset, .unset, .unset, .unset, .unset, .unset, .unset, .unset, .unset, .unset, .unset, .unset, .unset, .unset, .unset] [])) _
      refine XS.lload X0.here hx rfl (hb hby at_15) rfl ?_
      show Steps p.tables e below (s₁.setTop (mkF m 17 #[.val (.long q0), .second, .val (.long q1), .second, .val (.long q2), .second, .val (.long q3), .second, .val (.long q4), .second, .val (.int p5), .val (.long x11_7), .second, .val (.long x13_15), .second, .unset, .unset, .unset, .unset, .unset, .unset, .unset, .unset, .unset, .unset, .unset, .unset, .unset, .unset, .unset, .unset, .unset, .unset, .unset, .unset, .unset, .unset, .unset, .unset, .unset, .unset, .unset, .unset, .unset, .unset, .unset, .unset, .unset] [(.long q2)])) _
      refine XS.bipush X0.here hx rfl (hb hby at_17) ?_
      show Steps p.tables e below (s₁.setTop (mkF m 19 #[.val (.long q0), .second, .val (.long q1), .second, .val (.long q2), .second, .val (.long q3), .second, .val (.long q4), .second, .val (.int p5), .val (.long x11_7), .second, .val (.long x13_15), .second, .unset, .unset, .unset, .unset, .unset, .unset, .unset, .unset, .unset, .unset, .unset, .unset, .unset, .unset, .unset, .unset, .unset, .unset, .unset, .unset, .unset, .unset, .unset, .unset, .unset, .unset, .unset, .unset, .unset, .unset, .unset, .unset, .unset] [(.int (20 : Int32)), (.long q2)])) _
      refine XS.lushr X0.here hx rfl (hb hby at_19) rfl ?_
      show Steps p.tables e below (s₁.setTop (mkF m 20 #[.val (.long q0), .second, .val (.long q1), .second, .val (.long q2), .second, .val (.long q3), .second, .val (.long q4), .second, .val (.int p5), .val (.long x11_7), .second, .val (.long x13_15), .second, .unset, .unset, .unset, .unset, .unset, .unset, .unset, .unset, .unset, .unset, .unset, .unset, .unset, .unset, .unset, .unset, .unset, .unset, .unset, .unset, .unset, .unset, .unset, .unset, .unset, .unset, .unset, .unset, .unset, .unset, .unset, .unset, .unset] [(.long ((q2).toUInt64 >>> ((20 : Int32) &&& 0x3f).toInt64.toUInt64).toInt64)])) _
      refine X0.ldc2Long hx hown (mvT hZ (hw _ (List.mem_of_getElem? (i := 0) rfl))) (g := (mkF m 20 #[.val (.long q0), .second, .val (.long q1), .second, .val (.long q2), .second, .val (.long q3), .second, .val (.long q4), .second, .val (.int p5), .val (.long x11_7), .second, .val (.long x13_15), .second, .unset, .unset, .unset, .unset, .unset, .unset, .unset, .unset, .unset, .unset, .unset, .unset, .unset, .unset, .unset, .unset, .unset, .unset, .unset, .unset, .unset, .unset, .unset, .unset, .unset, .unset, .unset, .unset, .unset, .unset, .unset, .unset, .unset] [(.long ((q2).toUInt64 >>> ((20 : Int32) &&& 0x3f).toInt64.toUInt64).toInt64)])) rfl (hb hby at_20) _ ?_
      show Steps p.tables e below (s₁.setTop (mkF m 23 #[.val (.long q0), .second, .val (.long q1), .second, .val (.long q2), .second, .val (.long q3), .second, .val (.long q4), .second, .val (.int p5), .val (.long x11_7), .second, .val (.long x13_15), .second, .unset, .unset, .unset, .unset, .unset, .unset, .unset, .unset, .unset, .unset, .unset, .unset, .unset, .unset, .unset, .unset, .unset, .unset, .unset, .unset, .unset, .unset, .unset, .unset, .unset, .unset, .unset, .unset, .unset, .unset, .unset, .unset, .unset] [(.long (1099511627775 : Int64)), (.long ((q2).toUInt64 >>> ((20 : Int32) &&& 0x3f).toInt64.toUInt64).toInt64)])) _
      refine XS.land X0.here hx rfl (hb hby at_23) rfl ?_
      show Steps p.tables e below (s₁.setTop (mkF m 24 #[.val (.long q0), .second, .val (.long q1), .second, .val (.long q2), .second, .val (.long q3), .second, .val (.long q4), .second, .val (.int p5), .val (.long x11_7), .second, .val (.long x13_15), .second, .unset, .unset, .unset, .unset, .unset, .unset, .unset, .unset, .unset, .unset, .unset, .unset, .unset, .unset, .unset, .unset, .unset, .unset, .unset, .unset, .unset, .unset, .unset, .unset, .unset, .unset, .unset, .unset, .unset, .unset, .unset, .unset, .unset] [(.long (((q2).toUInt64 >>> ((20 : Int32) &&& 0x3f).toInt64.toUInt64).toInt64 &&& (1099511627775 : Int64)))])) _
      refine XS.lstore X0.here hx rfl (hb hby at_24) rfl (l' := #[.val (.long q0), .second, .val (.long q1), .second, .val (.long q2), .second, .val (.long q3), .second, .val (.long q4), .second, .val (.int p5), .val (.long x11_7), .second, .val (.long x13_15), .second, .val (.long (((q2).toUInt64 >>> ((20 : Int32) &&& 0x3f).toInt64.toUInt64).toInt64 &&& (1099511627775 : Int64))), .second, .unset, .unset, .unset, .unset, .unset, .unset, .unset, .unset, .unset, .unset, .unset, .unset, .unset, .unset, .unset, .unset, .unset, .unset, .unset, .unset, .unset, .unset, .unset, .unset, .unset, .unset, .unset, .unset, .unset, .unset, .unset]) rfl ?_
      exact k)⟩
  obtain ⟨x17_34, hx17_34, pre4⟩ : ∃ z : Int64, z = (q3 &&& (1099511627775 : Int64)) ∧ own_Pre p e below (s₁.setTop (entryFrame m #[(.long q0), (.long q1), (.long q2), (.long q3), (.long q4), (.int p5)] maxLocals)) (s₁.setTop (mkF m 34 #[.val (.long q0), .second, .val (.long q1), .second, .val (.long q2), .second, .val (.long q3), .second, .val (.long q4), .second, .val (.int p5), .val (.long x11_7), .second, .val (.long x13_15), .second, .val (.long x15_26), .second, .val (.long z), .second, .unset, .unset, .unset, .unset, .unset, .unset, .unset, .unset, .unset, .unset, .unset, .unset, .unset, .unset, .unset, .unset, .unset, .unset, .unset, .unset, .unset, .unset, .unset, .unset, .unset, .unset, .unset, .unset, .unset] [])) := ⟨_, rfl, fun t k => pre3 t (by
      show Steps p.tables e below (s₁.setTop (mkF m 26 #[.val (.long q0), .second, .val (.long q1), .second, .val (.long q2), .second, .val (.long q3), .second, .val (.long q4), .second, .val (.int p5), .val (.long x11_7), .second, .val (.long x13_15), .second, .val (.long x15_26), .second, .unset, .unset, .unset, .unset, .unset, .unset, .unset, .unset, .unset, .unset, .unset, .unset, .unset, .unset, .unset, .unset, .unset, .unset, .unset, .unset, .unset, .unset, .unset, .unset, .unset, .unset, .unset, .unset, .unset, .unset, .unset] [])) _
      refine XS.lload X0.here hx rfl (hb hby at_26) rfl ?_
      show Steps p.tables e below (s₁.setTop (mkF m 28 #[.val (.long q0), .second, .val (.long q1), .second, .val (.long q2), .second, .val (.long q3), .second, .val (.long q4), .second, .val (.int p5), .val (.long x11_7), .second, .val (.long x13_15), .second, .val (.long x15_26), .second, .unset, .unset, .unset, .unset, .unset, .unset, .unset, .unset, .unset, .unset, .unset, .unset, .unset, .unset, .unset, .unset, .unset, .unset, .unset, .unset, .unset, .unset, .unset, .unset, .unset, .unset, .unset, .unset, .unset, .unset, .unset] [(.long q3)])) _
      refine X0.ldc2Long hx hown (mvT hZ (hw _ (List.mem_of_getElem? (i := 0) rfl))) (g := (mkF m 28 #[.val (.long q0), .second, .val (.long q1), .second, .val (.long q2), .second, .val (.long q3), .second, .val (.long q4), .second, .val (.int p5), .val (.long x11_7), .second, .val (.long x13_15), .second, .val (.long x15_26), .second, .unset, .unset, .unset, .unset, .unset, .unset, .unset, .unset, .unset, .unset, .unset, .unset, .unset, .unset, .unset, .unset, .unset, .unset, .unset, .unset, .unset, .unset, .unset, .unset, .unset, .unset, .unset, .unset, .unset, .unset, .unset] [(.long q3)])) rfl (hb hby at_28) _ ?_
      show Steps p.tables e below (s₁.setTop (mkF m 31 #[.val (.long q0), .second, .val (.long q1), .second, .val (.long q2), .second, .val (.long q3), .second, .val (.long q4), .second, .val (.int p5), .val (.long x11_7), .second, .val (.long x13_15), .second, .val (.long x15_26), .second, .unset, .unset, .unset, .unset, .unset, .unset, .unset, .unset, .unset, .unset, .unset, .unset, .unset, .unset, .unset, .unset, .unset, .unset, .unset, .unset, .unset, .unset, .unset, .unset, .unset, .unset, .unset, .unset, .unset, .unset, .unset] [(.long (1099511627775 : Int64)), (.long q3)])) _
      refine XS.land X0.here hx rfl (hb hby at_31) rfl ?_
      show Steps p.tables e below (s₁.setTop (mkF m 32 #[.val (.long q0), .second, .val (.long q1), .second, .val (.long q2), .second, .val (.long q3), .second, .val (.long q4), .second, .val (.int p5), .val (.long x11_7), .second, .val (.long x13_15), .second, .val (.long x15_26), .second, .unset, .unset, .unset, .unset, .unset, .unset, .unset, .unset, .unset, .unset, .unset, .unset, .unset, .unset, .unset, .unset, .unset, .unset, .unset, .unset, .unset, .unset, .unset, .unset, .unset, .unset, .unset, .unset, .unset, .unset, .unset] [(.long (q3 &&& (1099511627775 : Int64)))])) _
      refine XS.lstore X0.here hx rfl (hb hby at_32) rfl (l' := #[.val (.long q0), .second, .val (.long q1), .second, .val (.long q2), .second, .val (.long q3), .second, .val (.long q4), .second, .val (.int p5), .val (.long x11_7), .second, .val (.long x13_15), .second, .val (.long x15_26), .second, .val (.long (q3 &&& (1099511627775 : Int64))), .second, .unset, .unset, .unset, .unset, .unset, .unset, .unset, .unset, .unset, .unset, .unset, .unset, .unset, .unset, .unset, .unset, .unset, .unset, .unset, .unset, .unset, .unset, .unset, .unset, .unset, .unset, .unset, .unset, .unset]) rfl ?_
      exact k)⟩
  obtain ⟨x19_42, hx19_42, pre5⟩ : ∃ z : Int64, z = (q4 &&& (1099511627775 : Int64)) ∧ own_Pre p e below (s₁.setTop (entryFrame m #[(.long q0), (.long q1), (.long q2), (.long q3), (.long q4), (.int p5)] maxLocals)) (s₁.setTop (mkF m 42 #[.val (.long q0), .second, .val (.long q1), .second, .val (.long q2), .second, .val (.long q3), .second, .val (.long q4), .second, .val (.int p5), .val (.long x11_7), .second, .val (.long x13_15), .second, .val (.long x15_26), .second, .val (.long x17_34), .second, .val (.long z), .second, .unset, .unset, .unset, .unset, .unset, .unset, .unset, .unset, .unset, .unset, .unset, .unset, .unset, .unset, .unset, .unset, .unset, .unset, .unset, .unset, .unset, .unset, .unset, .unset, .unset, .unset, .unset] [])) := ⟨_, rfl, fun t k => pre4 t (by
      show Steps p.tables e below (s₁.setTop (mkF m 34 #[.val (.long q0), .second, .val (.long q1), .second, .val (.long q2), .second, .val (.long q3), .second, .val (.long q4), .second, .val (.int p5), .val (.long x11_7), .second, .val (.long x13_15), .second, .val (.long x15_26), .second, .val (.long x17_34), .second, .unset, .unset, .unset, .unset, .unset, .unset, .unset, .unset, .unset, .unset, .unset, .unset, .unset, .unset, .unset, .unset, .unset, .unset, .unset, .unset, .unset, .unset, .unset, .unset, .unset, .unset, .unset, .unset, .unset] [])) _
      refine XS.lload X0.here hx rfl (hb hby at_34) rfl ?_
      show Steps p.tables e below (s₁.setTop (mkF m 36 #[.val (.long q0), .second, .val (.long q1), .second, .val (.long q2), .second, .val (.long q3), .second, .val (.long q4), .second, .val (.int p5), .val (.long x11_7), .second, .val (.long x13_15), .second, .val (.long x15_26), .second, .val (.long x17_34), .second, .unset, .unset, .unset, .unset, .unset, .unset, .unset, .unset, .unset, .unset, .unset, .unset, .unset, .unset, .unset, .unset, .unset, .unset, .unset, .unset, .unset, .unset, .unset, .unset, .unset, .unset, .unset, .unset, .unset] [(.long q4)])) _
      refine X0.ldc2Long hx hown (mvT hZ (hw _ (List.mem_of_getElem? (i := 0) rfl))) (g := (mkF m 36 #[.val (.long q0), .second, .val (.long q1), .second, .val (.long q2), .second, .val (.long q3), .second, .val (.long q4), .second, .val (.int p5), .val (.long x11_7), .second, .val (.long x13_15), .second, .val (.long x15_26), .second, .val (.long x17_34), .second, .unset, .unset, .unset, .unset, .unset, .unset, .unset, .unset, .unset, .unset, .unset, .unset, .unset, .unset, .unset, .unset, .unset, .unset, .unset, .unset, .unset, .unset, .unset, .unset, .unset, .unset, .unset, .unset, .unset] [(.long q4)])) rfl (hb hby at_36) _ ?_
      show Steps p.tables e below (s₁.setTop (mkF m 39 #[.val (.long q0), .second, .val (.long q1), .second, .val (.long q2), .second, .val (.long q3), .second, .val (.long q4), .second, .val (.int p5), .val (.long x11_7), .second, .val (.long x13_15), .second, .val (.long x15_26), .second, .val (.long x17_34), .second, .unset, .unset, .unset, .unset, .unset, .unset, .unset, .unset, .unset, .unset, .unset, .unset, .unset, .unset, .unset, .unset, .unset, .unset, .unset, .unset, .unset, .unset, .unset, .unset, .unset, .unset, .unset, .unset, .unset] [(.long (1099511627775 : Int64)), (.long q4)])) _
      refine XS.land X0.here hx rfl (hb hby at_39) rfl ?_
      show Steps p.tables e below (s₁.setTop (mkF m 40 #[.val (.long q0), .second, .val (.long q1), .second, .val (.long q2), .second, .val (.long q3), .second, .val (.long q4), .second, .val (.int p5), .val (.long x11_7), .second, .val (.long x13_15), .second, .val (.long x15_26), .second, .val (.long x17_34), .second, .unset, .unset, .unset, .unset, .unset, .unset, .unset, .unset, .unset, .unset, .unset, .unset, .unset, .unset, .unset, .unset, .unset, .unset, .unset, .unset, .unset, .unset, .unset, .unset, .unset, .unset, .unset, .unset, .unset] [(.long (q4 &&& (1099511627775 : Int64)))])) _
      refine XS.lstore X0.here hx rfl (hb hby at_40) rfl (l' := #[.val (.long q0), .second, .val (.long q1), .second, .val (.long q2), .second, .val (.long q3), .second, .val (.long q4), .second, .val (.int p5), .val (.long x11_7), .second, .val (.long x13_15), .second, .val (.long x15_26), .second, .val (.long x17_34), .second, .val (.long (q4 &&& (1099511627775 : Int64))), .second, .unset, .unset, .unset, .unset, .unset, .unset, .unset, .unset, .unset, .unset, .unset, .unset, .unset, .unset, .unset, .unset, .unset, .unset, .unset, .unset, .unset, .unset, .unset, .unset, .unset, .unset, .unset]) rfl ?_
      exact k)⟩
  obtain ⟨x21_51, hx21_51, pre6⟩ : ∃ z : Int64, z = ((p5).toInt64 &&& (2147483647 : Int64)) ∧ own_Pre p e below (s₁.setTop (entryFrame m #[(.long q0), (.long q1), (.long q2), (.long q3), (.long q4), (.int p5)] maxLocals)) (s₁.setTop (mkF m 51 #[.val (.long q0), .second, .val (.long q1), .second, .val (.long q2), .second, .val (.long q3), .second, .val (.long q4), .second, .val (.int p5), .val (.long x11_7), .second, .val (.long x13_15), .second, .val (.long x15_26), .second, .val (.long x17_34), .second, .val (.long x19_42), .second, .val (.long z), .second, .unset, .unset, .unset, .unset, .unset, .unset, .unset, .unset, .unset, .unset, .unset, .unset, .unset, .unset, .unset, .unset, .unset, .unset, .unset, .unset, .unset, .unset, .unset, .unset, .unset] [])) := ⟨_, rfl, fun t k => pre5 t (by
      show Steps p.tables e below (s₁.setTop (mkF m 42 #[.val (.long q0), .second, .val (.long q1), .second, .val (.long q2), .second, .val (.long q3), .second, .val (.long q4), .second, .val (.int p5), .val (.long x11_7), .second, .val (.long x13_15), .second, .val (.long x15_26), .second, .val (.long x17_34), .second, .val (.long x19_42), .second, .unset, .unset, .unset, .unset, .unset, .unset, .unset, .unset, .unset, .unset, .unset, .unset, .unset, .unset, .unset, .unset, .unset, .unset, .unset, .unset, .unset, .unset, .unset, .unset, .unset, .unset, .unset] [])) _
      refine XS.iload X0.here hx rfl (hb hby at_42) rfl ?_
      show Steps p.tables e below (s₁.setTop (mkF m 44 #[.val (.long q0), .second, .val (.long q1), .second, .val (.long q2), .second, .val (.long q3), .second, .val (.long q4), .second, .val (.int p5), .val (.long x11_7), .second, .val (.long x13_15), .second, .val (.long x15_26), .second, .val (.long x17_34), .second, .val (.long x19_42), .second, .unset, .unset, .unset, .unset, .unset, .unset, .unset, .unset, .unset, .unset, .unset, .unset, .unset, .unset, .unset, .unset, .unset, .unset, .unset, .unset, .unset, .unset, .unset, .unset, .unset, .unset, .unset] [(.int p5)])) _
      refine XS.i2l X0.here hx rfl (hb hby at_44) rfl ?_
      show Steps p.tables e below (s₁.setTop (mkF m 45 #[.val (.long q0), .second, .val (.long q1), .second, .val (.long q2), .second, .val (.long q3), .second, .val (.long q4), .second, .val (.int p5), .val (.long x11_7), .second, .val (.long x13_15), .second, .val (.long x15_26), .second, .val (.long x17_34), .second, .val (.long x19_42), .second, .unset, .unset, .unset, .unset, .unset, .unset, .unset, .unset, .unset, .unset, .unset, .unset, .unset, .unset, .unset, .unset, .unset, .unset, .unset, .unset, .unset, .unset, .unset, .unset, .unset, .unset, .unset] [(.long (p5).toInt64)])) _
      refine X0.ldc2Long hx hown (mvT hZ (hw _ (List.mem_of_getElem? (i := 2) rfl))) (g := (mkF m 45 #[.val (.long q0), .second, .val (.long q1), .second, .val (.long q2), .second, .val (.long q3), .second, .val (.long q4), .second, .val (.int p5), .val (.long x11_7), .second, .val (.long x13_15), .second, .val (.long x15_26), .second, .val (.long x17_34), .second, .val (.long x19_42), .second, .unset, .unset, .unset, .unset, .unset, .unset, .unset, .unset, .unset, .unset, .unset, .unset, .unset, .unset, .unset, .unset, .unset, .unset, .unset, .unset, .unset, .unset, .unset, .unset, .unset, .unset, .unset] [(.long (p5).toInt64)])) rfl (hb hby at_45) _ ?_
      show Steps p.tables e below (s₁.setTop (mkF m 48 #[.val (.long q0), .second, .val (.long q1), .second, .val (.long q2), .second, .val (.long q3), .second, .val (.long q4), .second, .val (.int p5), .val (.long x11_7), .second, .val (.long x13_15), .second, .val (.long x15_26), .second, .val (.long x17_34), .second, .val (.long x19_42), .second, .unset, .unset, .unset, .unset, .unset, .unset, .unset, .unset, .unset, .unset, .unset, .unset, .unset, .unset, .unset, .unset, .unset, .unset, .unset, .unset, .unset, .unset, .unset, .unset, .unset, .unset, .unset] [(.long (2147483647 : Int64)), (.long (p5).toInt64)])) _
      refine XS.land X0.here hx rfl (hb hby at_48) rfl ?_
      show Steps p.tables e below (s₁.setTop (mkF m 49 #[.val (.long q0), .second, .val (.long q1), .second, .val (.long q2), .second, .val (.long q3), .second, .val (.long q4), .second, .val (.int p5), .val (.long x11_7), .second, .val (.long x13_15), .second, .val (.long x15_26), .second, .val (.long x17_34), .second, .val (.long x19_42), .second, .unset, .unset, .unset, .unset, .unset, .unset, .unset, .unset, .unset, .unset, .unset, .unset, .unset, .unset, .unset, .unset, .unset, .unset, .unset, .unset, .unset, .unset, .unset, .unset, .unset, .unset, .unset] [(.long ((p5).toInt64 &&& (2147483647 : Int64)))])) _
      refine XS.lstore X0.here hx rfl (hb hby at_49) rfl (l' := #[.val (.long q0), .second, .val (.long q1), .second, .val (.long q2), .second, .val (.long q3), .second, .val (.long q4), .second, .val (.int p5), .val (.long x11_7), .second, .val (.long x13_15), .second, .val (.long x15_26), .second, .val (.long x17_34), .second, .val (.long x19_42), .second, .val (.long ((p5).toInt64 &&& (2147483647 : Int64))), .second, .unset, .unset, .unset, .unset, .unset, .unset, .unset, .unset, .unset, .unset, .unset, .unset, .unset, .unset, .unset, .unset, .unset, .unset, .unset, .unset, .unset, .unset, .unset, .unset, .unset]) rfl ?_
      exact k)⟩
  obtain ⟨x23_57, hx23_57, pre7⟩ : ∃ z : Int64, z = (q1 + x13_15) ∧ own_Pre p e below (s₁.setTop (entryFrame m #[(.long q0), (.long q1), (.long q2), (.long q3), (.long q4), (.int p5)] maxLocals)) (s₁.setTop (mkF m 57 #[.val (.long q0), .second, .val (.long q1), .second, .val (.long q2), .second, .val (.long q3), .second, .val (.long q4), .second, .val (.int p5), .val (.long x11_7), .second, .val (.long x13_15), .second, .val (.long x15_26), .second, .val (.long x17_34), .second, .val (.long x19_42), .second, .val (.long x21_51), .second, .val (.long z), .second, .unset, .unset, .unset, .unset, .unset, .unset, .unset, .unset, .unset, .unset, .unset, .unset, .unset, .unset, .unset, .unset, .unset, .unset, .unset, .unset, .unset, .unset, .unset] [])) := ⟨_, rfl, fun t k => pre6 t (by
      show Steps p.tables e below (s₁.setTop (mkF m 51 #[.val (.long q0), .second, .val (.long q1), .second, .val (.long q2), .second, .val (.long q3), .second, .val (.long q4), .second, .val (.int p5), .val (.long x11_7), .second, .val (.long x13_15), .second, .val (.long x15_26), .second, .val (.long x17_34), .second, .val (.long x19_42), .second, .val (.long x21_51), .second, .unset, .unset, .unset, .unset, .unset, .unset, .unset, .unset, .unset, .unset, .unset, .unset, .unset, .unset, .unset, .unset, .unset, .unset, .unset, .unset, .unset, .unset, .unset, .unset, .unset] [])) _
      refine XS.lloadN X0.here hx rfl (hb hby at_51) rfl ?_
      show Steps p.tables e below (s₁.setTop (mkF m 52 #[.val (.long q0), .second, .val (.long q1), .second, .val (.long q2), .second, .val (.long q3), .second, .val (.long q4), .second, .val (.int p5), .val (.long x11_7), .second, .val (.long x13_15), .second, .val (.long x15_26), .second, .val (.long x17_34), .second, .val (.long x19_42), .second, .val (.long x21_51), .second, .unset, .unset, .unset, .unset, .unset, .unset, .unset, .unset, .unset, .unset, .unset, .unset, .unset, .unset, .unset, .unset, .unset, .unset, .unset, .unset, .unset, .unset, .unset, .unset, .unset] [(.long q1)])) _
      refine XS.lload X0.here hx rfl (hb hby at_52) rfl ?_
      show Steps p.tables e below (s₁.setTop (mkF m 54 #[.val (.long q0), .second, .val (.long q1), .second, .val (.long q2), .second, .val (.long q3), .second, .val (.long q4), .second, .val (.int p5), .val (.long x11_7), .second, .val (.long x13_15), .second, .val (.long x15_26), .second, .val (.long x17_34), .second, .val (.long x19_42), .second, .val (.long x21_51), .second, .unset, .unset, .unset, .unset, .unset, .unset, .unset, .unset, .unset, .unset, .unset, .unset, .unset, .unset, .unset, .unset, .unset, .unset, .unset, .unset, .unset, .unset, .unset, .unset, .unset] [(.long x13_15), (.long q1)])) _
      refine XS.ladd X0.here hx rfl (hb hby at_54) rfl ?_
      show Steps p.tables e below (s₁.setTop (mkF m 55 #[.val (.long q0), .second, .val (.long q1), .second, .val (.long q2), .second, .val (.long q3), .second, .val (.long q4), .second, .val (.int p5), .val (.long x11_7), .second, .val (.long x13_15), .second, .val (.long x15_26), .second, .val (.long x17_34), .second, .val (.long x19_42), .second, .val (.long x21_51), .second, .unset, .unset, .unset, .unset, .unset, .unset, .unset, .unset, .unset, .unset, .unset, .unset, .unset, .unset, .unset, .unset, .unset, .unset, .unset, .unset, .unset, .unset, .unset, .unset, .unset] [(.long (q1 + x13_15))])) _
      refine XS.lstore X0.here hx rfl (hb hby at_55) rfl (l' := #[.val (.long q0), .second, .val (.long q1), .second, .val (.long q2), .second, .val (.long q3), .second, .val (.long q4), .second, .val (.int p5), .val (.long x11_7), .second, .val (.long x13_15), .second, .val (.long x15_26), .second, .val (.long x17_34), .second, .val (.long x19_42), .second, .val (.long x21_51), .second, .val (.long (q1 + x13_15)), .second, .unset, .unset, .unset, .unset, .unset, .unset, .unset, .unset, .unset, .unset, .unset, .unset, .unset, .unset, .unset, .unset, .unset, .unset, .unset, .unset, .unset, .unset, .unset]) rfl ?_
      exact k)⟩
  obtain ⟨x25_64, hx25_64, pre8⟩ : ∃ z : Int64, z = (x23_57 + x17_34) ∧ own_Pre p e below (s₁.setTop (entryFrame m #[(.long q0), (.long q1), (.long q2), (.long q3), (.long q4), (.int p5)] maxLocals)) (s₁.setTop (mkF m 64 #[.val (.long q0), .second, .val (.long q1), .second, .val (.long q2), .second, .val (.long q3), .second, .val (.long q4), .second, .val (.int p5), .val (.long x11_7), .second, .val (.long x13_15), .second, .val (.long x15_26), .second, .val (.long x17_34), .second, .val (.long x19_42), .second, .val (.long x21_51), .second, .val (.long x23_57), .second, .val (.long z), .second, .unset, .unset, .unset, .unset, .unset, .unset, .unset, .unset, .unset, .unset, .unset, .unset, .unset, .unset, .unset, .unset, .unset, .unset, .unset, .unset, .unset] [])) := ⟨_, rfl, fun t k => pre7 t (by
      show Steps p.tables e below (s₁.setTop (mkF m 57 #[.val (.long q0), .second, .val (.long q1), .second, .val (.long q2), .second, .val (.long q3), .second, .val (.long q4), .second, .val (.int p5), .val (.long x11_7), .second, .val (.long x13_15), .second, .val (.long x15_26), .second, .val (.long x17_34), .second, .val (.long x19_42), .second, .val (.long x21_51), .second, .val (.long x23_57), .second, .unset, .unset, .unset, .unset, .unset, .unset, .unset, .unset, .unset, .unset, .unset, .unset, .unset, .unset, .unset, .unset, .unset, .unset, .unset, .unset, .unset, .unset, .unset] [])) _
      refine XS.lload X0.here hx rfl (hb hby at_57) rfl ?_
      show Steps p.tables e below (s₁.setTop (mkF m 59 #[.val (.long q0), .second, .val (.long q1), .second, .val (.long q2), .second, .val (.long q3), .second, .val (.long q4), .second, .val (.int p5), .val (.long x11_7), .second, .val (.long x13_15), .second, .val (.long x15_26), .second, .val (.long x17_34), .second, .val (.long x19_42), .second, .val (.long x21_51), .second, .val (.long x23_57), .second, .unset, .unset, .unset, .unset, .unset, .unset, .unset, .unset, .unset, .unset, .unset, .unset, .unset, .unset, .unset, .unset, .unset, .unset, .unset, .unset, .unset, .unset, .unset] [(.long x23_57)])) _
      refine XS.lload X0.here hx rfl (hb hby at_59) rfl ?_
      show Steps p.tables e below (s₁.setTop (mkF m 61 #[.val (.long q0), .second, .val (.long q1), .second, .val (.long q2), .second, .val (.long q3), .second, .val (.long q4), .second, .val (.int p5), .val (.long x11_7), .second, .val (.long x13_15), .second, .val (.long x15_26), .second, .val (.long x17_34), .second, .val (.long x19_42), .second, .val (.long x21_51), .second, .val (.long x23_57), .second, .unset, .unset, .unset, .unset, .unset, .unset, .unset, .unset, .unset, .unset, .unset, .unset, .unset, .unset, .unset, .unset, .unset, .unset, .unset, .unset, .unset, .unset, .unset] [(.long x17_34), (.long x23_57)])) _
      refine XS.ladd X0.here hx rfl (hb hby at_61) rfl ?_
      show Steps p.tables e below (s₁.setTop (mkF m 62 #[.val (.long q0), .second, .val (.long q1), .second, .val (.long q2), .second, .val (.long q3), .second, .val (.long q4), .second, .val (.int p5), .val (.long x11_7), .second, .val (.long x13_15), .second, .val (.long x15_26), .second, .val (.long x17_34), .second, .val (.long x19_42), .second, .val (.long x21_51), .second, .val (.long x23_57), .second, .unset, .unset, .unset, .unset, .unset, .unset, .unset, .unset, .unset, .unset, .unset, .unset, .unset, .unset, .unset, .unset, .unset, .unset, .unset, .unset, .unset, .unset, .unset] [(.long (x23_57 + x17_34))])) _
      refine XS.lstore X0.here hx rfl (hb hby at_62) rfl (l' := #[.val (.long q0), .second, .val (.long q1), .second, .val (.long q2), .second, .val (.long q3), .second, .val (.long q4), .second, .val (.int p5), .val (.long x11_7), .second, .val (.long x13_15), .second, .val (.long x15_26), .second, .val (.long x17_34), .second, .val (.long x19_42), .second, .val (.long x21_51), .second, .val (.long x23_57), .second, .val (.long (x23_57 + x17_34)), .second, .unset, .unset, .unset, .unset, .unset, .unset, .unset, .unset, .unset, .unset, .unset, .unset, .unset, .unset, .unset, .unset, .unset, .unset, .unset, .unset, .unset]) rfl ?_
      exact k)⟩
  obtain ⟨x27_71, hx27_71, pre9⟩ : ∃ z : Int64, z = (x25_64 + x19_42) ∧ own_Pre p e below (s₁.setTop (entryFrame m #[(.long q0), (.long q1), (.long q2), (.long q3), (.long q4), (.int p5)] maxLocals)) (s₁.setTop (mkF m 71 #[.val (.long q0), .second, .val (.long q1), .second, .val (.long q2), .second, .val (.long q3), .second, .val (.long q4), .second, .val (.int p5), .val (.long x11_7), .second, .val (.long x13_15), .second, .val (.long x15_26), .second, .val (.long x17_34), .second, .val (.long x19_42), .second, .val (.long x21_51), .second, .val (.long x23_57), .second, .val (.long x25_64), .second, .val (.long z), .second, .unset, .unset, .unset, .unset, .unset, .unset, .unset, .unset, .unset, .unset, .unset, .unset, .unset, .unset, .unset, .unset, .unset, .unset, .unset] [])) := ⟨_, rfl, fun t k => pre8 t (by
      show Steps p.tables e below (s₁.setTop (mkF m 64 #[.val (.long q0), .second, .val (.long q1), .second, .val (.long q2), .second, .val (.long q3), .second, .val (.long q4), .second, .val (.int p5), .val (.long x11_7), .second, .val (.long x13_15), .second, .val (.long x15_26), .second, .val (.long x17_34), .second, .val (.long x19_42), .second, .val (.long x21_51), .second, .val (.long x23_57), .second, .val (.long x25_64), .second, .unset, .unset, .unset, .unset, .unset, .unset, .unset, .unset, .unset, .unset, .unset, .unset, .unset, .unset, .unset, .unset, .unset, .unset, .unset, .unset, .unset] [])) _
      refine XS.lload X0.here hx rfl (hb hby at_64) rfl ?_
      show Steps p.tables e below (s₁.setTop (mkF m 66 #[.val (.long q0), .second, .val (.long q1), .second, .val (.long q2), .second, .val (.long q3), .second, .val (.long q4), .second, .val (.int p5), .val (.long x11_7), .second, .val (.long x13_15), .second, .val (.long x15_26), .second, .val (.long x17_34), .second, .val (.long x19_42), .second, .val (.long x21_51), .second, .val (.long x23_57), .second, .val (.long x25_64), .second, .unset, .unset, .unset, .unset, .unset, .unset, .unset, .unset, .unset, .unset, .unset, .unset, .unset, .unset, .unset, .unset, .unset, .unset, .unset, .unset, .unset] [(.long x25_64)])) _
      refine XS.lload X0.here hx rfl (hb hby at_66) rfl ?_
      show Steps p.tables e below (s₁.setTop (mkF m 68 #[.val (.long q0), .second, .val (.long q1), .second, .val (.long q2), .second, .val (.long q3), .second, .val (.long q4), .second, .val (.int p5), .val (.long x11_7), .second, .val (.long x13_15), .second, .val (.long x15_26), .second, .val (.long x17_34), .second, .val (.long x19_42), .second, .val (.long x21_51), .second, .val (.long x23_57), .second, .val (.long x25_64), .second, .unset, .unset, .unset, .unset, .unset, .unset, .unset, .unset, .unset, .unset, .unset, .unset, .unset, .unset, .unset, .unset, .unset, .unset, .unset, .unset, .unset] [(.long x19_42), (.long x25_64)])) _
      refine XS.ladd X0.here hx rfl (hb hby at_68) rfl ?_
      show Steps p.tables e below (s₁.setTop (mkF m 69 #[.val (.long q0), .second, .val (.long q1), .second, .val (.long q2), .second, .val (.long q3), .second, .val (.long q4), .second, .val (.int p5), .val (.long x11_7), .second, .val (.long x13_15), .second, .val (.long x15_26), .second, .val (.long x17_34), .second, .val (.long x19_42), .second, .val (.long x21_51), .second, .val (.long x23_57), .second, .val (.long x25_64), .second, .unset, .unset, .unset, .unset, .unset, .unset, .unset, .unset, .unset, .unset, .unset, .unset, .unset, .unset, .unset, .unset, .unset, .unset, .unset, .unset, .unset] [(.long (x25_64 + x19_42))])) _
      refine XS.lstore X0.here hx rfl (hb hby at_69) rfl (l' := #[.val (.long q0), .second, .val (.long q1), .second, .val (.long q2), .second, .val (.long q3), .second, .val (.long q4), .second, .val (.int p5), .val (.long x11_7), .second, .val (.long x13_15), .second, .val (.long x15_26), .second, .val (.long x17_34), .second, .val (.long x19_42), .second, .val (.long x21_51), .second, .val (.long x23_57), .second, .val (.long x25_64), .second, .val (.long (x25_64 + x19_42)), .second, .unset, .unset, .unset, .unset, .unset, .unset, .unset, .unset, .unset, .unset, .unset, .unset, .unset, .unset, .unset, .unset, .unset, .unset, .unset]) rfl ?_
      exact k)⟩
  obtain ⟨x29_78, hx29_78, pre10⟩ : ∃ z : Int64, z = (x27_71 + x15_26) ∧ own_Pre p e below (s₁.setTop (entryFrame m #[(.long q0), (.long q1), (.long q2), (.long q3), (.long q4), (.int p5)] maxLocals)) (s₁.setTop (mkF m 78 #[.val (.long q0), .second, .val (.long q1), .second, .val (.long q2), .second, .val (.long q3), .second, .val (.long q4), .second, .val (.int p5), .val (.long x11_7), .second, .val (.long x13_15), .second, .val (.long x15_26), .second, .val (.long x17_34), .second, .val (.long x19_42), .second, .val (.long x21_51), .second, .val (.long x23_57), .second, .val (.long x25_64), .second, .val (.long x27_71), .second, .val (.long z), .second, .unset, .unset, .unset, .unset, .unset, .unset, .unset, .unset, .unset, .unset, .unset, .unset, .unset, .unset, .unset, .unset, .unset] [])) := ⟨_, rfl, fun t k => pre9 t (by
      show Steps p.tables e below (s₁.setTop (mkF m 71 #[.val (.long q0), .second, .val (.long q1), .second, .val (.long q2), .second, .val (.long q3), .second, .val (.long q4), .second, .val (.int p5), .val (.long x11_7), .second, .val (.long x13_15), .second, .val (.long x15_26), .second, .val (.long x17_34), .second, .val (.long x19_42), .second, .val (.long x21_51), .second, .val (.long x23_57), .second, .val (.long x25_64), .second, .val (.long x27_71), .second, .unset, .unset, .unset, .unset, .unset, .unset, .unset, .unset, .unset, .unset, .unset, .unset, .unset, .unset, .unset, .unset, .unset, .unset, .unset] [])) _
      refine XS.lload X0.here hx rfl (hb hby at_71) rfl ?_
      show Steps p.tables e below (s₁.setTop (mkF m 73 #[.val (.long q0), .second, .val (.long q1), .second, .val (.long q2), .second, .val (.long q3), .second, .val (.long q4), .second, .val (.int p5), .val (.long x11_7), .second, .val (.long x13_15), .second, .val (.long x15_26), .second, .val (.long x17_34), .second, .val (.long x19_42), .second, .val (.long x21_51), .second, .val (.long x23_57), .second, .val (.long x25_64), .second, .val (.long x27_71), .second, .unset, .unset, .unset, .unset, .unset, .unset, .unset, .unset, .unset, .unset, .unset, .unset, .unset, .unset, .unset, .unset, .unset, .unset, .unset] [(.long x27_71)])) _
      refine XS.lload X0.here hx rfl (hb hby at_73) rfl ?_
      show Steps p.tables e below (s₁.setTop (mkF m 75 #[.val (.long q0), .second, .val (.long q1), .second, .val (.long q2), .second, .val (.long q3), .second, .val (.long q4), .second, .val (.int p5), .val (.long x11_7), .second, .val (.long x13_15), .second, .val (.long x15_26), .second, .val (.long x17_34), .second, .val (.long x19_42), .second, .val (.long x21_51), .second, .val (.long x23_57), .second, .val (.long x25_64), .second, .val (.long x27_71), .second, .unset, .unset, .unset, .unset, .unset, .unset, .unset, .unset, .unset, .unset, .unset, .unset, .unset, .unset, .unset, .unset, .unset, .unset, .unset] [(.long x15_26), (.long x27_71)])) _
      refine XS.ladd X0.here hx rfl (hb hby at_75) rfl ?_
      show Steps p.tables e below (s₁.setTop (mkF m 76 #[.val (.long q0), .second, .val (.long q1), .second, .val (.long q2), .second, .val (.long q3), .second, .val (.long q4), .second, .val (.int p5), .val (.long x11_7), .second, .val (.long x13_15), .second, .val (.long x15_26), .second, .val (.long x17_34), .second, .val (.long x19_42), .second, .val (.long x21_51), .second, .val (.long x23_57), .second, .val (.long x25_64), .second, .val (.long x27_71), .second, .unset, .unset, .unset, .unset, .unset, .unset, .unset, .unset, .unset, .unset, .unset, .unset, .unset, .unset, .unset, .unset, .unset, .unset, .unset] [(.long (x27_71 + x15_26))])) _
      refine XS.lstore X0.here hx rfl (hb hby at_76) rfl (l' := #[.val (.long q0), .second, .val (.long q1), .second, .val (.long q2), .second, .val (.long q3), .second, .val (.long q4), .second, .val (.int p5), .val (.long x11_7), .second, .val (.long x13_15), .second, .val (.long x15_26), .second, .val (.long x17_34), .second, .val (.long x19_42), .second, .val (.long x21_51), .second, .val (.long x23_57), .second, .val (.long x25_64), .second, .val (.long x27_71), .second, .val (.long (x27_71 + x15_26)), .second, .unset, .unset, .unset, .unset, .unset, .unset, .unset, .unset, .unset, .unset, .unset, .unset, .unset, .unset, .unset, .unset, .unset]) rfl ?_
      exact k)⟩
  obtain ⟨x31_85, hx31_85, pre11⟩ : ∃ z : Int64, z = (x29_78 + x21_51) ∧ own_Pre p e below (s₁.setTop (entryFrame m #[(.long q0), (.long q1), (.long q2), (.long q3), (.long q4), (.int p5)] maxLocals)) (s₁.setTop (mkF m 85 #[.val (.long q0), .second, .val (.long q1), .second, .val (.long q2), .second, .val (.long q3), .second, .val (.long q4), .second, .val (.int p5), .val (.long x11_7), .second, .val (.long x13_15), .second, .val (.long x15_26), .second, .val (.long x17_34), .second, .val (.long x19_42), .second, .val (.long x21_51), .second, .val (.long x23_57), .second, .val (.long x25_64), .second, .val (.long x27_71), .second, .val (.long x29_78), .second, .val (.long z), .second, .unset, .unset, .unset, .unset, .unset, .unset, .unset, .unset, .unset, .unset, .unset, .unset, .unset, .unset, .unset] [])) := ⟨_, rfl, fun t k => pre10 t (by
      show Steps p.tables e below (s₁.setTop (mkF m 78 #[.val (.long q0), .second, .val (.long q1), .second, .val (.long q2), .second, .val (.long q3), .second, .val (.long q4), .second, .val (.int p5), .val (.long x11_7), .second, .val (.long x13_15), .second, .val (.long x15_26), .second, .val (.long x17_34), .second, .val (.long x19_42), .second, .val (.long x21_51), .second, .val (.long x23_57), .second, .val (.long x25_64), .second, .val (.long x27_71), .second, .val (.long x29_78), .second, .unset, .unset, .unset, .unset, .unset, .unset, .unset, .unset, .unset, .unset, .unset, .unset, .unset, .unset, .unset, .unset, .unset] [])) _
      refine XS.lload X0.here hx rfl (hb hby at_78) rfl ?_
      show Steps p.tables e below (s₁.setTop (mkF m 80 #[.val (.long q0), .second, .val (.long q1), .second, .val (.long q2), .second, .val (.long q3), .second, .val (.long q4), .second, .val (.int p5), .val (.long x11_7), .second, .val (.long x13_15), .second, .val (.long x15_26), .second, .val (.long x17_34), .second, .val (.long x19_42), .second, .val (.long x21_51), .second, .val (.long x23_57), .second, .val (.long x25_64), .second, .val (.long x27_71), .second, .val (.long x29_78), .second, .unset, .unset, .unset, .unset, .unset, .unset, .unset, .unset, .unset, .unset, .unset, .unset, .unset, .unset, .unset, .unset, .unset] [(.long x29_78)])) _
      refine XS.lload X0.here hx rfl (hb hby at_80) rfl ?_
      show Steps p.tables e below (s₁.setTop (mkF m 82 #[.val (.long q0), .second, .val (.long q1), .second, .val (.long q2), .second, .val (.long q3), .second, .val (.long q4), .second, .val (.int p5), .val (.long x11_7), .second, .val (.long x13_15), .second, .val (.long x15_26), .second, .val (.long x17_34), .second, .val (.long x19_42), .second, .val (.long x21_51), .second, .val (.long x23_57), .second, .val (.long x25_64), .second, .val (.long x27_71), .second, .val (.long x29_78), .second, .unset, .unset, .unset, .unset, .unset, .unset, .unset, .unset, .unset, .unset, .unset, .unset, .unset, .unset, .unset, .unset, .unset] [(.long x21_51), (.long x29_78)])) _
      refine XS.ladd X0.here hx rfl (hb hby at_82) rfl ?_
      show Steps p.tables e below (s₁.setTop (mkF m 83 #[.val (.long q0), .second, .val (.long q1), .second, .val (.long q2), .second, .val (.long q3), .second, .val (.long q4), .second, .val (.int p5), .val (.long x11_7), .second, .val (.long x13_15), .second, .val (.long x15_26), .second, .val (.long x17_34), .second, .val (.long x19_42), .second, .val (.long x21_51), .second, .val (.long x23_57), .second, .val (.long x25_64), .second, .val (.long x27_71), .second, .val (.long x29_78), .second, .unset, .unset, .unset, .unset, .unset, .unset, .unset, .unset, .unset, .unset, .unset, .unset, .unset, .unset, .unset, .unset, .unset] [(.long (x29_78 + x21_51))])) _
      refine XS.lstore X0.here hx rfl (hb hby at_83) rfl (l' := #[.val (.long q0), .second, .val (.long q1), .second, .val (.long q2), .second, .val (.long q3), .second, .val (.long q4), .second, .val (.int p5), .val (.long x11_7), .second, .val (.long x13_15), .second, .val (.long x15_26), .second, .val (.long x17_34), .second, .val (.long x19_42), .second, .val (.long x21_51), .second, .val (.long x23_57), .second, .val (.long x25_64), .second, .val (.long x27_71), .second, .val (.long x29_78), .second, .val (.long (x29_78 + x21_51)), .second, .unset, .unset, .unset, .unset, .unset, .unset, .unset, .unset, .unset, .unset, .unset, .unset, .unset, .unset, .unset]) rfl ?_
      exact k)⟩
  obtain ⟨T12, h12, X12, e12, E12, A12, D12, -, st12⟩ := newO X0 hx hZ hown (hw _ (List.mem_of_getElem? (i := 3) rfl)) (hw _ (List.mem_of_getElem? (i := 4) rfl)) (hw _ (List.mem_of_getElem? (i := 5) rfl)) e0 (g := (mkF m 85 #[.val (.long q0), .second, .val (.long q1), .second, .val (.long q2), .second, .val (.long q3), .second, .val (.long q4), .second, .val (.int p5), .val (.long x11_7), .second, .val (.long x13_15), .second, .val (.long x15_26), .second, .val (.long x17_34), .second, .val (.long x19_42), .second, .val (.long x21_51), .second, .val (.long x23_57), .second, .val (.long x25_64), .second, .val (.long x27_71), .second, .val (.long x29_78), .second, .val (.long x31_85), .second, .unset, .unset, .unset, .unset, .unset, .unset, .unset, .unset, .unset, .unset, .unset, .unset, .unset, .unset, .unset] [])) rfl (hb hby at_85) (by decide) (by decide)
  obtain ⟨b12, gq12⟩ : ∃ z, z = (h0).size := ⟨_, rfl⟩
  rw [← gq12] at A12 D12 st12
  have g_b12 : n0 ≤ b12 := Nat.le_trans Z0 (Nat.le_of_eq gq12.symm)
  have F_b12_maxNanos : Fld Z h12 b12 "dev/stint/deadline/HoldAllowance" "maxNanos" "J" (.long (0 : Int64)) := D12 (Or.inr (hw _ (List.mem_of_getElem? (i := 13) rfl))) (ty := .long) (by decide)
  have F_b12_leftNanos : Fld Z h12 b12 "dev/stint/deadline/HoldAllowance" "leftNanos" "J" (.long (0 : Int64)) := D12 (Or.inl (hw _ (List.mem_of_getElem? (i := 15) rfl))) (ty := .long) (by decide)
  have F_b12_since : Fld Z h12 b12 "dev/stint/deadline/HoldAllowance" "since" "J" (.long (0 : Int64)) := D12 (Or.inl (hw _ (List.mem_of_getElem? (i := 17) rfl))) (ty := .long) (by decide)
  have z14 : n0 ≤ (h12).size := (Nat.le_trans Z0 E12.1)
  obtain ⟨_, _, ⟨T13, L13, k13, n13⟩, -, X13, ⟨Lc13, hQ13, l13, y13, z13⟩, st13⟩ := X12.specialBack hx (y := (⟨"dev/stint/deadline/HoldAllowance", "<init>", "(JJ)V"⟩ : MethodName)) rfl hown (mvT hZ (hw _ (List.mem_of_getElem? (i := 6) rfl))) (mvT hZ (hw _ (List.mem_of_getElem? (i := 7) rfl))) (mvT hZ (hw _ (List.mem_of_getElem? (i := 8) rfl))) (by decide) (backOf (W := 1) (rm1 l Z aw hw [] (b12) (x11_7) (q1) (h12) n0 z14 A12 F_b12_maxNanos F_b12_leftNanos F_b12_since g_b12) hZ (hw _ (List.mem_of_getElem? (i := 8) rfl)) (hw _ (List.mem_of_getElem? (i := 5) rfl)) (by decide) (by decide)) (g := (mkF m 92 #[.val (.long q0), .second, .val (.long q1), .second, .val (.long q2), .second, .val (.long q3), .second, .val (.long q4), .second, .val (.int p5), .val (.long x11_7), .second, .val (.long x13_15), .second, .val (.long x15_26), .second, .val (.long x17_34), .second, .val (.long x19_42), .second, .val (.long x21_51), .second, .val (.long x23_57), .second, .val (.long x25_64), .second, .val (.long x27_71), .second, .val (.long x29_78), .second, .val (.long x31_85), .second, .unset, .unset, .unset, .unset, .unset, .unset, .unset, .unset, .unset, .unset, .unset, .unset, .unset, .unset, .unset] [(.long q1), (.long x11_7), (.ref b12), (.ref b12)])) rfl (by rw [hml]; rfl) (Steps.refl _) (a := b12) (argsL := [(.long x11_7), (.long q1)]) (rest := [(.ref b12)]) (lenOf pd_1 rfl) rfl (by show 2 * 0 + _ ≤ _; exact Nat.le_of_eq rfl) (hb hby at_92) (fun _ _ => ⟨rfl, e12, (by decide : 1 + 0 ≤ _), (by decide : 3 + 0 ≤ _)⟩)
  dsimp only [Pt.U, Pt.locs, Pt.cells, Pt.slots] at X13 l13 y13 z13 st13 hQ13
  subst l13 y13 z13
  obtain ⟨rfl, Nq13, K13, po13_0, po13_1, po13_2, po13_3⟩ := hQ13
  have N13 := Fr.app N0 Nq13
  have z16 : n0 ≤ (T13.heap).size := (Nat.le_trans z14 K13.1)
  obtain ⟨cq15, kq15, q15a, q15b, q15c⟩ := isOf hZ rfl po13_0
  obtain ⟨_, _, ⟨T15, L15, k15, n15⟩, -, X15, ⟨Lc15, hQ15, l15, y15, z15⟩, st15⟩ := X13.virtualBack hx (y := (⟨"dev/stint/deadline/HoldAllowance", "begin", "(J)J"⟩ : MethodName)) (z := (⟨"dev/stint/deadline/HoldAllowance", "begin", "(J)J"⟩ : MethodName)) hown (mvT hZ (hw _ (List.mem_of_getElem? (i := 18) rfl))) (mvT hZ (hw _ (List.mem_of_getElem? (i := 19) rfl))) (notFace_of_selects (args := #[]) (mvT hZ (hw _ (List.mem_of_getElem? (i := 21) rfl)))) (mvT hZ (hw _ (List.mem_of_getElem? (i := 21) rfl))) (mvT hZ (hw _ (List.mem_of_getElem? (i := 20) rfl))) (by decide) (backOf (W := 0) (rm3 l Z aw hw [] (b12) (x23_57) (x11_7) (x11_7) (q1) (T13.heap) n0 z16 po13_0 po13_1 po13_2 po13_3 g_b12) hZ (hw _ (List.mem_of_getElem? (i := 22) rfl)) (hw _ (List.mem_of_getElem? (i := 5) rfl)) (by decide) (by decide)) q15a q15c (g := (mkF m 101 #[.val (.long q0), .second, .val (.long q1), .second, .val (.long q2), .second, .val (.long q3), .second, .val (.long q4), .second, .val (.int p5), .val (.long x11_7), .second, .val (.long x13_15), .second, .val (.long x15_26), .second, .val (.long x17_34), .second, .val (.long x19_42), .second, .val (.long x21_51), .second, .val (.long x23_57), .second, .val (.long x25_64), .second, .val (.long x27_71), .second, .val (.long x29_78), .second, .val (.long x31_85), .second, .val (.ref b12), .unset, .unset, .unset, .unset, .unset, .unset, .unset, .unset, .unset, .unset, .unset, .unset, .unset, .unset] [(.long x23_57), (.ref b12)])) rfl (by rw [hml]; rfl) (Steps.refl _) (argsL := [(.long x23_57)]) (rest := []) (lenOf pd_2 rfl) rfl (by show 2 * 0 + _ ≤ _; exact Nat.le_of_eq rfl) (hb hby at_101) (fun _ _ => ⟨rfl, rfl, (by decide : 1 + 0 ≤ _), (by decide : 3 + 0 ≤ _)⟩)
  dsimp only [Pt.U, Pt.locs, Pt.cells, Pt.slots] at X15 l15 y15 z15 st15 hQ15
  subst l15 y15 z15
  obtain ⟨rfl, Nq15, K15, po15_0, po15_1, po15_2, po15_3⟩ := hQ15
  have N15 := Fr.app N13 Nq15
  obtain ⟨u15_leftNanos, hu15_leftNanos⟩ : ∃ z, z = (own_p3_leftNanos x23_57 x11_7 x11_7 q1) := ⟨_, rfl⟩
  rw [← hu15_leftNanos] at po15_2
  obtain ⟨x34_109, hx34_109, pre17⟩ : ∃ z : Int64, z = ((own_f3 x23_57 x11_7 x11_7 q1) - x23_57) ∧ own_Pre p e below (s₁.setTop (entryFrame m #[(.long q0), (.long q1), (.long q2), (.long q3), (.long q4), (.int p5)] maxLocals)) (T15.setTop (mkF m 109 #[.val (.long q0), .second, .val (.long q1), .second, .val (.long q2), .second, .val (.long q3), .second, .val (.long q4), .second, .val (.int p5), .val (.long x11_7), .second, .val (.long x13_15), .second, .val (.long x15_26), .second, .val (.long x17_34), .second, .val (.long x19_42), .second, .val (.long x21_51), .second, .val (.long x23_57), .second, .val (.long x25_64), .second, .val (.long x27_71), .second, .val (.long x29_78), .second, .val (.long x31_85), .second, .val (.ref b12), .val (.long z), .second, .unset, .unset, .unset, .unset, .unset, .unset, .unset, .unset, .unset, .unset, .unset, .unset] [])) := ⟨_, rfl, fun t k => pre11 t (by
      show Steps p.tables e below (s₁.setTop (mkF m 85 #[.val (.long q0), .second, .val (.long q1), .second, .val (.long q2), .second, .val (.long q3), .second, .val (.long q4), .second, .val (.int p5), .val (.long x11_7), .second, .val (.long x13_15), .second, .val (.long x15_26), .second, .val (.long x17_34), .second, .val (.long x19_42), .second, .val (.long x21_51), .second, .val (.long x23_57), .second, .val (.long x25_64), .second, .val (.long x27_71), .second, .val (.long x29_78), .second, .val (.long x31_85), .second, .unset, .unset, .unset, .unset, .unset, .unset, .unset, .unset, .unset, .unset, .unset, .unset, .unset, .unset, .unset] [])) _
      refine st12 _ ?_
      show Steps p.tables e below (T12.setTop (mkF m 88 #[.val (.long q0), .second, .val (.long q1), .second, .val (.long q2), .second, .val (.long q3), .second, .val (.long q4), .second, .val (.int p5), .val (.long x11_7), .second, .val (.long x13_15), .second, .val (.long x15_26), .second, .val (.long x17_34), .second, .val (.long x19_42), .second, .val (.long x21_51), .second, .val (.long x23_57), .second, .val (.long x25_64), .second, .val (.long x27_71), .second, .val (.long x29_78), .second, .val (.long x31_85), .second, .unset, .unset, .unset, .unset, .unset, .unset, .unset, .unset, .unset, .unset, .unset, .unset, .unset, .unset, .unset] [(.ref b12)])) _
      refine XS.dup X12.here hx rfl (hb hby at_88) rfl rfl ?_
      show Steps p.tables e below (T12.setTop (mkF m 89 #[.val (.long q0), .second, .val (.long q1), .second, .val (.long q2), .second, .val (.long q3), .second, .val (.long q4), .second, .val (.int p5), .val (.long x11_7), .second, .val (.long x13_15), .second, .val (.long x15_26), .second, .val (.long x17_34), .second, .val (.long x19_42), .second, .val (.long x21_51), .second, .val (.long x23_57), .second, .val (.long x25_64), .second, .val (.long x27_71), .second, .val (.long x29_78), .second, .val (.long x31_85), .second, .unset, .unset, .unset, .unset, .unset, .unset, .unset, .unset, .unset, .unset, .unset, .unset, .unset, .unset, .unset] [(.ref b12), (.ref b12)])) _
      refine XS.lload X12.here hx rfl (hb hby at_89) rfl ?_
      show Steps p.tables e below (T12.setTop (mkF m 91 #[.val (.long q0), .second, .val (.long q1), .second, .val (.long q2), .second, .val (.long q3), .second, .val (.long q4), .second, .val (.int p5), .val (.long x11_7), .second, .val (.long x13_15), .second, .val (.long x15_26), .second, .val (.long x17_34), .second, .val (.long x19_42), .second, .val (.long x21_51), .second, .val (.long x23_57), .second, .val (.long x25_64), .second, .val (.long x27_71), .second, .val (.long x29_78), .second, .val (.long x31_85), .second, .unset, .unset, .unset, .unset, .unset, .unset, .unset, .unset, .unset, .unset, .unset, .unset, .unset, .unset, .unset] [(.long x11_7), (.ref b12), (.ref b12)])) _
      refine XS.lloadN X12.here hx rfl (hb hby at_91) rfl ?_
      show Steps p.tables e below (T12.setTop (mkF m 92 #[.val (.long q0), .second, .val (.long q1), .second, .val (.long q2), .second, .val (.long q3), .second, .val (.long q4), .second, .val (.int p5), .val (.long x11_7), .second, .val (.long x13_15), .second, .val (.long x15_26), .second, .val (.long x17_34), .second, .val (.long x19_42), .second, .val (.long x21_51), .second, .val (.long x23_57), .second, .val (.long x25_64), .second, .val (.long x27_71), .second, .val (.long x29_78), .second, .val (.long x31_85), .second, .unset, .unset, .unset, .unset, .unset, .unset, .unset, .unset, .unset, .unset, .unset, .unset, .unset, .unset, .unset] [(.long q1), (.long x11_7), (.ref b12), (.ref b12)])) _
      refine st13.trans ?_
      show Steps p.tables e below (T13.setTop (mkF m 95 #[.val (.long q0), .second, .val (.long q1), .second, .val (.long q2), .second, .val (.long q3), .second, .val (.long q4), .second, .val (.int p5), .val (.long x11_7), .second, .val (.long x13_15), .second, .val (.long x15_26), .second, .val (.long x17_34), .second, .val (.long x19_42), .second, .val (.long x21_51), .second, .val (.long x23_57), .second, .val (.long x25_64), .second, .val (.long x27_71), .second, .val (.long x29_78), .second, .val (.long x31_85), .second, .unset, .unset, .unset, .unset, .unset, .unset, .unset, .unset, .unset, .unset, .unset, .unset, .unset, .unset, .unset] [(.ref b12)])) _
      refine XS.astore X13.here hx rfl (hb hby at_95) rfl rfl (l' := #[.val (.long q0), .second, .val (.long q1), .second, .val (.long q2), .second, .val (.long q3), .second, .val (.long q4), .second, .val (.int p5), .val (.long x11_7), .second, .val (.long x13_15), .second, .val (.long x15_26), .second, .val (.long x17_34), .second, .val (.long x19_42), .second, .val (.long x21_51), .second, .val (.long x23_57), .second, .val (.long x25_64), .second, .val (.long x27_71), .second, .val (.long x29_78), .second, .val (.long x31_85), .second, .val (.ref b12), .unset, .unset, .unset, .unset, .unset, .unset, .unset, .unset, .unset, .unset, .unset, .unset, .unset, .unset]) rfl ?_
      show Steps p.tables e below (T13.setTop (mkF m 97 #[.val (.long q0), .second, .val (.long q1), .second, .val (.long q2), .second, .val (.long q3), .second, .val (.long q4), .second, .val (.int p5), .val (.long x11_7), .second, .val (.long x13_15), .second, .val (.long x15_26), .second, .val (.long x17_34), .second, .val (.long x19_42), .second, .val (.long x21_51), .second, .val (.long x23_57), .second, .val (.long x25_64), .second, .val (.long x27_71), .second, .val (.long x29_78), .second, .val (.long x31_85), .second, .val (.ref b12), .unset, .unset, .unset, .unset, .unset, .unset, .unset, .unset, .unset, .unset, .unset, .unset, .unset, .unset] [])) _
      refine XS.aload X13.here hx rfl (hb hby at_97) rfl rfl ?_
      show Steps p.tables e below (T13.setTop (mkF m 99 #[.val (.long q0), .second, .val (.long q1), .second, .val (.long q2), .second, .val (.long q3), .second, .val (.long q4), .second, .val (.int p5), .val (.long x11_7), .second, .val (.long x13_15), .second, .val (.long x15_26), .second, .val (.long x17_34), .second, .val (.long x19_42), .second, .val (.long x21_51), .second, .val (.long x23_57), .second, .val (.long x25_64), .second, .val (.long x27_71), .second, .val (.long x29_78), .second, .val (.long x31_85), .second, .val (.ref b12), .unset, .unset, .unset, .unset, .unset, .unset, .unset, .unset, .unset, .unset, .unset, .unset, .unset, .unset] [(.ref b12)])) _
      refine XS.lload X13.here hx rfl (hb hby at_99) rfl ?_
      show Steps p.tables e below (T13.setTop (mkF m 101 #[.val (.long q0), .second, .val (.long q1), .second, .val (.long q2), .second, .val (.long q3), .second, .val (.long q4), .second, .val (.int p5), .val (.long x11_7), .second, .val (.long x13_15), .second, .val (.long x15_26), .second, .val (.long x17_34), .second, .val (.long x19_42), .second, .val (.long x21_51), .second, .val (.long x23_57), .second, .val (.long x25_64), .second, .val (.long x27_71), .second, .val (.long x29_78), .second, .val (.long x31_85), .second, .val (.ref b12), .unset, .unset, .unset, .unset, .unset, .unset, .unset, .unset, .unset, .unset, .unset, .unset, .unset, .unset] [(.long x23_57), (.ref b12)])) _
      refine st15.trans ?_
      show Steps p.tables e below (T15.setTop (mkF m 104 #[.val (.long q0), .second, .val (.long q1), .second, .val (.long q2), .second, .val (.long q3), .second, .val (.long q4), .second, .val (.int p5), .val (.long x11_7), .second, .val (.long x13_15), .second, .val (.long x15_26), .second, .val (.long x17_34), .second, .val (.long x19_42), .second, .val (.long x21_51), .second, .val (.long x23_57), .second, .val (.long x25_64), .second, .val (.long x27_71), .second, .val (.long x29_78), .second, .val (.long x31_85), .second, .val (.ref b12), .unset, .unset, .unset, .unset, .unset, .unset, .unset, .unset, .unset, .unset, .unset, .unset, .unset, .unset] [(.long (own_f3 x23_57 x11_7 x11_7 q1))])) _
      refine XS.lload X15.here hx rfl (hb hby at_104) rfl ?_
      show Steps p.tables e below (T15.setTop (mkF m 106 #[.val (.long q0), .second, .val (.long q1), .second, .val (.long q2), .second, .val (.long q3), .second, .val (.long q4), .second, .val (.int p5), .val (.long x11_7), .second, .val (.long x13_15), .second, .val (.long x15_26), .second, .val (.long x17_34), .second, .val (.long x19_42), .second, .val (.long x21_51), .second, .val (.long x23_57), .second, .val (.long x25_64), .second, .val (.long x27_71), .second, .val (.long x29_78), .second, .val (.long x31_85), .second, .val (.ref b12), .unset, .unset, .unset, .unset, .unset, .unset, .unset, .unset, .unset, .unset, .unset, .unset, .unset, .unset] [(.long x23_57), (.long (own_f3 x23_57 x11_7 x11_7 q1))])) _
      refine XS.lsub X15.here hx rfl (hb hby at_106) rfl ?_
      show Steps p.tables e below (T15.setTop (mkF m 107 #[.val (.long q0), .second, .val (.long q1), .second, .val (.long q2), .second, .val (.long q3), .second, .val (.long q4), .second, .val (.int p5), .val (.long x11_7), .second, .val (.long x13_15), .second, .val (.long x15_26), .second, .val (.long x17_34), .second, .val (.long x19_42), .second, .val (.long x21_51), .second, .val (.long x23_57), .second, .val (.long x25_64), .second, .val (.long x27_71), .second, .val (.long x29_78), .second, .val (.long x31_85), .second, .val (.ref b12), .unset, .unset, .unset, .unset, .unset, .unset, .unset, .unset, .unset, .unset, .unset, .unset, .unset, .unset] [(.long ((own_f3 x23_57 x11_7 x11_7 q1) - x23_57))])) _
      refine XS.lstore X15.here hx rfl (hb hby at_107) rfl (l' := #[.val (.long q0), .second, .val (.long q1), .second, .val (.long q2), .second, .val (.long q3), .second, .val (.long q4), .second, .val (.int p5), .val (.long x11_7), .second, .val (.long x13_15), .second, .val (.long x15_26), .second, .val (.long x17_34), .second, .val (.long x19_42), .second, .val (.long x21_51), .second, .val (.long x23_57), .second, .val (.long x25_64), .second, .val (.long x27_71), .second, .val (.long x29_78), .second, .val (.long x31_85), .second, .val (.ref b12), .val (.long ((own_f3 x23_57 x11_7 x11_7 q1) - x23_57)), .second, .unset, .unset, .unset, .unset, .unset, .unset, .unset, .unset, .unset, .unset, .unset, .unset]) rfl ?_
      exact k)⟩
  have z19 : n0 ≤ (T15.heap).size := (Nat.le_trans z16 K15.1)
  obtain ⟨cq18, kq18, q18a, q18b, q18c⟩ := isOf hZ rfl po15_0
  obtain ⟨_, _, ⟨T18, L18, k18, n18⟩, -, X18, ⟨Lc18, hQ18, l18, y18, z18⟩, st18⟩ := X15.virtualBack hx (y := (⟨"dev/stint/deadline/HoldAllowance", "end", "(J)V"⟩ : MethodName)) (z := (⟨"dev/stint/deadline/HoldAllowance", "end", "(J)V"⟩ : MethodName)) hown (mvT hZ (hw _ (List.mem_of_getElem? (i := 28) rfl))) (mvT hZ (hw _ (List.mem_of_getElem? (i := 29) rfl))) (notFace_of_selects (args := #[]) (mvT hZ (hw _ (List.mem_of_getElem? (i := 31) rfl)))) (mvT hZ (hw _ (List.mem_of_getElem? (i := 31) rfl))) (mvT hZ (hw _ (List.mem_of_getElem? (i := 30) rfl))) (by decide) (backOf (W := 0) (rm5 l Z aw hw [] (b12) (x25_64) (x11_7) (u15_leftNanos) (x23_57) (T15.heap) n0 z19 po15_0 po15_1 po15_2 po15_3 g_b12) hZ (hw _ (List.mem_of_getElem? (i := 32) rfl)) (hw _ (List.mem_of_getElem? (i := 5) rfl)) (by decide) (by decide)) q18a q18c (g := (mkF m 113 #[.val (.long q0), .second, .val (.long q1), .second, .val (.long q2), .second, .val (.long q3), .second, .val (.long q4), .second, .val (.int p5), .val (.long x11_7), .second, .val (.long x13_15), .second, .val (.long x15_26), .second, .val (.long x17_34), .second, .val (.long x19_42), .second, .val (.long x21_51), .second, .val (.long x23_57), .second, .val (.long x25_64), .second, .val (.long x27_71), .second, .val (.long x29_78), .second, .val (.long x31_85), .second, .val (.ref b12), .val (.long x34_109), .second, .unset, .unset, .unset, .unset, .unset, .unset, .unset, .unset, .unset, .unset, .unset, .unset] [(.long x25_64), (.ref b12)])) rfl (by rw [hml]; rfl) (Steps.refl _) (argsL := [(.long x25_64)]) (rest := []) (lenOf pd_3 rfl) rfl (by show 2 * 0 + _ ≤ _; exact Nat.le_of_eq rfl) (hb hby at_113) (fun _ _ => ⟨rfl, rfl, (by decide : 1 + 0 ≤ _), (by decide : 3 + 0 ≤ _)⟩)
  dsimp only [Pt.U, Pt.locs, Pt.cells, Pt.slots] at X18 l18 y18 z18 st18 hQ18
  subst l18 y18 z18
  obtain ⟨rfl, Nq18, K18, po18_0, po18_1, po18_2, po18_3⟩ := hQ18
  have N18 := Fr.app N15 Nq18
  obtain ⟨u18_leftNanos, hu18_leftNanos⟩ : ∃ z, z = (own_p5_leftNanos x25_64 u15_leftNanos x23_57) := ⟨_, rfl⟩
  rw [← hu18_leftNanos] at po18_2
  have z21 : n0 ≤ (T18.heap).size := (Nat.le_trans z19 K18.1)
  obtain ⟨cq20, kq20, q20a, q20b, q20c⟩ := isOf hZ rfl po18_0
  obtain ⟨_, _, ⟨T20, L20, k20, n20⟩, -, X20, ⟨Lc20, hQ20, l20, y20, z20⟩, st20⟩ := X18.virtualBack hx (y := (⟨"dev/stint/deadline/HoldAllowance", "begin", "(J)J"⟩ : MethodName)) (z := (⟨"dev/stint/deadline/HoldAllowance", "begin", "(J)J"⟩ : MethodName)) hown (mvT hZ (hw _ (List.mem_of_getElem? (i := 18) rfl))) (mvT hZ (hw _ (List.mem_of_getElem? (i := 19) rfl))) (notFace_of_selects (args := #[]) (mvT hZ (hw _ (List.mem_of_getElem? (i := 21) rfl)))) (mvT hZ (hw _ (List.mem_of_getElem? (i := 21) rfl))) (mvT hZ (hw _ (List.mem_of_getElem? (i := 20) rfl))) (by decide) (backOf (W := 0) (rm3 l Z aw hw [] (b12) (x27_71) (x11_7) (u18_leftNanos) (x25_64) (T18.heap) n0 z21 po18_0 po18_1 po18_2 po18_3 g_b12) hZ (hw _ (List.mem_of_getElem? (i := 22) rfl)) (hw _ (List.mem_of_getElem? (i := 5) rfl)) (by decide) (by decide)) q20a q20c (g := (mkF m 120 #[.val (.long q0), .second, .val (.long q1), .second, .val (.long q2), .second, .val (.long q3), .second, .val (.long q4), .second, .val (.int p5), .val (.long x11_7), .second, .val (.long x13_15), .second, .val (.long x15_26), .second, .val (.long x17_34), .second, .val (.long x19_42), .second, .val (.long x21_51), .second, .val (.long x23_57), .second, .val (.long x25_64), .second, .val (.long x27_71), .second, .val (.long x29_78), .second, .val (.long x31_85), .second, .val (.ref b12), .val (.long x34_109), .second, .unset, .unset, .unset, .unset, .unset, .unset, .unset, .unset, .unset, .unset, .unset, .unset] [(.long x27_71), (.ref b12)])) rfl (by rw [hml]; rfl) (Steps.refl _) (argsL := [(.long x27_71)]) (rest := []) (lenOf pd_2 rfl) rfl (by show 2 * 0 + _ ≤ _; exact Nat.le_of_eq rfl) (hb hby at_120) (fun _ _ => ⟨rfl, rfl, (by decide : 1 + 0 ≤ _), (by decide : 3 + 0 ≤ _)⟩)
  dsimp only [Pt.U, Pt.locs, Pt.cells, Pt.slots] at X20 l20 y20 z20 st20 hQ20
  subst l20 y20 z20
  obtain ⟨rfl, Nq20, K20, po20_0, po20_1, po20_2, po20_3⟩ := hQ20
  have N20 := Fr.app N18 Nq20
  obtain ⟨u20_leftNanos, hu20_leftNanos⟩ : ∃ z, z = (own_p3_leftNanos x27_71 x11_7 u18_leftNanos x25_64) := ⟨_, rfl⟩
  rw [← hu20_leftNanos] at po20_2
  obtain ⟨x36_128, hx36_128, pre22⟩ : ∃ z : Int64, z = ((own_f3 x27_71 x11_7 u18_leftNanos x25_64) - x27_71) ∧ own_Pre p e below (s₁.setTop (entryFrame m #[(.long q0), (.long q1), (.long q2), (.long q3), (.long q4), (.int p5)] maxLocals)) (T20.setTop (mkF m 128 #[.val (.long q0), .second, .val (.long q1), .second, .val (.long q2), .second, .val (.long q3), .second, .val (.long q4), .second, .val (.int p5), .val (.long x11_7), .second, .val (.long x13_15), .second, .val (.long x15_26), .second, .val (.long x17_34), .second, .val (.long x19_42), .second, .val (.long x21_51), .second, .val (.long x23_57), .second, .val (.long x25_64), .second, .val (.long x27_71), .second, .val (.long x29_78), .second, .val (.long x31_85), .second, .val (.ref b12), .val (.long x34_109), .second, .val (.long z), .second, .unset, .unset, .unset, .unset, .unset, .unset, .unset, .unset, .unset, .unset] [])) := ⟨_, rfl, fun t k => pre17 t (by
      show Steps p.tables e below (T15.setTop (mkF m 109 #[.val (.long q0), .second, .val (.long q1), .second, .val (.long q2), .second, .val (.long q3), .second, .val (.long q4), .second, .val (.int p5), .val (.long x11_7), .second, .val (.long x13_15), .second, .val (.long x15_26), .second, .val (.long x17_34), .second, .val (.long x19_42), .second, .val (.long x21_51), .second, .val (.long x23_57), .second, .val (.long x25_64), .second, .val (.long x27_71), .second, .val (.long x29_78), .second, .val (.long x31_85), .second, .val (.ref b12), .val (.long x34_109), .second, .unset, .unset, .unset, .unset, .unset, .unset, .unset, .unset, .unset, .unset, .unset, .unset] [])) _
      refine XS.aload X15.here hx rfl (hb hby at_109) rfl rfl ?_
      show Steps p.tables e below (T15.setTop (mkF m 111 #[.val (.long q0), .second, .val (.long q1), .second, .val (.long q2), .second, .val (.long q3), .second, .val (.long q4), .second, .val (.int p5), .val (.long x11_7), .second, .val (.long x13_15), .second, .val (.long x15_26), .second, .val (.long x17_34), .second, .val (.long x19_42), .second, .val (.long x21_51), .second, .val (.long x23_57), .second, .val (.long x25_64), .second, .val (.long x27_71), .second, .val (.long x29_78), .second, .val (.long x31_85), .second, .val (.ref b12), .val (.long x34_109), .second, .unset, .unset, .unset, .unset, .unset, .unset, .unset, .unset, .unset, .unset, .unset, .unset] [(.ref b12)])) _
      refine XS.lload X15.here hx rfl (hb hby at_111) rfl ?_
      show Steps p.tables e below (T15.setTop (mkF m 113 #[.val (.long q0), .second, .val (.long q1), .second, .val (.long q2), .second, .val (.long q3), .second, .val (.long q4), .second, .val (.int p5), .val (.long x11_7), .second, .val (.long x13_15), .second, .val (.long x15_26), .second, .val (.long x17_34), .second, .val (.long x19_42), .second, .val (.long x21_51), .second, .val (.long x23_57), .second, .val (.long x25_64), .second, .val (.long x27_71), .second, .val (.long x29_78), .second, .val (.long x31_85), .second, .val (.ref b12), .val (.long x34_109), .second, .unset, .unset, .unset, .unset, .unset, .unset, .unset, .unset, .unset, .unset, .unset, .unset] [(.long x25_64), (.ref b12)])) _
      refine st18.trans ?_
      show Steps p.tables e below (T18.setTop (mkF m 116 #[.val (.long q0), .second, .val (.long q1), .second, .val (.long q2), .second, .val (.long q3), .second, .val (.long q4), .second, .val (.int p5), .val (.long x11_7), .second, .val (.long x13_15), .second, .val (.long x15_26), .second, .val (.long x17_34), .second, .val (.long x19_42), .second, .val (.long x21_51), .second, .val (.long x23_57), .second, .val (.long x25_64), .second, .val (.long x27_71), .second, .val (.long x29_78), .second, .val (.long x31_85), .second, .val (.ref b12), .val (.long x34_109), .second, .unset, .unset, .unset, .unset, .unset, .unset, .unset, .unset, .unset, .unset, .unset, .unset] [])) _
      refine XS.aload X18.here hx rfl (hb hby at_116) rfl rfl ?_
      show Steps p.tables e below (T18.setTop (mkF m 118 #[.val (.long q0), .second, .val (.long q1), .second, .val (.long q2), .second, .val (.long q3), .second, .val (.long q4), .second, .val (.int p5), .val (.long x11_7), .second, .val (.long x13_15), .second, .val (.long x15_26), .second, .val (.long x17_34), .second, .val (.long x19_42), .second, .val (.long x21_51), .second, .val (.long x23_57), .second, .val (.long x25_64), .second, .val (.long x27_71), .second, .val (.long x29_78), .second, .val (.long x31_85), .second, .val (.ref b12), .val (.long x34_109), .second, .unset, .unset, .unset, .unset, .unset, .unset, .unset, .unset, .unset, .unset, .unset, .unset] [(.ref b12)])) _
      refine XS.lload X18.here hx rfl (hb hby at_118) rfl ?_
      show Steps p.tables e below (T18.setTop (mkF m 120 #[.val (.long q0), .second, .val (.long q1), .second, .val (.long q2), .second, .val (.long q3), .second, .val (.long q4), .second, .val (.int p5), .val (.long x11_7), .second, .val (.long x13_15), .second, .val (.long x15_26), .second, .val (.long x17_34), .second, .val (.long x19_42), .second, .val (.long x21_51), .second, .val (.long x23_57), .second, .val (.long x25_64), .second, .val (.long x27_71), .second, .val (.long x29_78), .second, .val (.long x31_85), .second, .val (.ref b12), .val (.long x34_109), .second, .unset, .unset, .unset, .unset, .unset, .unset, .unset, .unset, .unset, .unset, .unset, .unset] [(.long x27_71), (.ref b12)])) _
      refine st20.trans ?_
      show Steps p.tables e below (T20.setTop (mkF m 123 #[.val (.long q0), .second, .val (.long q1), .second, .val (.long q2), .second, .val (.long q3), .second, .val (.long q4), .second, .val (.int p5), .val (.long x11_7), .second, .val (.long x13_15), .second, .val (.long x15_26), .second, .val (.long x17_34), .second, .val (.long x19_42), .second, .val (.long x21_51), .second, .val (.long x23_57), .second, .val (.long x25_64), .second, .val (.long x27_71), .second, .val (.long x29_78), .second, .val (.long x31_85), .second, .val (.ref b12), .val (.long x34_109), .second, .unset, .unset, .unset, .unset, .unset, .unset, .unset, .unset, .unset, .unset, .unset, .unset] [(.long (own_f3 x27_71 x11_7 u18_leftNanos x25_64))])) _
      refine XS.lload X20.here hx rfl (hb hby at_123) rfl ?_
      show Steps p.tables e below (T20.setTop (mkF m 125 #[.val (.long q0), .second, .val (.long q1), .second, .val (.long q2), .second, .val (.long q3), .second, .val (.long q4), .second, .val (.int p5), .val (.long x11_7), .second, .val (.long x13_15), .second, .val (.long x15_26), .second, .val (.long x17_34), .second, .val (.long x19_42), .second, .val (.long x21_51), .second, .val (.long x23_57), .second, .val (.long x25_64), .second, .val (.long x27_71), .second, .val (.long x29_78), .second, .val (.long x31_85), .second, .val (.ref b12), .val (.long x34_109), .second, .unset, .unset, .unset, .unset, .unset, .unset, .unset, .unset, .unset, .unset, .unset, .unset] [(.long x27_71), (.long (own_f3 x27_71 x11_7 u18_leftNanos x25_64))])) _
      refine XS.lsub X20.here hx rfl (hb hby at_125) rfl ?_
      show Steps p.tables e below (T20.setTop (mkF m 126 #[.val (.long q0), .second, .val (.long q1), .second, .val (.long q2), .second, .val (.long q3), .second, .val (.long q4), .second, .val (.int p5), .val (.long x11_7), .second, .val (.long x13_15), .second, .val (.long x15_26), .second, .val (.long x17_34), .second, .val (.long x19_42), .second, .val (.long x21_51), .second, .val (.long x23_57), .second, .val (.long x25_64), .second, .val (.long x27_71), .second, .val (.long x29_78), .second, .val (.long x31_85), .second, .val (.ref b12), .val (.long x34_109), .second, .unset, .unset, .unset, .unset, .unset, .unset, .unset, .unset, .unset, .unset, .unset, .unset] [(.long ((own_f3 x27_71 x11_7 u18_leftNanos x25_64) - x27_71))])) _
      refine XS.lstore X20.here hx rfl (hb hby at_126) rfl (l' := #[.val (.long q0), .second, .val (.long q1), .second, .val (.long q2), .second, .val (.long q3), .second, .val (.long q4), .second, .val (.int p5), .val (.long x11_7), .second, .val (.long x13_15), .second, .val (.long x15_26), .second, .val (.long x17_34), .second, .val (.long x19_42), .second, .val (.long x21_51), .second, .val (.long x23_57), .second, .val (.long x25_64), .second, .val (.long x27_71), .second, .val (.long x29_78), .second, .val (.long x31_85), .second, .val (.ref b12), .val (.long x34_109), .second, .val (.long ((own_f3 x27_71 x11_7 u18_leftNanos x25_64) - x27_71)), .second, .unset, .unset, .unset, .unset, .unset, .unset, .unset, .unset, .unset, .unset]) rfl ?_
      exact k)⟩
  have z24 : n0 ≤ (T20.heap).size := (Nat.le_trans z21 K20.1)
  obtain ⟨cq23, kq23, q23a, q23b, q23c⟩ := isOf hZ rfl po20_0
  obtain ⟨_, _, ⟨T23, L23, k23, n23⟩, -, X23, ⟨Lc23, hQ23, l23, y23, z23⟩, st23⟩ := X20.virtualBack hx (y := (⟨"dev/stint/deadline/HoldAllowance", "end", "(J)V"⟩ : MethodName)) (z := (⟨"dev/stint/deadline/HoldAllowance", "end", "(J)V"⟩ : MethodName)) hown (mvT hZ (hw _ (List.mem_of_getElem? (i := 28) rfl))) (mvT hZ (hw _ (List.mem_of_getElem? (i := 29) rfl))) (notFace_of_selects (args := #[]) (mvT hZ (hw _ (List.mem_of_getElem? (i := 31) rfl)))) (mvT hZ (hw _ (List.mem_of_getElem? (i := 31) rfl))) (mvT hZ (hw _ (List.mem_of_getElem? (i := 30) rfl))) (by decide) (backOf (W := 0) (rm5 l Z aw hw [] (b12) (x29_78) (x11_7) (u20_leftNanos) (x27_71) (T20.heap) n0 z24 po20_0 po20_1 po20_2 po20_3 g_b12) hZ (hw _ (List.mem_of_getElem? (i := 32) rfl)) (hw _ (List.mem_of_getElem? (i := 5) rfl)) (by decide) (by decide)) q23a q23c (g := (mkF m 132 #[.val (.long q0), .second, .val (.long q1), .second, .val (.long q2), .second, .val (.long q3), .second, .val (.long q4), .second, .val (.int p5), .val (.long x11_7), .second, .val (.long x13_15), .second, .val (.long x15_26), .second, .val (.long x17_34), .second, .val (.long x19_42), .second, .val (.long x21_51), .second, .val (.long x23_57), .second, .val (.long x25_64), .second, .val (.long x27_71), .second, .val (.long x29_78), .second, .val (.long x31_85), .second, .val (.ref b12), .val (.long x34_109), .second, .val (.long x36_128), .second, .unset, .unset, .unset, .unset, .unset, .unset, .unset, .unset, .unset, .unset] [(.long x29_78), (.ref b12)])) rfl (by rw [hml]; rfl) (Steps.refl _) (argsL := [(.long x29_78)]) (rest := []) (lenOf pd_3 rfl) rfl (by show 2 * 0 + _ ≤ _; exact Nat.le_of_eq rfl) (hb hby at_132) (fun _ _ => ⟨rfl, rfl, (by decide : 1 + 0 ≤ _), (by decide : 3 + 0 ≤ _)⟩)
  dsimp only [Pt.U, Pt.locs, Pt.cells, Pt.slots] at X23 l23 y23 z23 st23 hQ23
  subst l23 y23 z23
  obtain ⟨rfl, Nq23, K23, po23_0, po23_1, po23_2, po23_3⟩ := hQ23
  have N23 := Fr.app N20 Nq23
  obtain ⟨u23_leftNanos, hu23_leftNanos⟩ : ∃ z, z = (own_p5_leftNanos x29_78 u20_leftNanos x27_71) := ⟨_, rfl⟩
  rw [← hu23_leftNanos] at po23_2
  have z26 : n0 ≤ (T23.heap).size := (Nat.le_trans z24 K23.1)
  obtain ⟨cq25, kq25, q25a, q25b, q25c⟩ := isOf hZ rfl po23_0
  obtain ⟨_, _, ⟨T25, L25, k25, n25⟩, -, X25, ⟨Lc25, hQ25, l25, y25, z25⟩, st25⟩ := X23.virtualBack hx (y := (⟨"dev/stint/deadline/HoldAllowance", "begin", "(J)J"⟩ : MethodName)) (z := (⟨"dev/stint/deadline/HoldAllowance", "begin", "(J)J"⟩ : MethodName)) hown (mvT hZ (hw _ (List.mem_of_getElem? (i := 18) rfl))) (mvT hZ (hw _ (List.mem_of_getElem? (i := 19) rfl))) (notFace_of_selects (args := #[]) (mvT hZ (hw _ (List.mem_of_getElem? (i := 21) rfl)))) (mvT hZ (hw _ (List.mem_of_getElem? (i := 21) rfl))) (mvT hZ (hw _ (List.mem_of_getElem? (i := 20) rfl))) (by decide) (backOf (W := 0) (rm3 l Z aw hw [] (b12) (x31_85) (x11_7) (u23_leftNanos) (x29_78) (T23.heap) n0 z26 po23_0 po23_1 po23_2 po23_3 g_b12) hZ (hw _ (List.mem_of_getElem? (i := 22) rfl)) (hw _ (List.mem_of_getElem? (i := 5) rfl)) (by decide) (by decide)) q25a q25c (g := (mkF m 139 #[.val (.long q0), .second, .val (.long q1), .second, .val (.long q2), .second, .val (.long q3), .second, .val (.long q4), .second, .val (.int p5), .val (.long x11_7), .second, .val (.long x13_15), .second, .val (.long x15_26), .second, .val (.long x17_34), .second, .val (.long x19_42), .second, .val (.long x21_51), .second, .val (.long x23_57), .second, .val (.long x25_64), .second, .val (.long x27_71), .second, .val (.long x29_78), .second, .val (.long x31_85), .second, .val (.ref b12), .val (.long x34_109), .second, .val (.long x36_128), .second, .unset, .unset, .unset, .unset, .unset, .unset, .unset, .unset, .unset, .unset] [(.long x31_85), (.ref b12)])) rfl (by rw [hml]; rfl) (Steps.refl _) (argsL := [(.long x31_85)]) (rest := []) (lenOf pd_2 rfl) rfl (by show 2 * 0 + _ ≤ _; exact Nat.le_of_eq rfl) (hb hby at_139) (fun _ _ => ⟨rfl, rfl, (by decide : 1 + 0 ≤ _), (by decide : 3 + 0 ≤ _)⟩)
  dsimp only [Pt.U, Pt.locs, Pt.cells, Pt.slots] at X25 l25 y25 z25 st25 hQ25
  subst l25 y25 z25
  obtain ⟨rfl, Nq25, K25, po25_0, po25_1, po25_2, po25_3⟩ := hQ25
  have N25 := Fr.app N23 Nq25
  obtain ⟨u25_leftNanos, hu25_leftNanos⟩ : ∃ z, z = (own_p3_leftNanos x31_85 x11_7 u23_leftNanos x29_78) := ⟨_, rfl⟩
  rw [← hu25_leftNanos] at po25_2
  obtain ⟨x38_147, hx38_147, pre27⟩ : ∃ z : Int64, z = ((own_f3 x31_85 x11_7 u23_leftNanos x29_78) - x31_85) ∧ own_Pre p e below (s₁.setTop (entryFrame m #[(.long q0), (.long q1), (.long q2), (.long q3), (.long q4), (.int p5)] maxLocals)) (T25.setTop (mkF m 147 #[.val (.long q0), .second, .val (.long q1), .second, .val (.long q2), .second, .val (.long q3), .second, .val (.long q4), .second, .val (.int p5), .val (.long x11_7), .second, .val (.long x13_15), .second, .val (.long x15_26), .second, .val (.long x17_34), .second, .val (.long x19_42), .second, .val (.long x21_51), .second, .val (.long x23_57), .second, .val (.long x25_64), .second, .val (.long x27_71), .second, .val (.long x29_78), .second, .val (.long x31_85), .second, .val (.ref b12), .val (.long x34_109), .second, .val (.long x36_128), .second, .val (.long z), .second, .unset, .unset, .unset, .unset, .unset, .unset, .unset, .unset] [])) := ⟨_, rfl, fun t k => pre22 t (by
      show Steps p.tables e below (T20.setTop (mkF m 128 #[.val (.long q0), .second, .val (.long q1), .second, .val (.long q2), .second, .val (.long q3), .second, .val (.long q4), .second, .val (.int p5), .val (.long x11_7), .second, .val (.long x13_15), .second, .val (.long x15_26), .second, .val (.long x17_34), .second, .val (.long x19_42), .second, .val (.long x21_51), .second, .val (.long x23_57), .second, .val (.long x25_64), .second, .val (.long x27_71), .second, .val (.long x29_78), .second, .val (.long x31_85), .second, .val (.ref b12), .val (.long x34_109), .second, .val (.long x36_128), .second, .unset, .unset, .unset, .unset, .unset, .unset, .unset, .unset, .unset, .unset] [])) _
      refine XS.aload X20.here hx rfl (hb hby at_128) rfl rfl ?_
      show Steps p.tables e below (T20.setTop (mkF m 130 #[.val (.long q0), .second, .val (.long q1), .second, .val (.long q2), .second, .val (.long q3), .second, .val (.long q4), .second, .val (.int p5), .val (.long x11_7), .second, .val (.long x13_15), .second, .val (.long x15_26), .second, .val (.long x17_34), .second, .val (.long x19_42), .second, .val (.long x21_51), .second, .val (.long x23_57), .second, .val (.long x25_64), .second, .val (.long x27_71), .second, .val (.long x29_78), .second, .val (.long x31_85), .second, .val (.ref b12), .val (.long x34_109), .second, .val (.long x36_128), .second, .unset, .unset, .unset, .unset, .unset, .unset, .unset, .unset, .unset, .unset] [(.ref b12)])) _
      refine XS.lload X20.here hx rfl (hb hby at_130) rfl ?_
      show Steps p.tables e below (T20.setTop (mkF m 132 #[.val (.long q0), .second, .val (.long q1), .second, .val (.long q2), .second, .val (.long q3), .second, .val (.long q4), .second, .val (.int p5), .val (.long x11_7), .second, .val (.long x13_15), .second, .val (.long x15_26), .second, .val (.long x17_34), .second, .val (.long x19_42), .second, .val (.long x21_51), .second, .val (.long x23_57), .second, .val (.long x25_64), .second, .val (.long x27_71), .second, .val (.long x29_78), .second, .val (.long x31_85), .second, .val (.ref b12), .val (.long x34_109), .second, .val (.long x36_128), .second, .unset, .unset, .unset, .unset, .unset, .unset, .unset, .unset, .unset, .unset] [(.long x29_78), (.ref b12)])) _
      refine st23.trans ?_
      show Steps p.tables e below (T23.setTop (mkF m 135 #[.val (.long q0), .second, .val (.long q1), .second, .val (.long q2), .second, .val (.long q3), .second, .val (.long q4), .second, .val (.int p5), .val (.long x11_7), .second, .val (.long x13_15), .second, .val (.long x15_26), .second, .val (.long x17_34), .second, .val (.long x19_42), .second, .val (.long x21_51), .second, .val (.long x23_57), .second, .val (.long x25_64), .second, .val (.long x27_71), .second, .val (.long x29_78), .second, .val (.long x31_85), .second, .val (.ref b12), .val (.long x34_109), .second, .val (.long x36_128), .second, .unset, .unset, .unset, .unset, .unset, .unset, .unset, .unset, .unset, .unset] [])) _
      refine XS.aload X23.here hx rfl (hb hby at_135) rfl rfl ?_
      show Steps p.tables e below (T23.setTop (mkF m 137 #[.val (.long q0), .second, .val (.long q1), .second, .val (.long q2), .second, .val (.long q3), .second, .val (.long q4), .second, .val (.int p5), .val (.long x11_7), .second, .val (.long x13_15), .second, .val (.long x15_26), .second, .val (.long x17_34), .second, .val (.long x19_42), .second, .val (.long x21_51), .second, .val (.long x23_57), .second, .val (.long x25_64), .second, .val (.long x27_71), .second, .val (.long x29_78), .second, .val (.long x31_85), .second, .val (.ref b12), .val (.long x34_109), .second, .val (.long x36_128), .second, .unset, .unset, .unset, .unset, .unset, .unset, .unset, .unset, .unset, .unset] [(.ref b12)])) _
      refine XS.lload X23.here hx rfl (hb hby at_137) rfl ?_
      show Steps p.tables e below (T23.setTop (mkF m 139 #[.val (.long q0), .second, .val (.long q1), .second, .val (.long q2), .second, .val (.long q3), .second, .val (.long q4), .second, .val (.int p5), .val (.long x11_7), .second, .val (.long x13_15), .second, .val (.long x15_26), .second, .val (.long x17_34), .second, .val (.long x19_42), .second, .val (.long x21_51), .second, .val (.long x23_57), .second, .val (.long x25_64), .second, .val (.long x27_71), .second, .val (.long x29_78), .second, .val (.long x31_85), .second, .val (.ref b12), .val (.long x34_109), .second, .val (.long x36_128), .second, .unset, .unset, .unset, .unset, .unset, .unset, .unset, .unset, .unset, .unset] [(.long x31_85), (.ref b12)])) _
      refine st25.trans ?_
      show Steps p.tables e below (T25.setTop (mkF m 142 #[.val (.long q0), .second, .val (.long q1), .second, .val (.long q2), .second, .val (.long q3), .second, .val (.long q4), .second, .val (.int p5), .val (.long x11_7), .second, .val (.long x13_15), .second, .val (.long x15_26), .second, .val (.long x17_34), .second, .val (.long x19_42), .second, .val (.long x21_51), .second, .val (.long x23_57), .second, .val (.long x25_64), .second, .val (.long x27_71), .second, .val (.long x29_78), .second, .val (.long x31_85), .second, .val (.ref b12), .val (.long x34_109), .second, .val (.long x36_128), .second, .unset, .unset, .unset, .unset, .unset, .unset, .unset, .unset, .unset, .unset] [(.long (own_f3 x31_85 x11_7 u23_leftNanos x29_78))])) _
      refine XS.lload X25.here hx rfl (hb hby at_142) rfl ?_
      show Steps p.tables e below (T25.setTop (mkF m 144 #[.val (.long q0), .second, .val (.long q1), .second, .val (.long q2), .second, .val (.long q3), .second, .val (.long q4), .second, .val (.int p5), .val (.long x11_7), .second, .val (.long x13_15), .second, .val (.long x15_26), .second, .val (.long x17_34), .second, .val (.long x19_42), .second, .val (.long x21_51), .second, .val (.long x23_57), .second, .val (.long x25_64), .second, .val (.long x27_71), .second, .val (.long x29_78), .second, .val (.long x31_85), .second, .val (.ref b12), .val (.long x34_109), .second, .val (.long x36_128), .second, .unset, .unset, .unset, .unset, .unset, .unset, .unset, .unset, .unset, .unset] [(.long x31_85), (.long (own_f3 x31_85 x11_7 u23_leftNanos x29_78))])) _
      refine XS.lsub X25.here hx rfl (hb hby at_144) rfl ?_
      show Steps p.tables e below (T25.setTop (mkF m 145 #[.val (.long q0), .second, .val (.long q1), .second, .val (.long q2), .second, .val (.long q3), .second, .val (.long q4), .second, .val (.int p5), .val (.long x11_7), .second, .val (.long x13_15), .second, .val (.long x15_26), .second, .val (.long x17_34), .second, .val (.long x19_42), .second, .val (.long x21_51), .second, .val (.long x23_57), .second, .val (.long x25_64), .second, .val (.long x27_71), .second, .val (.long x29_78), .second, .val (.long x31_85), .second, .val (.ref b12), .val (.long x34_109), .second, .val (.long x36_128), .second, .unset, .unset, .unset, .unset, .unset, .unset, .unset, .unset, .unset, .unset] [(.long ((own_f3 x31_85 x11_7 u23_leftNanos x29_78) - x31_85))])) _
      refine XS.lstore X25.here hx rfl (hb hby at_145) rfl (l' := #[.val (.long q0), .second, .val (.long q1), .second, .val (.long q2), .second, .val (.long q3), .second, .val (.long q4), .second, .val (.int p5), .val (.long x11_7), .second, .val (.long x13_15), .second, .val (.long x15_26), .second, .val (.long x17_34), .second, .val (.long x19_42), .second, .val (.long x21_51), .second, .val (.long x23_57), .second, .val (.long x25_64), .second, .val (.long x27_71), .second, .val (.long x29_78), .second, .val (.long x31_85), .second, .val (.ref b12), .val (.long x34_109), .second, .val (.long x36_128), .second, .val (.long ((own_f3 x31_85 x11_7 u23_leftNanos x29_78) - x31_85)), .second, .unset, .unset, .unset, .unset, .unset, .unset, .unset, .unset]) rfl ?_
      exact k)⟩
  obtain ⟨x40_154, hx40_154, pre28⟩ : ∃ z : Int64, z = (x11_7 - x17_34) ∧ own_Pre p e below (s₁.setTop (entryFrame m #[(.long q0), (.long q1), (.long q2), (.long q3), (.long q4), (.int p5)] maxLocals)) (T25.setTop (mkF m 154 #[.val (.long q0), .second, .val (.long q1), .second, .val (.long q2), .second, .val (.long q3), .second, .val (.long q4), .second, .val (.int p5), .val (.long x11_7), .second, .val (.long x13_15), .second, .val (.long x15_26), .second, .val (.long x17_34), .second, .val (.long x19_42), .second, .val (.long x21_51), .second, .val (.long x23_57), .second, .val (.long x25_64), .second, .val (.long x27_71), .second, .val (.long x29_78), .second, .val (.long x31_85), .second, .val (.ref b12), .val (.long x34_109), .second, .val (.long x36_128), .second, .val (.long x38_147), .second, .val (.long z), .second, .unset, .unset, .unset, .unset, .unset, .unset] [])) := ⟨_, rfl, fun t k => pre27 t (by
      show Steps p.tables e below (T25.setTop (mkF m 147 #[.val (.long q0), .second, .val (.long q1), .second, .val (.long q2), .second, .val (.long q3), .second, .val (.long q4), .second, .val (.int p5), .val (.long x11_7), .second, .val (.long x13_15), .second, .val (.long x15_26), .second, .val (.long x17_34), .second, .val (.long x19_42), .second, .val (.long x21_51), .second, .val (.long x23_57), .second, .val (.long x25_64), .second, .val (.long x27_71), .second, .val (.long x29_78), .second, .val (.long x31_85), .second, .val (.ref b12), .val (.long x34_109), .second, .val (.long x36_128), .second, .val (.long x38_147), .second, .unset, .unset, .unset, .unset, .unset, .unset, .unset, .unset] [])) _
      refine XS.lload X25.here hx rfl (hb hby at_147) rfl ?_
      show Steps p.tables e below (T25.setTop (mkF m 149 #[.val (.long q0), .second, .val (.long q1), .second, .val (.long q2), .second, .val (.long q3), .second, .val (.long q4), .second, .val (.int p5), .val (.long x11_7), .second, .val (.long x13_15), .second, .val (.long x15_26), .second, .val (.long x17_34), .second, .val (.long x19_42), .second, .val (.long x21_51), .second, .val (.long x23_57), .second, .val (.long x25_64), .second, .val (.long x27_71), .second, .val (.long x29_78), .second, .val (.long x31_85), .second, .val (.ref b12), .val (.long x34_109), .second, .val (.long x36_128), .second, .val (.long x38_147), .second, .unset, .unset, .unset, .unset, .unset, .unset, .unset, .unset] [(.long x11_7)])) _
      refine XS.lload X25.here hx rfl (hb hby at_149) rfl ?_
      show Steps p.tables e below (T25.setTop (mkF m 151 #[.val (.long q0), .second, .val (.long q1), .second, .val (.long q2), .second, .val (.long q3), .second, .val (.long q4), .second, .val (.int p5), .val (.long x11_7), .second, .val (.long x13_15), .second, .val (.long x15_26), .second, .val (.long x17_34), .second, .val (.long x19_42), .second, .val (.long x21_51), .second, .val (.long x23_57), .second, .val (.long x25_64), .second, .val (.long x27_71), .second, .val (.long x29_78), .second, .val (.long x31_85), .second, .val (.ref b12), .val (.long x34_109), .second, .val (.long x36_128), .second, .val (.long x38_147), .second, .unset, .unset, .unset, .unset, .unset, .unset, .unset, .unset] [(.long x17_34), (.long x11_7)])) _
      refine XS.lsub X25.here hx rfl (hb hby at_151) rfl ?_
      show Steps p.tables e below (T25.setTop (mkF m 152 #[.val (.long q0), .second, .val (.long q1), .second, .val (.long q2), .second, .val (.long q3), .second, .val (.long q4), .second, .val (.int p5), .val (.long x11_7), .second, .val (.long x13_15), .second, .val (.long x15_26), .second, .val (.long x17_34), .second, .val (.long x19_42), .second, .val (.long x21_51), .second, .val (.long x23_57), .second, .val (.long x25_64), .second, .val (.long x27_71), .second, .val (.long x29_78), .second, .val (.long x31_85), .second, .val (.ref b12), .val (.long x34_109), .second, .val (.long x36_128), .second, .val (.long x38_147), .second, .unset, .unset, .unset, .unset, .unset, .unset, .unset, .unset] [(.long (x11_7 - x17_34))])) _
      refine XS.lstore X25.here hx rfl (hb hby at_152) rfl (l' := #[.val (.long q0), .second, .val (.long q1), .second, .val (.long q2), .second, .val (.long q3), .second, .val (.long q4), .second, .val (.int p5), .val (.long x11_7), .second, .val (.long x13_15), .second, .val (.long x15_26), .second, .val (.long x17_34), .second, .val (.long x19_42), .second, .val (.long x21_51), .second, .val (.long x23_57), .second, .val (.long x25_64), .second, .val (.long x27_71), .second, .val (.long x29_78), .second, .val (.long x31_85), .second, .val (.ref b12), .val (.long x34_109), .second, .val (.long x36_128), .second, .val (.long x38_147), .second, .val (.long (x11_7 - x17_34)), .second, .unset, .unset, .unset, .unset, .unset, .unset]) rfl ?_
      exact k)⟩
  have z30 : n0 ≤ (T25.heap).size := (Nat.le_trans z26 K25.1)
  obtain ⟨_, _, ⟨T29, L29, k29, n29⟩, -, X29, ⟨Lc29, hQ29, l29, y29, z29⟩, st29⟩ := Jvm.LawKit.callS X25 hx (y := (⟨"dev/stint/deadline/HoldAllowanceEndPinLaw", "cap", "(JJ)J"⟩ : MethodName)) hown (mvT hZ (hw _ (List.mem_of_getElem? (i := 34) rfl))) (mvT hZ (hw _ (List.mem_of_getElem? (i := 35) rfl))) (mvT hZ (hw _ (List.mem_of_getElem? (i := 36) rfl))) (mvT hZ (hw _ (List.mem_of_getElem? (i := 37) rfl))) (by decide) (backOf (W := 0) (rm6 l Z aw hw [] ((x40_154 + (x19_42 / (4 : Int64)))) (x11_7) (T25.heap) n0 z30) hZ (hw _ (List.mem_of_getElem? (i := 37) rfl)) (hw _ (List.mem_of_getElem? (i := 36) rfl)) (by decide) (by decide)) (g := (mkF m 165 #[.val (.long q0), .second, .val (.long q1), .second, .val (.long q2), .second, .val (.long q3), .second, .val (.long q4), .second, .val (.int p5), .val (.long x11_7), .second, .val (.long x13_15), .second, .val (.long x15_26), .second, .val (.long x17_34), .second, .val (.long x19_42), .second, .val (.long x21_51), .second, .val (.long x23_57), .second, .val (.long x25_64), .second, .val (.long x27_71), .second, .val (.long x29_78), .second, .val (.long x31_85), .second, .val (.ref b12), .val (.long x34_109), .second, .val (.long x36_128), .second, .val (.long x38_147), .second, .val (.long x40_154), .second, .unset, .unset, .unset, .unset, .unset, .unset] [(.long x11_7), (.long (x40_154 + (x19_42 / (4 : Int64))))])) rfl (by rw [hml]; rfl) (argsL := [(.long (x40_154 + (x19_42 / (4 : Int64)))), (.long x11_7)]) (rest := []) (lenOf pd_0 rfl) rfl (by show 2 * 0 + _ ≤ _; exact Nat.le_of_eq rfl) (hb hby at_165) (fun _ _ => ⟨rfl, rfl, (by decide : 1 + 0 ≤ _), (by decide : 3 + 0 ≤ _)⟩)
  dsimp only [Pt.U, Pt.locs, Pt.cells, Pt.slots] at X29 l29 y29 z29 st29 hQ29
  subst l29 y29 z29
  obtain ⟨rfl, Nq29, eq29⟩ := hQ29
  have N29 := Fr.app N25 Nq29
  obtain ⟨x42_170, hx42_170, pre31⟩ : ∃ z : Int64, z = (own_f6 ((x40_154 + (x19_42 / (4 : Int64)))) x11_7) ∧ own_Pre p e below (s₁.setTop (entryFrame m #[(.long q0), (.long q1), (.long q2), (.long q3), (.long q4), (.int p5)] maxLocals)) (T29.setTop (mkF m 170 #[.val (.long q0), .second, .val (.long q1), .second, .val (.long q2), .second, .val (.long q3), .second, .val (.long q4), .second, .val (.int p5), .val (.long x11_7), .second, .val (.long x13_15), .second, .val (.long x15_26), .second, .val (.long x17_34), .second, .val (.long x19_42), .second, .val (.long x21_51), .second, .val (.long x23_57), .second, .val (.long x25_64), .second, .val (.long x27_71), .second, .val (.long x29_78), .second, .val (.long x31_85), .second, .val (.ref b12), .val (.long x34_109), .second, .val (.long x36_128), .second, .val (.long x38_147), .second, .val (.long x40_154), .second, .val (.long z), .second, .unset, .unset, .unset, .unset] [])) := ⟨_, rfl, fun t k => pre28 t (by
      show Steps p.tables e below (T25.setTop (mkF m 154 #[.val (.long q0), .second, .val (.long q1), .second, .val (.long q2), .second, .val (.long q3), .second, .val (.long q4), .second, .val (.int p5), .val (.long x11_7), .second, .val (.long x13_15), .second, .val (.long x15_26), .second, .val (.long x17_34), .second, .val (.long x19_42), .second, .val (.long x21_51), .second, .val (.long x23_57), .second, .val (.long x25_64), .second, .val (.long x27_71), .second, .val (.long x29_78), .second, .val (.long x31_85), .second, .val (.ref b12), .val (.long x34_109), .second, .val (.long x36_128), .second, .val (.long x38_147), .second, .val (.long x40_154), .second, .unset, .unset, .unset, .unset, .unset, .unset] [])) _
      refine XS.lload X25.here hx rfl (hb hby at_154) rfl ?_
      show Steps p.tables e below (T25.setTop (mkF m 156 #[.val (.long q0), .second, .val (.long q1), .second, .val (.long q2), .second, .val (.long q3), .second, .val (.long q4), .second, .val (.int p5), .val (.long x11_7), .second, .val (.long x13_15), .second, .val (.long x15_26), .second, .val (.long x17_34), .second, .val (.long x19_42), .second, .val (.long x21_51), .second, .val (.long x23_57), .second, .val (.long x25_64), .second, .val (.long x27_71), .second, .val (.long x29_78), .second, .val (.long x31_85), .second, .val (.ref b12), .val (.long x34_109), .second, .val (.long x36_128), .second, .val (.long x38_147), .second, .val (.long x40_154), .second, .unset, .unset, .unset, .unset, .unset, .unset] [(.long x40_154)])) _
      refine XS.lload X25.here hx rfl (hb hby at_156) rfl ?_
      show Steps p.tables e below (T25.setTop (mkF m 158 #[.val (.long q0), .second, .val (.long q1), .second, .val (.long q2), .second, .val (.long q3), .second, .val (.long q4), .second, .val (.int p5), .val (.long x11_7), .second, .val (.long x13_15), .second, .val (.long x15_26), .second, .val (.long x17_34), .second, .val (.long x19_42), .second, .val (.long x21_51), .second, .val (.long x23_57), .second, .val (.long x25_64), .second, .val (.long x27_71), .second, .val (.long x29_78), .second, .val (.long x31_85), .second, .val (.ref b12), .val (.long x34_109), .second, .val (.long x36_128), .second, .val (.long x38_147), .second, .val (.long x40_154), .second, .unset, .unset, .unset, .unset, .unset, .unset] [(.long x19_42), (.long x40_154)])) _
      refine X25.ldc2Long hx hown (mvT hZ (hw _ (List.mem_of_getElem? (i := 33) rfl))) (g := (mkF m 158 #[.val (.long q0), .second, .val (.long q1), .second, .val (.long q2), .second, .val (.long q3), .second, .val (.long q4), .second, .val (.int p5), .val (.long x11_7), .second, .val (.long x13_15), .second, .val (.long x15_26), .second, .val (.long x17_34), .second, .val (.long x19_42), .second, .val (.long x21_51), .second, .val (.long x23_57), .second, .val (.long x25_64), .second, .val (.long x27_71), .second, .val (.long x29_78), .second, .val (.long x31_85), .second, .val (.ref b12), .val (.long x34_109), .second, .val (.long x36_128), .second, .val (.long x38_147), .second, .val (.long x40_154), .second, .unset, .unset, .unset, .unset, .unset, .unset] [(.long x19_42), (.long x40_154)])) rfl (hb hby at_158) _ ?_
      show Steps p.tables e below (T25.setTop (mkF m 161 #[.val (.long q0), .second, .val (.long q1), .second, .val (.long q2), .second, .val (.long q3), .second, .val (.long q4), .second, .val (.int p5), .val (.long x11_7), .second, .val (.long x13_15), .second, .val (.long x15_26), .second, .val (.long x17_34), .second, .val (.long x19_42), .second, .val (.long x21_51), .second, .val (.long x23_57), .second, .val (.long x25_64), .second, .val (.long x27_71), .second, .val (.long x29_78), .second, .val (.long x31_85), .second, .val (.ref b12), .val (.long x34_109), .second, .val (.long x36_128), .second, .val (.long x38_147), .second, .val (.long x40_154), .second, .unset, .unset, .unset, .unset, .unset, .unset] [(.long (4 : Int64)), (.long x19_42), (.long x40_154)])) _
      refine XS.ldiv X25.here hx rfl (hb hby at_161) rfl (by decide) ?_
      show Steps p.tables e below (T25.setTop (mkF m 162 #[.val (.long q0), .second, .val (.long q1), .second, .val (.long q2), .second, .val (.long q3), .second, .val (.long q4), .second, .val (.int p5), .val (.long x11_7), .second, .val (.long x13_15), .second, .val (.long x15_26), .second, .val (.long x17_34), .second, .val (.long x19_42), .second, .val (.long x21_51), .second, .val (.long x23_57), .second, .val (.long x25_64), .second, .val (.long x27_71), .second, .val (.long x29_78), .second, .val (.long x31_85), .second, .val (.ref b12), .val (.long x34_109), .second, .val (.long x36_128), .second, .val (.long x38_147), .second, .val (.long x40_154), .second, .unset, .unset, .unset, .unset, .unset, .unset] [(.long (x19_42 / (4 : Int64))), (.long x40_154)])) _
      refine XS.ladd X25.here hx rfl (hb hby at_162) rfl ?_
      show Steps p.tables e below (T25.setTop (mkF m 163 #[.val (.long q0), .second, .val (.long q1), .second, .val (.long q2), .second, .val (.long q3), .second, .val (.long q4), .second, .val (.int p5), .val (.long x11_7), .second, .val (.long x13_15), .second, .val (.long x15_26), .second, .val (.long x17_34), .second, .val (.long x19_42), .second, .val (.long x21_51), .second, .val (.long x23_57), .second, .val (.long x25_64), .second, .val (.long x27_71), .second, .val (.long x29_78), .second, .val (.long x31_85), .second, .val (.ref b12), .val (.long x34_109), .second, .val (.long x36_128), .second, .val (.long x38_147), .second, .val (.long x40_154), .second, .unset, .unset, .unset, .unset, .unset, .unset] [(.long (x40_154 + (x19_42 / (4 : Int64))))])) _
      refine XS.lload X25.here hx rfl (hb hby at_163) rfl ?_
      show Steps p.tables e below (T25.setTop (mkF m 165 #[.val (.long q0), .second, .val (.long q1), .second, .val (.long q2), .second, .val (.long q3), .second, .val (.long q4), .second, .val (.int p5), .val (.long x11_7), .second, .val (.long x13_15), .second, .val (.long x15_26), .second, .val (.long x17_34), .second, .val (.long x19_42), .second, .val (.long x21_51), .second, .val (.long x23_57), .second, .val (.long x25_64), .second, .val (.long x27_71), .second, .val (.long x29_78), .second, .val (.long x31_85), .second, .val (.ref b12), .val (.long x34_109), .second, .val (.long x36_128), .second, .val (.long x38_147), .second, .val (.long x40_154), .second, .unset, .unset, .unset, .unset, .unset, .unset] [(.long x11_7), (.long (x40_154 + (x19_42 / (4 : Int64))))])) _
      refine st29 _ ?_
      show Steps p.tables e below (T29.setTop (mkF m 168 #[.val (.long q0), .second, .val (.long q1), .second, .val (.long q2), .second, .val (.long q3), .second, .val (.long q4), .second, .val (.int p5), .val (.long x11_7), .second, .val (.long x13_15), .second, .val (.long x15_26), .second, .val (.long x17_34), .second, .val (.long x19_42), .second, .val (.long x21_51), .second, .val (.long x23_57), .second, .val (.long x25_64), .second, .val (.long x27_71), .second, .val (.long x29_78), .second, .val (.long x31_85), .second, .val (.ref b12), .val (.long x34_109), .second, .val (.long x36_128), .second, .val (.long x38_147), .second, .val (.long x40_154), .second, .unset, .unset, .unset, .unset, .unset, .unset] [(.long (own_f6 ((x40_154 + (x19_42 / (4 : Int64)))) x11_7))])) _
      refine XS.lstore X29.here hx rfl (hb hby at_168) rfl (l' := #[.val (.long q0), .second, .val (.long q1), .second, .val (.long q2), .second, .val (.long q3), .second, .val (.long q4), .second, .val (.int p5), .val (.long x11_7), .second, .val (.long x13_15), .second, .val (.long x15_26), .second, .val (.long x17_34), .second, .val (.long x19_42), .second, .val (.long x21_51), .second, .val (.long x23_57), .second, .val (.long x25_64), .second, .val (.long x27_71), .second, .val (.long x29_78), .second, .val (.long x31_85), .second, .val (.ref b12), .val (.long x34_109), .second, .val (.long x36_128), .second, .val (.long x38_147), .second, .val (.long x40_154), .second, .val (.long (own_f6 ((x40_154 + (x19_42 / (4 : Int64)))) x11_7)), .second, .unset, .unset, .unset, .unset]) rfl ?_
      exact k)⟩
  obtain ⟨x44_177, hx44_177, pre32⟩ : ∃ z : Int64, z = (x42_170 - x15_26) ∧ own_Pre p e below (s₁.setTop (entryFrame m #[(.long q0), (.long q1), (.long q2), (.long q3), (.long q4), (.int p5)] maxLocals)) (T29.setTop (mkF m 177 #[.val (.long q0), .second, .val (.long q1), .second, .val (.long q2), .second, .val (.long q3), .second, .val (.long q4), .second, .val (.int p5), .val (.long x11_7), .second, .val (.long x13_15), .second, .val (.long x15_26), .second, .val (.long x17_34), .second, .val (.long x19_42), .second, .val (.long x21_51), .second, .val (.long x23_57), .second, .val (.long x25_64), .second, .val (.long x27_71), .second, .val (.long x29_78), .second, .val (.long x31_85), .second, .val (.ref b12), .val (.long x34_109), .second, .val (.long x36_128), .second, .val (.long x38_147), .second, .val (.long x40_154), .second, .val (.long x42_170), .second, .val (.long z), .second, .unset, .unset] [])) := ⟨_, rfl, fun t k => pre31 t (by
      show Steps p.tables e below (T29.setTop (mkF m 170 #[.val (.long q0), .second, .val (.long q1), .second, .val (.long q2), .second, .val (.long q3), .second, .val (.long q4), .second, .val (.int p5), .val (.long x11_7), .second, .val (.long x13_15), .second, .val (.long x15_26), .second, .val (.long x17_34), .second, .val (.long x19_42), .second, .val (.long x21_51), .second, .val (.long x23_57), .second, .val (.long x25_64), .second, .val (.long x27_71), .second, .val (.long x29_78), .second, .val (.long x31_85), .second, .val (.ref b12), .val (.long x34_109), .second, .val (.long x36_128), .second, .val (.long x38_147), .second, .val (.long x40_154), .second, .val (.long x42_170), .second, .unset, .unset, .unset, .unset] [])) _
      refine XS.lload X29.here hx rfl (hb hby at_170) rfl ?_
      show Steps p.tables e below (T29.setTop (mkF m 172 #[.val (.long q0), .second, .val (.long q1), .second, .val (.long q2), .second, .val (.long q3), .second, .val (.long q4), .second, .val (.int p5), .val (.long x11_7), .second, .val (.long x13_15), .second, .val (.long x15_26), .second, .val (.long x17_34), .second, .val (.long x19_42), .second, .val (.long x21_51), .second, .val (.long x23_57), .second, .val (.long x25_64), .second, .val (.long x27_71), .second, .val (.long x29_78), .second, .val (.long x31_85), .second, .val (.ref b12), .val (.long x34_109), .second, .val (.long x36_128), .second, .val (.long x38_147), .second, .val (.long x40_154), .second, .val (.long x42_170), .second, .unset, .unset, .unset, .unset] [(.long x42_170)])) _
      refine XS.lload X29.here hx rfl (hb hby at_172) rfl ?_
      show Steps p.tables e below (T29.setTop (mkF m 174 #[.val (.long q0), .second, .val (.long q1), .second, .val (.long q2), .second, .val (.long q3), .second, .val (.long q4), .second, .val (.int p5), .val (.long x11_7), .second, .val (.long x13_15), .second, .val (.long x15_26), .second, .val (.long x17_34), .second, .val (.long x19_42), .second, .val (.long x21_51), .second, .val (.long x23_57), .second, .val (.long x25_64), .second, .val (.long x27_71), .second, .val (.long x29_78), .second, .val (.long x31_85), .second, .val (.ref b12), .val (.long x34_109), .second, .val (.long x36_128), .second, .val (.long x38_147), .second, .val (.long x40_154), .second, .val (.long x42_170), .second, .unset, .unset, .unset, .unset] [(.long x15_26), (.long x42_170)])) _
      refine XS.lsub X29.here hx rfl (hb hby at_174) rfl ?_
      show Steps p.tables e below (T29.setTop (mkF m 175 #[.val (.long q0), .second, .val (.long q1), .second, .val (.long q2), .second, .val (.long q3), .second, .val (.long q4), .second, .val (.int p5), .val (.long x11_7), .second, .val (.long x13_15), .second, .val (.long x15_26), .second, .val (.long x17_34), .second, .val (.long x19_42), .second, .val (.long x21_51), .second, .val (.long x23_57), .second, .val (.long x25_64), .second, .val (.long x27_71), .second, .val (.long x29_78), .second, .val (.long x31_85), .second, .val (.ref b12), .val (.long x34_109), .second, .val (.long x36_128), .second, .val (.long x38_147), .second, .val (.long x40_154), .second, .val (.long x42_170), .second, .unset, .unset, .unset, .unset] [(.long (x42_170 - x15_26))])) _
      refine XS.lstore X29.here hx rfl (hb hby at_175) rfl (l' := #[.val (.long q0), .second, .val (.long q1), .second, .val (.long q2), .second, .val (.long q3), .second, .val (.long q4), .second, .val (.int p5), .val (.long x11_7), .second, .val (.long x13_15), .second, .val (.long x15_26), .second, .val (.long x17_34), .second, .val (.long x19_42), .second, .val (.long x21_51), .second, .val (.long x23_57), .second, .val (.long x25_64), .second, .val (.long x27_71), .second, .val (.long x29_78), .second, .val (.long x31_85), .second, .val (.ref b12), .val (.long x34_109), .second, .val (.long x36_128), .second, .val (.long x38_147), .second, .val (.long x40_154), .second, .val (.long x42_170), .second, .val (.long (x42_170 - x15_26)), .second, .unset, .unset]) rfl ?_
      exact k)⟩
  obtain ⟨_, _, ⟨T33, L33, k33, n33⟩, -, X33, ⟨Lc33, hQ33, l33, y33, z33⟩, st33⟩ := Jvm.LawKit.callS X29 hx (y := (⟨"dev/stint/deadline/HoldAllowanceEndPinLaw", "cap", "(JJ)J"⟩ : MethodName)) hown (mvT hZ (hw _ (List.mem_of_getElem? (i := 34) rfl))) (mvT hZ (hw _ (List.mem_of_getElem? (i := 35) rfl))) (mvT hZ (hw _ (List.mem_of_getElem? (i := 36) rfl))) (mvT hZ (hw _ (List.mem_of_getElem? (i := 37) rfl))) (by decide) (backOf (W := 0) (rm6 l Z aw hw [] ((x44_177 + (x21_51 / (4 : Int64)))) (x11_7) (T25.heap) n0 z30) hZ (hw _ (List.mem_of_getElem? (i := 37) rfl)) (hw _ (List.mem_of_getElem? (i := 36) rfl)) (by decide) (by decide)) (g := (mkF m 188 #[.val (.long q0), .second, .val (.long q1), .second, .val (.long q2), .second, .val (.long q3), .second, .val (.long q4), .second, .val (.int p5), .val (.long x11_7), .second, .val (.long x13_15), .second, .val (.long x15_26), .second, .val (.long x17_34), .second, .val (.long x19_42), .second, .val (.long x21_51), .second, .val (.long x23_57), .second, .val (.long x25_64), .second, .val (.long x27_71), .second, .val (.long x29_78), .second, .val (.long x31_85), .second, .val (.ref b12), .val (.long x34_109), .second, .val (.long x36_128), .second, .val (.long x38_147), .second, .val (.long x40_154), .second, .val (.long x42_170), .second, .val (.long x44_177), .second, .unset, .unset] [(.long x11_7), (.long (x44_177 + (x21_51 / (4 : Int64))))])) rfl (by rw [hml]; rfl) (argsL := [(.long (x44_177 + (x21_51 / (4 : Int64)))), (.long x11_7)]) (rest := []) (lenOf pd_0 rfl) rfl (by show 2 * 0 + _ ≤ _; exact Nat.le_of_eq rfl) (hb hby at_188) (fun _ _ => ⟨rfl, eq29, (by decide : 1 + 0 ≤ _), (by decide : 3 + 0 ≤ _)⟩)
  dsimp only [Pt.U, Pt.locs, Pt.cells, Pt.slots] at X33 l33 y33 z33 st33 hQ33
  subst l33 y33 z33
  obtain ⟨rfl, Nq33, eq33⟩ := hQ33
  have N33 := Fr.app N29 Nq33
  obtain ⟨x46_193, hx46_193, pre34⟩ : ∃ z : Int64, z = (own_f6 ((x44_177 + (x21_51 / (4 : Int64)))) x11_7) ∧ own_Pre p e below (s₁.setTop (entryFrame m #[(.long q0), (.long q1), (.long q2), (.long q3), (.long q4), (.int p5)] maxLocals)) (T33.setTop (mkF m 193 #[.val (.long q0), .second, .val (.long q1), .second, .val (.long q2), .second, .val (.long q3), .second, .val (.long q4), .second, .val (.int p5), .val (.long x11_7), .second, .val (.long x13_15), .second, .val (.long x15_26), .second, .val (.long x17_34), .second, .val (.long x19_42), .second, .val (.long x21_51), .second, .val (.long x23_57), .second, .val (.long x25_64), .second, .val (.long x27_71), .second, .val (.long x29_78), .second, .val (.long x31_85), .second, .val (.ref b12), .val (.long x34_109), .second, .val (.long x36_128), .second, .val (.long x38_147), .second, .val (.long x40_154), .second, .val (.long x42_170), .second, .val (.long x44_177), .second, .val (.long z), .second] [])) := ⟨_, rfl, fun t k => pre32 t (by
      show Steps p.tables e below (T29.setTop (mkF m 177 #[.val (.long q0), .second, .val (.long q1), .second, .val (.long q2), .second, .val (.long q3), .second, .val (.long q4), .second, .val (.int p5), .val (.long x11_7), .second, .val (.long x13_15), .second, .val (.long x15_26), .second, .val (.long x17_34), .second, .val (.long x19_42), .second, .val (.long x21_51), .second, .val (.long x23_57), .second, .val (.long x25_64), .second, .val (.long x27_71), .second, .val (.long x29_78), .second, .val (.long x31_85), .second, .val (.ref b12), .val (.long x34_109), .second, .val (.long x36_128), .second, .val (.long x38_147), .second, .val (.long x40_154), .second, .val (.long x42_170), .second, .val (.long x44_177), .second, .unset, .unset] [])) _
      refine XS.lload X29.here hx rfl (hb hby at_177) rfl ?_
      show Steps p.tables e below (T29.setTop (mkF m 179 #[.val (.long q0), .second, .val (.long q1), .second, .val (.long q2), .second, .val (.long q3), .second, .val (.long q4), .second, .val (.int p5), .val (.long x11_7), .second, .val (.long x13_15), .second, .val (.long x15_26), .second, .val (.long x17_34), .second, .val (.long x19_42), .second, .val (.long x21_51), .second, .val (.long x23_57), .second, .val (.long x25_64), .second, .val (.long x27_71), .second, .val (.long x29_78), .second, .val (.long x31_85), .second, .val (.ref b12), .val (.long x34_109), .second, .val (.long x36_128), .second, .val (.long x38_147), .second, .val (.long x40_154), .second, .val (.long x42_170), .second, .val (.long x44_177), .second, .unset, .unset] [(.long x44_177)])) _
      refine XS.lload X29.here hx rfl (hb hby at_179) rfl ?_
      show Steps p.tables e below (T29.setTop (mkF m 181 #[.val (.long q0), .second, .val (.long q1), .second, .val (.long q2), .second, .val (.long q3), .second, .val (.long q4), .second, .val (.int p5), .val (.long x11_7), .second, .val (.long x13_15), .second, .val (.long x15_26), .second, .val (.long x17_34), .second, .val (.long x19_42), .second, .val (.long x21_51), .second, .val (.long x23_57), .second, .val (.long x25_64), .second, .val (.long x27_71), .second, .val (.long x29_78), .second, .val (.long x31_85), .second, .val (.ref b12), .val (.long x34_109), .second, .val (.long x36_128), .second, .val (.long x38_147), .second, .val (.long x40_154), .second, .val (.long x42_170), .second, .val (.long x44_177), .second, .unset, .unset] [(.long x21_51), (.long x44_177)])) _
      refine X29.ldc2Long hx hown (mvT hZ (hw _ (List.mem_of_getElem? (i := 33) rfl))) (g := (mkF m 181 #[.val (.long q0), .second, .val (.long q1), .second, .val (.long q2), .second, .val (.long q3), .second, .val (.long q4), .second, .val (.int p5), .val (.long x11_7), .second, .val (.long x13_15), .second, .val (.long x15_26), .second, .val (.long x17_34), .second, .val (.long x19_42), .second, .val (.long x21_51), .second, .val (.long x23_57), .second, .val (.long x25_64), .second, .val (.long x27_71), .second, .val (.long x29_78), .second, .val (.long x31_85), .second, .val (.ref b12), .val (.long x34_109), .second, .val (.long x36_128), .second, .val (.long x38_147), .second, .val (.long x40_154), .second, .val (.long x42_170), .second, .val (.long x44_177), .second, .unset, .unset] [(.long x21_51), (.long x44_177)])) rfl (hb hby at_181) _ ?_
      show Steps p.tables e below (T29.setTop (mkF m 184 #[.val (.long q0), .second, .val (.long q1), .second, .val (.long q2), .second, .val (.long q3), .second, .val (.long q4), .second, .val (.int p5), .val (.long x11_7), .second, .val (.long x13_15), .second, .val (.long x15_26), .second, .val (.long x17_34), .second, .val (.long x19_42), .second, .val (.long x21_51), .second, .val (.long x23_57), .second, .val (.long x25_64), .second, .val (.long x27_71), .second, .val (.long x29_78), .second, .val (.long x31_85), .second, .val (.ref b12), .val (.long x34_109), .second, .val (.long x36_128), .second, .val (.long x38_147), .second, .val (.long x40_154), .second, .val (.long x42_170), .second, .val (.long x44_177), .second, .unset, .unset] [(.long (4 : Int64)), (.long x21_51), (.long x44_177)])) _
      refine XS.ldiv X29.here hx rfl (hb hby at_184) rfl (by decide) ?_
      show Steps p.tables e below (T29.setTop (mkF m 185 #[.val (.long q0), .second, .val (.long q1), .second, .val (.long q2), .second, .val (.long q3), .second, .val (.long q4), .second, .val (.int p5), .val (.long x11_7), .second, .val (.long x13_15), .second, .val (.long x15_26), .second, .val (.long x17_34), .second, .val (.long x19_42), .second, .val (.long x21_51), .second, .val (.long x23_57), .second, .val (.long x25_64), .second, .val (.long x27_71), .second, .val (.long x29_78), .second, .val (.long x31_85), .second, .val (.ref b12), .val (.long x34_109), .second, .val (.long x36_128), .second, .val (.long x38_147), .second, .val (.long x40_154), .second, .val (.long x42_170), .second, .val (.long x44_177), .second, .unset, .unset] [(.long (x21_51 / (4 : Int64))), (.long x44_177)])) _
      refine XS.ladd X29.here hx rfl (hb hby at_185) rfl ?_
      show Steps p.tables e below (T29.setTop (mkF m 186 #[.val (.long q0), .second, .val (.long q1), .second, .val (.long q2), .second, .val (.long q3), .second, .val (.long q4), .second, .val (.int p5), .val (.long x11_7), .second, .val (.long x13_15), .second, .val (.long x15_26), .second, .val (.long x17_34), .second, .val (.long x19_42), .second, .val (.long x21_51), .second, .val (.long x23_57), .second, .val (.long x25_64), .second, .val (.long x27_71), .second, .val (.long x29_78), .second, .val (.long x31_85), .second, .val (.ref b12), .val (.long x34_109), .second, .val (.long x36_128), .second, .val (.long x38_147), .second, .val (.long x40_154), .second, .val (.long x42_170), .second, .val (.long x44_177), .second, .unset, .unset] [(.long (x44_177 + (x21_51 / (4 : Int64))))])) _
      refine XS.lload X29.here hx rfl (hb hby at_186) rfl ?_
      show Steps p.tables e below (T29.setTop (mkF m 188 #[.val (.long q0), .second, .val (.long q1), .second, .val (.long q2), .second, .val (.long q3), .second, .val (.long q4), .second, .val (.int p5), .val (.long x11_7), .second, .val (.long x13_15), .second, .val (.long x15_26), .second, .val (.long x17_34), .second, .val (.long x19_42), .second, .val (.long x21_51), .second, .val (.long x23_57), .second, .val (.long x25_64), .second, .val (.long x27_71), .second, .val (.long x29_78), .second, .val (.long x31_85), .second, .val (.ref b12), .val (.long x34_109), .second, .val (.long x36_128), .second, .val (.long x38_147), .second, .val (.long x40_154), .second, .val (.long x42_170), .second, .val (.long x44_177), .second, .unset, .unset] [(.long x11_7), (.long (x44_177 + (x21_51 / (4 : Int64))))])) _
      refine st33 _ ?_
      show Steps p.tables e below (T33.setTop (mkF m 191 #[.val (.long q0), .second, .val (.long q1), .second, .val (.long q2), .second, .val (.long q3), .second, .val (.long q4), .second, .val (.int p5), .val (.long x11_7), .second, .val (.long x13_15), .second, .val (.long x15_26), .second, .val (.long x17_34), .second, .val (.long x19_42), .second, .val (.long x21_51), .second, .val (.long x23_57), .second, .val (.long x25_64), .second, .val (.long x27_71), .second, .val (.long x29_78), .second, .val (.long x31_85), .second, .val (.ref b12), .val (.long x34_109), .second, .val (.long x36_128), .second, .val (.long x38_147), .second, .val (.long x40_154), .second, .val (.long x42_170), .second, .val (.long x44_177), .second, .unset, .unset] [(.long (own_f6 ((x44_177 + (x21_51 / (4 : Int64)))) x11_7))])) _
      refine XS.lstore X33.here hx rfl (hb hby at_191) rfl (l' := #[.val (.long q0), .second, .val (.long q1), .second, .val (.long q2), .second, .val (.long q3), .second, .val (.long q4), .second, .val (.int p5), .val (.long x11_7), .second, .val (.long x13_15), .second, .val (.long x15_26), .second, .val (.long x17_34), .second, .val (.long x19_42), .second, .val (.long x21_51), .second, .val (.long x23_57), .second, .val (.long x25_64), .second, .val (.long x27_71), .second, .val (.long x29_78), .second, .val (.long x31_85), .second, .val (.ref b12), .val (.long x34_109), .second, .val (.long x36_128), .second, .val (.long x38_147), .second, .val (.long x40_154), .second, .val (.long x42_170), .second, .val (.long x44_177), .second, .val (.long (own_f6 ((x44_177 + (x21_51 / (4 : Int64)))) x11_7)), .second]) rfl ?_
      exact k)⟩
  have hc198 : (x34_109 = x11_7) := (own_all hx11_7 hx13_15 hx23_57 hx25_64 hx27_71 hx29_78 hx31_85 hu15_leftNanos hx34_109 hu18_leftNanos hu20_leftNanos hx36_128 hu23_leftNanos hx38_147 hx40_154 hx42_170 hx44_177 hx46_193).1
  have hc206 : (x36_128 = x42_170) := (own_all hx11_7 hx13_15 hx23_57 hx25_64 hx27_71 hx29_78 hx31_85 hu15_leftNanos hx34_109 hu18_leftNanos hu20_leftNanos hx36_128 hu23_leftNanos hx38_147 hx40_154 hx42_170 hx44_177 hx46_193).2.1
  have hc214 : (x38_147 = x46_193) := (own_all hx11_7 hx13_15 hx23_57 hx25_64 hx27_71 hx29_78 hx31_85 hu15_leftNanos hx34_109 hu18_leftNanos hu20_leftNanos hx36_128 hu23_leftNanos hx38_147 hx40_154 hx42_170 hx44_177 hx46_193).2.2
  obtain ⟨fs, hr, hrun, hended, hW, hsame⟩ := X33.leave (v := some (.int (1 : Int32))) (fun h => by rw [Bd.returns] at h; cases h)
  refine ⟨_, _, pre34 _ ?_, hrun, hended, _, _, rfl, ?_, ⟨_, rfl⟩, hW, hsame.mono (by decide) (by decide)⟩
  · show Steps p.tables e below (T33.setTop (mkF m 193 #[.val (.long q0), .second, .val (.long q1), .second, .val (.long q2), .second, .val (.long q3), .second, .val (.long q4), .second, .val (.int p5), .val (.long x11_7), .second, .val (.long x13_15), .second, .val (.long x15_26), .second, .val (.long x17_34), .second, .val (.long x19_42), .second, .val (.long x21_51), .second, .val (.long x23_57), .second, .val (.long x25_64), .second, .val (.long x27_71), .second, .val (.long x29_78), .second, .val (.long x31_85), .second, .val (.ref b12), .val (.long x34_109), .second, .val (.long x36_128), .second, .val (.long x38_147), .second, .val (.long x40_154), .second, .val (.long x42_170), .second, .val (.long x44_177), .second, .val (.long x46_193), .second] [])) _
    refine XS.lload X33.here hx rfl (hb hby at_193) rfl ?_
    show Steps p.tables e below (T33.setTop (mkF m 195 #[.val (.long q0), .second, .val (.long q1), .second, .val (.long q2), .second, .val (.long q3), .second, .val (.long q4), .second, .val (.int p5), .val (.long x11_7), .second, .val (.long x13_15), .second, .val (.long x15_26), .second, .val (.long x17_34), .second, .val (.long x19_42), .second, .val (.long x21_51), .second, .val (.long x23_57), .second, .val (.long x25_64), .second, .val (.long x27_71), .second, .val (.long x29_78), .second, .val (.long x31_85), .second, .val (.ref b12), .val (.long x34_109), .second, .val (.long x36_128), .second, .val (.long x38_147), .second, .val (.long x40_154), .second, .val (.long x42_170), .second, .val (.long x44_177), .second, .val (.long x46_193), .second] [(.long x34_109)])) _
    refine XS.lload X33.here hx rfl (hb hby at_195) rfl ?_
    show Steps p.tables e below (T33.setTop (mkF m 197 #[.val (.long q0), .second, .val (.long q1), .second, .val (.long q2), .second, .val (.long q3), .second, .val (.long q4), .second, .val (.int p5), .val (.long x11_7), .second, .val (.long x13_15), .second, .val (.long x15_26), .second, .val (.long x17_34), .second, .val (.long x19_42), .second, .val (.long x21_51), .second, .val (.long x23_57), .second, .val (.long x25_64), .second, .val (.long x27_71), .second, .val (.long x29_78), .second, .val (.long x31_85), .second, .val (.ref b12), .val (.long x34_109), .second, .val (.long x36_128), .second, .val (.long x38_147), .second, .val (.long x40_154), .second, .val (.long x42_170), .second, .val (.long x44_177), .second, .val (.long x46_193), .second] [(.long x11_7), (.long x34_109)])) _
    refine XS.lcmp X33.here hx rfl (hb hby at_197) rfl ?_
    show Steps p.tables e below (T33.setTop (mkF m 198 #[.val (.long q0), .second, .val (.long q1), .second, .val (.long q2), .second, .val (.long q3), .second, .val (.long q4), .second, .val (.int p5), .val (.long x11_7), .second, .val (.long x13_15), .second, .val (.long x15_26), .second, .val (.long x17_34), .second, .val (.long x19_42), .second, .val (.long x21_51), .second, .val (.long x23_57), .second, .val (.long x25_64), .second, .val (.long x27_71), .second, .val (.long x29_78), .second, .val (.long x31_85), .second, .val (.ref b12), .val (.long x34_109), .second, .val (.long x36_128), .second, .val (.long x38_147), .second, .val (.long x40_154), .second, .val (.long x42_170), .second, .val (.long x44_177), .second, .val (.long x46_193), .second] [(.int (lcmpW x34_109 x11_7))])) _
    refine XS.ifNo X33.here hx rfl (hb hby at_198) rfl ((if0 _ _).trans (teq ((lw_eq _ _).mpr hc198)).2) ?_
    show Steps p.tables e below (T33.setTop (mkF m 201 #[.val (.long q0), .second, .val (.long q1), .second, .val (.long q2), .second, .val (.long q3), .second, .val (.long q4), .second, .val (.int p5), .val (.long x11_7), .second, .val (.long x13_15), .second, .val (.long x15_26), .second, .val (.long x17_34), .second, .val (.long x19_42), .second, .val (.long x21_51), .second, .val (.long x23_57), .second, .val (.long x25_64), .second, .val (.long x27_71), .second, .val (.long x29_78), .second, .val (.long x31_85), .second, .val (.ref b12), .val (.long x34_109), .second, .val (.long x36_128), .second, .val (.long x38_147), .second, .val (.long x40_154), .second, .val (.long x42_170), .second, .val (.long x44_177), .second, .val (.long x46_193), .second] [])) _
    refine XS.lload X33.here hx rfl (hb hby at_201) rfl ?_
    show Steps p.tables e below (T33.setTop (mkF m 203 #[.val (.long q0), .second, .val (.long q1), .second, .val (.long q2), .second, .val (.long q3), .second, .val (.long q4), .second, .val (.int p5), .val (.long x11_7), .second, .val (.long x13_15), .second, .val (.long x15_26), .second, .val (.long x17_34), .second, .val (.long x19_42), .second, .val (.long x21_51), .second, .val (.long x23_57), .second, .val (.long x25_64), .second, .val (.long x27_71), .second, .val (.long x29_78), .second, .val (.long x31_85), .second, .val (.ref b12), .val (.long x34_109), .second, .val (.long x36_128), .second, .val (.long x38_147), .second, .val (.long x40_154), .second, .val (.long x42_170), .second, .val (.long x44_177), .second, .val (.long x46_193), .second] [(.long x36_128)])) _
    refine XS.lload X33.here hx rfl (hb hby at_203) rfl ?_
    show Steps p.tables e below (T33.setTop (mkF m 205 #[.val (.long q0), .second, .val (.long q1), .second, .val (.long q2), .second, .val (.long q3), .second, .val (.long q4), .second, .val (.int p5), .val (.long x11_7), .second, .val (.long x13_15), .second, .val (.long x15_26), .second, .val (.long x17_34), .second, .val (.long x19_42), .second, .val (.long x21_51), .second, .val (.long x23_57), .second, .val (.long x25_64), .second, .val (.long x27_71), .second, .val (.long x29_78), .second, .val (.long x31_85), .second, .val (.ref b12), .val (.long x34_109), .second, .val (.long x36_128), .second, .val (.long x38_147), .second, .val (.long x40_154), .second, .val (.long x42_170), .second, .val (.long x44_177), .second, .val (.long x46_193), .second] [(.long x42_170), (.long x36_128)])) _
    refine XS.lcmp X33.here hx rfl (hb hby at_205) rfl ?_
    show Steps p.tables e below (T33.setTop (mkF m 206 #[.val (.long q0), .second, .val (.long q1), .second, .val (.long q2), .second, .val (.long q3), .second, .val (.long q4), .second, .val (.int p5), .val (.long x11_7), .second, .val (.long x13_15), .second, .val (.long x15_26), .second, .val (.long x17_34), .second, .val (.long x19_42), .second, .val (.long x21_51), .second, .val (.long x23_57), .second, .val (.long x25_64), .second, .val (.long x27_71), .second, .val (.long x29_78), .second, .val (.long x31_85), .second, .val (.ref b12), .val (.long x34_109), .second, .val (.long x36_128), .second, .val (.long x38_147), .second, .val (.long x40_154), .second, .val (.long x42_170), .second, .val (.long x44_177), .second, .val (.long x46_193), .second] [(.int (lcmpW x36_128 x42_170))])) _
    refine XS.ifNo X33.here hx rfl (hb hby at_206) rfl ((if0 _ _).trans (teq ((lw_eq _ _).mpr hc206)).2) ?_
    show Steps p.tables e below (T33.setTop (mkF m 209 #[.val (.long q0), .second, .val (.long q1), .second, .val (.long q2), .second, .val (.long q3), .second, .val (.long q4), .second, .val (.int p5), .val (.long x11_7), .second, .val (.long x13_15), .second, .val (.long x15_26), .second, .val (.long x17_34), .second, .val (.long x19_42), .second, .val (.long x21_51), .second, .val (.long x23_57), .second, .val (.long x25_64), .second, .val (.long x27_71), .second, .val (.long x29_78), .second, .val (.long x31_85), .second, .val (.ref b12), .val (.long x34_109), .second, .val (.long x36_128), .second, .val (.long x38_147), .second, .val (.long x40_154), .second, .val (.long x42_170), .second, .val (.long x44_177), .second, .val (.long x46_193), .second] [])) _
    refine XS.lload X33.here hx rfl (hb hby at_209) rfl ?_
    show Steps p.tables e below (T33.setTop (mkF m 211 #[.val (.long q0), .second, .val (.long q1), .second, .val (.long q2), .second, .val (.long q3), .second, .val (.long q4), .second, .val (.int p5), .val (.long x11_7), .second, .val (.long x13_15), .second, .val (.long x15_26), .second, .val (.long x17_34), .second, .val (.long x19_42), .second, .val (.long x21_51), .second, .val (.long x23_57), .second, .val (.long x25_64), .second, .val (.long x27_71), .second, .val (.long x29_78), .second, .val (.long x31_85), .second, .val (.ref b12), .val (.long x34_109), .second, .val (.long x36_128), .second, .val (.long x38_147), .second, .val (.long x40_154), .second, .val (.long x42_170), .second, .val (.long x44_177), .second, .val (.long x46_193), .second] [(.long x38_147)])) _
    refine XS.lload X33.here hx rfl (hb hby at_211) rfl ?_
    show Steps p.tables e below (T33.setTop (mkF m 213 #[.val (.long q0), .second, .val (.long q1), .second, .val (.long q2), .second, .val (.long q3), .second, .val (.long q4), .second, .val (.int p5), .val (.long x11_7), .second, .val (.long x13_15), .second, .val (.long x15_26), .second, .val (.long x17_34), .second, .val (.long x19_42), .second, .val (.long x21_51), .second, .val (.long x23_57), .second, .val (.long x25_64), .second, .val (.long x27_71), .second, .val (.long x29_78), .second, .val (.long x31_85), .second, .val (.ref b12), .val (.long x34_109), .second, .val (.long x36_128), .second, .val (.long x38_147), .second, .val (.long x40_154), .second, .val (.long x42_170), .second, .val (.long x44_177), .second, .val (.long x46_193), .second] [(.long x46_193), (.long x38_147)])) _
    refine XS.lcmp X33.here hx rfl (hb hby at_213) rfl ?_
    show Steps p.tables e below (T33.setTop (mkF m 214 #[.val (.long q0), .second, .val (.long q1), .second, .val (.long q2), .second, .val (.long q3), .second, .val (.long q4), .second, .val (.int p5), .val (.long x11_7), .second, .val (.long x13_15), .second, .val (.long x15_26), .second, .val (.long x17_34), .second, .val (.long x19_42), .second, .val (.long x21_51), .second, .val (.long x23_57), .second, .val (.long x25_64), .second, .val (.long x27_71), .second, .val (.long x29_78), .second, .val (.long x31_85), .second, .val (.ref b12), .val (.long x34_109), .second, .val (.long x36_128), .second, .val (.long x38_147), .second, .val (.long x40_154), .second, .val (.long x42_170), .second, .val (.long x44_177), .second, .val (.long x46_193), .second] [(.int (lcmpW x38_147 x46_193))])) _
    refine XS.ifNo X33.here hx rfl (hb hby at_214) rfl ((if0 _ _).trans (teq ((lw_eq _ _).mpr hc214)).2) ?_
    show Steps p.tables e below (T33.setTop (mkF m 217 #[.val (.long q0), .second, .val (.long q1), .second, .val (.long q2), .second, .val (.long q3), .second, .val (.long q4), .second, .val (.int p5), .val (.long x11_7), .second, .val (.long x13_15), .second, .val (.long x15_26), .second, .val (.long x17_34), .second, .val (.long x19_42), .second, .val (.long x21_51), .second, .val (.long x23_57), .second, .val (.long x25_64), .second, .val (.long x27_71), .second, .val (.long x29_78), .second, .val (.long x31_85), .second, .val (.ref b12), .val (.long x34_109), .second, .val (.long x36_128), .second, .val (.long x38_147), .second, .val (.long x40_154), .second, .val (.long x42_170), .second, .val (.long x44_177), .second, .val (.long x46_193), .second] [])) _
    refine XS.iconst X33.here hx rfl (hb hby at_217) ?_
    show Steps p.tables e below (T33.setTop (mkF m 218 #[.val (.long q0), .second, .val (.long q1), .second, .val (.long q2), .second, .val (.long q3), .second, .val (.long q4), .second, .val (.int p5), .val (.long x11_7), .second, .val (.long x13_15), .second, .val (.long x15_26), .second, .val (.long x17_34), .second, .val (.long x19_42), .second, .val (.long x21_51), .second, .val (.long x23_57), .second, .val (.long x25_64), .second, .val (.long x27_71), .second, .val (.long x29_78), .second, .val (.long x31_85), .second, .val (.ref b12), .val (.long x34_109), .second, .val (.long x36_128), .second, .val (.long x38_147), .second, .val (.long x40_154), .second, .val (.long x42_170), .second, .val (.long x44_177), .second, .val (.long x46_193), .second] [(.int (1 : Int32))])) _
    refine XS.goto X33.here hx rfl (pc0 := 218) (pc' := 222) rfl (hb hby at_218) (by decide) (by decide) ?_
    show Steps p.tables e below (T33.setTop (mkF m 222 #[.val (.long q0), .second, .val (.long q1), .second, .val (.long q2), .second, .val (.long q3), .second, .val (.long q4), .second, .val (.int p5), .val (.long x11_7), .second, .val (.long x13_15), .second, .val (.long x15_26), .second, .val (.long x17_34), .second, .val (.long x19_42), .second, .val (.long x21_51), .second, .val (.long x23_57), .second, .val (.long x25_64), .second, .val (.long x27_71), .second, .val (.long x29_78), .second, .val (.long x31_85), .second, .val (.ref b12), .val (.long x34_109), .second, .val (.long x36_128), .second, .val (.long x38_147), .second, .val (.long x40_154), .second, .val (.long x42_170), .second, .val (.long x44_177), .second, .val (.long x46_193), .second] [(.int (1 : Int32))])) _
    exact retN X33 hx (t := .boolean) Bd.returns (by simp) (hb hby at_222) hr
  · show Q0 Z q0 q1 q2 q3 q4 p5 h0 n0 _ T33.heap _
    rw [eq33]
    unfold Q0
    refine ⟨rfl, N33⟩
set_option maxRecDepth 65536 in
set_option maxHeartbeats 40000000 in
theorem comes_1 {Post : Tables → Env → Array Value → State → Outcome → State → Prop} (hpost : ∀ tb e args s v u, (limb_1_1.after args s (.returned v) u = true ∧ limb_1_2.after args s (.returned v) u = true ∧ True) → FrameEnd s (.returned v) u (Jvm.fieldLocs frame_1_writes args s ++ Jvm.arrayLocs frame_1_arrays args s ++ Jvm.staticLocs frame_1_statics s) 16 128 → Post tb e args s (.returned v) u) :
    ArmFor flags0 classFile x code maxLocals ret World_1 tables_1 room_1 Calls_1 rest_1 Pre_1 Post := by
  intro l hfl _ _ p e ha hc hk s m args below hf hA hF happ hP
  obtain ⟨hcalls, hrest, hpre⟩ := hP
  obtain ⟨-, -, -, hnamed, -, -, -, hat⟩ := (Spec.applies_iff hf).mp happ
  obtain ⟨hg, hn⟩ := and_e (Cond.before_iff.mp (show (Jvm.Cond.and given_1 narrow_1).before args s = true from hpre))
  obtain ⟨gv1, gv2⟩ := and_e hg
  obtain ⟨gv3, gv4⟩ := and_e gv2
  obtain ⟨gv5, gv6⟩ := and_e gv4
  obtain ⟨gv7, gv8⟩ := and_e gv6
  obtain ⟨gv9, gv10⟩ := and_e gv8
  obtain ⟨gv11, gv12⟩ := and_e gv10
  obtain ⟨w0, w1, w2, w3, w4, w5, rfl⟩ : ∃ w0 w1 w2 w3 w4 w5 : Value, args = #[w0, w1, w2, w3, w4, w5] := by
    have hs : args.size = 6 := by simpa [Cond.value, given_1] using gv1
    obtain ⟨L⟩ := args
    match L, hs with
    | [w0, w1, w2, w3, w4, w5], _ => exact ⟨w0, w1, w2, w3, w4, w5, rfl⟩
  have hw := fun d (hd : d ∈ tables_1) => atoms_spec (ws := Jvm.Cond.code x code maxLocals ret :: tables_1) hat d (List.mem_cons_of_mem _ hd)
  obtain ⟨i0, ei0⟩ := isL_v gv3
  obtain rfl : w0 = (.long i0) := Option.some.inj ei0
  obtain ⟨i1, ei1⟩ := isL_v gv5
  obtain rfl : w1 = (.long i1) := Option.some.inj ei1
  obtain ⟨i2, ei2⟩ := isL_v gv7
  obtain rfl : w2 = (.long i2) := Option.some.inj ei2
  obtain ⟨i3, ei3⟩ := isL_v gv9
  obtain rfl : w3 = (.long i3) := Option.some.inj ei3
  obtain ⟨i4, ei4⟩ := isL_v gv11
  obtain rfl : w4 = (.long i4) := Option.some.inj ei4
  obtain ⟨i5, ei5⟩ := is_v gv12
  obtain rfl : w5 = (.int i5) := Option.some.inj ei5
  obtain ⟨n, o, h1, h2, h3, _, L, rfl, ⟨rfl, N⟩, hq⟩ := rm0 l s _ hw tables_1 i0 i1 i2 i3 i4 i5 s.heap s.heap.size (Nat.le_refl _) p e ha hc hk s m _ below hf ((Spec.applies_iff_loose hf).mp happ).1 ⟨rfl, State.Warmed39.refl s, rfl⟩ trivial
  refine ⟨n, _, h1, h2, h3, hpost _ _ _ _ _ _ ⟨Cond.after_iff.mpr rfl, Cond.after_iff.mpr (eq_i res_at (Term.int_eval (1)) rfl), trivial⟩ ⟨hq.1, hq.2.1, (hq.2.2.sift fun y hy => Or.inr (N y hy)).mono (by decide) (by decide)⟩⟩
theorem main_1_1 : Claimed_1_1 := comes_1 fun _ _ _ _ _ _ h hF => ⟨h.1, hF⟩
theorem main_1_2 : Claimed_1_2 := comes_1 fun _ _ _ _ _ _ h hF => ⟨h.2.1, hF⟩
end Jvm.Pilot.@@N@@
namespace Jvm.Pilot.@@N@@
open Jvm Jvm.ClassFile Sem Op Lib Jvm.Free Jvm.Stand Jvm.Pilot.@@N@@.Jvm.D
/-! MADE BY PROGRAM (witnessworld.py) out of the Statement's table words and the real class files: 10 classes; the members and pool entries that the words name. The judged class is class 1, her method 2. -/
namespace start1
open Jvm.ClassFile
def u (s : String) : CpInfo := .utf8 (stringToUtf16 s)
/-- a pool by its gaps: so many unusable entries, then the entry; so many at the end -/
def gap : Nat → List CpInfo → List CpInfo
  | 0, r => r
  | n + 1, r => .unusable :: gap n r
def poolList (es : List (Nat × CpInfo)) (last : Nat) : List CpInfo := es.foldr (fun e r => gap e.1 (e.2 :: r)) (gap last [])
def pool (es : List (Nat × CpInfo)) (last : Nat) : Array CpInfo := ⟨poolList es last⟩
def fileOf (pool : Array CpInfo) (this : Nat) (attrs : Array Attribute := #[]) (ms : Array MethodInfo := #[]) (fl : Nat := 33) (sup : Nat := 0) (ifs : Array Nat := #[]) (fds : Array FieldInfo := #[]) : ClassFile where
  minorVersion := 0
  majorVersion := 65
  constantPool := pool
  accessFlags := fl
  thisClass := this
  superClass := sup
  interfaces := ifs
  fields := fds
  methods := ms
  attributes := attrs
def plain (name : String) (sup : Option ClassId) : Class where
  name := name
  kind := .ordinary
  loader := none
  accessFlags := 33
  super := sup
  interfaces := #[]
  cf := none
  fields := #[]
  methods := #[]
  instanceTypes := #[]
  staticTypes := #[]
  resolved := #[]
  callSites := []
  init := .initialized
  statics := none
  mirror := none

def pool0 : Array CpInfo := pool [(5, u "<init>"), (0, u "()V"), (1, .class_ 10), (1, u "java/lang/Object")] 113

def k0c0 : Code := { maxStack := 0, maxLocals := 1, code := object_method_1_code, exceptionTable := #[], attributes := #[] }
def k0m0 : Method := { name := "<init>", desc := "()V", sig := { parameters := [], returnType := none }, accessFlags := 1, code := some k0c0 }
/-- java/lang/Object -/
def k0 : Class := { plain "java/lang/Object" none with
  accessFlags := 33
  interfaces := #[]
  cf := some (fileOf pool0 8 #[] #[{ accessFlags := 1, nameIndex := 5, descriptorIndex := 6, attributes := #[] }] 33 0 #[] #[])
  fields := #[]
  methods := #[k0m0]
  instanceTypes := #[]
  staticTypes := #[]
  resolved := Array.replicate 124 none
  statics := none }

def pool1 : Array CpInfo := pool [(2, .class_ 4), (1, u "java/lang/Object"), (0, u "<init>"), (0, u "()V"), (0, .long 1099511627775), (1, .long 1048575), (1, .long 2147483647), (1, .class_ 14), (0, u "dev/stint/deadline/HoldAllowance"), (0, .methodref 13 16), (0, .nameAndType 5 17), (0, u "(JJ)V"), (0, .methodref 13 19), (0, .nameAndType 20 21), (0, u "begin"), (0, u "(J)J"), (0, .methodref 13 23), (0, .nameAndType 24 25), (0, u "end"), (0, u "(J)V"), (0, .long 4), (1, .methodref 29 30), (0, .class_ 31), (0, .nameAndType 32 33), (0, u "dev/stint/deadline/HoldAllowanceEndPinLaw"), (0, u "cap"), (0, u "(JJ)J"), (3, u "law"), (0, u "(JJJJJI)Z")] 2

def k1m0 : Method := { name := "<init>", desc := "()V", sig := { parameters := [], returnType := none }, accessFlags := 1, code := none }
def k1c1 : Code := { maxStack := 4, maxLocals := 4, code := method_2_code, exceptionTable := #[], attributes := #[] }
def k1m1 : Method := { name := "cap", desc := "(JJ)J", sig := { parameters := [.long, .long], returnType := some .long }, accessFlags := 10, code := some k1c1 }
def k1c2 : Code := { maxStack := 6, maxLocals := 48, code := code, exceptionTable := #[], attributes := #[] }
def k1m2 : Method := { name := "law", desc := "(JJJJJI)Z", sig := { parameters := [.long, .long, .long, .long, .long, .int], returnType := some .boolean }, accessFlags := 9, code := some k1c2 }
/-- dev/stint/deadline/HoldAllowanceEndPinLaw -/
def k1 : Class := { plain "dev/stint/deadline/HoldAllowanceEndPinLaw" (some 0) with
  accessFlags := 49
  interfaces := #[]
  cf := some (fileOf pool1 29 #[] #[{ accessFlags := 1, nameIndex := 5, descriptorIndex := 6, attributes := #[] }, { accessFlags := 10, nameIndex := 32, descriptorIndex := 33, attributes := #[] }, { accessFlags := 9, nameIndex := 37, descriptorIndex := 38, attributes := #[] }] 49 2 #[] #[])
  fields := #[]
  methods := #[k1m0, k1m1, k1m2]
  instanceTypes := #[]
  staticTypes := #[]
  resolved := Array.replicate 41 none
  statics := none }

def pool2 : Array CpInfo := pool [(1, .methodref 2 3), (0, .class_ 4), (0, .nameAndType 5 6), (0, u "java/lang/Object"), (0, u "<init>"), (0, u "()V"), (0, .fieldref 8 9), (0, .class_ 10), (0, .nameAndType 11 12), (0, u "dev/stint/deadline/HoldAllowance"), (0, u "maxNanos"), (0, u "J"), (0, .fieldref 8 14), (0, .nameAndType 15 12), (0, u "leftNanos"), (0, .fieldref 8 17), (0, .nameAndType 18 12), (0, u "since"), (0, .long 4), (1, .methodref 22 23), (0, .class_ 24), (0, .nameAndType 25 26), (0, u "java/lang/Math"), (0, u "min"), (0, u "(JJ)J"), (0, u "EARNING"), (0, u "I"), (2, u "(JJ)V"), (2, u "begin"), (0, u "(J)J"), (0, u "end"), (0, u "(J)V")] 2

def k2c0 : Code := { maxStack := 3, maxLocals := 5, code := prog_37_method_1_code, exceptionTable := #[], attributes := #[] }
def k2m0 : Method := { name := "<init>", desc := "(JJ)V", sig := { parameters := [.long, .long], returnType := none }, accessFlags := 0, code := some k2c0 }
def k2c1 : Code := { maxStack := 9, maxLocals := 3, code := prog_37_method_2_code, exceptionTable := #[], attributes := #[] }
def k2m1 : Method := { name := "begin", desc := "(J)J", sig := { parameters := [.long], returnType := some .long }, accessFlags := 0, code := some k2c1 }
def k2c2 : Code := { maxStack := 7, maxLocals := 3, code := prog_37_method_3_code, exceptionTable := #[], attributes := #[] }
def k2m2 : Method := { name := "end", desc := "(J)V", sig := { parameters := [.long], returnType := none }, accessFlags := 0, code := some k2c2 }
/-- dev/stint/deadline/HoldAllowance -/
def k2 : Class := { plain "dev/stint/deadline/HoldAllowance" (some 0) with
  accessFlags := 48
  interfaces := #[]
  cf := some (fileOf pool2 8 #[] #[{ accessFlags := 0, nameIndex := 5, descriptorIndex := 31, attributes := #[] }, { accessFlags := 0, nameIndex := 34, descriptorIndex := 35, attributes := #[] }, { accessFlags := 0, nameIndex := 36, descriptorIndex := 37, attributes := #[] }] 48 2 #[] #[{ accessFlags := 24, nameIndex := 27, descriptorIndex := 28, attributes := #[] }, { accessFlags := 18, nameIndex := 11, descriptorIndex := 12, attributes := #[] }, { accessFlags := 2, nameIndex := 15, descriptorIndex := 12, attributes := #[] }, { accessFlags := 2, nameIndex := 18, descriptorIndex := 12, attributes := #[] }])
  fields := #[{ name := "EARNING", type := .int, accessFlags := 24, slot := 0, constantValue := 0 }, { name := "maxNanos", type := .long, accessFlags := 18, slot := 0, constantValue := 0 }, { name := "leftNanos", type := .long, accessFlags := 2, slot := 1, constantValue := 0 }, { name := "since", type := .long, accessFlags := 2, slot := 2, constantValue := 0 }]
  methods := #[k2m0, k2m1, k2m2]
  instanceTypes := #[.long, .long, .long]
  staticTypes := #[.int]
  resolved := Array.replicate 40 none
  statics := none }

def pool3 : Array CpInfo := pool [(1, .class_ 2), (0, u "java/lang/Math"), (1, .class_ 6), (1, u "java/lang/Object"), (0, u "<init>"), (0, u "()V"), (89, .class_ 100), (1, u "java/lang/Math$RandomNumberGeneratorHolder"), (20, u "(JJ)J"), (50, u "negativeZeroFloatBits"), (0, u "J"), (2, u "negativeZeroDoubleBits"), (24, u "min"), (43, u "$assertionsDisabled"), (0, u "Z"), (91, u "twoToTheDoubleScaleDown"), (0, u "D"), (4, u "twoToTheDoubleScaleUp"), (9, u "E"), (3, u "PI"), (2, u "TAU"), (2, u "DEGREES_TO_RADIANS"), (0, u "RADIANS_TO_DEGREES")] 94

def k3m0 : Method := { name := "<init>", desc := "()V", sig := { parameters := [], returnType := none }, accessFlags := 2, code := none }
def k3c1 : Code := { maxStack := 4, maxLocals := 4, code := jdk_29_method_70_code, exceptionTable := #[], attributes := #[] }
def k3m1 : Method := { name := "min", desc := "(JJ)J", sig := { parameters := [.long, .long], returnType := some .long }, accessFlags := 9, code := some k3c1 }
/-- java/lang/Math -/
def k3 : Class := { plain "java/lang/Math" (some 0) with
  accessFlags := 49
  interfaces := #[]
  cf := some (fileOf pool3 1 #[.nestMembers #[98]] #[{ accessFlags := 2, nameIndex := 7, descriptorIndex := 8, attributes := #[] }, { accessFlags := 9, nameIndex := 201, descriptorIndex := 121, attributes := #[] }] 49 4 #[] #[{ accessFlags := 25, nameIndex := 354, descriptorIndex := 339, attributes := #[] }, { accessFlags := 25, nameIndex := 358, descriptorIndex := 339, attributes := #[] }, { accessFlags := 25, nameIndex := 361, descriptorIndex := 339, attributes := #[] }, { accessFlags := 26, nameIndex := 364, descriptorIndex := 339, attributes := #[] }, { accessFlags := 26, nameIndex := 365, descriptorIndex := 339, attributes := #[] }, { accessFlags := 26, nameIndex := 172, descriptorIndex := 173, attributes := #[] }, { accessFlags := 26, nameIndex := 176, descriptorIndex := 173, attributes := #[] }, { accessFlags := 8, nameIndex := 344, descriptorIndex := 339, attributes := #[] }, { accessFlags := 8, nameIndex := 338, descriptorIndex := 339, attributes := #[] }, { accessFlags := 4120, nameIndex := 245, descriptorIndex := 246, attributes := #[] }])
  fields := #[{ name := "E", type := .double, accessFlags := 25, slot := 0, constantValue := 0 }, { name := "PI", type := .double, accessFlags := 25, slot := 1, constantValue := 0 }, { name := "TAU", type := .double, accessFlags := 25, slot := 2, constantValue := 0 }, { name := "DEGREES_TO_RADIANS", type := .double, accessFlags := 26, slot := 3, constantValue := 0 }, { name := "RADIANS_TO_DEGREES", type := .double, accessFlags := 26, slot := 4, constantValue := 0 }, { name := "negativeZeroFloatBits", type := .long, accessFlags := 26, slot := 5, constantValue := 0 }, { name := "negativeZeroDoubleBits", type := .long, accessFlags := 26, slot := 6, constantValue := 0 }, { name := "twoToTheDoubleScaleUp", type := .double, accessFlags := 8, slot := 7, constantValue := 0 }, { name := "twoToTheDoubleScaleDown", type := .double, accessFlags := 8, slot := 8, constantValue := 0 }, { name := "$assertionsDisabled", type := .boolean, accessFlags := 4120, slot := 9, constantValue := 0 }]
  methods := #[k3m0, k3m1]
  instanceTypes := #[]
  staticTypes := #[.double, .double, .double, .double, .double, .long, .long, .double, .double, .boolean]
  resolved := Array.replicate 460 none
  statics := none }

def pool4 : Array CpInfo := pool [(1, u "java/lang/Cloneable"), (0, .class_ 1), (0, u "java/lang/Object"), (0, .class_ 3)] 3

/-- java/lang/Cloneable -/
def k4 : Class := { plain "java/lang/Cloneable" (some 0) with
  accessFlags := 1537
  interfaces := #[]
  cf := some (fileOf pool4 2 #[] #[] 1537 4 #[] #[])
  fields := #[]
  methods := #[]
  instanceTypes := #[]
  staticTypes := #[]
  resolved := Array.replicate 8 none
  statics := none }

def pool5 : Array CpInfo := pool [(1, u "java/io/Serializable"), (0, .class_ 1), (0, u "java/lang/Object"), (0, .class_ 3)] 3

/-- java/io/Serializable -/
def k5 : Class := { plain "java/io/Serializable" (some 0) with
  accessFlags := 1537
  interfaces := #[]
  cf := some (fileOf pool5 2 #[] #[] 1537 4 #[] #[])
  fields := #[]
  methods := #[]
  instanceTypes := #[]
  staticTypes := #[]
  resolved := Array.replicate 8 none
  statics := none }

/-- the primitive byte -/
def k6 : Class := { plain "byte" none with kind := .primitive 'B', accessFlags := 0x411 }
/-- [B -/
def k7 : Class := { plain "[B" (some 0) with kind := .array 6 .byte, interfaces := #[4, 5], accessFlags := 1041 }

/-- the primitive int -/
def k8 : Class := { plain "int" none with kind := .primitive 'I', accessFlags := 0x411 }
/-- [I -/
def k9 : Class := { plain "[I" (some 0) with kind := .array 8 .int, interfaces := #[4, 5], accessFlags := 1041 }

def heap : Heap := #[]
def classes : Array Class := #[k0, k1, k2, k3, k4, k5, k6, k7, k8, k9]
def interned : List (Array UInt16 × Addr) := []
def slotsUsed : Nat := 0
def theMethod : MethodId := ⟨1, 2⟩
def args0 : Array Value := #[.long 5, .long 6, .long 7, .long 8, .long 9, .int 3]
def aboutOver (below : List Frame) : State where
  vm := { classes := classes, interned := interned.toArray }
  heap := heap
  slotsUsed := slotsUsed
  threads := #[{ frames := .invoking theMethod args0 :: below }]
def below0 : List Frame := [.native { method := ⟨0, 0⟩, args := #[] }]
def about1 : State := aboutOver below0
def p0 : Program := .bare "" "" ""
def e0 : Env := launch0.env 0 0 0
theorem w_frames : about1.frames = Frame.invoking theMethod args0 :: below0 := rfl
set_option maxRecDepth 65536 in
theorem w_args : argsFit about1.vm theMethod args0 = true := by decide +kernel
set_option maxRecDepth 65536 in
theorem w_heap : heapFits about1 = true := by decide +kernel
set_option maxRecDepth 65536 in
theorem w_runnable : about1.curStatus? = some .runnable := by decide +kernel
set_option maxRecDepth 65536 in
theorem w_alone : about1.alone = true := by decide +kernel
set_option maxRecDepth 65536 in
theorem w_named : about1.methodNamed? x = some theMethod := by decide +kernel
set_option maxRecDepth 65536 in
theorem w_hears : about1.hears theMethod below0 = true := by decide +kernel
set_option maxRecDepth 65536 in
theorem w_ripe : about1.ripe theMethod args0 below0 = true := by decide +kernel
theorem w_running : about1.status = .running := rfl
set_option maxRecDepth 65536 in
theorem w_room : about1.hasRoom e0.platform room_1 = true :=
  launch0.hasRoom_least _ room_1 (by decide +kernel) (by decide +kernel) (by decide +kernel) (by decide +kernel) (by decide +kernel) (by decide +kernel)
theorem allAtoms_all (ts : List Jvm.Cond) (a : Array Jvm.Value) (st : Jvm.State) : (allAtoms ts).before a st = ts.all (fun c => c.before a st) := by
  induction ts with
  | nil => rfl
  | cons c t ih =>
    show (Jvm.Cond.and c (allAtoms t)).before a st = _
    rw [Jvm.Cond.before_and, ih, List.all_cons]
def words1 : List Jvm.Cond := Jvm.Cond.code x code maxLocals ret :: tables_1
/-- a 'code' word, met by the world's own term for the bytes: nothing is compared byte by byte -/
theorem code_word {y : MethodName} {bytes : ByteArray} {mx : Nat} {rt : Option FieldType} {a : Array Value} {s : State} {m : MethodId} {meth : Method} {c : Code} (h1 : s.methodNamed? y = some m) (h2 : s.vm.method? m = some meth) (h3 : meth.code = some c) (h4 : c.code = bytes)
    (h5 : (c.maxLocals == mx && c.exceptionTable.isEmpty && decide (c.maxStack ≤ mostOperands) && decide (meth.sig.returnType = rt) && !meth.locks && decide (parseMethodDescriptor y.desc = some meth.sig)) = true) : (Jvm.Cond.code y bytes mx rt).before a s = true := by
  simp only [Bool.and_eq_true, beq_iff_eq, Bool.not_eq_true', decide_eq_true_eq] at h5
  obtain ⟨⟨⟨⟨⟨g1, g2⟩, g3⟩, g4⟩, g5⟩, g6⟩ := h5
  simp [Cond.before, Cond.holds, Cond.value, h1, h2, h3, h4, g1, g2, g3, g4, g5, g6]
def isCode : Jvm.Cond → Bool
  | .code _ _ _ _ => true
  | _ => false
theorem all_split {L : List Jvm.Cond} {P : Jvm.Cond → Bool} (h1 : L.all (fun c => isCode c || P c) = true) (h2 : ∀ c ∈ L.filter isCode, P c = true) : L.all P = true := by
  refine List.all_eq_true.mpr fun c hc => ?_
  have h := List.all_eq_true.mp h1 c hc
  rcases Bool.eq_false_or_eq_true (isCode c) with hi | hi
  · exact h2 c (List.mem_filter.mpr ⟨hc, hi⟩)
  · simpa [hi] using h
set_option maxRecDepth 65536 in
theorem w_c0 : (Jvm.Cond.code x code maxLocals ret).before args0 about1 = true := code_word (m := ⟨1, 2⟩) (meth := k1m2) (c := k1c2) (by decide +kernel) rfl rfl rfl (by decide +kernel)
set_option maxRecDepth 65536 in
theorem w_c1 : (Jvm.Cond.code ({ cls := "dev/stint/deadline/HoldAllowance", name := "<init>", desc := "(JJ)V" } : Jvm.MethodName) prog_37_method_1_code (5 : Nat) (Option.none : Option Jvm.ClassFile.FieldType)).before args0 about1 = true := code_word (m := ⟨2, 0⟩) (meth := k2m0) (c := k2c0) (by decide +kernel) rfl rfl rfl (by decide +kernel)
set_option maxRecDepth 65536 in
theorem w_c2 : (Jvm.Cond.code ({ cls := "java/lang/Object", name := "<init>", desc := "()V" } : Jvm.MethodName) object_method_1_code (1 : Nat) (Option.none : Option Jvm.ClassFile.FieldType)).before args0 about1 = true := code_word (m := ⟨0, 0⟩) (meth := k0m0) (c := k0c0) (by decide +kernel) rfl rfl rfl (by decide +kernel)
set_option maxRecDepth 65536 in
theorem w_c3 : (Jvm.Cond.code ({ cls := "dev/stint/deadline/HoldAllowance", name := "begin", desc := "(J)J" } : Jvm.MethodName) prog_37_method_2_code (3 : Nat) (Option.some Jvm.ClassFile.FieldType.long)).before args0 about1 = true := code_word (m := ⟨2, 1⟩) (meth := k2m1) (c := k2c1) (by decide +kernel) rfl rfl rfl (by decide +kernel)
set_option maxRecDepth 65536 in
theorem w_c4 : (Jvm.Cond.code ({ cls := "java/lang/Math", name := "min", desc := "(JJ)J" } : Jvm.MethodName) jdk_29_method_70_code (4 : Nat) (Option.some Jvm.ClassFile.FieldType.long)).before args0 about1 = true := code_word (m := ⟨3, 1⟩) (meth := k3m1) (c := k3c1) (by decide +kernel) rfl rfl rfl (by decide +kernel)
set_option maxRecDepth 65536 in
theorem w_c5 : (Jvm.Cond.code ({ cls := "dev/stint/deadline/HoldAllowance", name := "end", desc := "(J)V" } : Jvm.MethodName) prog_37_method_3_code (3 : Nat) (Option.none : Option Jvm.ClassFile.FieldType)).before args0 about1 = true := code_word (m := ⟨2, 2⟩) (meth := k2m2) (c := k2c2) (by decide +kernel) rfl rfl rfl (by decide +kernel)
set_option maxRecDepth 65536 in
theorem w_c6 : (Jvm.Cond.code ({ cls := "dev/stint/deadline/HoldAllowanceEndPinLaw", name := "cap", desc := "(JJ)J" } : Jvm.MethodName) method_2_code (4 : Nat) (Option.some Jvm.ClassFile.FieldType.long)).before args0 about1 = true := code_word (m := ⟨1, 1⟩) (meth := k1m1) (c := k1c1) (by decide +kernel) rfl rfl rfl (by decide +kernel)
def codes1 : List Jvm.Cond := [Jvm.Cond.code x code maxLocals ret, Jvm.Cond.code ({ cls := "dev/stint/deadline/HoldAllowance", name := "<init>", desc := "(JJ)V" } : Jvm.MethodName) prog_37_method_1_code (5 : Nat) (Option.none : Option Jvm.ClassFile.FieldType), Jvm.Cond.code ({ cls := "java/lang/Object", name := "<init>", desc := "()V" } : Jvm.MethodName) object_method_1_code (1 : Nat) (Option.none : Option Jvm.ClassFile.FieldType), Jvm.Cond.code ({ cls := "dev/stint/deadline/HoldAllowance", name := "begin", desc := "(J)J" } : Jvm.MethodName) prog_37_method_2_code (3 : Nat) (Option.some Jvm.ClassFile.FieldType.long), Jvm.Cond.code ({ cls := "java/lang/Math", name := "min", desc := "(JJ)J" } : Jvm.MethodName) jdk_29_method_70_code (4 : Nat) (Option.some Jvm.ClassFile.FieldType.long), Jvm.Cond.code ({ cls := "dev/stint/deadline/HoldAllowance", name := "end", desc := "(J)V" } : Jvm.MethodName) prog_37_method_3_code (3 : Nat) (Option.none : Option Jvm.ClassFile.FieldType), Jvm.Cond.code ({ cls := "dev/stint/deadline/HoldAllowanceEndPinLaw", name := "cap", desc := "(JJ)J" } : Jvm.MethodName) method_2_code (4 : Nat) (Option.some Jvm.ClassFile.FieldType.long)]
set_option maxRecDepth 65536 in
theorem codes_eq : words1.filter isCode = codes1 := rfl
theorem w_codes : ∀ c ∈ words1.filter isCode, c.before args0 about1 = true := by
  rw [codes_eq]
  intro c hc
  simp only [codes1, List.mem_cons, List.not_mem_nil, or_false] at hc
  rcases hc with rfl | rfl | rfl | rfl | rfl | rfl | rfl
  · exact w_c0
  · exact w_c1
  · exact w_c2
  · exact w_c3
  · exact w_c4
  · exact w_c5
  · exact w_c6
set_option maxRecDepth 65536 in
theorem w_t1 : (words1.take 24).all (fun c => isCode c || c.before args0 about1) = true := by decide +kernel
set_option maxRecDepth 65536 in
theorem w_t2 : (words1.drop 24).all (fun c => isCode c || c.before args0 about1) = true := by decide +kernel
theorem w_tables : (allAtoms (Jvm.Cond.code x code maxLocals ret :: tables_1)).before args0 about1 = true := by
  rw [allAtoms_all]
  show words1.all (fun c => c.before args0 about1) = true
  refine all_split ?_ w_codes
  rw [← List.take_append_drop 24 words1, List.all_append, w_t1, w_t2]
  rfl
set_option maxRecDepth 65536 in
theorem w_case : (Jvm.Cond.and given_1 narrow_1).before args0 about1 = true := by decide +kernel
theorem w_applies : (headSpec (Jvm.Cond.code x code maxLocals ret :: tables_1) room_1).applies x e0.platform about1 = true :=
  (Spec.applies_iff w_frames).mpr ⟨w_running, w_runnable, w_alone, w_named, w_hears, w_ripe, w_room, w_tables⟩
theorem atStart : AtStart classFile x code maxLocals ret World_1 tables_1 room_1 Calls_1 rest_1 Pre_1 launch0 p0 e0 about1 theMethod args0 below0 :=
  ⟨lists_1, trivial, launch0.admits_env _ _ _, launch0.least_env, fairChoices_fair.cas, fairChoices_fair.clock, w_frames, w_args, w_heap, w_applies, trivial, trivial, w_case⟩
end start1
theorem witness_1 : WitnessClaimed_1 := ⟨start1.p0, start1.e0, start1.about1, start1.theMethod, start1.args0, start1.below0, start1.atStart⟩
end Jvm.Pilot.@@N@@
