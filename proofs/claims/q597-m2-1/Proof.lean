import JvmDerived
import JvmDerived.Pilot.@@N@@Statement
import JvmDerived.Pilot.@@N@@Code
set_option linter.unusedVariables false
set_option linter.unusedSimpArgs false
namespace Jvm.RoadKit
open Sem ClassFile Op Lib Jvm.Stand Jvm.Free Jvm.LawKit
section New
variable {p : Program} {l : Launch} {e : Env} {R : Room} {s : State} {m : MethodId} {args : Array Value} {below : List Frame} {meth : Method} {c : Code} {T : State} {locs : List Loc} {cells slots : Nat}
theorem retI (X : Stand p l e R s m args below meth c T locs cells slots) (hx : p.tables.exec = Jvm.exec) {pc : Nat} {Ls : Array Slot} {z : Int32} {rest : List Value} (hret : meth.sig.returnType = some .int) (hd : decode c.code pc = .ok (.ireturn, 1)) {fs : List Frame}
    (hl : ∀ (f : JFrame) (acts : List Action), f.method = m → f.locked = none → f.entered = [] → (doReturn e (T.setTop f) acts (some (.int z))).1 = T.setFrames fs) : Steps p.tables e below (T.setTop (mkF m pc Ls (.int z :: rest))) (T.setFrames fs) := by
  have hm' : T.vm.method? m = some meth := X.method'
  have hn : narrow .int (.int z) = .int z := rfl
  show Steps p.tables e below (T.setTop { method := m, pc := pc, locals := Ls, stack := _ :: rest, locked := none }) _
  jvm_step X.here [X.here.top, hx, hd, hm', hret, hn]
  first | (intro acts; rw [hl _ acts rfl rfl rfl]) | rw [hl _ _ rfl rfl rfl]
  exact Steps.refl _
theorem retJ (X : Stand p l e R s m args below meth c T locs cells slots) (hx : p.tables.exec = Jvm.exec) {pc : Nat} {Ls : Array Slot} {z : Int64} {rest : List Value} (hret : meth.sig.returnType = some .long) (hd : decode c.code pc = .ok (.lreturn, 1)) {fs : List Frame}
    (hl : ∀ (f : JFrame) (acts : List Action), f.method = m → f.locked = none → f.entered = [] → (doReturn e (T.setTop f) acts (some (.long z))).1 = T.setFrames fs) : Steps p.tables e below (T.setTop (mkF m pc Ls (.long z :: rest))) (T.setFrames fs) := by
  have hm' : T.vm.method? m = some meth := X.method'
  have hn : narrow .long (.long z) = .long z := rfl
  show Steps p.tables e below (T.setTop { method := m, pc := pc, locals := Ls, stack := _ :: rest, locked := none }) _
  jvm_step X.here [X.here.top, hx, hd, hm', hret, hn]
  first | (intro acts; rw [hl _ acts rfl rfl rfl]) | rw [hl _ _ rfl rfl rfl]
  exact Steps.refl _
theorem retR (X : Stand p l e R s m args below meth c T locs cells slots) (hx : p.tables.exec = Jvm.exec) {pc : Nat} {Ls : Array Slot} {v : Value} {rest : List Value} (hv : v.isRef = true) {ty : FieldType} (hret : meth.sig.returnType = some ty) (ht : ty.isReference = true) (hd : decode c.code pc = .ok (.areturn, 1)) {fs : List Frame}
    (hl : ∀ (f : JFrame) (acts : List Action), f.method = m → f.locked = none → f.entered = [] → (doReturn e (T.setTop f) acts (some v)).1 = T.setFrames fs) : Steps p.tables e below (T.setTop (mkF m pc Ls (v :: rest))) (T.setFrames fs) := by
  have hm' : T.vm.method? m = some meth := X.method'
  show Steps p.tables e below (T.setTop { method := m, pc := pc, locals := Ls, stack := _ :: rest, locked := none }) _
  jvm_step X.here [X.here.top, hx, hd, hm', hret, hv, ht]
  first | (intro acts; rw [hl _ acts rfl rfl rfl]) | rw [hl _ _ rfl rfl rfl]
  exact Steps.refl _
end New
end Jvm.RoadKit
namespace Jvm.Pilot.@@N@@
open Jvm Jvm.ClassFile Sem Op Lib Jvm.Free Jvm.Stand Jvm.LawKit Jvm.RoadKit Bundle Jvm.Pilot.@@N@@.Jvm.D
/-- from the state 'cur' on is enough -/
def own_Pre (p : Program) (e : Env) (below : List Frame) (start cur : State) : Prop := ∀ t, Steps p.tables e below cur t → Steps p.tables e below start t
/-- an array of ints (bytes, chars, booleans): its length z, its components ws (at least so many) -/
def own_AI (Z : State) (h : Heap) (a : Addr) (k : ClassId) (ty : FieldType) (z : Int32) (ws : List Int32) : Prop := Arv Z h a k ty z (ws.map Value.int) (.int 0) ∧ z.toNatClampNeg ≤ ws.length
def own_AJ (Z : State) (h : Heap) (a : Addr) (k : ClassId) (ty : FieldType) (z : Int32) (ws : List Int64) : Prop := Arv Z h a k ty z (ws.map Value.long) (.long 0) ∧ z.toNatClampNeg ≤ ws.length
section OwnA
variable {Z : State} {h h' : Heap} {a b : Addr} {k : ClassId} {ty : FieldType} {z : Int32} {ws : List Int32} {wl : List Int64} {sl : Nat} {v : Value} {L : List Addr}
theorem own_AI.lt (F : own_AI Z h a k ty z ws) : a < h.size := Arv.lt F.1
theorem own_AI.ext (F : own_AI Z h a k ty z ws) (E : Ext h h') : own_AI Z h' a k ty z ws := ⟨Arv.ext F.1 E, F.2⟩
theorem own_AI.other (F : own_AI Z h b k ty z ws) (W : Wr h h' a sl v) (q : b ≠ a) : own_AI Z h' b k ty z ws := ⟨Arv.other F.1 W q, F.2⟩
theorem own_AI.keep (F : own_AI Z h a k ty z ws) (K : Keep h h' L) (q : a ∉ L) : own_AI Z h' a k ty z ws := ⟨Arv.keep F.1 K q, F.2⟩
theorem own_AJ.lt (F : own_AJ Z h a k ty z wl) : a < h.size := Arv.lt F.1
theorem own_AJ.ext (F : own_AJ Z h a k ty z wl) (E : Ext h h') : own_AJ Z h' a k ty z wl := ⟨Arv.ext F.1 E, F.2⟩
theorem own_AJ.other (F : own_AJ Z h b k ty z wl) (W : Wr h h' a sl v) (q : b ≠ a) : own_AJ Z h' b k ty z wl := ⟨Arv.other F.1 W q, F.2⟩
theorem own_AJ.keep (F : own_AJ Z h a k ty z wl) (K : Keep h h' L) (q : a ∉ L) : own_AJ Z h' a k ty z wl := ⟨Arv.keep F.1 K q, F.2⟩
theorem own_AI.new (n : Nat) (A : Arr Z h a (newA k ty z) ty) (q : ¬ z < 0) (hn : z.toNatClampNeg ≤ n) (hd : defaultValue ty = .int 0) : own_AI Z h a k ty z (List.replicate n (0 : Int32)) := by
  have := Arv.new A q
  rw [hd] at this
  have r := this.pad (pad_rep [] (.int 0) n)
  exact ⟨by simpa [List.map_replicate] using r, by simpa using hn⟩
theorem own_AJ.new (n : Nat) (A : Arr Z h a (newA k ty z) ty) (q : ¬ z < 0) (hn : z.toNatClampNeg ≤ n) (hd : defaultValue ty = .long 0) : own_AJ Z h a k ty z (List.replicate n (0 : Int64)) := by
  have := Arv.new A q
  rw [hd] at this
  have r := this.pad (pad_rep [] (.long 0) n)
  exact ⟨by simpa [List.map_replicate] using r, by simpa using hn⟩
theorem own_getI (ws : List Int32) (i : Nat) : (ws.map Value.int).getD i (.int 0) = .int (ws.getD i 0) := by
  simp only [List.getD_eq_getElem?_getD, List.getElem?_map]
  cases ws[i]? <;> rfl
theorem own_getJ (ws : List Int64) (i : Nat) : (ws.map Value.long).getD i (.long 0) = .long (ws.getD i 0) := by
  simp only [List.getD_eq_getElem?_getD, List.getElem?_map]
  cases ws[i]? <;> rfl
theorem own_AI.at (F : own_AI Z h a k ty z ws) {j : Int32} (q : ¬ j < 0 ∧ j < z) : ∃ cl : Cell, Arr Z h a cl ty ∧ ¬ (j < 0 ∨ cl.slots.size ≤ j.toNatClampNeg) ∧ cl.slots[j.toNatClampNeg]? = some (.int (ws.getD j.toNatClampNeg 0)) := by
  obtain ⟨⟨cl, A, -, S, -, H, -⟩, -⟩ := F
  have hin := inb_of S q
  exact ⟨cl, A, hin, H.at hin (own_getI _ _)⟩
theorem own_AJ.at (F : own_AJ Z h a k ty z wl) {j : Int32} (q : ¬ j < 0 ∧ j < z) : ∃ cl : Cell, Arr Z h a cl ty ∧ ¬ (j < 0 ∨ cl.slots.size ≤ j.toNatClampNeg) ∧ cl.slots[j.toNatClampNeg]? = some (.long (wl.getD j.toNatClampNeg 0)) := by
  obtain ⟨⟨cl, A, -, S, -, H, -⟩, -⟩ := F
  have hin := inb_of S q
  exact ⟨cl, A, hin, H.at hin (own_getJ _ _)⟩
theorem own_AI.arr (F : own_AI Z h a k ty z ws) {j : Int32} (q : ¬ j < 0 ∧ j < z) : ∃ cl : Cell, Arr Z h a cl ty ∧ ¬ (j < 0 ∨ cl.slots.size ≤ j.toNatClampNeg) ∧ ∀ (h' : Heap) (x : Int32), fits ty (.int x) = true → Wr h h' a j.toNatClampNeg (.int x) → own_AI Z h' a k ty z (ws.set j.toNatClampNeg x) := by
  obtain ⟨⟨cl, A, q1, S, q3, H, G⟩, ln⟩ := F
  have hin := inb_of S q
  refine ⟨cl, A, hin, fun h' x hv W => ?_⟩
  have hl : j.toNatClampNeg < ws.length := by
    rcases Nat.lt_or_ge j.toNatClampNeg ws.length with u | u
    · exact u
    · exact absurd (Or.inr (by omega)) hin
  have := Arv.set A q1 S q3 H G hv W _ rfl (by simpa using hl)
  rw [← List.map_set] at this
  exact ⟨this, by simpa using ln⟩
theorem own_AJ.arr (F : own_AJ Z h a k ty z wl) {j : Int32} (q : ¬ j < 0 ∧ j < z) : ∃ cl : Cell, Arr Z h a cl ty ∧ ¬ (j < 0 ∨ cl.slots.size ≤ j.toNatClampNeg) ∧ ∀ (h' : Heap) (x : Int64), fits ty (.long x) = true → Wr h h' a j.toNatClampNeg (.long x) → own_AJ Z h' a k ty z (wl.set j.toNatClampNeg x) := by
  obtain ⟨⟨cl, A, q1, S, q3, H, G⟩, ln⟩ := F
  have hin := inb_of S q
  refine ⟨cl, A, hin, fun h' x hv W => ?_⟩
  have hl : j.toNatClampNeg < wl.length := by
    rcases Nat.lt_or_ge j.toNatClampNeg wl.length with u | u
    · exact u
    · exact absurd (Or.inr (by omega)) hin
  have := Arv.set A q1 S q3 H G hv W _ rfl (by simpa using hl)
  rw [← List.map_set] at this
  exact ⟨this, by simpa using ln⟩
theorem own_AI.len (F : own_AI Z h a k ty z ws) : ∃ cl : Cell, Arr Z h a cl ty ∧ cl.slots.size = z.toNatClampNeg ∧ ¬ z < 0 := by
  obtain ⟨⟨cl, A, -, S, q3, -, -⟩, -⟩ := F
  exact ⟨cl, A, S, q3⟩
theorem own_AJ.len (F : own_AJ Z h a k ty z wl) : ∃ cl : Cell, Arr Z h a cl ty ∧ cl.slots.size = z.toNatClampNeg ∧ ¬ z < 0 := by
  obtain ⟨⟨cl, A, -, S, q3, -, -⟩, -⟩ := F
  exact ⟨cl, A, S, q3⟩
end OwnA
/-- a private method selects itself, where another method of its class is known to be no interface's -/
theorem own_selp {s : State} {args args' : Array Value} {y z : MethodName} (hz : (Cond.selects z.cls z z).before args s = true) (hc : z.cls = y.cls) (hpriv : s.PrivateAt y) (hinst : (Cond.instanceMethod y).before args s = true) (hy : y.cls ≠ "java/lang/invoke/MethodHandle" ∧ y.cls ≠ "java/lang/invoke/VarHandle") : (Cond.selects y.cls y y).before args s = true := by
  obtain ⟨c2, r2, m2, -, -, q3, -, kP, hkP, hkPi⟩ := Cond.selects_spec hz
  have hf := findClass_of_methodNamed q3
  rw [hc] at hf
  exact selects_self_of_private hf hkP hkPi hpriv hinst hy
/-- what holds of every byte -/
theorem own_bytes {P : Int32 → Prop} (H : ∀ i : Fin 256, P (Int32.ofInt ((i.1 : Int) - 128))) (x : Int32) : P x.toInt8.toInt32 := by
  obtain ⟨-, h1, h2⟩ := c_i2b x
  have e : x.toInt8.toInt32 = Int32.ofInt (((⟨(x.toInt8.toInt32.toInt + 128).toNat, by omega⟩ : Fin 256).1 : Int) - 128) := by
    apply Int32.toInt_inj.mp
    show _ = (Int32.ofInt (((x.toInt8.toInt32.toInt + 128).toNat : Int) - 128)).toInt
    rw [Int32.toInt_ofInt_of_le (by omega) (by omega)]
    omega
  rw [e]
  exact H _


theorem d1_0 : decode prog_39_method_1_code 0 = .ok (.aload_n 0, 1) := by decide +kernel
theorem d1_1 : decode prog_39_method_1_code 1 = .ok (.invokespecial 1, 3) := by decide +kernel
theorem d1_4 : decode prog_39_method_1_code 4 = .ok (.aload_n 0, 1) := by decide +kernel
theorem d1_5 : decode prog_39_method_1_code 5 = .ok (.aload_n 1, 1) := by decide +kernel
theorem d1_6 : decode prog_39_method_1_code 6 = .ok (.putfield 7, 3) := by decide +kernel
theorem d1_9 : decode prog_39_method_1_code 9 = .ok (.aload_n 0, 1) := by decide +kernel
theorem d1_10 : decode prog_39_method_1_code 10 = .ok (.aload_n 2, 1) := by decide +kernel
theorem d1_11 : decode prog_39_method_1_code 11 = .ok (.putfield 13, 3) := by decide +kernel
theorem d1_14 : decode prog_39_method_1_code 14 = .ok (.aload_n 0, 1) := by decide +kernel
theorem d1_15 : decode prog_39_method_1_code 15 = .ok (.aload_n 3, 1) := by decide +kernel
theorem d1_16 : decode prog_39_method_1_code 16 = .ok (.putfield 16, 3) := by decide +kernel
theorem d1_19 : decode prog_39_method_1_code 19 = .ok (.return_, 1) := by decide +kernel
theorem pn_0 : plainName "com/example/whole_recall/wholerecall/index/Postings" = true := by first | (simp [plainName, overriddenIn]; done) | decide +kernel
theorem ef_1 (m : MethodId) (a0 : Addr) (a1 : Addr) (a2 : Addr) (a3 : Addr) : entryFrame m #[(.ref a0), (.ref a1), (.ref a2), (.ref a3)] 4 = mkF m 0 #[.val (.ref a0), .val (.ref a1), .val (.ref a2), .val (.ref a3)] [] := by first | (simp [entryFrame, mkF, argsToLocals, Value.category]; done) | rfl
def Q1 (Z : State) (a0 : Addr) (a1 : Addr) (a2 : Addr) (a3 : Addr) (h0 : Heap) (n0 : Nat) (v : Option Value) (h : Heap) (L : List Loc) : Prop := v = none ∧ Fr n0 L ∧ Keep h0 h [a0] ∧ Exa Z h a0 "com/example/whole_recall/wholerecall/index/Postings" ∧ Fld Z h a0 "com/example/whole_recall/wholerecall/index/Postings" "starts" "[I" (.ref a2)
set_option maxRecDepth 65536 in
set_option maxHeartbeats 40000000 in
theorem rm1 (l : Launch) (Z : State) (aw : Array Value) (hw : ∀ d ∈ tables_1, d.before aw Z = true) (wq : List Jvm.Cond) (a0 : Addr) (a1 : Addr) (a2 : Addr) (a3 : Addr) (h0 : Heap) (n0 : Nat) (Z0 : n0 ≤ h0.size) (E_a0 : Exa Z h0 a0 "com/example/whole_recall/wholerecall/index/Postings") (F_a0_documents : Fld Z h0 a0 "com/example/whole_recall/wholerecall/index/Postings" "documents" "[I" .null) (F_a0_starts : Fld Z h0 a0 "com/example/whole_recall/wholerecall/index/Postings" "starts" "[I" .null) (F_a0_positions : Fld Z h0 a0 "com/example/whole_recall/wholerecall/index/Postings" "positions" "[I" .null) (g_a0 : n0 ≤ a0) :
    MetFree l (⟨"com/example/whole_recall/wholerecall/index/Postings", "<init>", "([I[I[I)V"⟩ : MethodName) (head1 (Jvm.Cond.code (⟨"com/example/whole_recall/wholerecall/index/Postings", "<init>", "([I[I[I)V"⟩ : MethodName) prog_39_method_1_code 4 none :: wq) ({ frames := 1, cells := 0, slots := 0, locals := 12 } : Room)) (fun a U => a = #[(.ref a0), (.ref a1), (.ref a2), (.ref a3)] ∧ Z.Warmed39 U.vm ∧ U.heap = h0) (fun _ _ _ _ _ => True) (fun _ U o U' => ∃ v L, o = .returned v ∧ Q1 Z a0 a1 a2 a3 h0 n0 v U'.heap L ∧ FrameEnd U o U' L ({ frames := 1, cells := 0, slots := 0, locals := 12 } : Room).cells ({ frames := 1, cells := 0, slots := 0, locals := 12 } : Room).slots) := by
  refine MetFree.of_bodySF (plainFor_of_name pn_0) hisR ?_
  intro p e s m args below meth c s₁ Bd hml0 hP hK
  obtain ⟨rfl, hZ, hh⟩ := hP
  have hx := Bd.exec
  have hby := Bd.bytes
  have hml : c.maxLocals = 4 := hml0
  have hown : s.vm.findClass "com/example/whole_recall/wholerecall/index/Postings" = some m.cls := findClass_of_methodNamed Bd.named
  have hnm := (name_of_methodNamed Bd.named Bd.method).1
  have X0 : Stand p l e ({ frames := 1, cells := 0, slots := 0, locals := 12 } : Room) s m #[(.ref a0), (.ref a1), (.ref a2), (.ref a3)] below meth c s₁ [] 0 0 := Stand.of_body Bd
  have e0 : s₁.heap = h0 := by rw [← hh, Bd.state]; rfl
  have N0 := Fr.nil n0
  have pre0 : own_Pre p e below (s₁.setTop (entryFrame m #[(.ref a0), (.ref a1), (.ref a2), (.ref a3)] 4)) (s₁.setTop (mkF m 0 #[.val (.ref a0), .val (.ref a1), .val (.ref a2), .val (.ref a3)] [])) := fun t k => castTop (ef_1 m a0 a1 a2 a3) k
  obtain ⟨T1, X1, e1, st1⟩ := initO X0 hx hZ hown (hw _ (List.mem_of_getElem? (i := 7) rfl)) (hw _ (List.mem_of_getElem? (i := 8) rfl)) (hw _ (List.mem_of_getElem? (i := 9) rfl)) e0 (g := (mkF m 1 #[.val (.ref a0), .val (.ref a1), .val (.ref a2), .val (.ref a3)] [(.ref a0)])) rfl (by rw [hml]; rfl) rfl (hb hby d1_1) (by decide) (W := 0) (by show 2 * 0 + _ ≤ _; exact Nat.le_of_eq rfl) (by decide)
  obtain ⟨T2, h2, X2, e2, W2, st2⟩ := putF X1 hx hZ hown (host := "") (Or.inl (hw _ (List.mem_of_getElem? (i := 10) rfl))) Via.refl e1 F_a0_documents E_a0 (Or.inr ⟨(hw _ (List.mem_of_getElem? (i := 11) rfl)), rfl, hnm⟩) (hw _ (List.mem_of_getElem? (i := 2) rfl)) (ty := (.array .int)) (by decide) rfl rfl (g := (mkF m 6 #[.val (.ref a0), .val (.ref a1), .val (.ref a2), .val (.ref a3)] [(.ref a1), (.ref a0)])) rfl rfl (hb hby d1_6)
  have Fw2 := F_a0_documents.same W2
  have N2 := Fr.snoc X2 N0 g_a0
  have kp3 : Keep h0 h2 [a0] := (Keep.refl h0 [a0]).wr W2 (Or.inl (List.mem_of_getElem? (i := 0) rfl))
  have f4 := (E_a0.wr W2)
  have f5 := (F_a0_starts.other W2 (Or.inr (slot_ne (Or.inr (hw _ (List.mem_of_getElem? (i := 13) rfl))) (Or.inr (hw _ (List.mem_of_getElem? (i := 11) rfl))) (by decide) (t := (.array .int)) (t' := (.array .int)) (by decide) (by decide))))
  obtain ⟨T6, h6, X6, e6, W6, st6⟩ := putF X2 hx hZ hown (host := "") (Or.inl (hw _ (List.mem_of_getElem? (i := 12) rfl))) Via.refl e2 f5 f4 (Or.inr ⟨(hw _ (List.mem_of_getElem? (i := 13) rfl)), rfl, hnm⟩) (hw _ (List.mem_of_getElem? (i := 2) rfl)) (ty := (.array .int)) (by decide) rfl rfl (g := (mkF m 11 #[.val (.ref a0), .val (.ref a1), .val (.ref a2), .val (.ref a3)] [(.ref a2), (.ref a0)])) rfl rfl (hb hby d1_11)
  have Fw6 := f5.same W6
  have N6 := Fr.snoc X6 N2 g_a0
  have kp7 : Keep h0 h6 [a0] := kp3.wr W6 (Or.inl (List.mem_of_getElem? (i := 0) rfl))
  have f8 := (f4.wr W6)
  have f9 := ((F_a0_positions.other W2 (Or.inr (slot_ne (Or.inr (hw _ (List.mem_of_getElem? (i := 15) rfl))) (Or.inr (hw _ (List.mem_of_getElem? (i := 11) rfl))) (by decide) (t := (.array .int)) (t' := (.array .int)) (by decide) (by decide)))).other W6 (Or.inr (slot_ne (Or.inr (hw _ (List.mem_of_getElem? (i := 15) rfl))) (Or.inr (hw _ (List.mem_of_getElem? (i := 13) rfl))) (by decide) (t := (.array .int)) (t' := (.array .int)) (by decide) (by decide))))
  obtain ⟨T10, h10, X10, e10, W10, st10⟩ := putF X6 hx hZ hown (host := "") (Or.inl (hw _ (List.mem_of_getElem? (i := 14) rfl))) Via.refl e6 f9 f8 (Or.inr ⟨(hw _ (List.mem_of_getElem? (i := 15) rfl)), rfl, hnm⟩) (hw _ (List.mem_of_getElem? (i := 2) rfl)) (ty := (.array .int)) (by decide) rfl rfl (g := (mkF m 16 #[.val (.ref a0), .val (.ref a1), .val (.ref a2), .val (.ref a3)] [(.ref a3), (.ref a0)])) rfl rfl (hb hby d1_16)
  have Fw10 := f9.same W10
  have N10 := Fr.snoc X10 N6 g_a0
  have kp11 : Keep h0 h10 [a0] := kp7.wr W10 (Or.inl (List.mem_of_getElem? (i := 0) rfl))
  obtain ⟨fs, hr, hrun, hended, hW, hsame⟩ := X10.leave (v := none) (fun _ => rfl)
  refine ⟨_, _, pre0 _ ?_, hrun, hended, _, _, rfl, ?_, ⟨_, rfl⟩, hW, hsame.mono (by decide) (by decide)⟩
  · show Steps p.tables e below (s₁.setTop (mkF m 0 #[.val (.ref a0), .val (.ref a1), .val (.ref a2), .val (.ref a3)] [])) _
    refine XS.aloadN X0.here hx rfl (hb hby d1_0) rfl rfl ?_
    show Steps p.tables e below (s₁.setTop (mkF m 1 #[.val (.ref a0), .val (.ref a1), .val (.ref a2), .val (.ref a3)] [(.ref a0)])) _
    refine st1 _ ?_
    show Steps p.tables e below (T1.setTop (mkF m 4 #[.val (.ref a0), .val (.ref a1), .val (.ref a2), .val (.ref a3)] [])) _
    refine XS.aloadN X1.here hx rfl (hb hby d1_4) rfl rfl ?_
    show Steps p.tables e below (T1.setTop (mkF m 5 #[.val (.ref a0), .val (.ref a1), .val (.ref a2), .val (.ref a3)] [(.ref a0)])) _
    refine XS.aloadN X1.here hx rfl (hb hby d1_5) rfl rfl ?_
    show Steps p.tables e below (T1.setTop (mkF m 6 #[.val (.ref a0), .val (.ref a1), .val (.ref a2), .val (.ref a3)] [(.ref a1), (.ref a0)])) _
    refine st2 _ ?_
    show Steps p.tables e below (T2.setTop (mkF m 9 #[.val (.ref a0), .val (.ref a1), .val (.ref a2), .val (.ref a3)] [])) _
    refine XS.aloadN X2.here hx rfl (hb hby d1_9) rfl rfl ?_
    show Steps p.tables e below (T2.setTop (mkF m 10 #[.val (.ref a0), .val (.ref a1), .val (.ref a2), .val (.ref a3)] [(.ref a0)])) _
    refine XS.aloadN X2.here hx rfl (hb hby d1_10) rfl rfl ?_
    show Steps p.tables e below (T2.setTop (mkF m 11 #[.val (.ref a0), .val (.ref a1), .val (.ref a2), .val (.ref a3)] [(.ref a2), (.ref a0)])) _
    refine st6 _ ?_
    show Steps p.tables e below (T6.setTop (mkF m 14 #[.val (.ref a0), .val (.ref a1), .val (.ref a2), .val (.ref a3)] [])) _
    refine XS.aloadN X6.here hx rfl (hb hby d1_14) rfl rfl ?_
    show Steps p.tables e below (T6.setTop (mkF m 15 #[.val (.ref a0), .val (.ref a1), .val (.ref a2), .val (.ref a3)] [(.ref a0)])) _
    refine XS.aloadN X6.here hx rfl (hb hby d1_15) rfl rfl ?_
    show Steps p.tables e below (T6.setTop (mkF m 16 #[.val (.ref a0), .val (.ref a1), .val (.ref a2), .val (.ref a3)] [(.ref a3), (.ref a0)])) _
    refine st10 _ ?_
    show Steps p.tables e below (T10.setTop (mkF m 19 #[.val (.ref a0), .val (.ref a1), .val (.ref a2), .val (.ref a3)] [])) _
    exact X10.returnOut hx Bd.returns (hb hby d1_19) hr
  · show Q1 Z a0 a1 a2 a3 h0 n0 _ T10.heap _
    rw [e10]
    unfold Q1
    have f12 := (f8.wr W10)
    have f13 := (Fw6.other W10 (Or.inr (slot_ne (Or.inr (hw _ (List.mem_of_getElem? (i := 13) rfl))) (Or.inr (hw _ (List.mem_of_getElem? (i := 15) rfl))) (by decide) (t := (.array .int)) (t' := (.array .int)) (by decide) (by decide))))
    refine ⟨rfl, N10, kp11, f12, ?_⟩
    · exact f13
theorem d3_0 : decode prog_39_method_4_code 0 = .ok (.aload_n 0, 1) := by decide +kernel
theorem d3_1 : decode prog_39_method_4_code 1 = .ok (.getfield 13, 3) := by decide +kernel
theorem d3_4 : decode prog_39_method_4_code 4 = .ok (.iload_n 1, 1) := by decide +kernel
theorem d3_5 : decode prog_39_method_4_code 5 = .ok (.iconst 1, 1) := by decide +kernel
theorem d3_6 : decode prog_39_method_4_code 6 = .ok (.iadd, 1) := by decide +kernel
theorem d3_7 : decode prog_39_method_4_code 7 = .ok (.iaload, 1) := by decide +kernel
theorem d3_8 : decode prog_39_method_4_code 8 = .ok (.aload_n 0, 1) := by decide +kernel
theorem d3_9 : decode prog_39_method_4_code 9 = .ok (.getfield 13, 3) := by decide +kernel
theorem d3_12 : decode prog_39_method_4_code 12 = .ok (.iload_n 1, 1) := by decide +kernel
theorem d3_13 : decode prog_39_method_4_code 13 = .ok (.iaload, 1) := by decide +kernel
theorem d3_14 : decode prog_39_method_4_code 14 = .ok (.isub, 1) := by decide +kernel
theorem d3_15 : decode prog_39_method_4_code 15 = .ok (.ireturn, 1) := by decide +kernel
theorem ef_3 (m : MethodId) (a0 : Addr) (p1 : Int32) : entryFrame m #[(.ref a0), (.int p1)] 2 = mkF m 0 #[.val (.ref a0), .val (.int p1)] [] := by first | (simp [entryFrame, mkF, argsToLocals, Value.category]; done) | rfl
def own_f3 (p1 : Int32) (ws : List Int32) : Int32 := ((ws.getD ((p1 + (1 : Int32))).toNatClampNeg (0 : Int32)) - (ws.getD (p1).toNatClampNeg (0 : Int32)))
def Q3 (Z : State) (a0 : Addr) (p1 : Int32) (sa : Addr) (k : ClassId) (z : Int32) (ws : List Int32) (h0 : Heap) (n0 : Nat) (v : Option Value) (h : Heap) (L : List Loc) : Prop := v = some (.int (own_f3 p1 ws)) ∧ Fr n0 L ∧ h = h0
set_option maxRecDepth 65536 in
set_option maxHeartbeats 40000000 in
theorem rm3 (l : Launch) (Z : State) (aw : Array Value) (hw : ∀ d ∈ tables_1, d.before aw Z = true) (wq : List Jvm.Cond) (a0 : Addr) (p1 : Int32) (sa : Addr) (k : ClassId) (z : Int32) (ws : List Int32) (h0 : Heap) (n0 : Nat) (Z0 : n0 ≤ h0.size) (F_a0_starts : Fld Z h0 a0 "com/example/whole_recall/wholerecall/index/Postings" "starts" "[I" (.ref sa)) (V_sa : own_AI Z h0 sa k .int z ws) (hi1 : ¬ (p1 + (1 : Int32)) < 0 ∧ (p1 + (1 : Int32)) < z) (hi0 : ¬ p1 < 0 ∧ p1 < z) :
    MetFree l (⟨"com/example/whole_recall/wholerecall/index/Postings", "frequency", "(I)I"⟩ : MethodName) (head1 (Jvm.Cond.code (⟨"com/example/whole_recall/wholerecall/index/Postings", "frequency", "(I)I"⟩ : MethodName) prog_39_method_4_code 2 (some .int) :: wq) ({ frames := 0, cells := 0, slots := 0, locals := 0 } : Room)) (fun a U => a = #[(.ref a0), (.int p1)] ∧ Z.Warmed39 U.vm ∧ U.heap = h0) (fun _ _ _ _ _ => True) (fun _ U o U' => ∃ v L, o = .returned v ∧ Q3 Z a0 p1 sa k z ws h0 n0 v U'.heap L ∧ FrameEnd U o U' L ({ frames := 0, cells := 0, slots := 0, locals := 0 } : Room).cells ({ frames := 0, cells := 0, slots := 0, locals := 0 } : Room).slots) := by
  refine MetFree.of_bodySF (plainFor_of_name pn_0) hisR ?_
  intro p e s m args below meth c s₁ Bd hml0 hP hK
  obtain ⟨rfl, hZ, hh⟩ := hP
  have hx := Bd.exec
  have hby := Bd.bytes
  have hml : c.maxLocals = 2 := hml0
  have hown : s.vm.findClass "com/example/whole_recall/wholerecall/index/Postings" = some m.cls := findClass_of_methodNamed Bd.named
  have hnm := (name_of_methodNamed Bd.named Bd.method).1
  have X0 : Stand p l e ({ frames := 0, cells := 0, slots := 0, locals := 0 } : Room) s m #[(.ref a0), (.int p1)] below meth c s₁ [] 0 0 := Stand.of_body Bd
  have e0 : s₁.heap = h0 := by rw [← hh, Bd.state]; rfl
  have N0 := Fr.nil n0
  have pre0 : own_Pre p e below (s₁.setTop (entryFrame m #[(.ref a0), (.int p1)] 2)) (s₁.setTop (mkF m 0 #[.val (.ref a0), .val (.int p1)] [])) := fun t k => castTop (ef_3 m a0 p1) k
  obtain ⟨T1, X1, e1, st1⟩ := getF X0 hx hZ hown (host := "") (Or.inl (hw _ (List.mem_of_getElem? (i := 12) rfl))) Via.refl e0 F_a0_starts (g := (mkF m 1 #[.val (.ref a0), .val (.int p1)] [(.ref a0)])) rfl rfl (hb hby d3_1)
  obtain ⟨cl2, Ar2, hin2, hat2⟩ := own_AI.at V_sa (j := (p1 + (1 : Int32))) (hi1)
  obtain ⟨T3, X3, e3, st3⟩ := getF X1 hx hZ hown (host := "") (Or.inl (hw _ (List.mem_of_getElem? (i := 12) rfl))) Via.refl e1 F_a0_starts (g := (mkF m 9 #[.val (.ref a0), .val (.int p1)] [(.ref a0), (.int (ws.getD ((p1 + (1 : Int32))).toNatClampNeg (0 : Int32)))])) rfl rfl (hb hby d3_9)
  obtain ⟨cl4, Ar4, hin4, hat4⟩ := own_AI.at V_sa (j := p1) (hi0)
  obtain ⟨fs, hr, hrun, hended, hW, hsame⟩ := X3.leave (v := some (.int ((ws.getD ((p1 + (1 : Int32))).toNatClampNeg (0 : Int32)) - (ws.getD (p1).toNatClampNeg (0 : Int32))))) (fun h => by rw [Bd.returns] at h; cases h)
  refine ⟨_, _, pre0 _ ?_, hrun, hended, _, _, rfl, ?_, ⟨_, rfl⟩, hW, hsame.mono (by decide) (by decide)⟩
  · show Steps p.tables e below (s₁.setTop (mkF m 0 #[.val (.ref a0), .val (.int p1)] [])) _
    refine XS.aloadN X0.here hx rfl (hb hby d3_0) rfl rfl ?_
    show Steps p.tables e below (s₁.setTop (mkF m 1 #[.val (.ref a0), .val (.int p1)] [(.ref a0)])) _
    refine st1 _ ?_
    show Steps p.tables e below (T1.setTop (mkF m 4 #[.val (.ref a0), .val (.int p1)] [(.ref sa)])) _
    refine XS.iloadN X1.here hx rfl (hb hby d3_4) rfl ?_
    show Steps p.tables e below (T1.setTop (mkF m 5 #[.val (.ref a0), .val (.int p1)] [(.int p1), (.ref sa)])) _
    refine XS.iconst X1.here hx rfl (hb hby d3_5) ?_
    show Steps p.tables e below (T1.setTop (mkF m 6 #[.val (.ref a0), .val (.int p1)] [(.int (1 : Int32)), (.int p1), (.ref sa)])) _
    refine XS.iadd X1.here hx rfl (hb hby d3_6) rfl ?_
    show Steps p.tables e below (T1.setTop (mkF m 7 #[.val (.ref a0), .val (.int p1)] [(.int (p1 + (1 : Int32))), (.ref sa)])) _
    refine X1.iaload hx (j := (p1 + (1 : Int32))) (v := (.int (ws.getD ((p1 + (1 : Int32))).toNatClampNeg (0 : Int32)))) (by rw [e1]; exact Ar2.1) (State.isArrayOf_alike hZ.alike Ar2.2.1) Ar2.2.2 hin2 hat2 (g := (mkF m 7 #[.val (.ref a0), .val (.int p1)] [(.int (p1 + (1 : Int32))), (.ref sa)])) rfl rfl (hb hby d3_7) _ ?_
    show Steps p.tables e below (T1.setTop (mkF m 8 #[.val (.ref a0), .val (.int p1)] [(.int (ws.getD ((p1 + (1 : Int32))).toNatClampNeg (0 : Int32)))])) _
    refine XS.aloadN X1.here hx rfl (hb hby d3_8) rfl rfl ?_
    show Steps p.tables e below (T1.setTop (mkF m 9 #[.val (.ref a0), .val (.int p1)] [(.ref a0), (.int (ws.getD ((p1 + (1 : Int32))).toNatClampNeg (0 : Int32)))])) _
    refine st3 _ ?_
    show Steps p.tables e below (T3.setTop (mkF m 12 #[.val (.ref a0), .val (.int p1)] [(.ref sa), (.int (ws.getD ((p1 + (1 : Int32))).toNatClampNeg (0 : Int32)))])) _
    refine XS.iloadN X3.here hx rfl (hb hby d3_12) rfl ?_
    show Steps p.tables e below (T3.setTop (mkF m 13 #[.val (.ref a0), .val (.int p1)] [(.int p1), (.ref sa), (.int (ws.getD ((p1 + (1 : Int32))).toNatClampNeg (0 : Int32)))])) _
    refine X3.iaload hx (j := p1) (v := (.int (ws.getD (p1).toNatClampNeg (0 : Int32)))) (by rw [e3]; exact Ar4.1) (State.isArrayOf_alike hZ.alike Ar4.2.1) Ar4.2.2 hin4 hat4 (g := (mkF m 13 #[.val (.ref a0), .val (.int p1)] [(.int p1), (.ref sa), (.int (ws.getD ((p1 + (1 : Int32))).toNatClampNeg (0 : Int32)))])) rfl rfl (hb hby d3_13) _ ?_
    show Steps p.tables e below (T3.setTop (mkF m 14 #[.val (.ref a0), .val (.int p1)] [(.int (ws.getD (p1).toNatClampNeg (0 : Int32))), (.int (ws.getD ((p1 + (1 : Int32))).toNatClampNeg (0 : Int32)))])) _
    refine XS.isub X3.here hx rfl (hb hby d3_14) rfl ?_
    show Steps p.tables e below (T3.setTop (mkF m 15 #[.val (.ref a0), .val (.int p1)] [(.int ((ws.getD ((p1 + (1 : Int32))).toNatClampNeg (0 : Int32)) - (ws.getD (p1).toNatClampNeg (0 : Int32))))])) _
    exact retI X3 hx Bd.returns (hb hby d3_15) hr
  · show Q3 Z a0 p1 sa k z ws h0 n0 _ T3.heap _
    rw [e3]
    unfold Q3
    refine ⟨?_, N0, rfl⟩
    · simp only [own_f3]
theorem pd_0 : parseMethodDescriptor "([I[I[I)V" = some ⟨[(.array .int), (.array .int), (.array .int)], none⟩ := by decide +kernel
theorem pd_1 : parseMethodDescriptor "(I)I" = some ⟨[.int], some .int⟩ := by decide +kernel
theorem pn_1 : plainName "com/example/whole_recall/wholerecall/index/PostingsFrequencyPinLaw" = true := by first | (simp [plainName, overriddenIn]; done) | decide +kernel
theorem ef_0 (m : MethodId) (p0 : Int32) (p1 : Int32) (p2 : Int32) : entryFrame m #[(.int p0), (.int p1), (.int p2)] maxLocals = mkF m 0 #[.val (.int p0), .val (.int p1), .val (.int p2), .unset, .unset, .unset, .unset, .unset, .unset, .unset] [] := by first | (simp [entryFrame, mkF, argsToLocals, Value.category, maxLocals]; done) | rfl
theorem own_l0 (x y z : Int32) : own_f3 (0 : Int32) (((((List.replicate 4 (0 : Int32)).set 0 (0 : Int32)).set 1 x).set 2 (x + y)).set 3 (x + y + z)) = x := by
  show x - (0 : Int32) = x
  simp
theorem own_l1 (x y z : Int32) : own_f3 (1 : Int32) (((((List.replicate 4 (0 : Int32)).set 0 (0 : Int32)).set 1 x).set 2 (x + y)).set 3 (x + y + z)) = y := by
  show x + y - x = y
  rw [Int32.add_comm]; exact Int32.add_sub_cancel _ _
theorem own_l2 (x y z : Int32) : own_f3 (2 : Int32) (((((List.replicate 4 (0 : Int32)).set 0 (0 : Int32)).set 1 x).set 2 (x + y)).set 3 (x + y + z)) = z := by
  show x + y + z - (x + y) = z
  rw [Int32.add_comm]; exact Int32.add_sub_cancel _ _
def Q0 (Z : State) (p0 : Int32) (p1 : Int32) (p2 : Int32) (h0 : Heap) (n0 : Nat) (v : Option Value) (h : Heap) (L : List Loc) : Prop := v = some (.int (1 : Int32)) ∧ Fr n0 L
set_option maxRecDepth 65536 in
set_option maxHeartbeats 40000000 in
theorem rm0 (l : Launch) (Z : State) (aw : Array Value) (hw : ∀ d ∈ tables_1, d.before aw Z = true) (wq : List Jvm.Cond) (p0 : Int32) (p1 : Int32) (p2 : Int32) (h0 : Heap) (n0 : Nat) (Z0 : n0 ≤ h0.size) :
    MetFree l x (head1 (Jvm.Cond.code x code maxLocals ret :: wq) room_1) (fun a U => a = #[(.int p0), (.int p1), (.int p2)] ∧ Z.Warmed39 U.vm ∧ U.heap = h0) (fun _ _ _ _ _ => True) (fun _ U o U' => ∃ v L, o = .returned v ∧ Q0 Z p0 p1 p2 h0 n0 v U'.heap L ∧ FrameEnd U o U' L 4 31) := by
  refine MetFree.of_bodySF (plainFor_of_name pn_1) hisR ?_
  intro p e s m args below meth c s₁ Bd hml0 hP hK
  obtain ⟨rfl, hZ, hh⟩ := hP
  have hx := Bd.exec
  have hby := Bd.bytes
  have hml : c.maxLocals = 10 := hml0
  have hown : s.vm.findClass "com/example/whole_recall/wholerecall/index/PostingsFrequencyPinLaw" = some m.cls := findClass_of_methodNamed Bd.named
  have hnm := (name_of_methodNamed Bd.named Bd.method).1
  have X0 : Stand p l e room_1 s m #[(.int p0), (.int p1), (.int p2)] below meth c s₁ [] 0 0 := Stand.of_body Bd
  have e0 : s₁.heap = h0 := by rw [← hh, Bd.state]; rfl
  have N0 := Fr.nil n0
  have pre0 : own_Pre p e below (s₁.setTop (entryFrame m #[(.int p0), (.int p1), (.int p2)] maxLocals)) (s₁.setTop (mkF m 0 #[.val (.int p0), .val (.int p1), .val (.int p2), .unset, .unset, .unset, .unset, .unset, .unset, .unset] [])) := fun t k => castTop (ef_0 m p0 p1 p2) k
  obtain ⟨x3_5, hx3_5, pre1⟩ : ∃ z : Int32, z = (p0 &&& (7 : Int32)) ∧ own_Pre p e below (s₁.setTop (entryFrame m #[(.int p0), (.int p1), (.int p2)] maxLocals)) (s₁.setTop (mkF m 5 #[.val (.int p0), .val (.int p1), .val (.int p2), .val (.int z), .unset, .unset, .unset, .unset, .unset, .unset] [])) := ⟨_, rfl, fun t k => pre0 t (by
      show Steps p.tables e below (s₁.setTop (mkF m 0 #[.val (.int p0), .val (.int p1), .val (.int p2), .unset, .unset, .unset, .unset, .unset, .unset, .unset] [])) _
      refine XS.iloadN X0.here hx rfl (hb hby at_0) rfl ?_
      show Steps p.tables e below (s₁.setTop (mkF m 1 #[.val (.int p0), .val (.int p1), .val (.int p2), .unset, .unset, .unset, .unset, .unset, .unset, .unset] [(.int p0)])) _
      refine XS.bipush X0.here hx rfl (hb hby at_1) ?_
      show Steps p.tables e below (s₁.setTop (mkF m 3 #[.val (.int p0), .val (.int p1), .val (.int p2), .unset, .unset, .unset, .unset, .unset, .unset, .unset] [(.int (7 : Int32)), (.int p0)])) _
      refine XS.iand X0.here hx rfl (hb hby at_3) rfl ?_
      show Steps p.tables e below (s₁.setTop (mkF m 4 #[.val (.int p0), .val (.int p1), .val (.int p2), .unset, .unset, .unset, .unset, .unset, .unset, .unset] [(.int (p0 &&& (7 : Int32)))])) _
      refine XS.istoreN X0.here hx rfl (hb hby at_4) rfl (l' := #[.val (.int p0), .val (.int p1), .val (.int p2), .val (.int (p0 &&& (7 : Int32))), .unset, .unset, .unset, .unset, .unset, .unset]) rfl ?_
      exact k)⟩
  obtain ⟨x4_11, hx4_11, pre2⟩ : ∃ z : Int32, z = (p1 &&& (7 : Int32)) ∧ own_Pre p e below (s₁.setTop (entryFrame m #[(.int p0), (.int p1), (.int p2)] maxLocals)) (s₁.setTop (mkF m 11 #[.val (.int p0), .val (.int p1), .val (.int p2), .val (.int x3_5), .val (.int z), .unset, .unset, .unset, .unset, .unset] [])) := ⟨_, rfl, fun t k => pre1 t (by
      show Steps p.tables e below (s₁.setTop (mkF m 5 #[.val (.int p0), .val (.int p1), .val (.int p2), .val (.int x3_5), .unset, .unset, .unset, .unset, .unset, .unset] [])) _
      refine XS.iloadN X0.here hx rfl (hb hby at_5) rfl ?_
      show Steps p.tables e below (s₁.setTop (mkF m 6 #[.val (.int p0), .val (.int p1), .val (.int p2), .val (.int x3_5), .unset, .unset, .unset, .unset, .unset, .unset] [(.int p1)])) _
      refine XS.bipush X0.here hx rfl (hb hby at_6) ?_
      show Steps p.tables e below (s₁.setTop (mkF m 8 #[.val (.int p0), .val (.int p1), .val (.int p2), .val (.int x3_5), .unset, .unset, .unset, .unset, .unset, .unset] [(.int (7 : Int32)), (.int p1)])) _
      refine XS.iand X0.here hx rfl (hb hby at_8) rfl ?_
      show Steps p.tables e below (s₁.setTop (mkF m 9 #[.val (.int p0), .val (.int p1), .val (.int p2), .val (.int x3_5), .unset, .unset, .unset, .unset, .unset, .unset] [(.int (p1 &&& (7 : Int32)))])) _
      refine XS.istore X0.here hx rfl (hb hby at_9) rfl (l' := #[.val (.int p0), .val (.int p1), .val (.int p2), .val (.int x3_5), .val (.int (p1 &&& (7 : Int32))), .unset, .unset, .unset, .unset, .unset]) rfl ?_
      exact k)⟩
  obtain ⟨x5_17, hx5_17, pre3⟩ : ∃ z : Int32, z = (p2 &&& (7 : Int32)) ∧ own_Pre p e below (s₁.setTop (entryFrame m #[(.int p0), (.int p1), (.int p2)] maxLocals)) (s₁.setTop (mkF m 17 #[.val (.int p0), .val (.int p1), .val (.int p2), .val (.int x3_5), .val (.int x4_11), .val (.int z), .unset, .unset, .unset, .unset] [])) := ⟨_, rfl, fun t k => pre2 t (by
      show Steps p.tables e below (s₁.setTop (mkF m 11 #[.val (.int p0), .val (.int p1), .val (.int p2), .val (.int x3_5), .val (.int x4_11), .unset, .unset, .unset, .unset, .unset] [])) _
      refine XS.iloadN X0.here hx rfl (hb hby at_11) rfl ?_
      show Steps p.tables e below (s₁.setTop (mkF m 12 #[.val (.int p0), .val (.int p1), .val (.int p2), .val (.int x3_5), .val (.int x4_11), .unset, .unset, .unset, .unset, .unset] [(.int p2)])) _
      refine XS.bipush X0.here hx rfl (hb hby at_12) ?_
      show Steps p.tables e below (s₁.setTop (mkF m 14 #[.val (.int p0), .val (.int p1), .val (.int p2), .val (.int x3_5), .val (.int x4_11), .unset, .unset, .unset, .unset, .unset] [(.int (7 : Int32)), (.int p2)])) _
      refine XS.iand X0.here hx rfl (hb hby at_14) rfl ?_
      show Steps p.tables e below (s₁.setTop (mkF m 15 #[.val (.int p0), .val (.int p1), .val (.int p2), .val (.int x3_5), .val (.int x4_11), .unset, .unset, .unset, .unset, .unset] [(.int (p2 &&& (7 : Int32)))])) _
      refine XS.istore X0.here hx rfl (hb hby at_15) rfl (l' := #[.val (.int p0), .val (.int p1), .val (.int p2), .val (.int x3_5), .val (.int x4_11), .val (.int (p2 &&& (7 : Int32))), .unset, .unset, .unset, .unset]) rfl ?_
      exact k)⟩
  obtain ⟨T4, h4, k4, X4, e4, E4, A4, st4⟩ := newP X0 hx hZ (hw _ (List.mem_of_getElem? (i := 0) rfl)) e0 (g := (mkF m 18 #[.val (.int p0), .val (.int p1), .val (.int p2), .val (.int x3_5), .val (.int x4_11), .val (.int x5_17), .unset, .unset, .unset, .unset] [(.int (3 : Int32))])) rfl (hb hby at_18) rfl (by decide) (cap := 3) (by decide) (by decide) (by decide) (by decide)
  obtain ⟨b4, gq4⟩ : ∃ z, z = (h0).size := ⟨_, rfl⟩
  rw [← gq4] at A4 st4
  have g_b4 : n0 ≤ b4 := Nat.le_trans Z0 (Nat.le_of_eq gq4.symm)
  have V_b4 : own_AI Z h4 b4 k4 .int (3 : Int32) (List.replicate 3 (0 : Int32)) := own_AI.new 3 A4 (by decide) (by decide) rfl
  obtain ⟨cl5, Ar5, hin5, set5⟩ := own_AI.arr V_b4 (j := (0 : Int32)) ⟨by decide, by decide⟩
  obtain ⟨T5, h5, X5, e5, W5, st5⟩ := stI X4 hx hZ e4 Ar5 (j := (0 : Int32)) hin5 (g := (mkF m 23 #[.val (.int p0), .val (.int p1), .val (.int p2), .val (.int x3_5), .val (.int x4_11), .val (.int x5_17), .unset, .unset, .unset, .unset] [(.int (0 : Int32)), (.int (0 : Int32)), (.ref b4), (.ref b4)])) rfl rfl (hb hby at_23)
  have V5 : own_AI Z h5 b4 k4 .int (3 : Int32) ((List.replicate 3 (0 : Int32)).set 0 (0 : Int32)) := set5 _ _ rfl W5
  obtain ⟨ws5, hws5⟩ : ∃ z, z = ((List.replicate 3 (0 : Int32)).set 0 (0 : Int32)) := ⟨_, rfl⟩
  rw [← hws5] at V5
  have N5 := Fr.snoc X5 N0 g_b4
  obtain ⟨cl6, Ar6, hin6, set6⟩ := own_AI.arr V5 (j := (1 : Int32)) ⟨by decide, by decide⟩
  obtain ⟨T6, h6, X6, e6, W6, st6⟩ := stI X5 hx hZ e5 Ar6 (j := (1 : Int32)) hin6 (g := (mkF m 27 #[.val (.int p0), .val (.int p1), .val (.int p2), .val (.int x3_5), .val (.int x4_11), .val (.int x5_17), .unset, .unset, .unset, .unset] [(.int (1 : Int32)), (.int (1 : Int32)), (.ref b4), (.ref b4)])) rfl rfl (hb hby at_27)
  have V6 : own_AI Z h6 b4 k4 .int (3 : Int32) (ws5.set 1 (1 : Int32)) := set6 _ _ rfl W6
  obtain ⟨ws6, hws6⟩ : ∃ z, z = (ws5.set 1 (1 : Int32)) := ⟨_, rfl⟩
  rw [← hws6] at V6
  have N6 := Fr.snoc X6 N5 g_b4
  obtain ⟨cl7, Ar7, hin7, set7⟩ := own_AI.arr V6 (j := (2 : Int32)) ⟨by decide, by decide⟩
  obtain ⟨T7, h7, X7, e7, W7, st7⟩ := stI X6 hx hZ e6 Ar7 (j := (2 : Int32)) hin7 (g := (mkF m 31 #[.val (.int p0), .val (.int p1), .val (.int p2), .val (.int x3_5), .val (.int x4_11), .val (.int x5_17), .unset, .unset, .unset, .unset] [(.int (2 : Int32)), (.int (2 : Int32)), (.ref b4), (.ref b4)])) rfl rfl (hb hby at_31)
  have V7 : own_AI Z h7 b4 k4 .int (3 : Int32) (ws6.set 2 (2 : Int32)) := set7 _ _ rfl W7
  obtain ⟨ws7, hws7⟩ : ∃ z, z = (ws6.set 2 (2 : Int32)) := ⟨_, rfl⟩
  rw [← hws7] at V7
  have N7 := Fr.snoc X7 N6 g_b4
  have z9 : n0 ≤ (h7).size := (Nat.le_trans (Nat.le_trans (Nat.le_trans (Nat.le_trans Z0 E4.1) (Keep.of_wr W5).1) (Keep.of_wr W6).1) (Keep.of_wr W7).1)
  obtain ⟨T8, h8, k8, X8, e8, E8, A8, st8⟩ := newP X7 hx hZ (hw _ (List.mem_of_getElem? (i := 0) rfl)) e7 (g := (mkF m 35 #[.val (.int p0), .val (.int p1), .val (.int p2), .val (.int x3_5), .val (.int x4_11), .val (.int x5_17), .val (.ref b4), .unset, .unset, .unset] [(.int (4 : Int32))])) rfl (hb hby at_35) rfl (by decide) (cap := 4) (by decide) (by decide) (by decide) (by decide)
  obtain ⟨b8, gq8⟩ : ∃ z, z = (h7).size := ⟨_, rfl⟩
  rw [← gq8] at A8 st8
  have ne_b4_b8 : b4 ≠ b8 := Nat.ne_of_lt (Nat.lt_of_lt_of_le V7.lt (Nat.le_of_eq gq8.symm))
  have g_b8 : n0 ≤ b8 := Nat.le_trans z9 (Nat.le_of_eq gq8.symm)
  have V_b8 : own_AI Z h8 b8 k8 .int (4 : Int32) (List.replicate 4 (0 : Int32)) := own_AI.new 4 A8 (by decide) (by decide) rfl
  obtain ⟨cl10, Ar10, hin10, set10⟩ := own_AI.arr V_b8 (j := (0 : Int32)) ⟨by decide, by decide⟩
  obtain ⟨T10, h10, X10, e10, W10, st10⟩ := stI X8 hx hZ e8 Ar10 (j := (0 : Int32)) hin10 (g := (mkF m 40 #[.val (.int p0), .val (.int p1), .val (.int p2), .val (.int x3_5), .val (.int x4_11), .val (.int x5_17), .val (.ref b4), .unset, .unset, .unset] [(.int (0 : Int32)), (.int (0 : Int32)), (.ref b8), (.ref b8)])) rfl rfl (hb hby at_40)
  have V10 : own_AI Z h10 b8 k8 .int (4 : Int32) ((List.replicate 4 (0 : Int32)).set 0 (0 : Int32)) := set10 _ _ rfl W10
  obtain ⟨ws10, hws10⟩ : ∃ z, z = ((List.replicate 4 (0 : Int32)).set 0 (0 : Int32)) := ⟨_, rfl⟩
  rw [← hws10] at V10
  have N10 := Fr.snoc X10 N7 g_b8
  obtain ⟨cl11, Ar11, hin11, set11⟩ := own_AI.arr V10 (j := (1 : Int32)) ⟨by decide, by decide⟩
  obtain ⟨T11, h11, X11, e11, W11, st11⟩ := stI X10 hx hZ e10 Ar11 (j := (1 : Int32)) hin11 (g := (mkF m 44 #[.val (.int p0), .val (.int p1), .val (.int p2), .val (.int x3_5), .val (.int x4_11), .val (.int x5_17), .val (.ref b4), .unset, .unset, .unset] [(.int x3_5), (.int (1 : Int32)), (.ref b8), (.ref b8)])) rfl rfl (hb hby at_44)
  have V11 : own_AI Z h11 b8 k8 .int (4 : Int32) (ws10.set 1 x3_5) := set11 _ _ rfl W11
  obtain ⟨ws11, hws11⟩ : ∃ z, z = (ws10.set 1 x3_5) := ⟨_, rfl⟩
  rw [← hws11] at V11
  have N11 := Fr.snoc X11 N10 g_b8
  obtain ⟨cl12, Ar12, hin12, set12⟩ := own_AI.arr V11 (j := (2 : Int32)) ⟨by decide, by decide⟩
  obtain ⟨T12, h12, X12, e12, W12, st12⟩ := stI X11 hx hZ e11 Ar12 (j := (2 : Int32)) hin12 (g := (mkF m 51 #[.val (.int p0), .val (.int p1), .val (.int p2), .val (.int x3_5), .val (.int x4_11), .val (.int x5_17), .val (.ref b4), .unset, .unset, .unset] [(.int (x3_5 + x4_11)), (.int (2 : Int32)), (.ref b8), (.ref b8)])) rfl rfl (hb hby at_51)
  have V12 : own_AI Z h12 b8 k8 .int (4 : Int32) (ws11.set 2 (x3_5 + x4_11)) := set12 _ _ rfl W12
  obtain ⟨ws12, hws12⟩ : ∃ z, z = (ws11.set 2 (x3_5 + x4_11)) := ⟨_, rfl⟩
  rw [← hws12] at V12
  have N12 := Fr.snoc X12 N11 g_b8
  obtain ⟨cl13, Ar13, hin13, set13⟩ := own_AI.arr V12 (j := (3 : Int32)) ⟨by decide, by decide⟩
  obtain ⟨T13, h13, X13, e13, W13, st13⟩ := stI X12 hx hZ e12 Ar13 (j := (3 : Int32)) hin13 (g := (mkF m 61 #[.val (.int p0), .val (.int p1), .val (.int p2), .val (.int x3_5), .val (.int x4_11), .val (.int x5_17), .val (.ref b4), .unset, .unset, .unset] [(.int ((x3_5 + x4_11) + x5_17)), (.int (3 : Int32)), (.ref b8), (.ref b8)])) rfl rfl (hb hby at_61)
  have V13 : own_AI Z h13 b8 k8 .int (4 : Int32) (ws12.set 3 ((x3_5 + x4_11) + x5_17)) := set13 _ _ rfl W13
  obtain ⟨ws13, hws13⟩ : ∃ z, z = (ws12.set 3 ((x3_5 + x4_11) + x5_17)) := ⟨_, rfl⟩
  rw [← hws13] at V13
  have N13 := Fr.snoc X13 N12 g_b8
  have z15 : n0 ≤ (h13).size := (Nat.le_trans (Nat.le_trans (Nat.le_trans (Nat.le_trans (Nat.le_trans z9 E8.1) (Keep.of_wr W10).1) (Keep.of_wr W11).1) (Keep.of_wr W12).1) (Keep.of_wr W13).1)
  obtain ⟨T14, h14, k14, X14, e14, E14, A14, st14⟩ := newP X13 hx hZ (hw _ (List.mem_of_getElem? (i := 0) rfl)) e13 (g := (mkF m 66 #[.val (.int p0), .val (.int p1), .val (.int p2), .val (.int x3_5), .val (.int x4_11), .val (.int x5_17), .val (.ref b4), .val (.ref b8), .unset, .unset] [(.int (21 : Int32))])) rfl (hb hby at_66) rfl (by decide) (cap := 21) (by decide) (by decide) (by decide) (by decide)
  obtain ⟨b14, gq14⟩ : ∃ z, z = (h13).size := ⟨_, rfl⟩
  rw [← gq14] at A14 st14
  have f16 := (((((V7.ext E8).other W10 ne_b4_b8).other W11 ne_b4_b8).other W12 ne_b4_b8).other W13 ne_b4_b8)
  have ne_b4_b14 : b4 ≠ b14 := Nat.ne_of_lt (Nat.lt_of_lt_of_le f16.lt (Nat.le_of_eq gq14.symm))
  have ne_b8_b14 : b8 ≠ b14 := Nat.ne_of_lt (Nat.lt_of_lt_of_le V13.lt (Nat.le_of_eq gq14.symm))
  have g_b14 : n0 ≤ b14 := Nat.le_trans z15 (Nat.le_of_eq gq14.symm)
  have V_b14 : own_AI Z h14 b14 k14 .int (21 : Int32) (List.replicate 21 (0 : Int32)) := own_AI.new 21 A14 (by decide) (by decide) rfl
  have z18 : n0 ≤ (h14).size := (Nat.le_trans z15 E14.1)
  obtain ⟨T17, h17, X17, e17, E17, A17, D17, -, st17⟩ := newO X14 hx hZ hown (hw _ (List.mem_of_getElem? (i := 1) rfl)) (hw _ (List.mem_of_getElem? (i := 2) rfl)) (hw _ (List.mem_of_getElem? (i := 3) rfl)) e14 (g := (mkF m 70 #[.val (.int p0), .val (.int p1), .val (.int p2), .val (.int x3_5), .val (.int x4_11), .val (.int x5_17), .val (.ref b4), .val (.ref b8), .val (.ref b14), .unset] [])) rfl (hb hby at_70) (by decide) (by decide)
  obtain ⟨b17, gq17⟩ : ∃ z, z = (h14).size := ⟨_, rfl⟩
  rw [← gq17] at A17 D17 st17
  have ne_b14_b17 : b14 ≠ b17 := Nat.ne_of_lt (Nat.lt_of_lt_of_le V_b14.lt (Nat.le_of_eq gq17.symm))
  have f19 := (f16.ext E14)
  have ne_b4_b17 : b4 ≠ b17 := Nat.ne_of_lt (Nat.lt_of_lt_of_le f19.lt (Nat.le_of_eq gq17.symm))
  have f20 := (V13.ext E14)
  have ne_b8_b17 : b8 ≠ b17 := Nat.ne_of_lt (Nat.lt_of_lt_of_le f20.lt (Nat.le_of_eq gq17.symm))
  have g_b17 : n0 ≤ b17 := Nat.le_trans z18 (Nat.le_of_eq gq17.symm)
  have F_b17_documents : Fld Z h17 b17 "com/example/whole_recall/wholerecall/index/Postings" "documents" "[I" .null := D17 (Or.inr (hw _ (List.mem_of_getElem? (i := 11) rfl))) (ty := (.array .int)) (by decide)
  have F_b17_starts : Fld Z h17 b17 "com/example/whole_recall/wholerecall/index/Postings" "starts" "[I" .null := D17 (Or.inr (hw _ (List.mem_of_getElem? (i := 13) rfl))) (ty := (.array .int)) (by decide)
  have F_b17_positions : Fld Z h17 b17 "com/example/whole_recall/wholerecall/index/Postings" "positions" "[I" .null := D17 (Or.inr (hw _ (List.mem_of_getElem? (i := 15) rfl))) (ty := (.array .int)) (by decide)
  have z22 : n0 ≤ (h17).size := (Nat.le_trans z18 E17.1)
  obtain ⟨_, _, ⟨T21, L21, k21, n21⟩, -, X21, ⟨Lc21, hQ21, l21, y21, z21⟩, st21⟩ := X17.specialBack hx (y := (⟨"com/example/whole_recall/wholerecall/index/Postings", "<init>", "([I[I[I)V"⟩ : MethodName)) rfl hown (mvT hZ (hw _ (List.mem_of_getElem? (i := 4) rfl))) (mvT hZ (hw _ (List.mem_of_getElem? (i := 5) rfl))) (mvT hZ (hw _ (List.mem_of_getElem? (i := 6) rfl))) (by decide) (backOf (W := 1) (rm1 l Z aw hw [] (b17) (b4) (b8) (b14) (h17) n0 z22 A17 F_b17_documents F_b17_starts F_b17_positions g_b17) hZ (hw _ (List.mem_of_getElem? (i := 6) rfl)) (hw _ (List.mem_of_getElem? (i := 3) rfl)) (by decide) (by decide)) (g := (mkF m 80 #[.val (.int p0), .val (.int p1), .val (.int p2), .val (.int x3_5), .val (.int x4_11), .val (.int x5_17), .val (.ref b4), .val (.ref b8), .val (.ref b14), .unset] [(.ref b14), (.ref b8), (.ref b4), (.ref b17), (.ref b17)])) rfl (by rw [hml]; rfl) (Steps.refl _) (a := b17) (argsL := [(.ref b4), (.ref b8), (.ref b14)]) (rest := [(.ref b17)]) (lenOf pd_0 rfl) rfl (by show 2 * 0 + _ ≤ _; exact Nat.le_of_eq rfl) (hb hby at_80) (fun _ _ => ⟨rfl, e17, (by decide : 4 + 0 ≤ _), (by decide : 31 + 0 ≤ _)⟩)
  dsimp only [Pt.U, Pt.locs, Pt.cells, Pt.slots] at X21 l21 y21 z21 st21 hQ21
  subst l21 y21 z21
  obtain ⟨rfl, Nq21, K21, po21_0, po21_1⟩ := hQ21
  have N21 := Fr.app N13 Nq21
  have f24 := ((f20.ext E17).keep K21 (ninS ne_b8_b17 nin0))
  have z25 : n0 ≤ (T21.heap).size := (Nat.le_trans z22 K21.1)
  obtain ⟨cq23, kq23, q23a, q23b, q23c⟩ := isOf hZ rfl po21_0
  obtain ⟨_, _, ⟨T23, L23, k23, n23⟩, -, X23, ⟨Lc23, hQ23, l23, y23, z23⟩, st23⟩ := X21.virtualBack hx (y := (⟨"com/example/whole_recall/wholerecall/index/Postings", "frequency", "(I)I"⟩ : MethodName)) (z := (⟨"com/example/whole_recall/wholerecall/index/Postings", "frequency", "(I)I"⟩ : MethodName)) hown (mvT hZ (hw _ (List.mem_of_getElem? (i := 16) rfl))) (mvT hZ (hw _ (List.mem_of_getElem? (i := 17) rfl))) (notFace_of_selects (args := #[]) (mvT hZ (hw _ (List.mem_of_getElem? (i := 19) rfl)))) (mvT hZ (hw _ (List.mem_of_getElem? (i := 19) rfl))) (mvT hZ (hw _ (List.mem_of_getElem? (i := 18) rfl))) (by decide) (backOf (W := 0) (rm3 l Z aw hw [] (b17) ((0 : Int32)) (b8) (k8) ((4 : Int32)) (ws13) (T21.heap) n0 z25 po21_1 f24 (by decide) (by decide)) hZ (hw _ (List.mem_of_getElem? (i := 20) rfl)) (hw _ (List.mem_of_getElem? (i := 3) rfl)) (by decide) (by decide)) q23a q23c (g := (mkF m 88 #[.val (.int p0), .val (.int p1), .val (.int p2), .val (.int x3_5), .val (.int x4_11), .val (.int x5_17), .val (.ref b4), .val (.ref b8), .val (.ref b14), .val (.ref b17)] [(.int (0 : Int32)), (.ref b17)])) rfl (by rw [hml]; rfl) (Steps.refl _) (argsL := [(.int (0 : Int32))]) (rest := []) (lenOf pd_1 rfl) rfl (by show 2 * 0 + _ ≤ _; exact Nat.le_of_eq rfl) (hb hby at_88) (fun _ _ => ⟨rfl, rfl, (by decide : 4 + 0 ≤ _), (by decide : 31 + 0 ≤ _)⟩)
  dsimp only [Pt.U, Pt.locs, Pt.cells, Pt.slots] at X23 l23 y23 z23 st23 hQ23
  subst l23 y23 z23
  obtain ⟨rfl, Nq23, eq23⟩ := hQ23
  have N23 := Fr.app N21 Nq23
  have hc92 : ((own_f3 ((0 : Int32)) ws13) = x3_5) := by subst hws13 hws12 hws11 hws10 hws7 hws6 hws5; exact own_l0 _ _ _
  obtain ⟨cq26, kq26, q26a, q26b, q26c⟩ := isOf hZ eq23 po21_0
  obtain ⟨_, _, ⟨T26, L26, k26, n26⟩, -, X26, ⟨Lc26, hQ26, l26, y26, z26⟩, st26⟩ := X23.virtualBack hx (y := (⟨"com/example/whole_recall/wholerecall/index/Postings", "frequency", "(I)I"⟩ : MethodName)) (z := (⟨"com/example/whole_recall/wholerecall/index/Postings", "frequency", "(I)I"⟩ : MethodName)) hown (mvT hZ (hw _ (List.mem_of_getElem? (i := 16) rfl))) (mvT hZ (hw _ (List.mem_of_getElem? (i := 17) rfl))) (notFace_of_selects (args := #[]) (mvT hZ (hw _ (List.mem_of_getElem? (i := 19) rfl)))) (mvT hZ (hw _ (List.mem_of_getElem? (i := 19) rfl))) (mvT hZ (hw _ (List.mem_of_getElem? (i := 18) rfl))) (by decide) (backOf (W := 0) (rm3 l Z aw hw [] (b17) ((1 : Int32)) (b8) (k8) ((4 : Int32)) (ws13) (T21.heap) n0 z25 po21_1 f24 (by decide) (by decide)) hZ (hw _ (List.mem_of_getElem? (i := 20) rfl)) (hw _ (List.mem_of_getElem? (i := 3) rfl)) (by decide) (by decide)) q26a q26c (g := (mkF m 98 #[.val (.int p0), .val (.int p1), .val (.int p2), .val (.int x3_5), .val (.int x4_11), .val (.int x5_17), .val (.ref b4), .val (.ref b8), .val (.ref b14), .val (.ref b17)] [(.int (1 : Int32)), (.ref b17)])) rfl (by rw [hml]; rfl) (Steps.refl _) (argsL := [(.int (1 : Int32))]) (rest := []) (lenOf pd_1 rfl) rfl (by show 2 * 0 + _ ≤ _; exact Nat.le_of_eq rfl) (hb hby at_98) (fun _ _ => ⟨rfl, eq23, (by decide : 4 + 0 ≤ _), (by decide : 31 + 0 ≤ _)⟩)
  dsimp only [Pt.U, Pt.locs, Pt.cells, Pt.slots] at X26 l26 y26 z26 st26 hQ26
  subst l26 y26 z26
  obtain ⟨rfl, Nq26, eq26⟩ := hQ26
  have N26 := Fr.app N23 Nq26
  have hc103 : ((own_f3 ((1 : Int32)) ws13) = x4_11) := by subst hws13 hws12 hws11 hws10 hws7 hws6 hws5; exact own_l1 _ _ _
  obtain ⟨cq27, kq27, q27a, q27b, q27c⟩ := isOf hZ eq26 po21_0
  obtain ⟨_, _, ⟨T27, L27, k27, n27⟩, -, X27, ⟨Lc27, hQ27, l27, y27, z27⟩, st27⟩ := X26.virtualBack hx (y := (⟨"com/example/whole_recall/wholerecall/index/Postings", "frequency", "(I)I"⟩ : MethodName)) (z := (⟨"com/example/whole_recall/wholerecall/index/Postings", "frequency", "(I)I"⟩ : MethodName)) hown (mvT hZ (hw _ (List.mem_of_getElem? (i := 16) rfl))) (mvT hZ (hw _ (List.mem_of_getElem? (i := 17) rfl))) (notFace_of_selects (args := #[]) (mvT hZ (hw _ (List.mem_of_getElem? (i := 19) rfl)))) (mvT hZ (hw _ (List.mem_of_getElem? (i := 19) rfl))) (mvT hZ (hw _ (List.mem_of_getElem? (i := 18) rfl))) (by decide) (backOf (W := 0) (rm3 l Z aw hw [] (b17) ((2 : Int32)) (b8) (k8) ((4 : Int32)) (ws13) (T21.heap) n0 z25 po21_1 f24 (by decide) (by decide)) hZ (hw _ (List.mem_of_getElem? (i := 20) rfl)) (hw _ (List.mem_of_getElem? (i := 3) rfl)) (by decide) (by decide)) q27a q27c (g := (mkF m 109 #[.val (.int p0), .val (.int p1), .val (.int p2), .val (.int x3_5), .val (.int x4_11), .val (.int x5_17), .val (.ref b4), .val (.ref b8), .val (.ref b14), .val (.ref b17)] [(.int (2 : Int32)), (.ref b17)])) rfl (by rw [hml]; rfl) (Steps.refl _) (argsL := [(.int (2 : Int32))]) (rest := []) (lenOf pd_1 rfl) rfl (by show 2 * 0 + _ ≤ _; exact Nat.le_of_eq rfl) (hb hby at_109) (fun _ _ => ⟨rfl, eq26, (by decide : 4 + 0 ≤ _), (by decide : 31 + 0 ≤ _)⟩)
  dsimp only [Pt.U, Pt.locs, Pt.cells, Pt.slots] at X27 l27 y27 z27 st27 hQ27
  subst l27 y27 z27
  obtain ⟨rfl, Nq27, eq27⟩ := hQ27
  have N27 := Fr.app N26 Nq27
  have hc114 : ((own_f3 ((2 : Int32)) ws13) = x5_17) := by subst hws13 hws12 hws11 hws10 hws7 hws6 hws5; exact own_l2 _ _ _
  obtain ⟨fs, hr, hrun, hended, hW, hsame⟩ := X27.leave (v := some (.int (1 : Int32))) (fun h => by rw [Bd.returns] at h; cases h)
  refine ⟨_, _, pre3 _ ?_, hrun, hended, _, _, rfl, ?_, ⟨_, rfl⟩, hW, hsame.mono (by decide) (by decide)⟩
  · show Steps p.tables e below (s₁.setTop (mkF m 17 #[.val (.int p0), .val (.int p1), .val (.int p2), .val (.int x3_5), .val (.int x4_11), .val (.int x5_17), .unset, .unset, .unset, .unset] [])) _
    refine XS.iconst X0.here hx rfl (hb hby at_17) ?_
    show Steps p.tables e below (s₁.setTop (mkF m 18 #[.val (.int p0), .val (.int p1), .val (.int p2), .val (.int x3_5), .val (.int x4_11), .val (.int x5_17), .unset, .unset, .unset, .unset] [(.int (3 : Int32))])) _
    refine st4 _ ?_
    show Steps p.tables e below (T4.setTop (mkF m 20 #[.val (.int p0), .val (.int p1), .val (.int p2), .val (.int x3_5), .val (.int x4_11), .val (.int x5_17), .unset, .unset, .unset, .unset] [(.ref b4)])) _
    refine XS.dup X4.here hx rfl (hb hby at_20) rfl rfl ?_
    show Steps p.tables e below (T4.setTop (mkF m 21 #[.val (.int p0), .val (.int p1), .val (.int p2), .val (.int x3_5), .val (.int x4_11), .val (.int x5_17), .unset, .unset, .unset, .unset] [(.ref b4), (.ref b4)])) _
    refine XS.iconst X4.here hx rfl (hb hby at_21) ?_
    show Steps p.tables e below (T4.setTop (mkF m 22 #[.val (.int p0), .val (.int p1), .val (.int p2), .val (.int x3_5), .val (.int x4_11), .val (.int x5_17), .unset, .unset, .unset, .unset] [(.int (0 : Int32)), (.ref b4), (.ref b4)])) _
    refine XS.iconst X4.here hx rfl (hb hby at_22) ?_
    show Steps p.tables e below (T4.setTop (mkF m 23 #[.val (.int p0), .val (.int p1), .val (.int p2), .val (.int x3_5), .val (.int x4_11), .val (.int x5_17), .unset, .unset, .unset, .unset] [(.int (0 : Int32)), (.int (0 : Int32)), (.ref b4), (.ref b4)])) _
    refine st5 _ ?_
    show Steps p.tables e below (T5.setTop (mkF m 24 #[.val (.int p0), .val (.int p1), .val (.int p2), .val (.int x3_5), .val (.int x4_11), .val (.int x5_17), .unset, .unset, .unset, .unset] [(.ref b4)])) _
    refine XS.dup X5.here hx rfl (hb hby at_24) rfl rfl ?_
    show Steps p.tables e below (T5.setTop (mkF m 25 #[.val (.int p0), .val (.int p1), .val (.int p2), .val (.int x3_5), .val (.int x4_11), .val (.int x5_17), .unset, .unset, .unset, .unset] [(.ref b4), (.ref b4)])) _
    refine XS.iconst X5.here hx rfl (hb hby at_25) ?_
    show Steps p.tables e below (T5.setTop (mkF m 26 #[.val (.int p0), .val (.int p1), .val (.int p2), .val (.int x3_5), .val (.int x4_11), .val (.int x5_17), .unset, .unset, .unset, .unset] [(.int (1 : Int32)), (.ref b4), (.ref b4)])) _
    refine XS.iconst X5.here hx rfl (hb hby at_26) ?_
    show Steps p.tables e below (T5.setTop (mkF m 27 #[.val (.int p0), .val (.int p1), .val (.int p2), .val (.int x3_5), .val (.int x4_11), .val (.int x5_17), .unset, .unset, .unset, .unset] [(.int (1 : Int32)), (.int (1 : Int32)), (.ref b4), (.ref b4)])) _
    refine st6 _ ?_
    show Steps p.tables e below (T6.setTop (mkF m 28 #[.val (.int p0), .val (.int p1), .val (.int p2), .val (.int x3_5), .val (.int x4_11), .val (.int x5_17), .unset, .unset, .unset, .unset] [(.ref b4)])) _
    refine XS.dup X6.here hx rfl (hb hby at_28) rfl rfl ?_
    show Steps p.tables e below (T6.setTop (mkF m 29 #[.val (.int p0), .val (.int p1), .val (.int p2), .val (.int x3_5), .val (.int x4_11), .val (.int x5_17), .unset, .unset, .unset, .unset] [(.ref b4), (.ref b4)])) _
    refine XS.iconst X6.here hx rfl (hb hby at_29) ?_
    show Steps p.tables e below (T6.setTop (mkF m 30 #[.val (.int p0), .val (.int p1), .val (.int p2), .val (.int x3_5), .val (.int x4_11), .val (.int x5_17), .unset, .unset, .unset, .unset] [(.int (2 : Int32)), (.ref b4), (.ref b4)])) _
    refine XS.iconst X6.here hx rfl (hb hby at_30) ?_
    show Steps p.tables e below (T6.setTop (mkF m 31 #[.val (.int p0), .val (.int p1), .val (.int p2), .val (.int x3_5), .val (.int x4_11), .val (.int x5_17), .unset, .unset, .unset, .unset] [(.int (2 : Int32)), (.int (2 : Int32)), (.ref b4), (.ref b4)])) _
    refine st7 _ ?_
    show Steps p.tables e below (T7.setTop (mkF m 32 #[.val (.int p0), .val (.int p1), .val (.int p2), .val (.int x3_5), .val (.int x4_11), .val (.int x5_17), .unset, .unset, .unset, .unset] [(.ref b4)])) _
    refine XS.astore X7.here hx rfl (hb hby at_32) rfl rfl (l' := #[.val (.int p0), .val (.int p1), .val (.int p2), .val (.int x3_5), .val (.int x4_11), .val (.int x5_17), .val (.ref b4), .unset, .unset, .unset]) rfl ?_
    show Steps p.tables e below (T7.setTop (mkF m 34 #[.val (.int p0), .val (.int p1), .val (.int p2), .val (.int x3_5), .val (.int x4_11), .val (.int x5_17), .val (.ref b4), .unset, .unset, .unset] [])) _
    refine XS.iconst X7.here hx rfl (hb hby at_34) ?_
    show Steps p.tables e below (T7.setTop (mkF m 35 #[.val (.int p0), .val (.int p1), .val (.int p2), .val (.int x3_5), .val (.int x4_11), .val (.int x5_17), .val (.ref b4), .unset, .unset, .unset] [(.int (4 : Int32))])) _
    refine st8 _ ?_
    show Steps p.tables e below (T8.setTop (mkF m 37 #[.val (.int p0), .val (.int p1), .val (.int p2), .val (.int x3_5), .val (.int x4_11), .val (.int x5_17), .val (.ref b4), .unset, .unset, .unset] [(.ref b8)])) _
    refine XS.dup X8.here hx rfl (hb hby at_37) rfl rfl ?_
    show Steps p.tables e below (T8.setTop (mkF m 38 #[.val (.int p0), .val (.int p1), .val (.int p2), .val (.int x3_5), .val (.int x4_11), .val (.int x5_17), .val (.ref b4), .unset, .unset, .unset] [(.ref b8), (.ref b8)])) _
    refine XS.iconst X8.here hx rfl (hb hby at_38) ?_
    show Steps p.tables e below (T8.setTop (mkF m 39 #[.val (.int p0), .val (.int p1), .val (.int p2), .val (.int x3_5), .val (.int x4_11), .val (.int x5_17), .val (.ref b4), .unset, .unset, .unset] [(.int (0 : Int32)), (.ref b8), (.ref b8)])) _
    refine XS.iconst X8.here hx rfl (hb hby at_39) ?_
    show Steps p.tables e below (T8.setTop (mkF m 40 #[.val (.int p0), .val (.int p1), .val (.int p2), .val (.int x3_5), .val (.int x4_11), .val (.int x5_17), .val (.ref b4), .unset, .unset, .unset] [(.int (0 : Int32)), (.int (0 : Int32)), (.ref b8), (.ref b8)])) _
    refine st10 _ ?_
    show Steps p.tables e below (T10.setTop (mkF m 41 #[.val (.int p0), .val (.int p1), .val (.int p2), .val (.int x3_5), .val (.int x4_11), .val (.int x5_17), .val (.ref b4), .unset, .unset, .unset] [(.ref b8)])) _
    refine XS.dup X10.here hx rfl (hb hby at_41) rfl rfl ?_
    show Steps p.tables e below (T10.setTop (mkF m 42 #[.val (.int p0), .val (.int p1), .val (.int p2), .val (.int x3_5), .val (.int x4_11), .val (.int x5_17), .val (.ref b4), .unset, .unset, .unset] [(.ref b8), (.ref b8)])) _
    refine XS.iconst X10.here hx rfl (hb hby at_42) ?_
    show Steps p.tables e below (T10.setTop (mkF m 43 #[.val (.int p0), .val (.int p1), .val (.int p2), .val (.int x3_5), .val (.int x4_11), .val (.int x5_17), .val (.ref b4), .unset, .unset, .unset] [(.int (1 : Int32)), (.ref b8), (.ref b8)])) _
    refine XS.iloadN X10.here hx rfl (hb hby at_43) rfl ?_
    show Steps p.tables e below (T10.setTop (mkF m 44 #[.val (.int p0), .val (.int p1), .val (.int p2), .val (.int x3_5), .val (.int x4_11), .val (.int x5_17), .val (.ref b4), .unset, .unset, .unset] [(.int x3_5), (.int (1 : Int32)), (.ref b8), (.ref b8)])) _
    refine st11 _ ?_
    show Steps p.tables e below (T11.setTop (mkF m 45 #[.val (.int p0), .val (.int p1), .val (.int p2), .val (.int x3_5), .val (.int x4_11), .val (.int x5_17), .val (.ref b4), .unset, .unset, .unset] [(.ref b8)])) _
    refine XS.dup X11.here hx rfl (hb hby at_45) rfl rfl ?_
    show Steps p.tables e below (T11.setTop (mkF m 46 #[.val (.int p0), .val (.int p1), .val (.int p2), .val (.int x3_5), .val (.int x4_11), .val (.int x5_17), .val (.ref b4), .unset, .unset, .unset] [(.ref b8), (.ref b8)])) _
    refine XS.iconst X11.here hx rfl (hb hby at_46) ?_
    show Steps p.tables e below (T11.setTop (mkF m 47 #[.val (.int p0), .val (.int p1), .val (.int p2), .val (.int x3_5), .val (.int x4_11), .val (.int x5_17), .val (.ref b4), .unset, .unset, .unset] [(.int (2 : Int32)), (.ref b8), (.ref b8)])) _
    refine XS.iloadN X11.here hx rfl (hb hby at_47) rfl ?_
    show Steps p.tables e below (T11.setTop (mkF m 48 #[.val (.int p0), .val (.int p1), .val (.int p2), .val (.int x3_5), .val (.int x4_11), .val (.int x5_17), .val (.ref b4), .unset, .unset, .unset] [(.int x3_5), (.int (2 : Int32)), (.ref b8), (.ref b8)])) _
    refine XS.iload X11.here hx rfl (hb hby at_48) rfl ?_
    show Steps p.tables e below (T11.setTop (mkF m 50 #[.val (.int p0), .val (.int p1), .val (.int p2), .val (.int x3_5), .val (.int x4_11), .val (.int x5_17), .val (.ref b4), .unset, .unset, .unset] [(.int x4_11), (.int x3_5), (.int (2 : Int32)), (.ref b8), (.ref b8)])) _
    refine XS.iadd X11.here hx rfl (hb hby at_50) rfl ?_
    show Steps p.tables e below (T11.setTop (mkF m 51 #[.val (.int p0), .val (.int p1), .val (.int p2), .val (.int x3_5), .val (.int x4_11), .val (.int x5_17), .val (.ref b4), .unset, .unset, .unset] [(.int (x3_5 + x4_11)), (.int (2 : Int32)), (.ref b8), (.ref b8)])) _
    refine st12 _ ?_
    show Steps p.tables e below (T12.setTop (mkF m 52 #[.val (.int p0), .val (.int p1), .val (.int p2), .val (.int x3_5), .val (.int x4_11), .val (.int x5_17), .val (.ref b4), .unset, .unset, .unset] [(.ref b8)])) _
    refine XS.dup X12.here hx rfl (hb hby at_52) rfl rfl ?_
    show Steps p.tables e below (T12.setTop (mkF m 53 #[.val (.int p0), .val (.int p1), .val (.int p2), .val (.int x3_5), .val (.int x4_11), .val (.int x5_17), .val (.ref b4), .unset, .unset, .unset] [(.ref b8), (.ref b8)])) _
    refine XS.iconst X12.here hx rfl (hb hby at_53) ?_
    show Steps p.tables e below (T12.setTop (mkF m 54 #[.val (.int p0), .val (.int p1), .val (.int p2), .val (.int x3_5), .val (.int x4_11), .val (.int x5_17), .val (.ref b4), .unset, .unset, .unset] [(.int (3 : Int32)), (.ref b8), (.ref b8)])) _
    refine XS.iloadN X12.here hx rfl (hb hby at_54) rfl ?_
    show Steps p.tables e below (T12.setTop (mkF m 55 #[.val (.int p0), .val (.int p1), .val (.int p2), .val (.int x3_5), .val (.int x4_11), .val (.int x5_17), .val (.ref b4), .unset, .unset, .unset] [(.int x3_5), (.int (3 : Int32)), (.ref b8), (.ref b8)])) _
    refine XS.iload X12.here hx rfl (hb hby at_55) rfl ?_
    show Steps p.tables e below (T12.setTop (mkF m 57 #[.val (.int p0), .val (.int p1), .val (.int p2), .val (.int x3_5), .val (.int x4_11), .val (.int x5_17), .val (.ref b4), .unset, .unset, .unset] [(.int x4_11), (.int x3_5), (.int (3 : Int32)), (.ref b8), (.ref b8)])) _
    refine XS.iadd X12.here hx rfl (hb hby at_57) rfl ?_
    show Steps p.tables e below (T12.setTop (mkF m 58 #[.val (.int p0), .val (.int p1), .val (.int p2), .val (.int x3_5), .val (.int x4_11), .val (.int x5_17), .val (.ref b4), .unset, .unset, .unset] [(.int (x3_5 + x4_11)), (.int (3 : Int32)), (.ref b8), (.ref b8)])) _
    refine XS.iload X12.here hx rfl (hb hby at_58) rfl ?_
    show Steps p.tables e below (T12.setTop (mkF m 60 #[.val (.int p0), .val (.int p1), .val (.int p2), .val (.int x3_5), .val (.int x4_11), .val (.int x5_17), .val (.ref b4), .unset, .unset, .unset] [(.int x5_17), (.int (x3_5 + x4_11)), (.int (3 : Int32)), (.ref b8), (.ref b8)])) _
    refine XS.iadd X12.here hx rfl (hb hby at_60) rfl ?_
    show Steps p.tables e below (T12.setTop (mkF m 61 #[.val (.int p0), .val (.int p1), .val (.int p2), .val (.int x3_5), .val (.int x4_11), .val (.int x5_17), .val (.ref b4), .unset, .unset, .unset] [(.int ((x3_5 + x4_11) + x5_17)), (.int (3 : Int32)), (.ref b8), (.ref b8)])) _
    refine st13 _ ?_
    show Steps p.tables e below (T13.setTop (mkF m 62 #[.val (.int p0), .val (.int p1), .val (.int p2), .val (.int x3_5), .val (.int x4_11), .val (.int x5_17), .val (.ref b4), .unset, .unset, .unset] [(.ref b8)])) _
    refine XS.astore X13.here hx rfl (hb hby at_62) rfl rfl (l' := #[.val (.int p0), .val (.int p1), .val (.int p2), .val (.int x3_5), .val (.int x4_11), .val (.int x5_17), .val (.ref b4), .val (.ref b8), .unset, .unset]) rfl ?_
    show Steps p.tables e below (T13.setTop (mkF m 64 #[.val (.int p0), .val (.int p1), .val (.int p2), .val (.int x3_5), .val (.int x4_11), .val (.int x5_17), .val (.ref b4), .val (.ref b8), .unset, .unset] [])) _
    refine XS.bipush X13.here hx rfl (hb hby at_64) ?_
    show Steps p.tables e below (T13.setTop (mkF m 66 #[.val (.int p0), .val (.int p1), .val (.int p2), .val (.int x3_5), .val (.int x4_11), .val (.int x5_17), .val (.ref b4), .val (.ref b8), .unset, .unset] [(.int (21 : Int32))])) _
    refine st14 _ ?_
    show Steps p.tables e below (T14.setTop (mkF m 68 #[.val (.int p0), .val (.int p1), .val (.int p2), .val (.int x3_5), .val (.int x4_11), .val (.int x5_17), .val (.ref b4), .val (.ref b8), .unset, .unset] [(.ref b14)])) _
    refine XS.astore X14.here hx rfl (hb hby at_68) rfl rfl (l' := #[.val (.int p0), .val (.int p1), .val (.int p2), .val (.int x3_5), .val (.int x4_11), .val (.int x5_17), .val (.ref b4), .val (.ref b8), .val (.ref b14), .unset]) rfl ?_
    show Steps p.tables e below (T14.setTop (mkF m 70 #[.val (.int p0), .val (.int p1), .val (.int p2), .val (.int x3_5), .val (.int x4_11), .val (.int x5_17), .val (.ref b4), .val (.ref b8), .val (.ref b14), .unset] [])) _
    refine st17 _ ?_
    show Steps p.tables e below (T17.setTop (mkF m 73 #[.val (.int p0), .val (.int p1), .val (.int p2), .val (.int x3_5), .val (.int x4_11), .val (.int x5_17), .val (.ref b4), .val (.ref b8), .val (.ref b14), .unset] [(.ref b17)])) _
    refine XS.dup X17.here hx rfl (hb hby at_73) rfl rfl ?_
    show Steps p.tables e below (T17.setTop (mkF m 74 #[.val (.int p0), .val (.int p1), .val (.int p2), .val (.int x3_5), .val (.int x4_11), .val (.int x5_17), .val (.ref b4), .val (.ref b8), .val (.ref b14), .unset] [(.ref b17), (.ref b17)])) _
    refine XS.aload X17.here hx rfl (hb hby at_74) rfl rfl ?_
    show Steps p.tables e below (T17.setTop (mkF m 76 #[.val (.int p0), .val (.int p1), .val (.int p2), .val (.int x3_5), .val (.int x4_11), .val (.int x5_17), .val (.ref b4), .val (.ref b8), .val (.ref b14), .unset] [(.ref b4), (.ref b17), (.ref b17)])) _
    refine XS.aload X17.here hx rfl (hb hby at_76) rfl rfl ?_
    show Steps p.tables e below (T17.setTop (mkF m 78 #[.val (.int p0), .val (.int p1), .val (.int p2), .val (.int x3_5), .val (.int x4_11), .val (.int x5_17), .val (.ref b4), .val (.ref b8), .val (.ref b14), .unset] [(.ref b8), (.ref b4), (.ref b17), (.ref b17)])) _
    refine XS.aload X17.here hx rfl (hb hby at_78) rfl rfl ?_
    show Steps p.tables e below (T17.setTop (mkF m 80 #[.val (.int p0), .val (.int p1), .val (.int p2), .val (.int x3_5), .val (.int x4_11), .val (.int x5_17), .val (.ref b4), .val (.ref b8), .val (.ref b14), .unset] [(.ref b14), (.ref b8), (.ref b4), (.ref b17), (.ref b17)])) _
    refine st21.trans ?_
    show Steps p.tables e below (T21.setTop (mkF m 83 #[.val (.int p0), .val (.int p1), .val (.int p2), .val (.int x3_5), .val (.int x4_11), .val (.int x5_17), .val (.ref b4), .val (.ref b8), .val (.ref b14), .unset] [(.ref b17)])) _
    refine XS.astore X21.here hx rfl (hb hby at_83) rfl rfl (l' := #[.val (.int p0), .val (.int p1), .val (.int p2), .val (.int x3_5), .val (.int x4_11), .val (.int x5_17), .val (.ref b4), .val (.ref b8), .val (.ref b14), .val (.ref b17)]) rfl ?_
    show Steps p.tables e below (T21.setTop (mkF m 85 #[.val (.int p0), .val (.int p1), .val (.int p2), .val (.int x3_5), .val (.int x4_11), .val (.int x5_17), .val (.ref b4), .val (.ref b8), .val (.ref b14), .val (.ref b17)] [])) _
    refine XS.aload X21.here hx rfl (hb hby at_85) rfl rfl ?_
    show Steps p.tables e below (T21.setTop (mkF m 87 #[.val (.int p0), .val (.int p1), .val (.int p2), .val (.int x3_5), .val (.int x4_11), .val (.int x5_17), .val (.ref b4), .val (.ref b8), .val (.ref b14), .val (.ref b17)] [(.ref b17)])) _
    refine XS.iconst X21.here hx rfl (hb hby at_87) ?_
    show Steps p.tables e below (T21.setTop (mkF m 88 #[.val (.int p0), .val (.int p1), .val (.int p2), .val (.int x3_5), .val (.int x4_11), .val (.int x5_17), .val (.ref b4), .val (.ref b8), .val (.ref b14), .val (.ref b17)] [(.int (0 : Int32)), (.ref b17)])) _
    refine st23.trans ?_
    show Steps p.tables e below (T23.setTop (mkF m 91 #[.val (.int p0), .val (.int p1), .val (.int p2), .val (.int x3_5), .val (.int x4_11), .val (.int x5_17), .val (.ref b4), .val (.ref b8), .val (.ref b14), .val (.ref b17)] [(.int (own_f3 ((0 : Int32)) ws13))])) _
    refine XS.iloadN X23.here hx rfl (hb hby at_91) rfl ?_
    show Steps p.tables e below (T23.setTop (mkF m 92 #[.val (.int p0), .val (.int p1), .val (.int p2), .val (.int x3_5), .val (.int x4_11), .val (.int x5_17), .val (.ref b4), .val (.ref b8), .val (.ref b14), .val (.ref b17)] [(.int x3_5), (.int (own_f3 ((0 : Int32)) ws13))])) _
    refine XS.icmpNo X23.here hx rfl (hb hby at_92) rfl (teq hc92).2 ?_
    show Steps p.tables e below (T23.setTop (mkF m 95 #[.val (.int p0), .val (.int p1), .val (.int p2), .val (.int x3_5), .val (.int x4_11), .val (.int x5_17), .val (.ref b4), .val (.ref b8), .val (.ref b14), .val (.ref b17)] [])) _
    refine XS.aload X23.here hx rfl (hb hby at_95) rfl rfl ?_
    show Steps p.tables e below (T23.setTop (mkF m 97 #[.val (.int p0), .val (.int p1), .val (.int p2), .val (.int x3_5), .val (.int x4_11), .val (.int x5_17), .val (.ref b4), .val (.ref b8), .val (.ref b14), .val (.ref b17)] [(.ref b17)])) _
    refine XS.iconst X23.here hx rfl (hb hby at_97) ?_
    show Steps p.tables e below (T23.setTop (mkF m 98 #[.val (.int p0), .val (.int p1), .val (.int p2), .val (.int x3_5), .val (.int x4_11), .val (.int x5_17), .val (.ref b4), .val (.ref b8), .val (.ref b14), .val (.ref b17)] [(.int (1 : Int32)), (.ref b17)])) _
    refine st26.trans ?_
    show Steps p.tables e below (T26.setTop (mkF m 101 #[.val (.int p0), .val (.int p1), .val (.int p2), .val (.int x3_5), .val (.int x4_11), .val (.int x5_17), .val (.ref b4), .val (.ref b8), .val (.ref b14), .val (.ref b17)] [(.int (own_f3 ((1 : Int32)) ws13))])) _
    refine XS.iload X26.here hx rfl (hb hby at_101) rfl ?_
    show Steps p.tables e below (T26.setTop (mkF m 103 #[.val (.int p0), .val (.int p1), .val (.int p2), .val (.int x3_5), .val (.int x4_11), .val (.int x5_17), .val (.ref b4), .val (.ref b8), .val (.ref b14), .val (.ref b17)] [(.int x4_11), (.int (own_f3 ((1 : Int32)) ws13))])) _
    refine XS.icmpNo X26.here hx rfl (hb hby at_103) rfl (teq hc103).2 ?_
    show Steps p.tables e below (T26.setTop (mkF m 106 #[.val (.int p0), .val (.int p1), .val (.int p2), .val (.int x3_5), .val (.int x4_11), .val (.int x5_17), .val (.ref b4), .val (.ref b8), .val (.ref b14), .val (.ref b17)] [])) _
    refine XS.aload X26.here hx rfl (hb hby at_106) rfl rfl ?_
    show Steps p.tables e below (T26.setTop (mkF m 108 #[.val (.int p0), .val (.int p1), .val (.int p2), .val (.int x3_5), .val (.int x4_11), .val (.int x5_17), .val (.ref b4), .val (.ref b8), .val (.ref b14), .val (.ref b17)] [(.ref b17)])) _
    refine XS.iconst X26.here hx rfl (hb hby at_108) ?_
    show Steps p.tables e below (T26.setTop (mkF m 109 #[.val (.int p0), .val (.int p1), .val (.int p2), .val (.int x3_5), .val (.int x4_11), .val (.int x5_17), .val (.ref b4), .val (.ref b8), .val (.ref b14), .val (.ref b17)] [(.int (2 : Int32)), (.ref b17)])) _
    refine st27.trans ?_
    show Steps p.tables e below (T27.setTop (mkF m 112 #[.val (.int p0), .val (.int p1), .val (.int p2), .val (.int x3_5), .val (.int x4_11), .val (.int x5_17), .val (.ref b4), .val (.ref b8), .val (.ref b14), .val (.ref b17)] [(.int (own_f3 ((2 : Int32)) ws13))])) _
    refine XS.iload X27.here hx rfl (hb hby at_112) rfl ?_
    show Steps p.tables e below (T27.setTop (mkF m 114 #[.val (.int p0), .val (.int p1), .val (.int p2), .val (.int x3_5), .val (.int x4_11), .val (.int x5_17), .val (.ref b4), .val (.ref b8), .val (.ref b14), .val (.ref b17)] [(.int x5_17), (.int (own_f3 ((2 : Int32)) ws13))])) _
    refine XS.icmpNo X27.here hx rfl (hb hby at_114) rfl (teq hc114).2 ?_
    show Steps p.tables e below (T27.setTop (mkF m 117 #[.val (.int p0), .val (.int p1), .val (.int p2), .val (.int x3_5), .val (.int x4_11), .val (.int x5_17), .val (.ref b4), .val (.ref b8), .val (.ref b14), .val (.ref b17)] [])) _
    refine XS.iconst X27.here hx rfl (hb hby at_117) ?_
    show Steps p.tables e below (T27.setTop (mkF m 118 #[.val (.int p0), .val (.int p1), .val (.int p2), .val (.int x3_5), .val (.int x4_11), .val (.int x5_17), .val (.ref b4), .val (.ref b8), .val (.ref b14), .val (.ref b17)] [(.int (1 : Int32))])) _
    refine XS.goto X27.here hx rfl (pc0 := 118) (pc' := 122) rfl (hb hby at_118) (by decide) (by decide) ?_
    show Steps p.tables e below (T27.setTop (mkF m 122 #[.val (.int p0), .val (.int p1), .val (.int p2), .val (.int x3_5), .val (.int x4_11), .val (.int x5_17), .val (.ref b4), .val (.ref b8), .val (.ref b14), .val (.ref b17)] [(.int (1 : Int32))])) _
    exact retN X27 hx (t := .boolean) Bd.returns (by simp) (hb hby at_122) hr
  · show Q0 Z p0 p1 p2 h0 n0 _ T27.heap _
    rw [eq27]
    unfold Q0
    refine ⟨rfl, N27⟩
set_option maxRecDepth 65536 in
set_option maxHeartbeats 40000000 in
theorem comes_1 {Post : Tables → Env → Array Value → State → Outcome → State → Prop} (hpost : ∀ tb e args s v u, (limb_1_1.after args s (.returned v) u = true ∧ limb_1_2.after args s (.returned v) u = true ∧ True) → FrameEnd s (.returned v) u (Jvm.fieldLocs frame_1_writes args s ++ Jvm.arrayLocs frame_1_arrays args s ++ Jvm.staticLocs frame_1_statics s) 16 128 → Post tb e args s (.returned v) u) :
    ArmFor flags0 classFile x code maxLocals ret World_1 tables_1 room_1 Calls_1 rest_1 Pre_1 Post := by
  intro l hfl _ _ p e ha hc hk s m args below hf hA hF happ hP
  obtain ⟨hcalls, hrest, hpre⟩ := hP
  obtain ⟨-, -, -, hnamed, -, -, -, hat⟩ := (Spec.applies_iff hf).mp happ
  obtain ⟨hg, hn⟩ := and_e (Cond.before_iff.mp (show (Jvm.Cond.and given_1 narrow_1).before args s = true from hpre))
  obtain ⟨gv1, gv2⟩ := and_e hg
  obtain ⟨gv3, gv4⟩ := and_e gv2
  obtain ⟨gv5, gv6⟩ := and_e gv4
  obtain ⟨w0, w1, w2, rfl⟩ : ∃ w0 w1 w2 : Value, args = #[w0, w1, w2] := by
    have hs : args.size = 3 := by simpa [Cond.value, given_1] using gv1
    obtain ⟨L⟩ := args
    match L, hs with
    | [w0, w1, w2], _ => exact ⟨w0, w1, w2, rfl⟩
  have hw := fun d (hd : d ∈ tables_1) => atoms_spec (ws := Jvm.Cond.code x code maxLocals ret :: tables_1) hat d (List.mem_cons_of_mem _ hd)
  obtain ⟨i0, ei0⟩ := is_v gv3
  obtain rfl : w0 = (.int i0) := Option.some.inj ei0
  obtain ⟨i1, ei1⟩ := is_v gv5
  obtain rfl : w1 = (.int i1) := Option.some.inj ei1
  obtain ⟨i2, ei2⟩ := is_v gv6
  obtain rfl : w2 = (.int i2) := Option.some.inj ei2
  obtain ⟨n, o, h1, h2, h3, _, L, rfl, ⟨rfl, N⟩, hq⟩ := rm0 l s _ hw tables_1 i0 i1 i2 s.heap s.heap.size (Nat.le_refl _) p e ha hc hk s m _ below hf ((Spec.applies_iff_loose hf).mp happ).1 ⟨rfl, State.Warmed39.refl s, rfl⟩ trivial
  refine ⟨n, _, h1, h2, h3, hpost _ _ _ _ _ _ ⟨Cond.after_iff.mpr rfl, Cond.after_iff.mpr (eq_i res_at (Term.int_eval (1)) rfl), trivial⟩ ⟨hq.1, hq.2.1, (hq.2.2.sift fun y hy => Or.inr (N y hy)).mono (by decide) (by decide)⟩⟩
theorem main_1_1 : Claimed_1_1 := comes_1 fun _ _ _ _ _ _ h hF => ⟨h.1, hF⟩
theorem main_1_2 : Claimed_1_2 := comes_1 fun _ _ _ _ _ _ h hF => ⟨h.2.1, hF⟩
end Jvm.Pilot.@@N@@
namespace Jvm.Pilot.@@N@@
open Jvm Jvm.ClassFile Sem Op Lib Jvm.Free Jvm.Stand Jvm.Pilot.@@N@@.Jvm.D
/-! MADE BY PROGRAM (witnessworld.py) out of the Statement's table words and the real class files: 9 classes; the members and pool entries that the words name. The judged class is class 1, her method 1. -/
namespace start1
open Jvm.ClassFile
def u (s : String) : CpInfo := .utf8 (stringToUtf16 s)
/-- a pool by its gaps: so many unusable entries, then the entry; so many at the end -/
def gap : Nat → List CpInfo → List CpInfo
  | 0, r => r
  | n + 1, r => .unusable :: gap n r
def poolList (es : List (Nat × CpInfo)) (last : Nat) : List CpInfo := es.foldr (fun e r => gap e.1 (e.2 :: r)) (gap last [])
def pool (es : List (Nat × CpInfo)) (last : Nat) : Array CpInfo := ⟨poolList es last⟩
def fileOf (pool : Array CpInfo) (this : Nat) (attrs : Array Attribute := #[]) (ms : Array MethodInfo := #[]) (fl : Nat := 33) (sup : Nat := 0) (ifs : Array Nat := #[]) (fds : Array FieldInfo := #[]) : ClassFile where
  minorVersion := 0
  majorVersion := 65
  constantPool := pool
  accessFlags := fl
  thisClass := this
  superClass := sup
  interfaces := ifs
  fields := fds
  methods := ms
  attributes := attrs
def plain (name : String) (sup : Option ClassId) : Class where
  name := name
  kind := .ordinary
  loader := none
  accessFlags := 33
  super := sup
  interfaces := #[]
  cf := none
  fields := #[]
  methods := #[]
  instanceTypes := #[]
  staticTypes := #[]
  resolved := #[]
  callSites := []
  init := .initialized
  statics := none
  mirror := none

def pool0 : Array CpInfo := pool [(5, u "<init>"), (0, u "()V"), (1, .class_ 10), (1, u "java/lang/Object")] 113

def k0c0 : Code := { maxStack := 0, maxLocals := 1, code := object_method_1_code, exceptionTable := #[], attributes := #[] }
def k0m0 : Method := { name := "<init>", desc := "()V", sig := { parameters := [], returnType := none }, accessFlags := 1, code := some k0c0 }
/-- java/lang/Object -/
def k0 : Class := { plain "java/lang/Object" none with
  accessFlags := 33
  interfaces := #[]
  cf := some (fileOf pool0 8 #[] #[{ accessFlags := 1, nameIndex := 5, descriptorIndex := 6, attributes := #[] }] 33 0 #[] #[])
  fields := #[]
  methods := #[k0m0]
  instanceTypes := #[]
  staticTypes := #[]
  resolved := Array.replicate 124 none
  statics := none }

def pool1 : Array CpInfo := pool [(2, .class_ 4), (1, u "java/lang/Object"), (0, u "<init>"), (0, u "()V"), (0, .class_ 8), (0, u "com/example/whole_recall/wholerecall/index/Postings"), (0, .methodref 7 10), (0, .nameAndType 5 11), (0, u "([I[I[I)V"), (0, .methodref 7 13), (0, .nameAndType 14 15), (0, u "frequency"), (0, u "(I)I"), (0, .class_ 17), (0, u "com/example/whole_recall/wholerecall/index/PostingsFrequencyPinLaw"), (2, u "law"), (0, u "(III)Z")] 5

def k1m0 : Method := { name := "<init>", desc := "()V", sig := { parameters := [], returnType := none }, accessFlags := 1, code := none }
def k1c1 : Code := { maxStack := 5, maxLocals := 10, code := code, exceptionTable := #[], attributes := #[] }
def k1m1 : Method := { name := "law", desc := "(III)Z", sig := { parameters := [.int, .int, .int], returnType := some .boolean }, accessFlags := 9, code := some k1c1 }
/-- com/example/whole_recall/wholerecall/index/PostingsFrequencyPinLaw -/
def k1 : Class := { plain "com/example/whole_recall/wholerecall/index/PostingsFrequencyPinLaw" (some 0) with
  accessFlags := 49
  interfaces := #[]
  cf := some (fileOf pool1 16 #[] #[{ accessFlags := 1, nameIndex := 5, descriptorIndex := 6, attributes := #[] }, { accessFlags := 9, nameIndex := 20, descriptorIndex := 21, attributes := #[] }] 49 2 #[] #[])
  fields := #[]
  methods := #[k1m0, k1m1]
  instanceTypes := #[]
  staticTypes := #[]
  resolved := Array.replicate 27 none
  statics := none }

def pool2 : Array CpInfo := pool [(1, .methodref 2 3), (0, .class_ 4), (0, .nameAndType 5 6), (0, u "java/lang/Object"), (0, u "<init>"), (0, u "()V"), (0, .fieldref 8 9), (0, .class_ 10), (0, .nameAndType 11 12), (0, u "com/example/whole_recall/wholerecall/index/Postings"), (0, u "documents"), (0, u "[I"), (0, .fieldref 8 14), (0, .nameAndType 15 12), (0, u "starts"), (0, .fieldref 8 17), (0, .nameAndType 18 12), (0, u "positions"), (2, u "frequency"), (0, u "(I)I"), (11, u "([I[I[I)V"), (2, u "EMPTY"), (0, u "Lcom/example/whole_recall/wholerecall/index/Postings;")] 26

def k2c0 : Code := { maxStack := 2, maxLocals := 4, code := prog_39_method_1_code, exceptionTable := #[], attributes := #[] }
def k2m0 : Method := { name := "<init>", desc := "([I[I[I)V", sig := { parameters := [(.array .int), (.array .int), (.array .int)], returnType := none }, accessFlags := 0, code := some k2c0 }
def k2c1 : Code := { maxStack := 3, maxLocals := 2, code := prog_39_method_4_code, exceptionTable := #[], attributes := #[] }
def k2m1 : Method := { name := "frequency", desc := "(I)I", sig := { parameters := [.int], returnType := some .int }, accessFlags := 1, code := some k2c1 }
/-- com/example/whole_recall/wholerecall/index/Postings -/
def k2 : Class := { plain "com/example/whole_recall/wholerecall/index/Postings" (some 0) with
  accessFlags := 49
  interfaces := #[]
  cf := some (fileOf pool2 8 #[] #[{ accessFlags := 0, nameIndex := 5, descriptorIndex := 34, attributes := #[] }, { accessFlags := 1, nameIndex := 21, descriptorIndex := 22, attributes := #[] }] 49 2 #[] #[{ accessFlags := 24, nameIndex := 37, descriptorIndex := 38, attributes := #[] }, { accessFlags := 18, nameIndex := 11, descriptorIndex := 12, attributes := #[] }, { accessFlags := 18, nameIndex := 15, descriptorIndex := 12, attributes := #[] }, { accessFlags := 18, nameIndex := 18, descriptorIndex := 12, attributes := #[] }])
  fields := #[{ name := "EMPTY", type := (.object "com/example/whole_recall/wholerecall/index/Postings"), accessFlags := 24, slot := 0, constantValue := 0 }, { name := "documents", type := (.array .int), accessFlags := 18, slot := 0, constantValue := 0 }, { name := "starts", type := (.array .int), accessFlags := 18, slot := 1, constantValue := 0 }, { name := "positions", type := (.array .int), accessFlags := 18, slot := 2, constantValue := 0 }]
  methods := #[k2m0, k2m1]
  instanceTypes := #[(.array .int), (.array .int), (.array .int)]
  staticTypes := #[(.object "com/example/whole_recall/wholerecall/index/Postings")]
  resolved := Array.replicate 65 none
  statics := none }

def pool3 : Array CpInfo := pool [(1, u "java/lang/Cloneable"), (0, .class_ 1), (0, u "java/lang/Object"), (0, .class_ 3)] 3

/-- java/lang/Cloneable -/
def k3 : Class := { plain "java/lang/Cloneable" (some 0) with
  accessFlags := 1537
  interfaces := #[]
  cf := some (fileOf pool3 2 #[] #[] 1537 4 #[] #[])
  fields := #[]
  methods := #[]
  instanceTypes := #[]
  staticTypes := #[]
  resolved := Array.replicate 8 none
  statics := none }

def pool4 : Array CpInfo := pool [(1, u "java/io/Serializable"), (0, .class_ 1), (0, u "java/lang/Object"), (0, .class_ 3)] 3

/-- java/io/Serializable -/
def k4 : Class := { plain "java/io/Serializable" (some 0) with
  accessFlags := 1537
  interfaces := #[]
  cf := some (fileOf pool4 2 #[] #[] 1537 4 #[] #[])
  fields := #[]
  methods := #[]
  instanceTypes := #[]
  staticTypes := #[]
  resolved := Array.replicate 8 none
  statics := none }

/-- the primitive byte -/
def k5 : Class := { plain "byte" none with kind := .primitive 'B', accessFlags := 0x411 }
/-- [B -/
def k6 : Class := { plain "[B" (some 0) with kind := .array 5 .byte, interfaces := #[3, 4], accessFlags := 1041 }

/-- the primitive int -/
def k7 : Class := { plain "int" none with kind := .primitive 'I', accessFlags := 0x411 }
/-- [I -/
def k8 : Class := { plain "[I" (some 0) with kind := .array 7 .int, interfaces := #[3, 4], accessFlags := 1041 }

def heap : Heap := #[]
def classes : Array Class := #[k0, k1, k2, k3, k4, k5, k6, k7, k8]
def interned : List (Array UInt16 × Addr) := []
def slotsUsed : Nat := 0
def theMethod : MethodId := ⟨1, 1⟩
def args0 : Array Value := #[.int 5, .int 6, .int 7]
def aboutOver (below : List Frame) : State where
  vm := { classes := classes, interned := interned.toArray }
  heap := heap
  slotsUsed := slotsUsed
  threads := #[{ frames := .invoking theMethod args0 :: below }]
def below0 : List Frame := [.native { method := ⟨0, 0⟩, args := #[] }]
def about1 : State := aboutOver below0
def p0 : Program := .bare "" "" ""
def e0 : Env := launch0.env 0 0 0
theorem w_frames : about1.frames = Frame.invoking theMethod args0 :: below0 := rfl
set_option maxRecDepth 65536 in
theorem w_args : argsFit about1.vm theMethod args0 = true := by decide +kernel
set_option maxRecDepth 65536 in
theorem w_heap : heapFits about1 = true := by decide +kernel
set_option maxRecDepth 65536 in
theorem w_runnable : about1.curStatus? = some .runnable := by decide +kernel
set_option maxRecDepth 65536 in
theorem w_alone : about1.alone = true := by decide +kernel
set_option maxRecDepth 65536 in
theorem w_named : about1.methodNamed? x = some theMethod := by decide +kernel
set_option maxRecDepth 65536 in
theorem w_hears : about1.hears theMethod below0 = true := by decide +kernel
set_option maxRecDepth 65536 in
theorem w_ripe : about1.ripe theMethod args0 below0 = true := by decide +kernel
theorem w_running : about1.status = .running := rfl
set_option maxRecDepth 65536 in
theorem w_room : about1.hasRoom e0.platform room_1 = true :=
  launch0.hasRoom_least _ room_1 (by decide +kernel) (by decide +kernel) (by decide +kernel) (by decide +kernel) (by decide +kernel) (by decide +kernel)
theorem allAtoms_all (ts : List Jvm.Cond) (a : Array Jvm.Value) (st : Jvm.State) : (allAtoms ts).before a st = ts.all (fun c => c.before a st) := by
  induction ts with
  | nil => rfl
  | cons c t ih =>
    show (Jvm.Cond.and c (allAtoms t)).before a st = _
    rw [Jvm.Cond.before_and, ih, List.all_cons]
def words1 : List Jvm.Cond := Jvm.Cond.code x code maxLocals ret :: tables_1
/-- a 'code' word, met by the world's own term for the bytes: nothing is compared byte by byte -/
theorem code_word {y : MethodName} {bytes : ByteArray} {mx : Nat} {rt : Option FieldType} {a : Array Value} {s : State} {m : MethodId} {meth : Method} {c : Code} (h1 : s.methodNamed? y = some m) (h2 : s.vm.method? m = some meth) (h3 : meth.code = some c) (h4 : c.code = bytes)
    (h5 : (c.maxLocals == mx && c.exceptionTable.isEmpty && decide (c.maxStack ≤ mostOperands) && decide (meth.sig.returnType = rt) && !meth.locks && decide (parseMethodDescriptor y.desc = some meth.sig)) = true) : (Jvm.Cond.code y bytes mx rt).before a s = true := by
  simp only [Bool.and_eq_true, beq_iff_eq, Bool.not_eq_true', decide_eq_true_eq] at h5
  obtain ⟨⟨⟨⟨⟨g1, g2⟩, g3⟩, g4⟩, g5⟩, g6⟩ := h5
  simp [Cond.before, Cond.holds, Cond.value, h1, h2, h3, h4, g1, g2, g3, g4, g5, g6]
def isCode : Jvm.Cond → Bool
  | .code _ _ _ _ => true
  | _ => false
theorem all_split {L : List Jvm.Cond} {P : Jvm.Cond → Bool} (h1 : L.all (fun c => isCode c || P c) = true) (h2 : ∀ c ∈ L.filter isCode, P c = true) : L.all P = true := by
  refine List.all_eq_true.mpr fun c hc => ?_
  have h := List.all_eq_true.mp h1 c hc
  rcases Bool.eq_false_or_eq_true (isCode c) with hi | hi
  · exact h2 c (List.mem_filter.mpr ⟨hc, hi⟩)
  · simpa [hi] using h
set_option maxRecDepth 65536 in
theorem w_c0 : (Jvm.Cond.code x code maxLocals ret).before args0 about1 = true := code_word (m := ⟨1, 1⟩) (meth := k1m1) (c := k1c1) (by decide +kernel) rfl rfl rfl (by decide +kernel)
set_option maxRecDepth 65536 in
theorem w_c1 : (Jvm.Cond.code ({ cls := "com/example/whole_recall/wholerecall/index/Postings", name := "<init>", desc := "([I[I[I)V" } : Jvm.MethodName) prog_39_method_1_code (4 : Nat) (Option.none : Option Jvm.ClassFile.FieldType)).before args0 about1 = true := code_word (m := ⟨2, 0⟩) (meth := k2m0) (c := k2c0) (by decide +kernel) rfl rfl rfl (by decide +kernel)
set_option maxRecDepth 65536 in
theorem w_c2 : (Jvm.Cond.code ({ cls := "java/lang/Object", name := "<init>", desc := "()V" } : Jvm.MethodName) object_method_1_code (1 : Nat) (Option.none : Option Jvm.ClassFile.FieldType)).before args0 about1 = true := code_word (m := ⟨0, 0⟩) (meth := k0m0) (c := k0c0) (by decide +kernel) rfl rfl rfl (by decide +kernel)
set_option maxRecDepth 65536 in
theorem w_c3 : (Jvm.Cond.code ({ cls := "com/example/whole_recall/wholerecall/index/Postings", name := "frequency", desc := "(I)I" } : Jvm.MethodName) prog_39_method_4_code (2 : Nat) (Option.some Jvm.ClassFile.FieldType.int)).before args0 about1 = true := code_word (m := ⟨2, 1⟩) (meth := k2m1) (c := k2c1) (by decide +kernel) rfl rfl rfl (by decide +kernel)
def codes1 : List Jvm.Cond := [Jvm.Cond.code x code maxLocals ret, Jvm.Cond.code ({ cls := "com/example/whole_recall/wholerecall/index/Postings", name := "<init>", desc := "([I[I[I)V" } : Jvm.MethodName) prog_39_method_1_code (4 : Nat) (Option.none : Option Jvm.ClassFile.FieldType), Jvm.Cond.code ({ cls := "java/lang/Object", name := "<init>", desc := "()V" } : Jvm.MethodName) object_method_1_code (1 : Nat) (Option.none : Option Jvm.ClassFile.FieldType), Jvm.Cond.code ({ cls := "com/example/whole_recall/wholerecall/index/Postings", name := "frequency", desc := "(I)I" } : Jvm.MethodName) prog_39_method_4_code (2 : Nat) (Option.some Jvm.ClassFile.FieldType.int)]
set_option maxRecDepth 65536 in
theorem codes_eq : words1.filter isCode = codes1 := rfl
theorem w_codes : ∀ c ∈ words1.filter isCode, c.before args0 about1 = true := by
  rw [codes_eq]
  intro c hc
  simp only [codes1, List.mem_cons, List.not_mem_nil, or_false] at hc
  rcases hc with rfl | rfl | rfl | rfl
  · exact w_c0
  · exact w_c1
  · exact w_c2
  · exact w_c3
set_option maxRecDepth 65536 in
theorem w_t1 : words1.all (fun c => isCode c || c.before args0 about1) = true := by decide +kernel
theorem w_tables : (allAtoms (Jvm.Cond.code x code maxLocals ret :: tables_1)).before args0 about1 = true := by
  rw [allAtoms_all]
  show words1.all (fun c => c.before args0 about1) = true
  refine all_split ?_ w_codes
  rw [w_t1]
set_option maxRecDepth 65536 in
theorem w_case : (Jvm.Cond.and given_1 narrow_1).before args0 about1 = true := by decide +kernel
theorem w_applies : (headSpec (Jvm.Cond.code x code maxLocals ret :: tables_1) room_1).applies x e0.platform about1 = true :=
  (Spec.applies_iff w_frames).mpr ⟨w_running, w_runnable, w_alone, w_named, w_hears, w_ripe, w_room, w_tables⟩
theorem atStart : AtStart classFile x code maxLocals ret World_1 tables_1 room_1 Calls_1 rest_1 Pre_1 launch0 p0 e0 about1 theMethod args0 below0 :=
  ⟨lists_1, trivial, launch0.admits_env _ _ _, launch0.least_env, fairChoices_fair.cas, fairChoices_fair.clock, w_frames, w_args, w_heap, w_applies, trivial, trivial, w_case⟩
end start1
theorem witness_1 : WitnessClaimed_1 := ⟨start1.p0, start1.e0, start1.about1, start1.theMethod, start1.args0, start1.below0, start1.atStart⟩
end Jvm.Pilot.@@N@@
